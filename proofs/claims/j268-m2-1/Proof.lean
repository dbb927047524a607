import JvmDerived
import JvmDerived.Pilot.@@N@@Statement
import JvmDerived.Pilot.@@N@@Code
set_option linter.unusedVariables false
set_option linter.unusedSimpArgs false
namespace Jvm.Pilot.@@N@@
open Jvm Jvm.ClassFile Sem Op Lib Jvm.Free Jvm.Stand Jvm.LawKit Jvm.RoadKit Bundle Jvm.Pilot.@@N@@.Jvm.D
section OwnKit
variable {p : Program} {l : Launch} {e : Env} {R : Room} {s : State} {m : MethodId} {args : Array Value} {below : List Frame} {meth : Method} {c : Code} {T : State} {cells slots cells' slots' : Nat} {Z : State} {a0 : Array Value} {h h' : Heap} {n0 : Nat} {Q : Option Value → Heap → Prop} {own nm : String} {bytes : ByteArray} {maxL : Nat} {ret : Option FieldType} {pc pc' pt : Nat} {Ls : Array Slot} {stk : List Value}

/-- what stays true all through a body's walk -/
def Ctx (p : Program) (s : State) (m : MethodId) (meth : Method) (c : Code) (Z : State) (own nm : String) (bytes : ByteArray) (maxL : Nat) (ret : Option FieldType) : Prop :=
  (p.tables.exec = Jvm.exec ∧ Z.Warmed39 s.vm) ∧ (c.code = bytes ∧ c.maxLocals = maxL) ∧ (s.vm.findClass own = some m.cls ∧ meth.name = nm) ∧ (meth.sig.returnType = ret ∧ meth.locks = false)
theorem Ctx.hx (K : Ctx p s m meth c Z own nm bytes maxL ret) : p.tables.exec = Jvm.exec := K.1.1
theorem Ctx.hZ (K : Ctx p s m meth c Z own nm bytes maxL ret) : Z.Warmed39 s.vm := K.1.2
theorem Ctx.by' (K : Ctx p s m meth c Z own nm bytes maxL ret) : c.code = bytes := K.2.1.1
theorem Ctx.ml (K : Ctx p s m meth c Z own nm bytes maxL ret) : c.maxLocals = maxL := K.2.1.2
theorem Ctx.own' (K : Ctx p s m meth c Z own nm bytes maxL ret) : s.vm.findClass own = some m.cls := K.2.2.1.1
theorem Ctx.nm' (K : Ctx p s m meth c Z own nm bytes maxL ret) : meth.name = nm := K.2.2.1.2
theorem Ctx.ret' (K : Ctx p s m meth c Z own nm bytes maxL ret) : meth.sig.returnType = ret := K.2.2.2.1
theorem Ctx.locks (K : Ctx p s m meth c Z own nm bytes maxL ret) : meth.locks = false := K.2.2.2.2

/-- where the walk stands; what it has written lies at or above n0 -/
def St (p : Program) (l : Launch) (e : Env) (R : Room) (s : State) (m : MethodId) (args : Array Value) (below : List Frame) (meth : Method) (c : Code) (n0 : Nat) (T : State) (cells slots : Nat) : Prop :=
  ∃ locs, Stand p l e R s m args below meth c T locs cells slots ∧ Fr n0 locs
theorem St.mono (X : St p l e R s m args below meth c n0 T cells slots) (hc : cells ≤ cells') (hs : slots ≤ slots') : St p l e R s m args below meth c n0 T cells' slots' := by
  obtain ⟨locs, X, N⟩ := X
  exact ⟨locs, { X with same := X.same.mono hc hs }, N⟩

/-- from the state st the body returns, and what it leaves is as Q says -/
def Go (p : Program) (e : Env) (below : List Frame) (s : State) (R : Room) (n0 : Nat) (Q : Option Value → Heap → Prop) (st : State) : Prop :=
  ∃ s₂ o, Steps p.tables e below st s₂ ∧ s₂.status = .running ∧ Ended s₂ below o ∧ ∃ v L, o = .returned v ∧ (Q v s₂.heap ∧ Fr n0 L) ∧ FrameEnd s o s₂ L R.cells R.slots
theorem go_by {st st' : State} (h : ∀ t, Steps p.tables e below st' t → Steps p.tables e below st t) (k : Go p e below s R n0 Q st') : Go p e below s R n0 Q st := by
  obtain ⟨s₂, o, h1, h2⟩ := k
  exact ⟨s₂, o, h _ h1, h2⟩
theorem own_cut {α : Sort _} {P : α → Prop} {S : α → State} {st : State} (h1 : (∀ b, P b → Go p e below s R n0 Q (S b)) → Go p e below s R n0 Q st) (h2 : ∀ b, P b → Go p e below s R n0 Q (S b)) : Go p e below s R n0 Q st := h1 h2
theorem go_mono {Q' : Option Value → Heap → Prop} {st : State} (k : Go p e below s R n0 Q st) (h : ∀ v u, Q v u → Q' v u) : Go p e below s R n0 Q' st := by
  obtain ⟨s₂, o, h1, h2, h3, v, L, h4, h5, h6⟩ := k
  exact ⟨s₂, o, h1, h2, h3, v, L, h4, ⟨h _ _ h5.1, h5.2⟩, h6⟩

/-- a body's contract at the arguments as' and the heap h0 -/
def Con (l : Launch) (Z : State) (n0 : Nat) (y : MethodName) (bytes : ByteArray) (maxL : Nat) (ret : Option FieldType) (rm : Room) (as' : Array Value) (h0 : Heap) (Q : Option Value → Heap → Prop) : Prop :=
  ∀ ws : List Jvm.Cond, MetFree l y (head1 (Jvm.Cond.code y bytes maxL ret :: ws) rm) (fun a U => a = as' ∧ Z.Warmed39 U.vm ∧ U.heap = h0) (fun _ _ _ _ _ => True) (fun _ U o U' => ∃ v L, o = .returned v ∧ (Q v U'.heap ∧ Fr n0 L) ∧ FrameEnd U o U' L rm.cells rm.slots)
theorem con_of {y : MethodName} {rm : Room} {as' : Array Value} {h0 : Heap} (hx : plainFor y = true)
    (body : ∀ p e s m below meth c T, Ctx p s m meth c Z y.cls y.name bytes maxL ret → St p l e rm s m as' below meth c n0 T 0 0 → T.heap = h0 → Go p e below s rm n0 Q (T.setTop (entryFrame m as' maxL))) :
    Con l Z n0 y bytes maxL ret rm as' h0 Q := by
  intro ws
  refine MetFree.of_bodySF hx hisR ?_
  intro p e s m args below meth c s₁ Bd hml0 hP hK
  obtain ⟨hargs, hZ, hh⟩ := hP
  have X0 := Stand.of_body Bd
  have hnm := (name_of_methodNamed Bd.named Bd.method).1
  rw [hargs] at X0 ⊢
  obtain ⟨s₂, o, h1, h2, h3, v, L, h4, h5, h6⟩ := body p e s m below meth c s₁ ⟨⟨Bd.exec, hZ⟩, ⟨Bd.bytes, hml0⟩, ⟨findClass_of_methodNamed Bd.named, hnm⟩, ⟨Bd.returns, BodyLoose.notSynchronized Bd⟩⟩ ⟨[], X0, Fr.nil n0⟩ (by rw [← hh, Bd.state]; rfl)
  exact ⟨s₂, o, h1, h2, h3, v, L, h4, h5, h6⟩
theorem con_mono {y : MethodName} {rm : Room} {as' : Array Value} {h0 : Heap} {Q' : Option Value → Heap → Prop} (C : Con l Z n0 y bytes maxL ret rm as' h0 Q) (h : ∀ v u, Q v u → Q' v u) : Con l Z n0 y bytes maxL ret rm as' h0 Q' := by
  intro ws p e ha hc hk s m args below hf happ hP hK
  obtain ⟨n, o, h1, h2, h3, v, L, h4, h5, h6⟩ := C ws p e ha hc hk s m args below hf happ hP hK
  exact ⟨n, o, h1, h2, h3, v, L, h4, ⟨h _ _ h5.1, h5.2⟩, h6⟩
theorem go_entry {as' : Array Value} {g : JFrame} (q : entryFrame m as' maxL = g) (k : Go p e below s R n0 Q (T.setTop g)) : Go p e below s R n0 Q (T.setTop (entryFrame m as' maxL)) := by rw [q]; exact k
theorem wd (hw : ∀ d ∈ tables_1, d.before a0 Z = true) (i : Nat) {d : Jvm.Cond} (q : tables_1[i]? = some d) : d.before a0 Z = true := hw d (List.mem_of_getElem? q)

theorem go_iloadN (K : Ctx p s m meth c Z own nm bytes maxL ret) (X : St p l e R s m args below meth c n0 T cells slots) {k0 : Fin 4} {v : Int32} (hd : decode bytes pc = .ok (.iload_n k0, 1)) (hl : Ls[k0.val]? = some (.val (.int v))) (hp : pc + 1 = pc')
    (k : Go p e below s R n0 Q (T.setTop (mkF m pc' Ls (.int v :: stk)))) : Go p e below s R n0 Q (T.setTop (mkF m pc Ls (stk))) := by
  subst hp; obtain ⟨locs, X, N⟩ := X
  exact go_by (fun t k => XS.iloadN X.here K.hx rfl (hb K.by' hd) hl k) k

theorem go_iload (K : Ctx p s m meth c Z own nm bytes maxL ret) (X : St p l e R s m args below meth c n0 T cells slots) {k0 : Nat} {v : Int32} (hd : decode bytes pc = .ok (.iload k0, 2)) (hl : Ls[k0]? = some (.val (.int v))) (hp : pc + 2 = pc')
    (k : Go p e below s R n0 Q (T.setTop (mkF m pc' Ls (.int v :: stk)))) : Go p e below s R n0 Q (T.setTop (mkF m pc Ls (stk))) := by
  subst hp; obtain ⟨locs, X, N⟩ := X
  exact go_by (fun t k => XS.iload X.here K.hx rfl (hb K.by' hd) hl k) k

theorem go_lloadN (K : Ctx p s m meth c Z own nm bytes maxL ret) (X : St p l e R s m args below meth c n0 T cells slots) {k0 : Fin 4} {v : Int64} (hd : decode bytes pc = .ok (.lload_n k0, 1)) (hl : Ls[k0.val]? = some (.val (.long v))) (hp : pc + 1 = pc')
    (k : Go p e below s R n0 Q (T.setTop (mkF m pc' Ls (.long v :: stk)))) : Go p e below s R n0 Q (T.setTop (mkF m pc Ls (stk))) := by
  subst hp; obtain ⟨locs, X, N⟩ := X
  exact go_by (fun t k => XS.lloadN X.here K.hx rfl (hb K.by' hd) hl k) k

theorem go_lload (K : Ctx p s m meth c Z own nm bytes maxL ret) (X : St p l e R s m args below meth c n0 T cells slots) {k0 : Nat} {v : Int64} (hd : decode bytes pc = .ok (.lload k0, 2)) (hl : Ls[k0]? = some (.val (.long v))) (hp : pc + 2 = pc')
    (k : Go p e below s R n0 Q (T.setTop (mkF m pc' Ls (.long v :: stk)))) : Go p e below s R n0 Q (T.setTop (mkF m pc Ls (stk))) := by
  subst hp; obtain ⟨locs, X, N⟩ := X
  exact go_by (fun t k => XS.lload X.here K.hx rfl (hb K.by' hd) hl k) k

theorem go_aloadN (K : Ctx p s m meth c Z own nm bytes maxL ret) (X : St p l e R s m args below meth c n0 T cells slots) {k0 : Fin 4} {v : Value} (hd : decode bytes pc = .ok (.aload_n k0, 1)) (hl : Ls[k0.val]? = some (.val v)) (hv : v.isRef = true) (hp : pc + 1 = pc')
    (k : Go p e below s R n0 Q (T.setTop (mkF m pc' Ls (v :: stk)))) : Go p e below s R n0 Q (T.setTop (mkF m pc Ls (stk))) := by
  subst hp; obtain ⟨locs, X, N⟩ := X
  exact go_by (fun t k => XS.aloadN X.here K.hx rfl (hb K.by' hd) hl hv k) k

theorem go_aload (K : Ctx p s m meth c Z own nm bytes maxL ret) (X : St p l e R s m args below meth c n0 T cells slots) {k0 : Nat} {v : Value} (hd : decode bytes pc = .ok (.aload k0, 2)) (hl : Ls[k0]? = some (.val v)) (hv : v.isRef = true) (hp : pc + 2 = pc')
    (k : Go p e below s R n0 Q (T.setTop (mkF m pc' Ls (v :: stk)))) : Go p e below s R n0 Q (T.setTop (mkF m pc Ls (stk))) := by
  subst hp; obtain ⟨locs, X, N⟩ := X
  exact go_by (fun t k => XS.aload X.here K.hx rfl (hb K.by' hd) hl hv k) k

theorem go_iconst (K : Ctx p s m meth c Z own nm bytes maxL ret) (X : St p l e R s m args below meth c n0 T cells slots) {i : Int} (v : Int32) (hd : decode bytes pc = .ok (.iconst i, 1)) (hv : Int32.ofInt i = v) (hp : pc + 1 = pc')
    (k : Go p e below s R n0 Q (T.setTop (mkF m pc' Ls (.int v :: stk)))) : Go p e below s R n0 Q (T.setTop (mkF m pc Ls (stk))) := by
  subst hp; obtain ⟨locs, X, N⟩ := X
  exact go_by (fun t k => XT.iconstV X.here K.hx rfl v (hb K.by' hd) hv k) k

theorem go_bipush (K : Ctx p s m meth c Z own nm bytes maxL ret) (X : St p l e R s m args below meth c n0 T cells slots) {i : Int} (v : Int32) (hd : decode bytes pc = .ok (.bipush i, 2)) (hv : (Int8.ofInt i).toInt32 = v) (hp : pc + 2 = pc')
    (k : Go p e below s R n0 Q (T.setTop (mkF m pc' Ls (.int v :: stk)))) : Go p e below s R n0 Q (T.setTop (mkF m pc Ls (stk))) := by
  subst hp; obtain ⟨locs, X, N⟩ := X
  exact go_by (fun t k => XT.bipushV X.here K.hx rfl v (hb K.by' hd) hv k) k

theorem go_sipush (K : Ctx p s m meth c Z own nm bytes maxL ret) (X : St p l e R s m args below meth c n0 T cells slots) {i : Int} (v : Int32) (hd : decode bytes pc = .ok (.sipush i, 3)) (hv : (Int16.ofInt i).toInt32 = v) (hp : pc + 3 = pc')
    (k : Go p e below s R n0 Q (T.setTop (mkF m pc' Ls (.int v :: stk)))) : Go p e below s R n0 Q (T.setTop (mkF m pc Ls (stk))) := by
  subst hp; obtain ⟨locs, X, N⟩ := X
  exact go_by (fun t k => XT.sipushV X.here K.hx rfl v (hb K.by' hd) hv k) k

theorem go_lconst (K : Ctx p s m meth c Z own nm bytes maxL ret) (X : St p l e R s m args below meth c n0 T cells slots) {i : Fin 2} (v : Int64) (hd : decode bytes pc = .ok (.lconst i, 1)) (hv : Int64.ofNat i = v) (hp : pc + 1 = pc')
    (k : Go p e below s R n0 Q (T.setTop (mkF m pc' Ls (.long v :: stk)))) : Go p e below s R n0 Q (T.setTop (mkF m pc Ls (stk))) := by
  subst hp; obtain ⟨locs, X, N⟩ := X
  exact go_by (fun t k => XT.lconstV X.here K.hx rfl v (hb K.by' hd) hv k) k

theorem go_null (K : Ctx p s m meth c Z own nm bytes maxL ret) (X : St p l e R s m args below meth c n0 T cells slots)  (hd : decode bytes pc = .ok (.aconst_null, 1)) (hp : pc + 1 = pc')
    (k : Go p e below s R n0 Q (T.setTop (mkF m pc' Ls (.null :: stk)))) : Go p e below s R n0 Q (T.setTop (mkF m pc Ls (stk))) := by
  subst hp; obtain ⟨locs, X, N⟩ := X
  exact go_by (fun t k => XS.aconstNull X.here K.hx rfl (hb K.by' hd) k) k

theorem go_ldcI (K : Ctx p s m meth c Z own nm bytes maxL ret) (X : St p l e R s m args below meth c n0 T cells slots) {index : Nat} {v : Int32} (w : (Cond.constant own index v).before a0 Z = true) (hd : decode bytes pc = .ok (.ldc index, 2)) (hp : pc + 2 = pc')
    (k : Go p e below s R n0 Q (T.setTop (mkF m pc' Ls (.int v :: stk)))) : Go p e below s R n0 Q (T.setTop (mkF m pc Ls (stk))) := by
  subst hp; obtain ⟨locs, X, N⟩ := X
  exact go_by (fun t k => X.ldcI K.hx K.own' (mvT K.hZ w) rfl (hb K.by' hd) k) k

theorem go_ldcWI (K : Ctx p s m meth c Z own nm bytes maxL ret) (X : St p l e R s m args below meth c n0 T cells slots) {index : Nat} {v : Int32} (w : (Cond.constant own index v).before a0 Z = true) (hd : decode bytes pc = .ok (.ldc_w index, 3)) (hp : pc + 3 = pc')
    (k : Go p e below s R n0 Q (T.setTop (mkF m pc' Ls (.int v :: stk)))) : Go p e below s R n0 Q (T.setTop (mkF m pc Ls (stk))) := by
  subst hp; obtain ⟨locs, X, N⟩ := X
  exact go_by (fun t k => X.ldcWI K.hx K.own' (mvT K.hZ w) rfl (hb K.by' hd) k) k

theorem go_ldc2J (K : Ctx p s m meth c Z own nm bytes maxL ret) (X : St p l e R s m args below meth c n0 T cells slots) {index : Nat} {v : Int64} (w : (Cond.constantLong own index v).before a0 Z = true) (hd : decode bytes pc = .ok (.ldc2_w index, 3)) (hp : pc + 3 = pc')
    (k : Go p e below s R n0 Q (T.setTop (mkF m pc' Ls (.long v :: stk)))) : Go p e below s R n0 Q (T.setTop (mkF m pc Ls (stk))) := by
  subst hp; obtain ⟨locs, X, N⟩ := X
  exact go_by (fun t k => X.ldc2J K.hx K.own' (mvT K.hZ w) rfl (hb K.by' hd) k) k

theorem go_iadd (K : Ctx p s m meth c Z own nm bytes maxL ret) (X : St p l e R s m args below meth c n0 T cells slots) {x y : Int32} (hd : decode bytes pc = .ok (.iadd, 1)) (hp : pc + 1 = pc')
    (k : Go p e below s R n0 Q (T.setTop (mkF m pc' Ls (.int (x + y) :: stk)))) : Go p e below s R n0 Q (T.setTop (mkF m pc Ls (.int y :: .int x :: stk))) := by
  subst hp; obtain ⟨locs, X, N⟩ := X
  exact go_by (fun t k => XS.iadd X.here K.hx rfl (hb K.by' hd) rfl k) k

theorem go_isub (K : Ctx p s m meth c Z own nm bytes maxL ret) (X : St p l e R s m args below meth c n0 T cells slots) {x y : Int32} (hd : decode bytes pc = .ok (.isub, 1)) (hp : pc + 1 = pc')
    (k : Go p e below s R n0 Q (T.setTop (mkF m pc' Ls (.int (x - y) :: stk)))) : Go p e below s R n0 Q (T.setTop (mkF m pc Ls (.int y :: .int x :: stk))) := by
  subst hp; obtain ⟨locs, X, N⟩ := X
  exact go_by (fun t k => XS.isub X.here K.hx rfl (hb K.by' hd) rfl k) k

theorem go_imul (K : Ctx p s m meth c Z own nm bytes maxL ret) (X : St p l e R s m args below meth c n0 T cells slots) {x y : Int32} (hd : decode bytes pc = .ok (.imul, 1)) (hp : pc + 1 = pc')
    (k : Go p e below s R n0 Q (T.setTop (mkF m pc' Ls (.int (x * y) :: stk)))) : Go p e below s R n0 Q (T.setTop (mkF m pc Ls (.int y :: .int x :: stk))) := by
  subst hp; obtain ⟨locs, X, N⟩ := X
  exact go_by (fun t k => XS.imul X.here K.hx rfl (hb K.by' hd) rfl k) k

theorem go_iand (K : Ctx p s m meth c Z own nm bytes maxL ret) (X : St p l e R s m args below meth c n0 T cells slots) {x y : Int32} (hd : decode bytes pc = .ok (.iand, 1)) (hp : pc + 1 = pc')
    (k : Go p e below s R n0 Q (T.setTop (mkF m pc' Ls (.int (x &&& y) :: stk)))) : Go p e below s R n0 Q (T.setTop (mkF m pc Ls (.int y :: .int x :: stk))) := by
  subst hp; obtain ⟨locs, X, N⟩ := X
  exact go_by (fun t k => XS.iand X.here K.hx rfl (hb K.by' hd) rfl k) k

theorem go_ior (K : Ctx p s m meth c Z own nm bytes maxL ret) (X : St p l e R s m args below meth c n0 T cells slots) {x y : Int32} (hd : decode bytes pc = .ok (.ior, 1)) (hp : pc + 1 = pc')
    (k : Go p e below s R n0 Q (T.setTop (mkF m pc' Ls (.int (x ||| y) :: stk)))) : Go p e below s R n0 Q (T.setTop (mkF m pc Ls (.int y :: .int x :: stk))) := by
  subst hp; obtain ⟨locs, X, N⟩ := X
  exact go_by (fun t k => XS.ior X.here K.hx rfl (hb K.by' hd) rfl k) k

theorem go_ixor (K : Ctx p s m meth c Z own nm bytes maxL ret) (X : St p l e R s m args below meth c n0 T cells slots) {x y : Int32} (hd : decode bytes pc = .ok (.ixor, 1)) (hp : pc + 1 = pc')
    (k : Go p e below s R n0 Q (T.setTop (mkF m pc' Ls (.int (x ^^^ y) :: stk)))) : Go p e below s R n0 Q (T.setTop (mkF m pc Ls (.int y :: .int x :: stk))) := by
  subst hp; obtain ⟨locs, X, N⟩ := X
  exact go_by (fun t k => XS.ixor X.here K.hx rfl (hb K.by' hd) rfl k) k

theorem go_ishl (K : Ctx p s m meth c Z own nm bytes maxL ret) (X : St p l e R s m args below meth c n0 T cells slots) {x y : Int32} (hd : decode bytes pc = .ok (.ishl, 1)) (hp : pc + 1 = pc')
    (k : Go p e below s R n0 Q (T.setTop (mkF m pc' Ls (.int (x <<< (y &&& 31)) :: stk)))) : Go p e below s R n0 Q (T.setTop (mkF m pc Ls (.int y :: .int x :: stk))) := by
  subst hp; obtain ⟨locs, X, N⟩ := X
  exact go_by (fun t k => XS.ishl X.here K.hx rfl (hb K.by' hd) rfl k) k

theorem go_ishr (K : Ctx p s m meth c Z own nm bytes maxL ret) (X : St p l e R s m args below meth c n0 T cells slots) {x y : Int32} (hd : decode bytes pc = .ok (.ishr, 1)) (hp : pc + 1 = pc')
    (k : Go p e below s R n0 Q (T.setTop (mkF m pc' Ls (.int (x >>> (y &&& 31)) :: stk)))) : Go p e below s R n0 Q (T.setTop (mkF m pc Ls (.int y :: .int x :: stk))) := by
  subst hp; obtain ⟨locs, X, N⟩ := X
  exact go_by (fun t k => XS.ishr X.here K.hx rfl (hb K.by' hd) rfl k) k

theorem go_iushr (K : Ctx p s m meth c Z own nm bytes maxL ret) (X : St p l e R s m args below meth c n0 T cells slots) {x y : Int32} (hd : decode bytes pc = .ok (.iushr, 1)) (hp : pc + 1 = pc')
    (k : Go p e below s R n0 Q (T.setTop (mkF m pc' Ls (.int ((x.toUInt32 >>> (y &&& 31).toUInt32).toInt32) :: stk)))) : Go p e below s R n0 Q (T.setTop (mkF m pc Ls (.int y :: .int x :: stk))) := by
  subst hp; obtain ⟨locs, X, N⟩ := X
  exact go_by (fun t k => XS.iushr X.here K.hx rfl (hb K.by' hd) rfl k) k

theorem go_ladd (K : Ctx p s m meth c Z own nm bytes maxL ret) (X : St p l e R s m args below meth c n0 T cells slots) {x y : Int64} (hd : decode bytes pc = .ok (.ladd, 1)) (hp : pc + 1 = pc')
    (k : Go p e below s R n0 Q (T.setTop (mkF m pc' Ls (.long (x + y) :: stk)))) : Go p e below s R n0 Q (T.setTop (mkF m pc Ls (.long y :: .long x :: stk))) := by
  subst hp; obtain ⟨locs, X, N⟩ := X
  exact go_by (fun t k => XS.ladd X.here K.hx rfl (hb K.by' hd) rfl k) k

theorem go_lsub (K : Ctx p s m meth c Z own nm bytes maxL ret) (X : St p l e R s m args below meth c n0 T cells slots) {x y : Int64} (hd : decode bytes pc = .ok (.lsub, 1)) (hp : pc + 1 = pc')
    (k : Go p e below s R n0 Q (T.setTop (mkF m pc' Ls (.long (x - y) :: stk)))) : Go p e below s R n0 Q (T.setTop (mkF m pc Ls (.long y :: .long x :: stk))) := by
  subst hp; obtain ⟨locs, X, N⟩ := X
  exact go_by (fun t k => XS.lsub X.here K.hx rfl (hb K.by' hd) rfl k) k

theorem go_lmul (K : Ctx p s m meth c Z own nm bytes maxL ret) (X : St p l e R s m args below meth c n0 T cells slots) {x y : Int64} (hd : decode bytes pc = .ok (.lmul, 1)) (hp : pc + 1 = pc')
    (k : Go p e below s R n0 Q (T.setTop (mkF m pc' Ls (.long (x * y) :: stk)))) : Go p e below s R n0 Q (T.setTop (mkF m pc Ls (.long y :: .long x :: stk))) := by
  subst hp; obtain ⟨locs, X, N⟩ := X
  exact go_by (fun t k => XS.lmul X.here K.hx rfl (hb K.by' hd) rfl k) k

theorem go_land (K : Ctx p s m meth c Z own nm bytes maxL ret) (X : St p l e R s m args below meth c n0 T cells slots) {x y : Int64} (hd : decode bytes pc = .ok (.land, 1)) (hp : pc + 1 = pc')
    (k : Go p e below s R n0 Q (T.setTop (mkF m pc' Ls (.long (x &&& y) :: stk)))) : Go p e below s R n0 Q (T.setTop (mkF m pc Ls (.long y :: .long x :: stk))) := by
  subst hp; obtain ⟨locs, X, N⟩ := X
  exact go_by (fun t k => XS.land X.here K.hx rfl (hb K.by' hd) rfl k) k

theorem go_lor (K : Ctx p s m meth c Z own nm bytes maxL ret) (X : St p l e R s m args below meth c n0 T cells slots) {x y : Int64} (hd : decode bytes pc = .ok (.lor, 1)) (hp : pc + 1 = pc')
    (k : Go p e below s R n0 Q (T.setTop (mkF m pc' Ls (.long (x ||| y) :: stk)))) : Go p e below s R n0 Q (T.setTop (mkF m pc Ls (.long y :: .long x :: stk))) := by
  subst hp; obtain ⟨locs, X, N⟩ := X
  exact go_by (fun t k => XS.lor X.here K.hx rfl (hb K.by' hd) rfl k) k

theorem go_lxor (K : Ctx p s m meth c Z own nm bytes maxL ret) (X : St p l e R s m args below meth c n0 T cells slots) {x y : Int64} (hd : decode bytes pc = .ok (.lxor, 1)) (hp : pc + 1 = pc')
    (k : Go p e below s R n0 Q (T.setTop (mkF m pc' Ls (.long (x ^^^ y) :: stk)))) : Go p e below s R n0 Q (T.setTop (mkF m pc Ls (.long y :: .long x :: stk))) := by
  subst hp; obtain ⟨locs, X, N⟩ := X
  exact go_by (fun t k => XS.lxor X.here K.hx rfl (hb K.by' hd) rfl k) k

theorem go_lshl (K : Ctx p s m meth c Z own nm bytes maxL ret) (X : St p l e R s m args below meth c n0 T cells slots) {x : Int64} {y : Int32} (hd : decode bytes pc = .ok (.lshl, 1)) (hp : pc + 1 = pc')
    (k : Go p e below s R n0 Q (T.setTop (mkF m pc' Ls (.long (x <<< (y &&& 0x3f).toInt64) :: stk)))) : Go p e below s R n0 Q (T.setTop (mkF m pc Ls (.int y :: .long x :: stk))) := by
  subst hp; obtain ⟨locs, X, N⟩ := X
  exact go_by (fun t k => XS.lshl X.here K.hx rfl (hb K.by' hd) rfl k) k

theorem go_lshr (K : Ctx p s m meth c Z own nm bytes maxL ret) (X : St p l e R s m args below meth c n0 T cells slots) {x : Int64} {y : Int32} (hd : decode bytes pc = .ok (.lshr, 1)) (hp : pc + 1 = pc')
    (k : Go p e below s R n0 Q (T.setTop (mkF m pc' Ls (.long (x >>> (y &&& 0x3f).toInt64) :: stk)))) : Go p e below s R n0 Q (T.setTop (mkF m pc Ls (.int y :: .long x :: stk))) := by
  subst hp; obtain ⟨locs, X, N⟩ := X
  exact go_by (fun t k => XS.lshr X.here K.hx rfl (hb K.by' hd) rfl k) k

theorem go_lushr (K : Ctx p s m meth c Z own nm bytes maxL ret) (X : St p l e R s m args below meth c n0 T cells slots) {x : Int64} {y : Int32} (hd : decode bytes pc = .ok (.lushr, 1)) (hp : pc + 1 = pc')
    (k : Go p e below s R n0 Q (T.setTop (mkF m pc' Ls (.long ((x.toUInt64 >>> (y &&& 0x3f).toInt64.toUInt64).toInt64) :: stk)))) : Go p e below s R n0 Q (T.setTop (mkF m pc Ls (.int y :: .long x :: stk))) := by
  subst hp; obtain ⟨locs, X, N⟩ := X
  exact go_by (fun t k => XS.lushr X.here K.hx rfl (hb K.by' hd) rfl k) k

theorem go_idiv (K : Ctx p s m meth c Z own nm bytes maxL ret) (X : St p l e R s m args below meth c n0 T cells slots) {x y : Int32} (hd : decode bytes pc = .ok (.idiv, 1)) (hy : y ≠ 0) (hp : pc + 1 = pc')
    (k : Go p e below s R n0 Q (T.setTop (mkF m pc' Ls (.int (x / y) :: stk)))) : Go p e below s R n0 Q (T.setTop (mkF m pc Ls (.int y :: .int x :: stk))) := by
  subst hp; obtain ⟨locs, X, N⟩ := X
  exact go_by (fun t k => XS.idiv X.here K.hx rfl (hb K.by' hd) rfl hy k) k

theorem go_irem (K : Ctx p s m meth c Z own nm bytes maxL ret) (X : St p l e R s m args below meth c n0 T cells slots) {x y : Int32} (hd : decode bytes pc = .ok (.irem, 1)) (hy : y ≠ 0) (hp : pc + 1 = pc')
    (k : Go p e below s R n0 Q (T.setTop (mkF m pc' Ls (.int (x % y) :: stk)))) : Go p e below s R n0 Q (T.setTop (mkF m pc Ls (.int y :: .int x :: stk))) := by
  subst hp; obtain ⟨locs, X, N⟩ := X
  exact go_by (fun t k => iremM X K.hx rfl (hb K.by' hd) rfl hy k) k

theorem go_ldiv (K : Ctx p s m meth c Z own nm bytes maxL ret) (X : St p l e R s m args below meth c n0 T cells slots) {x y : Int64} (hd : decode bytes pc = .ok (.ldiv, 1)) (hy : y ≠ 0) (hp : pc + 1 = pc')
    (k : Go p e below s R n0 Q (T.setTop (mkF m pc' Ls (.long (x / y) :: stk)))) : Go p e below s R n0 Q (T.setTop (mkF m pc Ls (.long y :: .long x :: stk))) := by
  subst hp; obtain ⟨locs, X, N⟩ := X
  exact go_by (fun t k => XS.ldiv X.here K.hx rfl (hb K.by' hd) rfl hy k) k

theorem go_lrem (K : Ctx p s m meth c Z own nm bytes maxL ret) (X : St p l e R s m args below meth c n0 T cells slots) {x y : Int64} (hd : decode bytes pc = .ok (.lrem, 1)) (hy : y ≠ 0) (hp : pc + 1 = pc')
    (k : Go p e below s R n0 Q (T.setTop (mkF m pc' Ls (.long (x - (x / y) * y) :: stk)))) : Go p e below s R n0 Q (T.setTop (mkF m pc Ls (.long y :: .long x :: stk))) := by
  subst hp; obtain ⟨locs, X, N⟩ := X
  exact go_by (fun t k => XS.lrem X.here K.hx rfl (hb K.by' hd) rfl hy k) k

theorem go_ineg (K : Ctx p s m meth c Z own nm bytes maxL ret) (X : St p l e R s m args below meth c n0 T cells slots) {x : Int32} (hd : decode bytes pc = .ok (.ineg, 1)) (hp : pc + 1 = pc')
    (k : Go p e below s R n0 Q (T.setTop (mkF m pc' Ls (.int (-x) :: stk)))) : Go p e below s R n0 Q (T.setTop (mkF m pc Ls (.int x :: stk))) := by
  subst hp; obtain ⟨locs, X, N⟩ := X
  exact go_by (fun t k => XS.ineg X.here K.hx rfl (hb K.by' hd) rfl k) k

theorem go_lneg (K : Ctx p s m meth c Z own nm bytes maxL ret) (X : St p l e R s m args below meth c n0 T cells slots) {x : Int64} (hd : decode bytes pc = .ok (.lneg, 1)) (hp : pc + 1 = pc')
    (k : Go p e below s R n0 Q (T.setTop (mkF m pc' Ls (.long (-x) :: stk)))) : Go p e below s R n0 Q (T.setTop (mkF m pc Ls (.long x :: stk))) := by
  subst hp; obtain ⟨locs, X, N⟩ := X
  exact go_by (fun t k => XS.lneg X.here K.hx rfl (hb K.by' hd) rfl k) k

theorem go_i2b (K : Ctx p s m meth c Z own nm bytes maxL ret) (X : St p l e R s m args below meth c n0 T cells slots) {x : Int32} (hd : decode bytes pc = .ok (.i2b, 1)) (hp : pc + 1 = pc')
    (k : Go p e below s R n0 Q (T.setTop (mkF m pc' Ls (.int (x.toInt8.toInt32) :: stk)))) : Go p e below s R n0 Q (T.setTop (mkF m pc Ls (.int x :: stk))) := by
  subst hp; obtain ⟨locs, X, N⟩ := X
  exact go_by (fun t k => XS.i2b X.here K.hx rfl (hb K.by' hd) rfl k) k

theorem go_i2c (K : Ctx p s m meth c Z own nm bytes maxL ret) (X : St p l e R s m args below meth c n0 T cells slots) {x : Int32} (hd : decode bytes pc = .ok (.i2c, 1)) (hp : pc + 1 = pc')
    (k : Go p e below s R n0 Q (T.setTop (mkF m pc' Ls (.int (x.toUInt32.toUInt16.toUInt32.toInt32) :: stk)))) : Go p e below s R n0 Q (T.setTop (mkF m pc Ls (.int x :: stk))) := by
  subst hp; obtain ⟨locs, X, N⟩ := X
  exact go_by (fun t k => XS.i2c X.here K.hx rfl (hb K.by' hd) rfl k) k

theorem go_i2s (K : Ctx p s m meth c Z own nm bytes maxL ret) (X : St p l e R s m args below meth c n0 T cells slots) {x : Int32} (hd : decode bytes pc = .ok (.i2s, 1)) (hp : pc + 1 = pc')
    (k : Go p e below s R n0 Q (T.setTop (mkF m pc' Ls (.int (x.toInt16.toInt32) :: stk)))) : Go p e below s R n0 Q (T.setTop (mkF m pc Ls (.int x :: stk))) := by
  subst hp; obtain ⟨locs, X, N⟩ := X
  exact go_by (fun t k => XS.i2s X.here K.hx rfl (hb K.by' hd) rfl k) k

theorem go_i2l (K : Ctx p s m meth c Z own nm bytes maxL ret) (X : St p l e R s m args below meth c n0 T cells slots) {x : Int32} (hd : decode bytes pc = .ok (.i2l, 1)) (hp : pc + 1 = pc')
    (k : Go p e below s R n0 Q (T.setTop (mkF m pc' Ls (.long x.toInt64 :: stk)))) : Go p e below s R n0 Q (T.setTop (mkF m pc Ls (.int x :: stk))) := by
  subst hp; obtain ⟨locs, X, N⟩ := X
  exact go_by (fun t k => XS.i2l X.here K.hx rfl (hb K.by' hd) rfl k) k

theorem go_l2i (K : Ctx p s m meth c Z own nm bytes maxL ret) (X : St p l e R s m args below meth c n0 T cells slots) {x : Int64} (hd : decode bytes pc = .ok (.l2i, 1)) (hp : pc + 1 = pc')
    (k : Go p e below s R n0 Q (T.setTop (mkF m pc' Ls (.int x.toInt32 :: stk)))) : Go p e below s R n0 Q (T.setTop (mkF m pc Ls (.long x :: stk))) := by
  subst hp; obtain ⟨locs, X, N⟩ := X
  exact go_by (fun t k => XS.l2i X.here K.hx rfl (hb K.by' hd) rfl k) k

theorem go_istoreN (K : Ctx p s m meth c Z own nm bytes maxL ret) (X : St p l e R s m args below meth c n0 T cells slots) {k0 : Fin 4} {v : Int32} (Ls' : Array Slot) (hd : decode bytes pc = .ok (.istore_n k0, 1)) (hl : storeLocals Ls k0.val (.int v) = some Ls') (hp : pc + 1 = pc')
    (k : Go p e below s R n0 Q (T.setTop (mkF m pc' Ls' (stk)))) : Go p e below s R n0 Q (T.setTop (mkF m pc Ls (.int v :: stk))) := by
  subst hp; obtain ⟨locs, X, N⟩ := X
  exact go_by (fun t k => XS.istoreN X.here K.hx rfl (hb K.by' hd) rfl hl k) k

theorem go_istore (K : Ctx p s m meth c Z own nm bytes maxL ret) (X : St p l e R s m args below meth c n0 T cells slots) {k0 : Nat} {v : Int32} (Ls' : Array Slot) (hd : decode bytes pc = .ok (.istore k0, 2)) (hl : storeLocals Ls k0 (.int v) = some Ls') (hp : pc + 2 = pc')
    (k : Go p e below s R n0 Q (T.setTop (mkF m pc' Ls' (stk)))) : Go p e below s R n0 Q (T.setTop (mkF m pc Ls (.int v :: stk))) := by
  subst hp; obtain ⟨locs, X, N⟩ := X
  exact go_by (fun t k => XS.istore X.here K.hx rfl (hb K.by' hd) rfl hl k) k

theorem go_lstoreN (K : Ctx p s m meth c Z own nm bytes maxL ret) (X : St p l e R s m args below meth c n0 T cells slots) {k0 : Fin 4} {v : Int64} (Ls' : Array Slot) (hd : decode bytes pc = .ok (.lstore_n k0, 1)) (hl : storeLocals Ls k0.val (.long v) = some Ls') (hp : pc + 1 = pc')
    (k : Go p e below s R n0 Q (T.setTop (mkF m pc' Ls' (stk)))) : Go p e below s R n0 Q (T.setTop (mkF m pc Ls (.long v :: stk))) := by
  subst hp; obtain ⟨locs, X, N⟩ := X
  exact go_by (fun t k => XS.lstoreN X.here K.hx rfl (hb K.by' hd) rfl hl k) k

theorem go_lstore (K : Ctx p s m meth c Z own nm bytes maxL ret) (X : St p l e R s m args below meth c n0 T cells slots) {k0 : Nat} {v : Int64} (Ls' : Array Slot) (hd : decode bytes pc = .ok (.lstore k0, 2)) (hl : storeLocals Ls k0 (.long v) = some Ls') (hp : pc + 2 = pc')
    (k : Go p e below s R n0 Q (T.setTop (mkF m pc' Ls' (stk)))) : Go p e below s R n0 Q (T.setTop (mkF m pc Ls (.long v :: stk))) := by
  subst hp; obtain ⟨locs, X, N⟩ := X
  exact go_by (fun t k => XS.lstore X.here K.hx rfl (hb K.by' hd) rfl hl k) k

theorem go_astoreN (K : Ctx p s m meth c Z own nm bytes maxL ret) (X : St p l e R s m args below meth c n0 T cells slots) {k0 : Fin 4} {v : Value} (Ls' : Array Slot) (hd : decode bytes pc = .ok (.astore_n k0, 1)) (hv : v.isRef = true) (hl : storeLocals Ls k0.val v = some Ls') (hp : pc + 1 = pc')
    (k : Go p e below s R n0 Q (T.setTop (mkF m pc' Ls' (stk)))) : Go p e below s R n0 Q (T.setTop (mkF m pc Ls (v :: stk))) := by
  subst hp; obtain ⟨locs, X, N⟩ := X
  exact go_by (fun t k => XS.astoreN X.here K.hx rfl (hb K.by' hd) rfl hv hl k) k

theorem go_astore (K : Ctx p s m meth c Z own nm bytes maxL ret) (X : St p l e R s m args below meth c n0 T cells slots) {k0 : Nat} {v : Value} (Ls' : Array Slot) (hd : decode bytes pc = .ok (.astore k0, 2)) (hv : v.isRef = true) (hl : storeLocals Ls k0 v = some Ls') (hp : pc + 2 = pc')
    (k : Go p e below s R n0 Q (T.setTop (mkF m pc' Ls' (stk)))) : Go p e below s R n0 Q (T.setTop (mkF m pc Ls (v :: stk))) := by
  subst hp; obtain ⟨locs, X, N⟩ := X
  exact go_by (fun t k => XS.astore X.here K.hx rfl (hb K.by' hd) rfl hv hl k) k

theorem go_iinc (K : Ctx p s m meth c Z own nm bytes maxL ret) (X : St p l e R s m args below meth c n0 T cells slots) {k0 : Nat} {cst : Int} {x : Int32} (v : Int32) (Ls' : Array Slot) (hd : decode bytes pc = .ok (.iinc k0 cst, 3)) (hv : Int32.ofInt cst = v) (hl : Ls[k0]? = some (.val (.int x))) (hl' : storeLocals Ls k0 (.int (x + v)) = some Ls') (hp : pc + 3 = pc')
    (k : Go p e below s R n0 Q (T.setTop (mkF m pc' Ls' (stk)))) : Go p e below s R n0 Q (T.setTop (mkF m pc Ls (stk))) := by
  subst hp; obtain ⟨locs, X, N⟩ := X
  exact go_by (fun t k => XT.iincV X.here K.hx rfl v (hb K.by' hd) hv hl hl' k) k

theorem go_dup (K : Ctx p s m meth c Z own nm bytes maxL ret) (X : St p l e R s m args below meth c n0 T cells slots) {x : Value} (hd : decode bytes pc = .ok (.dup, 1)) (hc : x.category = 1) (hp : pc + 1 = pc')
    (k : Go p e below s R n0 Q (T.setTop (mkF m pc' Ls (x :: x :: stk)))) : Go p e below s R n0 Q (T.setTop (mkF m pc Ls (x :: stk))) := by
  subst hp; obtain ⟨locs, X, N⟩ := X
  exact go_by (fun t k => XS.dup X.here K.hx rfl (hb K.by' hd) rfl hc k) k

theorem go_pop (K : Ctx p s m meth c Z own nm bytes maxL ret) (X : St p l e R s m args below meth c n0 T cells slots) {x : Value} (hd : decode bytes pc = .ok (.pop, 1)) (hc : x.category = 1) (hp : pc + 1 = pc')
    (k : Go p e below s R n0 Q (T.setTop (mkF m pc' Ls (stk)))) : Go p e below s R n0 Q (T.setTop (mkF m pc Ls (x :: stk))) := by
  subst hp; obtain ⟨locs, X, N⟩ := X
  exact go_by (fun t k => XS.pop X.here K.hx rfl (hb K.by' hd) rfl hc k) k

theorem go_dupX1 (K : Ctx p s m meth c Z own nm bytes maxL ret) (X : St p l e R s m args below meth c n0 T cells slots) {x y : Value} (hd : decode bytes pc = .ok (.dup_x1, 1)) (hc : x.category = 1) (hc' : y.category = 1) (hp : pc + 1 = pc')
    (k : Go p e below s R n0 Q (T.setTop (mkF m pc' Ls (x :: y :: x :: stk)))) : Go p e below s R n0 Q (T.setTop (mkF m pc Ls (x :: y :: stk))) := by
  subst hp; obtain ⟨locs, X, N⟩ := X
  exact go_by (fun t k => XS.dupX1 X.here K.hx rfl (hb K.by' hd) rfl hc hc' k) k

theorem go_dup2 (K : Ctx p s m meth c Z own nm bytes maxL ret) (X : St p l e R s m args below meth c n0 T cells slots) {x y : Value} (hd : decode bytes pc = .ok (.dup2, 1)) (hc : x.category = 1) (hc' : y.category = 1) (hp : pc + 1 = pc')
    (k : Go p e below s R n0 Q (T.setTop (mkF m pc' Ls (x :: y :: x :: y :: stk)))) : Go p e below s R n0 Q (T.setTop (mkF m pc Ls (x :: y :: stk))) := by
  subst hp; obtain ⟨locs, X, N⟩ := X
  exact go_by (fun t k => XT.dup2 X.here K.hx rfl (hb K.by' hd) rfl hc hc' k) k

theorem go_dup2L (K : Ctx p s m meth c Z own nm bytes maxL ret) (X : St p l e R s m args below meth c n0 T cells slots) {x : Int64} (hd : decode bytes pc = .ok (.dup2, 1)) (hp : pc + 1 = pc')
    (k : Go p e below s R n0 Q (T.setTop (mkF m pc' Ls (.long x :: .long x :: stk)))) : Go p e below s R n0 Q (T.setTop (mkF m pc Ls (.long x :: stk))) := by
  subst hp; obtain ⟨locs, X, N⟩ := X
  exact go_by (fun t k => XT.dup2L X.here K.hx rfl (hb K.by' hd) rfl k) k

theorem go_goto (K : Ctx p s m meth c Z own nm bytes maxL ret) (X : St p l e R s m args below meth c n0 T cells slots) {o : Int} (hd : decode bytes pc = .ok (.goto o, 3)) (ho : 0 ≤ (pc : Int) + o) (hp : ((pc : Int) + o).toNat = pt)
    (k : Go p e below s R n0 Q (T.setTop (mkF m pt Ls stk))) : Go p e below s R n0 Q (T.setTop (mkF m pc Ls stk)) := by
  obtain ⟨locs, X, N⟩ := X
  exact go_by (fun t k => XS.goto X.here K.hx rfl (pc0 := pc) rfl (hb K.by' hd) ho hp k) k
/-- what a taken branch says, and what one says that isn't -/
def cT : ClassFile.Cond → Int32 → Int32 → Prop
  | .eq, x, y => x = y | .ne, x, y => ¬ x = y | .lt, x, y => x < y | .ge, x, y => ¬ x < y | .gt, x, y => y < x | .le, x, y => ¬ y < x
def cF : ClassFile.Cond → Int32 → Int32 → Prop
  | .eq, x, y => ¬ x = y | .ne, x, y => x = y | .lt, x, y => ¬ x < y | .ge, x, y => x < y | .gt, x, y => ¬ y < x | .le, x, y => y < x
theorem cT_or (cd : ClassFile.Cond) (x y : Int32) : cT cd x y ∨ cF cd x y := by
  cases cd <;> simp only [cT, cF] <;> first | exact Decidable.em _ | exact (Decidable.em _).symm
theorem cT_holds {cd : ClassFile.Cond} {x y : Int32} (q : cT cd x y) : if_icmp.holds cd x y = true := by
  cases cd
  · exact XT.ii_eq_t q
  · exact XT.ii_ne_t q
  · exact XT.ii_lt_t q
  · exact XT.ii_ge_t q
  · exact XT.ii_gt_t q
  · exact XT.ii_le_t q
theorem cF_holds {cd : ClassFile.Cond} {x y : Int32} (q : cF cd x y) : if_icmp.holds cd x y = false := by
  cases cd
  · exact XT.ii_eq_f q
  · exact XT.ii_ne_f q
  · exact XT.ii_lt_f q
  · exact XT.ii_ge_f q
  · exact XT.ii_gt_f q
  · exact XT.ii_le_f q
def lT : ClassFile.Cond → Int64 → Int64 → Prop
  | .eq, x, y => x = y | .ne, x, y => ¬ x = y | .lt, x, y => x < y | .ge, x, y => ¬ x < y | .gt, x, y => y < x | .le, x, y => ¬ y < x
def lF : ClassFile.Cond → Int64 → Int64 → Prop
  | .eq, x, y => ¬ x = y | .ne, x, y => x = y | .lt, x, y => ¬ x < y | .ge, x, y => x < y | .gt, x, y => ¬ y < x | .le, x, y => y < x
theorem lT_or (cd : ClassFile.Cond) (x y : Int64) : lT cd x y ∨ lF cd x y := by
  cases cd <;> simp only [lT, lF] <;> first | exact Decidable.em _ | exact (Decidable.em _).symm
theorem lT_holds {cd : ClassFile.Cond} {x y : Int64} (q : lT cd x y) : ifCond.holds cd (XT.cmpL x y) = true := by
  cases cd
  · exact XT.ll_eq_t q
  · exact XT.ll_ne_t q
  · exact XT.ll_lt_t q
  · exact XT.ll_ge_t q
  · exact XT.ll_gt_t q
  · exact XT.ll_le_t q
theorem lF_holds {cd : ClassFile.Cond} {x y : Int64} (q : lF cd x y) : ifCond.holds cd (XT.cmpL x y) = false := by
  cases cd
  · exact XT.ll_eq_f q
  · exact XT.ll_ne_f q
  · exact XT.ll_lt_f q
  · exact XT.ll_ge_f q
  · exact XT.ll_gt_f q
  · exact XT.ll_le_f q

theorem go_icmpT (K : Ctx p s m meth c Z own nm bytes maxL ret) (X : St p l e R s m args below meth c n0 T cells slots) {cd : ClassFile.Cond} {o : Int} {x y : Int32} (hd : decode bytes pc = .ok (.if_icmp cd o, 3)) (ho : 0 ≤ (pc : Int) + o) (hp : ((pc : Int) + o).toNat = pt) (q : cT cd x y)
    (k : Go p e below s R n0 Q (T.setTop (mkF m pt Ls stk))) : Go p e below s R n0 Q (T.setTop (mkF m pc Ls (.int y :: .int x :: stk))) := by
  obtain ⟨locs, X, N⟩ := X
  exact go_by (fun t k => XS.icmpYes X.here K.hx rfl (pc0 := pc) rfl (hb K.by' hd) rfl (cT_holds q) ho hp k) k
theorem go_icmpF (K : Ctx p s m meth c Z own nm bytes maxL ret) (X : St p l e R s m args below meth c n0 T cells slots) {cd : ClassFile.Cond} {o : Int} {x y : Int32} (hd : decode bytes pc = .ok (.if_icmp cd o, 3)) (hp : pc + 3 = pc') (q : cF cd x y)
    (k : Go p e below s R n0 Q (T.setTop (mkF m pc' Ls stk))) : Go p e below s R n0 Q (T.setTop (mkF m pc Ls (.int y :: .int x :: stk))) := by
  subst hp; obtain ⟨locs, X, N⟩ := X
  exact go_by (fun t k => XS.icmpNo X.here K.hx rfl (hb K.by' hd) rfl (cF_holds q) k) k
theorem go_icmp (K : Ctx p s m meth c Z own nm bytes maxL ret) (X : St p l e R s m args below meth c n0 T cells slots) {cd : ClassFile.Cond} {o : Int} {x y : Int32} (hd : decode bytes pc = .ok (.if_icmp cd o, 3)) (ho : 0 ≤ (pc : Int) + o) (ht : ((pc : Int) + o).toNat = pt) (hp : pc + 3 = pc')
    (k1 : cT cd x y → Go p e below s R n0 Q (T.setTop (mkF m pt Ls stk))) (k2 : cF cd x y → Go p e below s R n0 Q (T.setTop (mkF m pc' Ls stk))) : Go p e below s R n0 Q (T.setTop (mkF m pc Ls (.int y :: .int x :: stk))) :=
  (cT_or cd _ _).elim (fun q => go_icmpT K X hd ho ht q (k1 q)) (fun q => go_icmpF K X hd hp q (k2 q))

theorem go_ifT (K : Ctx p s m meth c Z own nm bytes maxL ret) (X : St p l e R s m args below meth c n0 T cells slots) {cd : ClassFile.Cond} {o : Int} {x : Int32} (hd : decode bytes pc = .ok (.ifCond cd o, 3)) (ho : 0 ≤ (pc : Int) + o) (hp : ((pc : Int) + o).toNat = pt) (q : cT cd x 0)
    (k : Go p e below s R n0 Q (T.setTop (mkF m pt Ls stk))) : Go p e below s R n0 Q (T.setTop (mkF m pc Ls (.int x :: stk))) := by
  obtain ⟨locs, X, N⟩ := X
  exact go_by (fun t k => XS.ifYes X.here K.hx rfl (pc0 := pc) rfl (hb K.by' hd) rfl ((if0 _ _).trans (cT_holds q)) ho hp k) k
theorem go_ifF (K : Ctx p s m meth c Z own nm bytes maxL ret) (X : St p l e R s m args below meth c n0 T cells slots) {cd : ClassFile.Cond} {o : Int} {x : Int32} (hd : decode bytes pc = .ok (.ifCond cd o, 3)) (hp : pc + 3 = pc') (q : cF cd x 0)
    (k : Go p e below s R n0 Q (T.setTop (mkF m pc' Ls stk))) : Go p e below s R n0 Q (T.setTop (mkF m pc Ls (.int x :: stk))) := by
  subst hp; obtain ⟨locs, X, N⟩ := X
  exact go_by (fun t k => XS.ifNo X.here K.hx rfl (hb K.by' hd) rfl ((if0 _ _).trans (cF_holds q)) k) k
theorem go_if (K : Ctx p s m meth c Z own nm bytes maxL ret) (X : St p l e R s m args below meth c n0 T cells slots) {cd : ClassFile.Cond} {o : Int} {x : Int32} (hd : decode bytes pc = .ok (.ifCond cd o, 3)) (ho : 0 ≤ (pc : Int) + o) (ht : ((pc : Int) + o).toNat = pt) (hp : pc + 3 = pc')
    (k1 : cT cd x 0 → Go p e below s R n0 Q (T.setTop (mkF m pt Ls stk))) (k2 : cF cd x 0 → Go p e below s R n0 Q (T.setTop (mkF m pc' Ls stk))) : Go p e below s R n0 Q (T.setTop (mkF m pc Ls (.int x :: stk))) :=
  (cT_or cd _ _).elim (fun q => go_ifT K X hd ho ht q (k1 q)) (fun q => go_ifF K X hd hp q (k2 q))

theorem go_lifT (K : Ctx p s m meth c Z own nm bytes maxL ret) (X : St p l e R s m args below meth c n0 T cells slots) {cd : ClassFile.Cond} {o : Int} {x y : Int64} (hd1 : decode bytes pc = .ok (.lcmp, 1)) (hp : pc + 1 = pc') (hd : decode bytes pc' = .ok (.ifCond cd o, 3)) (ho : 0 ≤ (pc' : Int) + o) (ht : ((pc' : Int) + o).toNat = pt) (q : lT cd x y)
    (k : Go p e below s R n0 Q (T.setTop (mkF m pt Ls stk))) : Go p e below s R n0 Q (T.setTop (mkF m pc Ls (.long y :: .long x :: stk))) := by
  subst hp; obtain ⟨locs, X, N⟩ := X
  exact go_by (fun t k => XT.lcmp X.here K.hx rfl (hb K.by' hd1) rfl (XS.ifYes X.here K.hx rfl (pc0 := pc + 1) rfl (hb K.by' hd) rfl (lT_holds q) ho ht k)) k
theorem go_lifF (K : Ctx p s m meth c Z own nm bytes maxL ret) (X : St p l e R s m args below meth c n0 T cells slots) {cd : ClassFile.Cond} {o : Int} {x y : Int64} {pn : Nat} (hd1 : decode bytes pc = .ok (.lcmp, 1)) (hp : pc + 1 = pc') (hd : decode bytes pc' = .ok (.ifCond cd o, 3)) (hn : pc' + 3 = pn) (q : lF cd x y)
    (k : Go p e below s R n0 Q (T.setTop (mkF m pn Ls stk))) : Go p e below s R n0 Q (T.setTop (mkF m pc Ls (.long y :: .long x :: stk))) := by
  subst hp hn; obtain ⟨locs, X, N⟩ := X
  exact go_by (fun t k => XT.lcmp X.here K.hx rfl (hb K.by' hd1) rfl (XS.ifNo X.here K.hx rfl (hb K.by' hd) rfl (lF_holds q) k)) k
theorem go_lif (K : Ctx p s m meth c Z own nm bytes maxL ret) (X : St p l e R s m args below meth c n0 T cells slots) {cd : ClassFile.Cond} {o : Int} {x y : Int64} {pn : Nat} (hd1 : decode bytes pc = .ok (.lcmp, 1)) (hp : pc + 1 = pc') (hd : decode bytes pc' = .ok (.ifCond cd o, 3)) (ho : 0 ≤ (pc' : Int) + o) (ht : ((pc' : Int) + o).toNat = pt) (hn : pc' + 3 = pn)
    (k1 : lT cd x y → Go p e below s R n0 Q (T.setTop (mkF m pt Ls stk))) (k2 : lF cd x y → Go p e below s R n0 Q (T.setTop (mkF m pn Ls stk))) : Go p e below s R n0 Q (T.setTop (mkF m pc Ls (.long y :: .long x :: stk))) :=
  (lT_or cd _ _).elim (fun q => go_lifT K X hd1 hp hd ho ht q (k1 q)) (fun q => go_lifF K X hd1 hp hd hn q (k2 q))
theorem go_nullT (K : Ctx p s m meth c Z own nm bytes maxL ret) (X : St p l e R s m args below meth c n0 T cells slots) {o : Int} (hd : decode bytes pc = .ok (.ifnull o, 3)) (ho : 0 ≤ (pc : Int) + o) (hp : ((pc : Int) + o).toNat = pt)
    (k : Go p e below s R n0 Q (T.setTop (mkF m pt Ls stk))) : Go p e below s R n0 Q (T.setTop (mkF m pc Ls (.null :: stk))) := by
  obtain ⟨locs, X, N⟩ := X
  exact go_by (fun t k => XS.ifnullYes X.here K.hx rfl (pc0 := pc) rfl (hb K.by' hd) rfl ho hp k) k
theorem go_nullF (K : Ctx p s m meth c Z own nm bytes maxL ret) (X : St p l e R s m args below meth c n0 T cells slots) {o : Int} {a : Addr} (hd : decode bytes pc = .ok (.ifnull o, 3)) (hp : pc + 3 = pc')
    (k : Go p e below s R n0 Q (T.setTop (mkF m pc' Ls stk))) : Go p e below s R n0 Q (T.setTop (mkF m pc Ls (.ref a :: stk))) := by
  subst hp; obtain ⟨locs, X, N⟩ := X
  exact go_by (fun t k => XS.ifnullNo X.here K.hx rfl (hb K.by' hd) rfl k) k
theorem go_nonnullT (K : Ctx p s m meth c Z own nm bytes maxL ret) (X : St p l e R s m args below meth c n0 T cells slots) {o : Int} {a : Addr} (hd : decode bytes pc = .ok (.ifnonnull o, 3)) (ho : 0 ≤ (pc : Int) + o) (hp : ((pc : Int) + o).toNat = pt)
    (k : Go p e below s R n0 Q (T.setTop (mkF m pt Ls stk))) : Go p e below s R n0 Q (T.setTop (mkF m pc Ls (.ref a :: stk))) := by
  obtain ⟨locs, X, N⟩ := X
  exact go_by (fun t k => XS.ifnonnullYes X.here K.hx rfl (pc0 := pc) rfl (hb K.by' hd) rfl ho hp k) k
theorem go_nonnullF (K : Ctx p s m meth c Z own nm bytes maxL ret) (X : St p l e R s m args below meth c n0 T cells slots) {o : Int} (hd : decode bytes pc = .ok (.ifnonnull o, 3)) (hp : pc + 3 = pc')
    (k : Go p e below s R n0 Q (T.setTop (mkF m pc' Ls stk))) : Go p e below s R n0 Q (T.setTop (mkF m pc Ls (.null :: stk))) := by
  subst hp; obtain ⟨locs, X, N⟩ := X
  exact go_by (fun t k => XS.ifnonnullNo X.here K.hx rfl (hb K.by' hd) rfl k) k
theorem go_acmpT (K : Ctx p s m meth c Z own nm bytes maxL ret) (X : St p l e R s m args below meth c n0 T cells slots) {cd : ClassFile.ACond} {o : Int} {x y : Value} (hd : decode bytes pc = .ok (.if_acmp cd o, 3)) (ho : 0 ≤ (pc : Int) + o) (hp : ((pc : Int) + o).toNat = pt) (h1 : x.isRef = true) (h2 : y.isRef = true) (q : XT.acmp cd x y = true)
    (k : Go p e below s R n0 Q (T.setTop (mkF m pt Ls stk))) : Go p e below s R n0 Q (T.setTop (mkF m pc Ls (y :: x :: stk))) := by
  obtain ⟨locs, X, N⟩ := X
  exact go_by (fun t k => XT.acmpYes X.here K.hx rfl (pc0 := pc) rfl (hb K.by' hd) rfl h1 h2 q ho hp k) k
theorem go_acmpF (K : Ctx p s m meth c Z own nm bytes maxL ret) (X : St p l e R s m args below meth c n0 T cells slots) {cd : ClassFile.ACond} {o : Int} {x y : Value} (hd : decode bytes pc = .ok (.if_acmp cd o, 3)) (hp : pc + 3 = pc') (h1 : x.isRef = true) (h2 : y.isRef = true) (q : XT.acmp cd x y = false)
    (k : Go p e below s R n0 Q (T.setTop (mkF m pc' Ls stk))) : Go p e below s R n0 Q (T.setTop (mkF m pc Ls (y :: x :: stk))) := by
  subst hp; obtain ⟨locs, X, N⟩ := X
  exact go_by (fun t k => XT.acmpNo X.here K.hx rfl (hb K.by' hd) rfl h1 h2 q k) k
/-- the return -/
theorem go_retV (K : Ctx p s m meth c Z own nm bytes maxL ret) (X : St p l e R s m args below meth c n0 T cells slots) {w : Value} {t : FieldType} {i : Instr} (hret : ret = some t) (hn : narrow t w = w)
    (hi : (i = .ireturn ∧ (t = .int ∨ t = .boolean ∨ t = .byte ∨ t = .char ∨ t = .short) ∧ ∃ z, w = .int z) ∨ (i = .lreturn ∧ t = .long ∧ ∃ z, w = .long z) ∨ (i = .dreturn ∧ t = .double ∧ ∃ z, w = .double z) ∨ (i = .freturn ∧ t = .float ∧ ∃ z, w = .float z) ∨ (i = .areturn ∧ t.isReference = true ∧ w.isRef = true))
    (hd : decode bytes pc = .ok (i, 1)) (hc : cells ≤ R.cells) (hs : slots ≤ R.slots) (q : Q (some w) T.heap) : Go p e below s R n0 Q (T.setTop (mkF m pc Ls (w :: stk))) := by
  obtain ⟨locs, X, N⟩ := X
  obtain ⟨fs, hr, hrun, hended, hW, hsame⟩ := X.leave (v := some w) (fun h => by rw [K.ret', hret] at h; cases h) K.locks
  exact ⟨_, _, retOut X K.hx (K.ret'.trans hret) hn hi (hb K.by' hd) hr, hrun, hended, _, _, rfl, ⟨q, N⟩, ⟨_, rfl⟩, hW, hsame.mono hc hs⟩
theorem go_retI (K : Ctx p s m meth c Z own nm bytes maxL (some .int)) (X : St p l e R s m args below meth c n0 T cells slots) {z : Int32} (hd : decode bytes pc = .ok (.ireturn, 1)) (hc : cells ≤ R.cells) (hs : slots ≤ R.slots) (q : Q (some (.int z)) T.heap) : Go p e below s R n0 Q (T.setTop (mkF m pc Ls (.int z :: stk))) :=
  go_retV K X rfl rfl (Or.inl ⟨rfl, Or.inl rfl, z, rfl⟩) hd hc hs q
theorem go_retZ (K : Ctx p s m meth c Z own nm bytes maxL (some .boolean)) (X : St p l e R s m args below meth c n0 T cells slots) {z : Int32} (hz : z = 0 ∨ z = 1) (hd : decode bytes pc = .ok (.ireturn, 1)) (hc : cells ≤ R.cells) (hs : slots ≤ R.slots) (q : Q (some (.int z)) T.heap) : Go p e below s R n0 Q (T.setTop (mkF m pc Ls (.int z :: stk))) :=
  go_retV K X rfl (by rcases hz with rfl | rfl <;> rfl) (Or.inl ⟨rfl, Or.inr (Or.inl rfl), z, rfl⟩) hd hc hs q
theorem go_retJ (K : Ctx p s m meth c Z own nm bytes maxL (some .long)) (X : St p l e R s m args below meth c n0 T cells slots) {z : Int64} (hd : decode bytes pc = .ok (.lreturn, 1)) (hc : cells ≤ R.cells) (hs : slots ≤ R.slots) (q : Q (some (.long z)) T.heap) : Go p e below s R n0 Q (T.setTop (mkF m pc Ls (.long z :: stk))) :=
  go_retV K X rfl rfl (Or.inr (Or.inl ⟨rfl, rfl, z, rfl⟩)) hd hc hs q
theorem go_retA (K : Ctx p s m meth c Z own nm bytes maxL (some t)) (X : St p l e R s m args below meth c n0 T cells slots) {w : Value} (ht : t.isReference = true) (hw : w.isRef = true) (hn : narrow t w = w) (hd : decode bytes pc = .ok (.areturn, 1)) (hc : cells ≤ R.cells) (hs : slots ≤ R.slots) (q : Q (some w) T.heap) : Go p e below s R n0 Q (T.setTop (mkF m pc Ls (w :: stk))) :=
  go_retV K X rfl hn (Or.inr (Or.inr (Or.inr (Or.inr ⟨rfl, ht, hw⟩)))) hd hc hs q
theorem go_ret (K : Ctx p s m meth c Z own nm bytes maxL none) (X : St p l e R s m args below meth c n0 T cells slots) (hd : decode bytes pc = .ok (.return_, 1)) (hc : cells ≤ R.cells) (hs : slots ≤ R.slots) (q : Q none T.heap) : Go p e below s R n0 Q (T.setTop (mkF m pc Ls [])) := by
  obtain ⟨locs, X, N⟩ := X
  obtain ⟨fs, hr, hrun, hended, hW, hsame⟩ := X.leave (v := none) (fun _ => rfl) K.locks
  exact ⟨_, _, X.returnOut K.hx K.ret' (hb K.by' hd) hr, hrun, hended, _, _, rfl, ⟨q, N⟩, ⟨_, rfl⟩, hW, hsame.mono hc hs⟩

/-! ## the heap -/
theorem go_getF (K : Ctx p s m meth c Z own nm bytes maxL ret) (X : St p l e R s m args below meth c n0 T cells slots) {R0 O n d host : String} {index : Nat} (w : (Cond.fieldLink own index R0 n d).before a0 Z = true ∨ (Cond.fieldLinkNest own index R0 n d host).before a0 Z = true) (via : Via Z R0 O n d) (eT : T.heap = h) {a : Addr} {v : Value} (F : Fld Z h a O n d v) (hd : decode bytes pc = .ok (.getfield index, 3)) (hp : pc + 3 = pc')
    (k : ∀ T', St p l e R s m args below meth c n0 T' cells slots → T'.heap = h → Go p e below s R n0 Q (T'.setTop (mkF m pc' Ls (v :: stk)))) : Go p e below s R n0 Q (T.setTop (mkF m pc Ls (.ref a :: stk))) := by
  subst hp; obtain ⟨locs, X, N⟩ := X
  obtain ⟨T', X', e', st⟩ := getF X K.hx K.hZ K.own' w via eT F (g := mkF m pc Ls (.ref a :: stk)) rfl rfl (hb K.by' hd)
  exact go_by st (k T' ⟨locs, X', N⟩ e')
theorem go_getS (K : Ctx p s m meth c Z own nm bytes maxL ret) (X : St p l e R s m args below meth c n0 T cells slots) {R0 O n d host : String} {index : Nat} (w : (Cond.fieldLink own index R0 n d).before a0 Z = true ∨ (Cond.fieldLinkNest own index R0 n d host).before a0 Z = true) (via : Via Z R0 O n d) (eT : T.heap = h) {v : Value} (F : Sta Z h O n d v) (hd : decode bytes pc = .ok (.getstatic index, 3)) (hp : pc + 3 = pc')
    (k : ∀ T', St p l e R s m args below meth c n0 T' cells slots → T'.heap = h → Go p e below s R n0 Q (T'.setTop (mkF m pc' Ls (v :: stk)))) : Go p e below s R n0 Q (T.setTop (mkF m pc Ls stk)) := by
  subst hp; obtain ⟨locs, X, N⟩ := X
  obtain ⟨T', X', e', st⟩ := getS2 X K.hx K.hZ K.own' w via eT F (g := mkF m pc Ls stk) rfl (hb K.by' hd)
  exact go_by st (k T' ⟨locs, X', N⟩ e')
theorem go_putF (K : Ctx p s m meth c Z own nm bytes maxL ret) (X : St p l e R s m args below meth c n0 T cells slots) {R0 O n d host C : String} {index kk : Nat} {ty : FieldType} (w : (Cond.fieldLink own index R0 n d).before a0 Z = true ∨ (Cond.fieldLinkNest own index R0 n d host).before a0 Z = true) (via : Via Z R0 O n d) (eT : T.heap = h) {a : Addr} {v old : Value} (F : Fld Z h a O n d old) (E : Exa Z h a C)
    (L : (Cond.lays C O n d).before a0 Z = true ∨ ((Cond.laysFinal C O n d).before a0 Z = true ∧ own = O ∧ nm = "<init>")) (wi : (Cond.instantiable C kk).before a0 Z = true) (hty : parseFieldDescriptor d = some ty) (hn : narrow ty v = v) (hf : fits ty v = true) (ge : n0 ≤ a) (hd : decode bytes pc = .ok (.putfield index, 3)) (hp : pc + 3 = pc')
    (k : ∀ T' h', St p l e R s m args below meth c n0 T' cells slots → T'.heap = h' → Wr h h' a (Jvm.RoadKit.slotOf Z O n d) v → Go p e below s R n0 Q (T'.setTop (mkF m pc' Ls stk))) : Go p e below s R n0 Q (T.setTop (mkF m pc Ls (v :: .ref a :: stk))) := by
  subst hp; obtain ⟨locs, X, N⟩ := X
  obtain ⟨T', h', X', e', W', st⟩ := putF X K.hx K.hZ K.own' w via eT F E (L.imp id fun q => ⟨q.1, q.2.1, K.nm'.trans q.2.2⟩) wi hty hn hf (g := mkF m pc Ls (v :: .ref a :: stk)) rfl rfl (hb K.by' hd)
  exact go_by st (k T' h' ⟨_, X', Fr.snoc X' N ge⟩ e' W')
theorem go_new (K : Ctx p s m meth c Z own nm bytes maxL ret) (X : St p l e R s m args below meth c n0 T cells slots) {C : String} {index n : Nat} (w : (Cond.classLink own index C).before a0 Z = true) (wi : (Cond.instantiable C n).before a0 Z = true) (wz : (Cond.initialized C).before a0 Z = true) (eT : T.heap = h) (hd : decode bytes pc = .ok (.new index, 3)) (hp : pc + 3 = pc') (hc' : cells + 1 = cells') (hs' : slots + n = slots') (hc : cells' ≤ R.cells) (hs : slots' ≤ R.slots)
    (k : ∀ T' h' a, a = h.size → St p l e R s m args below meth c n0 T' cells' slots' → T'.heap = h' → Ext h h' → Exa Z h' a C → (∀ {O nm d : String} {ty : FieldType}, Laid Z a0 C O nm d → parseFieldDescriptor d = some ty → Fld Z h' a O nm d (defaultValue ty)) → Go p e below s R n0 Q (T'.setTop (mkF m pc' Ls (.ref a :: stk)))) : Go p e below s R n0 Q (T.setTop (mkF m pc Ls stk)) := by
  subst hp hc' hs'; obtain ⟨locs, X, N⟩ := X
  obtain ⟨T', h', X', e', E', A', D', -, st⟩ := newO X K.hx K.hZ K.own' w wi wz eT (g := mkF m pc Ls stk) rfl (hb K.by' hd) hc hs
  exact go_by st (k T' h' _ rfl ⟨_, X', N⟩ e' E' A' D')
theorem go_initO (K : Ctx p s m meth c Z own nm bytes maxL ret) (X : St p l e R s m args below meth c n0 T cells slots) {idx : Nat} {a : Addr} (w1 : (Cond.methodLink own idx Lib.objectInit).before a0 Z = true) (w2 : (Cond.instanceMethod Lib.objectInit).before a0 Z = true) (w3 : (Cond.code Lib.objectInit ⟨#[0xb1]⟩ 1 none).before a0 Z = true) (eT : T.heap = h) (hsize : Ls.size = maxL) (hd : decode bytes pc = .ok (.invokespecial idx, 3)) (hp : pc + 3 = pc')
    (hf : 1 ≤ R.frames) {W : Nat} (hW : (stk.map fun v => v.category).sum ≤ W) (hl : W + 12 ≤ R.locals)
    (k : ∀ T', St p l e R s m args below meth c n0 T' cells slots → T'.heap = h → Go p e below s R n0 Q (T'.setTop (mkF m pc' Ls stk))) : Go p e below s R n0 Q (T.setTop (mkF m pc Ls (.ref a :: stk))) := by
  subst hp; obtain ⟨locs, X, N⟩ := X
  obtain ⟨T', X', e', st⟩ := initO X K.hx K.hZ K.own' w1 w2 w3 eT (g := mkF m pc Ls (.ref a :: stk)) rfl (by rw [K.ml]; exact hsize) rfl (hb K.by' hd) hf (W := W) (by show 2 * 0 + _ ≤ _; omega) hl
  exact go_by st (k T' ⟨_, X', N⟩ e')
theorem go_cast (K : Ctx p s m meth c Z own nm bytes maxL ret) (X : St p l e R s m args below meth c n0 T cells slots) {C : String} {index : Nat} (w : (Cond.classLink own index C).before a0 Z = true) (eT : T.heap = h) {a : Addr} (F : Ins Z h a C true) (hd : decode bytes pc = .ok (.checkcast index, 3)) (hp : pc + 3 = pc')
    (k : ∀ T', St p l e R s m args below meth c n0 T' cells slots → T'.heap = h → Go p e below s R n0 Q (T'.setTop (mkF m pc' Ls (.ref a :: stk)))) : Go p e below s R n0 Q (T.setTop (mkF m pc Ls (.ref a :: stk))) := by
  subst hp; obtain ⟨locs, X, N⟩ := X
  obtain ⟨T', X', e', st⟩ := castY X K.hx K.hZ K.own' w eT F (g := mkF m pc Ls (.ref a :: stk)) rfl rfl (hb K.by' hd)
  exact go_by st (k T' ⟨_, X', N⟩ e')
theorem go_instY (K : Ctx p s m meth c Z own nm bytes maxL ret) (X : St p l e R s m args below meth c n0 T cells slots) {C : String} {index : Nat} (w : (Cond.classLink own index C).before a0 Z = true) (eT : T.heap = h) {a : Addr} (F : Ins Z h a C true) (hd : decode bytes pc = .ok (.instanceof index, 3)) (hp : pc + 3 = pc')
    (k : ∀ T', St p l e R s m args below meth c n0 T' cells slots → T'.heap = h → Go p e below s R n0 Q (T'.setTop (mkF m pc' Ls (.int 1 :: stk)))) : Go p e below s R n0 Q (T.setTop (mkF m pc Ls (.ref a :: stk))) := by
  subst hp; obtain ⟨locs, X, N⟩ := X
  obtain ⟨T', X', e', st⟩ := instY X K.hx K.hZ K.own' w eT F (g := mkF m pc Ls (.ref a :: stk)) rfl rfl (hb K.by' hd)
  exact go_by st (k T' ⟨_, X', N⟩ e')
theorem go_instN (K : Ctx p s m meth c Z own nm bytes maxL ret) (X : St p l e R s m args below meth c n0 T cells slots) {C C' : String} {index : Nat} (w : (Cond.classLink own index C).before a0 Z = true) (eT : T.heap = h) {a : Addr} (E : Exa Z h a C') (F : ∃ c t, Z.vm.findClass C' = some c ∧ Z.vm.findClass C = some t ∧ Z.vm.assignable c t = false) (hd : decode bytes pc = .ok (.instanceof index, 3)) (hp : pc + 3 = pc')
    (k : ∀ T', St p l e R s m args below meth c n0 T' cells slots → T'.heap = h → Go p e below s R n0 Q (T'.setTop (mkF m pc' Ls (.int 0 :: stk)))) : Go p e below s R n0 Q (T.setTop (mkF m pc Ls (.ref a :: stk))) := by
  subst hp; obtain ⟨locs, X, N⟩ := X
  obtain ⟨T', X', e', st⟩ := instNo X K.hx K.hZ K.own' w eT E F (g := mkF m pc Ls (.ref a :: stk)) rfl rfl (hb K.by' hd)
  exact go_by st (k T' ⟨_, X', N⟩ e')

/-! ## arrays -/
/-- at a lies an array of ty that holds just vs -/
def AV (Z : State) (h : Heap) (a : Addr) (ty : FieldType) (vs : List Value) : Prop := ∃ cl : Cell, Arr Z h a cl ty ∧ cl.slots = vs.toArray ∧ vs.length < 2 ^ 31
theorem AV.lt {a : Addr} {ty : FieldType} {vs : List Value} (F : AV Z h a ty vs) : a < h.size := by obtain ⟨cl, A, -⟩ := F; exact A.lt
theorem AV.keep {a : Addr} {ty : FieldType} {vs : List Value} {ws : List Addr} (F : AV Z h a ty vs) (K : Keep h h' ws) (q : a ∉ ws) : AV Z h' a ty vs := by
  obtain ⟨cl, A, r⟩ := F; exact ⟨cl, ⟨K.2.1 _ _ A.1 q, A.2⟩, r⟩
theorem AV.ext {a : Addr} {ty : FieldType} {vs : List Value} (F : AV Z h a ty vs) (E : Ext h h') : AV Z h' a ty vs := by
  obtain ⟨cl, A, r⟩ := F; exact ⟨cl, A.ext E, r⟩
theorem AV.len {a : Addr} {ty : FieldType} {vs : List Value} (F : AV Z h a ty vs) : vs.length < 2 ^ 31 := by obtain ⟨cl, -, -, r⟩ := F; exact r
theorem idx_nat {j : Int32} {i : Nat} (hj : j.toInt = (i : Int)) : j.toNatClampNeg = i ∧ ¬ j < 0 := by
  have h1 : j.toNatClampNeg = j.toInt.toNat := rfl
  have h2 : ¬ j < 0 := by rw [XT.negI32]; omega
  exact ⟨by rw [h1, hj]; rfl, h2⟩
theorem AV.in {a : Addr} {ty : FieldType} {vs : List Value} {cl : Cell} {j : Int32} {i : Nat} (hs : cl.slots = vs.toArray) (hj : j.toInt = (i : Int)) (hi : i < vs.length) : ¬ (j < 0 ∨ cl.slots.size ≤ j.toNatClampNeg) := by
  obtain ⟨h1, h2⟩ := idx_nat hj
  rintro (q | q)
  · exact h2 q
  · rw [h1, hs] at q
    simp at q
    omega
theorem AV.get {vs : List Value} {cl : Cell} {j : Int32} {i : Nat} {v : Value} (hs : cl.slots = vs.toArray) (hj : j.toInt = (i : Int)) (hv : vs[i]? = some v) : cl.slots[j.toNatClampNeg]? = some v := by
  rw [(idx_nat hj).1, hs]; simpa using hv
theorem AV.set {a : Addr} {ty : FieldType} {vs : List Value} {cl : Cell} {i : Nat} {v : Value} (A : Arr Z h a cl ty) (hs : cl.slots = vs.toArray) (hl : vs.length < 2 ^ 31) (W : Wr h h' a i v) : AV Z h' a ty (vs.set i v) := by
  refine ⟨_, A.same W, ?_, by simpa using hl⟩
  show cl.slots.setIfInBounds i v = _
  rw [hs]; simp
theorem lt_of_get {vs : List Value} {i : Nat} {v : Value} (hv : vs[i]? = some v) : i < vs.length := (List.getElem?_eq_some_iff.mp hv).1

theorem go_iaload (K : Ctx p s m meth c Z own nm bytes maxL ret) (X : St p l e R s m args below meth c n0 T cells slots) (eT : T.heap = h) {a : Addr} {vs : List Value} {j : Int32} {i : Nat} {v : Value} (F : AV Z h a .int vs) (hj : j.toInt = (i : Int)) (hv : vs[i]? = some v) (hd : decode bytes pc = .ok (.iaload, 1)) (hp : pc + 1 = pc')
    (k : Go p e below s R n0 Q (T.setTop (mkF m pc' Ls (v :: stk)))) : Go p e below s R n0 Q (T.setTop (mkF m pc Ls (.int j :: .ref a :: stk))) := by
  subst hp; obtain ⟨locs, X, N⟩ := X; obtain ⟨cl, A, hs, hl⟩ := F
  exact go_by (fun t k => X.iaload K.hx (by rw [eT]; exact A.1) (State.isArrayOf_alike K.hZ.alike A.2.1) A.2.2 (AV.in (a := a) (ty := .int) hs hj (lt_of_get hv)) (AV.get hs hj hv) (g := mkF m pc Ls (.int j :: .ref a :: stk)) rfl rfl (hb K.by' hd) t k) k

theorem go_laload (K : Ctx p s m meth c Z own nm bytes maxL ret) (X : St p l e R s m args below meth c n0 T cells slots) (eT : T.heap = h) {a : Addr} {vs : List Value} {j : Int32} {i : Nat} {v : Value} (F : AV Z h a .long vs) (hj : j.toInt = (i : Int)) (hv : vs[i]? = some v) (hd : decode bytes pc = .ok (.laload, 1)) (hp : pc + 1 = pc')
    (k : Go p e below s R n0 Q (T.setTop (mkF m pc' Ls (v :: stk)))) : Go p e below s R n0 Q (T.setTop (mkF m pc Ls (.int j :: .ref a :: stk))) := by
  subst hp; obtain ⟨locs, X, N⟩ := X; obtain ⟨cl, A, hs, hl⟩ := F
  exact go_by (fun t k => X.laload K.hx (by rw [eT]; exact A.1) (State.isArrayOf_alike K.hZ.alike A.2.1) A.2.2 (AV.in (a := a) (ty := .long) hs hj (lt_of_get hv)) (AV.get hs hj hv) (g := mkF m pc Ls (.int j :: .ref a :: stk)) rfl rfl (hb K.by' hd) t k) k

theorem go_caload (K : Ctx p s m meth c Z own nm bytes maxL ret) (X : St p l e R s m args below meth c n0 T cells slots) (eT : T.heap = h) {a : Addr} {vs : List Value} {j : Int32} {i : Nat} {v : Value} (F : AV Z h a .char vs) (hj : j.toInt = (i : Int)) (hv : vs[i]? = some v) (hd : decode bytes pc = .ok (.caload, 1)) (hp : pc + 1 = pc')
    (k : Go p e below s R n0 Q (T.setTop (mkF m pc' Ls (v :: stk)))) : Go p e below s R n0 Q (T.setTop (mkF m pc Ls (.int j :: .ref a :: stk))) := by
  subst hp; obtain ⟨locs, X, N⟩ := X; obtain ⟨cl, A, hs, hl⟩ := F
  exact go_by (fun t k => X.caload K.hx (by rw [eT]; exact A.1) (State.isArrayOf_alike K.hZ.alike A.2.1) A.2.2 (AV.in (a := a) (ty := .char) hs hj (lt_of_get hv)) (AV.get hs hj hv) (g := mkF m pc Ls (.int j :: .ref a :: stk)) rfl rfl (hb K.by' hd) t k) k

theorem go_baloadB (K : Ctx p s m meth c Z own nm bytes maxL ret) (X : St p l e R s m args below meth c n0 T cells slots) (eT : T.heap = h) {a : Addr} {vs : List Value} {j : Int32} {i : Nat} {v : Value} (F : AV Z h a .byte vs) (hj : j.toInt = (i : Int)) (hv : vs[i]? = some v) (hd : decode bytes pc = .ok (.baload, 1)) (hp : pc + 1 = pc')
    (k : Go p e below s R n0 Q (T.setTop (mkF m pc' Ls (v :: stk)))) : Go p e below s R n0 Q (T.setTop (mkF m pc Ls (.int j :: .ref a :: stk))) := by
  subst hp; obtain ⟨locs, X, N⟩ := X; obtain ⟨cl, A, hs, hl⟩ := F
  exact go_by (fun t k => X.baloadBytes K.hx (by rw [eT]; exact A.1) (State.isArrayOf_alike K.hZ.alike A.2.1) A.2.2 (AV.in (a := a) (ty := .byte) hs hj (lt_of_get hv)) (AV.get hs hj hv) (g := mkF m pc Ls (.int j :: .ref a :: stk)) rfl rfl (hb K.by' hd) t k) k

theorem go_baloadZ (K : Ctx p s m meth c Z own nm bytes maxL ret) (X : St p l e R s m args below meth c n0 T cells slots) (eT : T.heap = h) {a : Addr} {vs : List Value} {j : Int32} {i : Nat} {v : Value} (F : AV Z h a .boolean vs) (hj : j.toInt = (i : Int)) (hv : vs[i]? = some v) (hd : decode bytes pc = .ok (.baload, 1)) (hp : pc + 1 = pc')
    (k : Go p e below s R n0 Q (T.setTop (mkF m pc' Ls (v :: stk)))) : Go p e below s R n0 Q (T.setTop (mkF m pc Ls (.int j :: .ref a :: stk))) := by
  subst hp; obtain ⟨locs, X, N⟩ := X; obtain ⟨cl, A, hs, hl⟩ := F
  exact go_by (fun t k => X.baloadBooleans K.hx (by rw [eT]; exact A.1) (State.isArrayOf_alike K.hZ.alike A.2.1) A.2.2 (AV.in (a := a) (ty := .boolean) hs hj (lt_of_get hv)) (AV.get hs hj hv) (g := mkF m pc Ls (.int j :: .ref a :: stk)) rfl rfl (hb K.by' hd) t k) k

theorem go_aaload (K : Ctx p s m meth c Z own nm bytes maxL ret) (X : St p l e R s m args below meth c n0 T cells slots) (eT : T.heap = h) {a : Addr} {ty : FieldType} {vs : List Value} {j : Int32} {i : Nat} {v : Value} (F : AV Z h a ty vs) (hj : j.toInt = (i : Int)) (hv : vs[i]? = some v) (hty : ty.isReference = true) (hd : decode bytes pc = .ok (.aaload, 1)) (hp : pc + 1 = pc')
    (k : Go p e below s R n0 Q (T.setTop (mkF m pc' Ls (v :: stk)))) : Go p e below s R n0 Q (T.setTop (mkF m pc Ls (.int j :: .ref a :: stk))) := by
  subst hp; obtain ⟨locs, X, N⟩ := X; obtain ⟨cl, A, hs, hl⟩ := F
  exact go_by (fun t k => X.aaload K.hx (by rw [eT]; exact A.1) (State.isArrayOf_alike K.hZ.alike A.2.1) hty A.2.2 (AV.in (a := a) (ty := ty) hs hj (lt_of_get hv)) (AV.get hs hj hv) (g := mkF m pc Ls (.int j :: .ref a :: stk)) rfl rfl (hb K.by' hd) t k) k
theorem go_arraylength (K : Ctx p s m meth c Z own nm bytes maxL ret) (X : St p l e R s m args below meth c n0 T cells slots) (eT : T.heap = h) {a : Addr} {ty : FieldType} {vs : List Value} {z : Int32} (F : AV Z h a ty vs) (hz : vs.length.toInt32 = z) (hd : decode bytes pc = .ok (.arraylength, 1)) (hp : pc + 1 = pc')
    (k : Go p e below s R n0 Q (T.setTop (mkF m pc' Ls (.int z :: stk)))) : Go p e below s R n0 Q (T.setTop (mkF m pc Ls (.ref a :: stk))) := by
  subst hp hz; obtain ⟨locs, X, N⟩ := X; obtain ⟨cl, A, hs, hl⟩ := F
  refine go_by (fun t k => X.arraylength K.hx (by rw [eT]; exact A.1) (State.isArrayOf_alike K.hZ.alike A.2.1) (g := mkF m pc Ls (.ref a :: stk)) rfl rfl (hb K.by' hd) t ?_) k
  rw [show cl.slots.size = vs.length by rw [hs]; simp]; exact k

theorem go_iastore (K : Ctx p s m meth c Z own nm bytes maxL ret) (X : St p l e R s m args below meth c n0 T cells slots) (eT : T.heap = h) {a : Addr} {vs : List Value} {j : Int32} {x : Int32} {i : Nat} (F : AV Z h a .int vs) (hj : j.toInt = (i : Int)) (hi : i < vs.length) (ge : n0 ≤ a) (hd : decode bytes pc = .ok (.iastore, 1)) (hp : pc + 1 = pc')
    (k : ∀ T' h', St p l e R s m args below meth c n0 T' cells slots → T'.heap = h' → Wr h h' a i (.int x) → AV Z h' a .int (vs.set i (.int x)) → Go p e below s R n0 Q (T'.setTop (mkF m pc' Ls stk))) : Go p e below s R n0 Q (T.setTop (mkF m pc Ls (.int x :: .int j :: .ref a :: stk))) := by
  subst hp; obtain ⟨locs, X, N⟩ := X; obtain ⟨cl, A, hs, hl⟩ := F
  obtain ⟨T', h', X', e', W', st⟩ := stI X K.hx K.hZ eT A (AV.in (a := a) (ty := .int) hs hj hi) (g := mkF m pc Ls (.int x :: .int j :: .ref a :: stk)) rfl rfl (hb K.by' hd)
  have W2 := W'; rw [(idx_nat hj).1] at W2
  exact go_by st (k T' h' ⟨_, X', Fr.snoc X' N ge⟩ e' W2 (AV.set A hs hl W2))

theorem go_lastore (K : Ctx p s m meth c Z own nm bytes maxL ret) (X : St p l e R s m args below meth c n0 T cells slots) (eT : T.heap = h) {a : Addr} {vs : List Value} {j : Int32} {x : Int64} {i : Nat} (F : AV Z h a .long vs) (hj : j.toInt = (i : Int)) (hi : i < vs.length) (ge : n0 ≤ a) (hd : decode bytes pc = .ok (.lastore, 1)) (hp : pc + 1 = pc')
    (k : ∀ T' h', St p l e R s m args below meth c n0 T' cells slots → T'.heap = h' → Wr h h' a i (.long x) → AV Z h' a .long (vs.set i (.long x)) → Go p e below s R n0 Q (T'.setTop (mkF m pc' Ls stk))) : Go p e below s R n0 Q (T.setTop (mkF m pc Ls (.long x :: .int j :: .ref a :: stk))) := by
  subst hp; obtain ⟨locs, X, N⟩ := X; obtain ⟨cl, A, hs, hl⟩ := F
  obtain ⟨T', h', X', e', W', st⟩ := stJ X K.hx K.hZ eT A (AV.in (a := a) (ty := .long) hs hj hi) (g := mkF m pc Ls (.long x :: .int j :: .ref a :: stk)) rfl rfl (hb K.by' hd)
  have W2 := W'; rw [(idx_nat hj).1] at W2
  exact go_by st (k T' h' ⟨_, X', Fr.snoc X' N ge⟩ e' W2 (AV.set A hs hl W2))

theorem go_bastoreB (K : Ctx p s m meth c Z own nm bytes maxL ret) (X : St p l e R s m args below meth c n0 T cells slots) (eT : T.heap = h) {a : Addr} {vs : List Value} {j x : Int32} {i : Nat} (F : AV Z h a .byte vs) (hj : j.toInt = (i : Int)) (hi : i < vs.length) (hx' : nar .byte x = x) (ge : n0 ≤ a) (hd : decode bytes pc = .ok (.bastore, 1)) (hp : pc + 1 = pc')
    (k : ∀ T' h', St p l e R s m args below meth c n0 T' cells slots → T'.heap = h' → Wr h h' a i (.int x) → AV Z h' a .byte (vs.set i (.int x)) → Go p e below s R n0 Q (T'.setTop (mkF m pc' Ls stk))) : Go p e below s R n0 Q (T.setTop (mkF m pc Ls (.int x :: .int j :: .ref a :: stk))) := by
  subst hp; obtain ⟨locs, X, N⟩ := X; obtain ⟨cl, A, hs, hl⟩ := F
  obtain ⟨T', h', X', e', W', st⟩ := stB X K.hx K.hZ eT A (AV.in (a := a) (ty := .byte) hs hj hi) (g := mkF m pc Ls (.int x :: .int j :: .ref a :: stk)) rfl rfl (hb K.by' hd)
  have W2 := W'; rw [(idx_nat hj).1, hx'] at W2
  exact go_by st (k T' h' ⟨_, X', Fr.snoc X' N ge⟩ e' W2 (AV.set A hs hl W2))

theorem go_bastoreZ (K : Ctx p s m meth c Z own nm bytes maxL ret) (X : St p l e R s m args below meth c n0 T cells slots) (eT : T.heap = h) {a : Addr} {vs : List Value} {j x : Int32} {i : Nat} (F : AV Z h a .boolean vs) (hj : j.toInt = (i : Int)) (hi : i < vs.length) (hx' : nar .boolean x = x) (ge : n0 ≤ a) (hd : decode bytes pc = .ok (.bastore, 1)) (hp : pc + 1 = pc')
    (k : ∀ T' h', St p l e R s m args below meth c n0 T' cells slots → T'.heap = h' → Wr h h' a i (.int x) → AV Z h' a .boolean (vs.set i (.int x)) → Go p e below s R n0 Q (T'.setTop (mkF m pc' Ls stk))) : Go p e below s R n0 Q (T.setTop (mkF m pc Ls (.int x :: .int j :: .ref a :: stk))) := by
  subst hp; obtain ⟨locs, X, N⟩ := X; obtain ⟨cl, A, hs, hl⟩ := F
  obtain ⟨T', h', X', e', W', st⟩ := stZ X K.hx K.hZ eT A (AV.in (a := a) (ty := .boolean) hs hj hi) (g := mkF m pc Ls (.int x :: .int j :: .ref a :: stk)) rfl rfl (hb K.by' hd)
  have W2 := W'; rw [(idx_nat hj).1, hx'] at W2
  exact go_by st (k T' h' ⟨_, X', Fr.snoc X' N ge⟩ e' W2 (AV.set A hs hl W2))

theorem go_castore (K : Ctx p s m meth c Z own nm bytes maxL ret) (X : St p l e R s m args below meth c n0 T cells slots) (eT : T.heap = h) {a : Addr} {vs : List Value} {j x : Int32} {i : Nat} (F : AV Z h a .char vs) (hj : j.toInt = (i : Int)) (hi : i < vs.length) (hx' : nar .char x = x) (ge : n0 ≤ a) (hd : decode bytes pc = .ok (.castore, 1)) (hp : pc + 1 = pc')
    (k : ∀ T' h', St p l e R s m args below meth c n0 T' cells slots → T'.heap = h' → Wr h h' a i (.int x) → AV Z h' a .char (vs.set i (.int x)) → Go p e below s R n0 Q (T'.setTop (mkF m pc' Ls stk))) : Go p e below s R n0 Q (T.setTop (mkF m pc Ls (.int x :: .int j :: .ref a :: stk))) := by
  subst hp; obtain ⟨locs, X, N⟩ := X; obtain ⟨cl, A, hs, hl⟩ := F
  obtain ⟨T', h', X', e', W', st⟩ := stC X K.hx K.hZ eT A (AV.in (a := a) (ty := .char) hs hj hi) (g := mkF m pc Ls (.int x :: .int j :: .ref a :: stk)) rfl rfl (hb K.by' hd)
  have W2 := W'; rw [(idx_nat hj).1, hx'] at W2
  exact go_by st (k T' h' ⟨_, X', Fr.snoc X' N ge⟩ e' W2 (AV.set A hs hl W2))

theorem go_aastore (K : Ctx p s m meth c Z own nm bytes maxL ret) (X : St p l e R s m args below meth c n0 T cells slots) (eT : T.heap = h) {a : Addr} {ty : FieldType} {vs : List Value} {j : Int32} {v : Value} {i : Nat} (F : AV Z h a ty vs) (hj : j.toInt = (i : Int)) (hi : i < vs.length) (hty : ty.isReference = true) (S : Sto Z h a v) (ge : n0 ≤ a) (hd : decode bytes pc = .ok (.aastore, 1)) (hp : pc + 1 = pc')
    (k : ∀ T' h', St p l e R s m args below meth c n0 T' cells slots → T'.heap = h' → Wr h h' a i v → AV Z h' a ty (vs.set i v) → Go p e below s R n0 Q (T'.setTop (mkF m pc' Ls stk))) : Go p e below s R n0 Q (T.setTop (mkF m pc Ls (v :: .int j :: .ref a :: stk))) := by
  subst hp; obtain ⟨locs, X, N⟩ := X; obtain ⟨cl, A, hs, hl⟩ := F
  obtain ⟨T', h', X', e', W', st⟩ := stR X K.hx K.hZ eT A (AV.in (a := a) (ty := ty) hs hj hi) hty S (g := mkF m pc Ls (v :: .int j :: .ref a :: stk)) rfl rfl (hb K.by' hd)
  have W2 := W'; rw [(idx_nat hj).1] at W2
  exact go_by st (k T' h' ⟨_, X', Fr.snoc X' N ge⟩ e' W2 (AV.set A hs hl W2))
theorem go_newarray (K : Ctx p s m meth c Z own nm bytes maxL ret) (X : St p l e R s m args below meth c n0 T cells slots) {aty : ArrayType} (w : (Cond.arrayClass (newarray.typeOf aty)).before a0 Z = true) (eT : T.heap = h) {j : Int32} {i cap : Nat} (hd : decode bytes pc = .ok (.newarray aty, 2)) (hj : j.toInt = (i : Int)) (hcap : i ≤ cap) (hb' : cap * 8 ≤ 536870912) (hp : pc + 2 = pc') (hc' : cells + 1 = cells') (hs' : slots + cap = slots') (hc : cells' ≤ R.cells) (hs : slots' ≤ R.slots)
    (k : ∀ T' h' a, a = h.size → St p l e R s m args below meth c n0 T' cells' slots' → T'.heap = h' → Ext h h' → AV Z h' a (newarray.typeOf aty) (List.replicate i (defaultValue (newarray.typeOf aty))) → Go p e below s R n0 Q (T'.setTop (mkF m pc' Ls (.ref a :: stk)))) : Go p e below s R n0 Q (T.setTop (mkF m pc Ls (.int j :: stk))) := by
  subst hp hc' hs'; obtain ⟨locs, X, N⟩ := X
  obtain ⟨h1, h2⟩ := idx_nat hj
  obtain ⟨T', h', cA, X', e', E', A', st⟩ := newP X K.hx K.hZ w eT (g := mkF m pc Ls (.int j :: stk)) rfl (hb K.by' hd) rfl h2 (cap := cap) (by rw [h1]; exact hcap) hb' hc hs
  refine go_by st (k T' h' _ rfl ⟨_, X', N⟩ e' E' ⟨_, A', ?_, ?_⟩)
  · show Array.replicate _ _ = _
    rw [h1]; simp
  · have := j.toInt_lt; rw [hj] at this; simp; omega

theorem nat32 {n : Nat} (h : n < 2 ^ 31) : n.toInt32.toNatClampNeg = n ∧ ¬ n.toInt32 < 0 := idx_nat (len_toInt h)
theorem AV.toArv {a : Addr} {ty : FieldType} {vs : List Value} (F : AV Z h a ty vs) (hf : ∀ v ∈ vs, fits ty v = true) (dv : Value) : ∃ k, Arv Z h a k ty vs.length.toInt32 vs dv := by
  obtain ⟨cl, A, hs, hl⟩ := F
  have hz : cl.slots.size = vs.length := by rw [hs]; simp
  refine ⟨cl.cls, cl, A, rfl, by rw [hz, (nat32 hl).1], (nat32 hl).2, fun i hi => ?_, fun i hi => ?_⟩
  · rw [hz] at hi
    rw [hs]; simp [List.getD, hi]
  · rw [hz] at hi
    have : vs.getD i dv = vs[i] := by simp [List.getD, hi]
    rw [this]; exact hf _ (List.getElem_mem hi)
theorem Arv.toAV {a : Addr} {k : ClassId} {ty : FieldType} {z : Int32} {vs : List Value} {dv : Value} (F : Arv Z h a k ty z vs dv) (hl : z.toNatClampNeg = vs.length) : AV Z h a ty vs := by
  obtain ⟨cl, A, -, hs, hn, H, -⟩ := F
  refine ⟨cl, A, ?_, ?_⟩
  · apply Array.ext
    · rw [hs, hl]; simp
    · intro i h1 h2
      have := H i h1
      have h3 : i < vs.length := by rw [hs, hl] at h1; exact h1
      rw [Array.getElem?_eq_getElem h1] at this
      have e := Option.some.inj this
      rw [e]; simp [List.getD, h3]
  · rw [← hl]; exact (back32 hn).2
theorem go_newarrayE (K : Ctx p s m meth c Z own nm bytes maxL ret) (X : St p l e R s m args below meth c n0 T cells slots) {aty : ArrayType} {ad : String} (had : "[" ++ (newarray.typeOf aty).toString = ad) (w : (Cond.arrayClass (newarray.typeOf aty)).before a0 Z = true) (eT : T.heap = h) {j : Int32} {i cap : Nat} (hd : decode bytes pc = .ok (.newarray aty, 2)) (hj : j.toInt = (i : Int)) (hcap : i ≤ cap) (hb' : cap * 8 ≤ 536870912) (hp : pc + 2 = pc') (hc' : cells + 1 = cells') (hs' : slots + cap = slots') (hc : cells' ≤ R.cells) (hs : slots' ≤ R.slots)
    (k : ∀ T' h' a, a = h.size → St p l e R s m args below meth c n0 T' cells' slots' → T'.heap = h' → Ext h h' → AV Z h' a (newarray.typeOf aty) (List.replicate i (defaultValue (newarray.typeOf aty))) → Exa Z h' a ad → Go p e below s R n0 Q (T'.setTop (mkF m pc' Ls (.ref a :: stk)))) : Go p e below s R n0 Q (T.setTop (mkF m pc Ls (.int j :: stk))) := by
  subst hp hc' hs'; obtain ⟨locs, X, N⟩ := X
  obtain ⟨h1, h2⟩ := idx_nat hj
  obtain ⟨T', h', cA, X', e', E', A', x', st⟩ := newPE X K.hx K.hZ w eT (g := mkF m pc Ls (.int j :: stk)) rfl (hb K.by' hd) rfl h2 (cap := cap) (by rw [h1]; exact hcap) hb' hc hs had
  refine go_by st (k T' h' _ rfl ⟨_, X', N⟩ e' E' ⟨_, A', ?_, ?_⟩ x')
  · show Array.replicate _ _ = _
    rw [h1]; simp
  · have := j.toInt_lt; rw [hj] at this; simp; omega
theorem go_clone (K : Ctx p s m meth c Z own nm bytes maxL ret) (X : St p l e R s m args below meth c n0 T cells slots) {ad : String} {index : Nat} (w1 : (Cond.methodLink own index ⟨ad, "clone", "()Ljava/lang/Object;"⟩).before a0 Z = true) (w2 : (Cond.sameMethod ad "java/lang/Object" "clone" "()Ljava/lang/Object;").before a0 Z = true) (w3 : (Cond.native ⟨"java/lang/Object", "clone", "()Ljava/lang/Object;"⟩).before a0 Z = true)
    (w4 : (Cond.instanceMethod ⟨"java/lang/Object", "clone", "()Ljava/lang/Object;"⟩).before a0 Z = true) (w5 : (Cond.selects ad ⟨ad, "clone", "()Ljava/lang/Object;"⟩ ⟨"java/lang/Object", "clone", "()Ljava/lang/Object;"⟩).before a0 Z = true) (w6 : (Cond.castable ad "java/lang/Cloneable").before a0 Z = true)
    (eT : T.heap = h) {a : Addr} {ty : FieldType} {vs : List Value} (F : AV Z h a ty vs) (E : Exa Z h a ad) (hfit : ∀ v ∈ vs, fits ty v = true) (hsize : Ls.size = maxL) (hd : decode bytes pc = .ok (.invokevirtual index, 3)) (hp : pc + 3 = pc')
    (hf : 1 ≤ R.frames) {W cap : Nat} (hW : (stk.map fun v => v.category).sum ≤ W) (hl : W + 14 ≤ R.locals) (hcap : vs.length ≤ cap) (hc' : cells + 1 = cells') (hs' : slots + cap = slots') (hc : cells' ≤ R.cells) (hs : slots' ≤ R.slots)
    (k : ∀ T' h' b, b = h.size → St p l e R s m args below meth c n0 T' cells' slots' → T'.heap = h' → Ext h h' → AV Z h' b ty vs → Exa Z h' b ad → Go p e below s R n0 Q (T'.setTop (mkF m pc' Ls (.ref b :: stk)))) : Go p e below s R n0 Q (T.setTop (mkF m pc Ls (.ref a :: stk))) := by
  subst hp hc' hs'; obtain ⟨locs, X, N⟩ := X
  obtain ⟨kk, V⟩ := F.toArv hfit .null
  have hlen := F.len
  obtain ⟨T', h', X', e', E', V', x', st⟩ := cloneH X K.hx K.hZ K.own' w1 w2 w3 w4 w5 w6 eT (Arv.arh V) E (g := mkF m pc Ls (.ref a :: stk)) rfl (by rw [K.ml]; exact hsize) rfl (hb K.by' hd) hf (W := W) (by show 2 * 0 + _ ≤ _; omega) hl (cap := cap) (by rw [(nat32 hlen).1]; exact hcap) hc hs
  exact go_by st (k T' h' _ rfl ⟨_, X', N⟩ e' E' (Arv.toAV V' (nat32 hlen).1) x')
theorem go_arraycopy (K : Ctx p s m meth c Z own nm bytes maxL ret) (X : St p l e R s m args below meth c n0 T cells slots) {index : Nat} (w1 : (Cond.methodLink own index Jvm.Stand.acN).before a0 Z = true) (w2 : (Cond.native Jvm.Stand.acN).before a0 Z = true) (w3 : (Cond.static Jvm.Stand.acN).before a0 Z = true) (w4 : (Cond.initialized "java/lang/System").before a0 Z = true)
    (eT : T.heap = h) {a b : Addr} {ty : FieldType} {vs vd us : List Value} {sp dp nn : Int32} {i j n : Nat} (F : AV Z h a ty vs) (G : AV Z h b ty vd) (hty : refKind ty = false) (hf1 : ∀ v ∈ vs, fits ty v = true) (hf2 : ∀ v ∈ vd, fits ty v = true) (hi : sp.toInt = (i : Int)) (hj : dp.toInt = (j : Int)) (hn : nn.toInt = (n : Int)) (h4 : i + n ≤ vs.length) (h5 : j + n ≤ vd.length) (hus : us = vd.take j ++ (vs.drop i).take n ++ vd.drop (j + n)) (ge : n0 ≤ b) (hsize : Ls.size = maxL) (hd : decode bytes pc = .ok (.invokestatic index, 3)) (hp : pc + 3 = pc')
    (hf : 1 ≤ R.frames) {W : Nat} (hW : (stk.map fun v => v.category).sum ≤ W) (hlo : W + (nativeFrameWords "java/lang/System" "arraycopy" 5 + 11) ≤ R.locals)
    (k : ∀ T' h', St p l e R s m args below meth c n0 T' cells slots → T'.heap = h' → Keep h h' [b] → AV Z h' b ty us → Go p e below s R n0 Q (T'.setTop (mkF m pc' Ls stk))) : Go p e below s R n0 Q (T.setTop (mkF m pc Ls (.int nn :: .int dp :: .ref b :: .int sp :: .ref a :: stk))) := by
  subst hp; obtain ⟨locs, X, N⟩ := X
  obtain ⟨k1, V1⟩ := F.toArv hf1 .null
  obtain ⟨k2, V2⟩ := G.toArv hf2 .null
  obtain ⟨i1, i2⟩ := idx_nat hi
  obtain ⟨j1, j2⟩ := idx_nat hj
  obtain ⟨n1, n2⟩ := idx_nat hn
  have l1 := (nat32 F.len).1
  have l2 := (nat32 G.len).1
  have e3 : (List.range n).map (fun q => vs.getD (i + q) .null) = (vs.drop i).take n := by
    apply List.ext_getElem
    · simp; omega
    · intro q h6 h7
      have : q < n := by simpa using h6
      have h8 : i + q < vs.length := by omega
      simp [List.getD, h8]
  obtain ⟨T', h', L', X', e', N', KK, V', st⟩ := cpA X K.hx K.hZ K.own' w1 w2 w3 w4 eT V1 V2 (Or.inl ⟨rfl, hty⟩) i2 j2 n2 (by rw [i1, n1, l1]; exact h4) (by rw [j1, n1, l2]; exact h5) rfl (by rw [j1, n1]; exact h5) N ge (g := mkF m pc Ls (.int nn :: .int dp :: .ref b :: .int sp :: .ref a :: stk)) rfl (by rw [K.ml]; exact hsize) rfl (hb K.by' hd) hf (W := W) (by show 2 * 0 + _ ≤ _; omega) hlo
  rw [i1, j1, n1, e3, ← hus] at V'
  have hl : us.length = vd.length := by rw [hus]; simp; omega
  exact go_by st (k T' h' ⟨_, X', N'⟩ e' KK (Arv.toAV V' (by rw [l2, hl])))

/-! ## calls: the callee's contract pays -/
theorem go_static (K : Ctx p s m meth c Z own nm bytes maxL ret) (X : St p l e R s m args below meth c n0 T cells slots) {index : Nat} {y : MethodName} {bytes' : ByteArray} {maxL' : Nat} {ret' : Option FieldType} {rm : Room} {Q' : Option Value → Heap → Prop} {argsL st0 : List Value}
    (w1 : (Cond.methodLink own index y).before a0 Z = true) (w2 : (Cond.static y).before a0 Z = true) (w3 : (Cond.initialized y.cls).before a0 Z = true) (w4 : (Cond.code y bytes' maxL' ret').before a0 Z = true) (hy : y.cls ≠ "java/lang/invoke/MethodHandle" ∧ y.cls ≠ "java/lang/invoke/VarHandle")
    (hlen : ∀ sig, parseMethodDescriptor y.desc = some sig → argsL.length = sig.parameters.length) (eT : T.heap = h) (C : Con l Z n0 y bytes' maxL' ret' rm argsL.toArray h Q') (hst : st0 = argsL.reverse ++ stk) (hsize : Ls.size = maxL) (hd : decode bytes pc = .ok (.invokestatic index, 3)) (hp : pc + 3 = pc')
    (hf : rm.frames + 1 ≤ R.frames) {W : Nat} (hW : (stk.map fun v => v.category).sum ≤ W) (hl : W + (maxL' + 11) + rm.locals ≤ R.locals) (hc' : cells + rm.cells = cells') (hs' : slots + rm.slots = slots') (hc : cells' ≤ R.cells) (hs : slots' ≤ R.slots)
    (k : ∀ T' h' v, St p l e R s m args below meth c n0 T' cells' slots' → T'.heap = h' → Q' v h' → Go p e below s R n0 Q (T'.setTop (mkF m pc' Ls (v.toList ++ stk)))) : Go p e below s R n0 Q (T.setTop (mkF m pc Ls st0)) := by
  subst hp hc' hs' hst; obtain ⟨locs, X, N⟩ := X
  obtain ⟨_, _, ⟨T1, L1, k1, n1⟩, -, X1, ⟨Lc1, hQ1, l1, y1, z1⟩, st1⟩ := Jvm.LawKit.callS X K.hx K.own' (mvT K.hZ w1) (mvT K.hZ w2) (mvT K.hZ w3) (mvT K.hZ w4) hy (backOf (W := W) (Q := fun v u L => Q' v u ∧ Fr n0 L) (C []) K.hZ w4 w3 hf hl) (g := mkF m pc Ls (argsL.reverse ++ stk)) rfl (by rw [K.ml]; exact hsize) (argsL := argsL) (rest := stk) hlen rfl (by show 2 * 0 + _ ≤ _; omega) (hb K.by' hd) (fun _ _ => ⟨rfl, eT, hc, hs⟩)
  dsimp only [Pt.U, Pt.locs, Pt.cells, Pt.slots] at X1 l1 y1 z1 st1 hQ1
  subst l1 y1 z1
  exact go_by st1 (k T1 _ _ ⟨_, X1, Fr.app N hQ1.2⟩ rfl hQ1.1)

theorem go_init (K : Ctx p s m meth c Z own nm bytes maxL ret) (X : St p l e R s m args below meth c n0 T cells slots) {index : Nat} {y : MethodName} {bytes' : ByteArray} {maxL' : Nat} {rm : Room} {Q' : Option Value → Heap → Prop} {a : Addr} {argsL st0 : List Value}
    (w1 : (Cond.methodLink own index y).before a0 Z = true) (w2 : (Cond.instanceMethod y).before a0 Z = true) (w3 : (Cond.initialized y.cls).before a0 Z = true) (w4 : (Cond.code y bytes' maxL' none).before a0 Z = true) (hy : y.cls ≠ "java/lang/invoke/MethodHandle" ∧ y.cls ≠ "java/lang/invoke/VarHandle") (hi : y.name = "<init>")
    (hlen : ∀ sig, parseMethodDescriptor y.desc = some sig → argsL.length = sig.parameters.length) (eT : T.heap = h) (C : Con l Z n0 y bytes' maxL' none rm (.ref a :: argsL).toArray h Q') (hst : st0 = argsL.reverse ++ .ref a :: stk) (hsize : Ls.size = maxL) (hd : decode bytes pc = .ok (.invokespecial index, 3)) (hp : pc + 3 = pc')
    (hf : rm.frames + 1 ≤ R.frames) {W : Nat} (hW : (stk.map fun v => v.category).sum ≤ W) (hl : W + (maxL' + 11) + rm.locals ≤ R.locals) (hc' : cells + rm.cells = cells') (hs' : slots + rm.slots = slots') (hc : cells' ≤ R.cells) (hs : slots' ≤ R.slots)
    (k : ∀ T' h' v, St p l e R s m args below meth c n0 T' cells' slots' → T'.heap = h' → Q' v h' → Go p e below s R n0 Q (T'.setTop (mkF m pc' Ls (v.toList ++ stk)))) : Go p e below s R n0 Q (T.setTop (mkF m pc Ls st0)) := by
  subst hp hc' hs' hst; obtain ⟨locs, X, N⟩ := X
  obtain ⟨_, _, ⟨T1, L1, k1, n1⟩, -, X1, ⟨Lc1, hQ1, l1, y1, z1⟩, st1⟩ := X.specialBack K.hx hi K.own' (mvT K.hZ w1) (mvT K.hZ w2) (mvT K.hZ w4) hy (backOf (W := W) (Q := fun v u L => Q' v u ∧ Fr n0 L) (C []) K.hZ w4 w3 hf hl) (g := mkF m pc Ls (argsL.reverse ++ .ref a :: stk)) rfl (by rw [K.ml]; exact hsize) (Steps.refl _) (a := a) (argsL := argsL) (rest := stk) hlen rfl (by show 2 * 0 + _ ≤ _; omega) (hb K.by' hd) (fun _ _ => ⟨rfl, eT, hc, hs⟩)
  dsimp only [Pt.U, Pt.locs, Pt.cells, Pt.slots] at X1 l1 y1 z1 st1 hQ1
  subst l1 y1 z1
  exact go_by (fun t k => st1.trans k) (k T1 _ _ ⟨_, X1, Fr.app N hQ1.2⟩ rfl hQ1.1)

theorem go_virt (K : Ctx p s m meth c Z own nm bytes maxL ret) (X : St p l e R s m args below meth c n0 T cells slots) {C : String} {index : Nat} {y z : MethodName} {bytes' : ByteArray} {maxL' : Nat} {ret' : Option FieldType} {rm : Room} {Q' : Option Value → Heap → Prop} {a : Addr} {argsL st0 : List Value}
    (w1 : (Cond.methodLink own index y).before a0 Z = true) (w2 : (Cond.declares y).before a0 Z = true) (wn : (Cond.selects y.cls y y).before a0 Z = true) (w3 : (Cond.selects C y z).before a0 Z = true) (w4 : (Cond.instanceMethod z).before a0 Z = true) (w5 : (Cond.code z bytes' maxL' ret').before a0 Z = true) (w6 : (Cond.initialized z.cls).before a0 Z = true) (hy : y.cls ≠ "java/lang/invoke/MethodHandle" ∧ y.cls ≠ "java/lang/invoke/VarHandle")
    (hlen : ∀ sig, parseMethodDescriptor y.desc = some sig → argsL.length = sig.parameters.length) (eT : T.heap = h) (E : Exa Z h a C) (C0 : Con l Z n0 z bytes' maxL' ret' rm (.ref a :: argsL).toArray h Q') (hst : st0 = argsL.reverse ++ .ref a :: stk) (hsize : Ls.size = maxL) (hd : decode bytes pc = .ok (.invokevirtual index, 3)) (hp : pc + 3 = pc')
    (hf : rm.frames + 1 ≤ R.frames) {W : Nat} (hW : (stk.map fun v => v.category).sum ≤ W) (hl : W + (maxL' + 11) + rm.locals ≤ R.locals) (hc' : cells + rm.cells = cells') (hs' : slots + rm.slots = slots') (hc : cells' ≤ R.cells) (hs : slots' ≤ R.slots)
    (k : ∀ T' h' v, St p l e R s m args below meth c n0 T' cells' slots' → T'.heap = h' → Q' v h' → Go p e below s R n0 Q (T'.setTop (mkF m pc' Ls (v.toList ++ stk)))) : Go p e below s R n0 Q (T.setTop (mkF m pc Ls st0)) := by
  subst hp hc' hs' hst; obtain ⟨locs, X, N⟩ := X
  obtain ⟨cq, kq, qa, qb, qc⟩ := isOf K.hZ eT E
  obtain ⟨_, _, ⟨T1, L1, k1, n1⟩, -, X1, ⟨Lc1, hQ1, l1, y1, z1⟩, st1⟩ := X.virtualBack K.hx K.own' (mvT K.hZ w1) (mvT K.hZ w2) (notFace_of_selects (args := #[]) (mvT K.hZ wn)) (mvT K.hZ w3) (mvT K.hZ w4) hy (backOf (W := W) (Q := fun v u L => Q' v u ∧ Fr n0 L) (C0 []) K.hZ w5 w6 hf hl) qa qc (g := mkF m pc Ls (argsL.reverse ++ .ref a :: stk)) rfl (by rw [K.ml]; exact hsize) (Steps.refl _) (argsL := argsL) (rest := stk) hlen rfl (by show 2 * 0 + _ ≤ _; omega) (hb K.by' hd) (fun _ _ => ⟨rfl, eT, hc, hs⟩)
  dsimp only [Pt.U, Pt.locs, Pt.cells, Pt.slots] at X1 l1 y1 z1 st1 hQ1
  subst l1 y1 z1
  exact go_by (fun t k => st1.trans k) (k T1 _ _ ⟨_, X1, Fr.app N hQ1.2⟩ rfl hQ1.1)

theorem go_face (K : Ctx p s m meth c Z own nm bytes maxL ret) (X : St p l e R s m args below meth c n0 T cells slots) {C : String} {index count : Nat} {y z : MethodName} {bytes' : ByteArray} {maxL' : Nat} {ret' : Option FieldType} {rm : Room} {Q' : Option Value → Heap → Prop} {a : Addr} {argsL st0 : List Value}
    (w1 : (Cond.methodLink own index y).before a0 Z = true) (w2 : (Cond.declares y).before a0 Z = true) (w7 : (Cond.interfaceMethod y.cls y.cls y.name y.desc).before a0 Z = true) (w3 : (Cond.selects C y z).before a0 Z = true) (w4 : (Cond.instanceMethod z).before a0 Z = true) (w8 : (Cond.publicMethod z).before a0 Z = true) (w9 : (Cond.unhidden C y.name y.desc).before a0 Z = true) (w10 : (Cond.castable C y.cls).before a0 Z = true) (w5 : (Cond.code z bytes' maxL' ret').before a0 Z = true) (w6 : (Cond.initialized z.cls).before a0 Z = true) (hy : y.cls ≠ "java/lang/invoke/MethodHandle" ∧ y.cls ≠ "java/lang/invoke/VarHandle")
    (hlen : ∀ sig, parseMethodDescriptor y.desc = some sig → argsL.length = sig.parameters.length) (eT : T.heap = h) (E : Exa Z h a C) (C0 : Con l Z n0 z bytes' maxL' ret' rm (.ref a :: argsL).toArray h Q') (hst : st0 = argsL.reverse ++ .ref a :: stk) (hsize : Ls.size = maxL) (hd : decode bytes pc = .ok (.invokeinterface index count, 5)) (hp : pc + 5 = pc')
    (hf : rm.frames + 1 ≤ R.frames) {W : Nat} (hW : (stk.map fun v => v.category).sum ≤ W) (hl : W + (maxL' + 11) + rm.locals ≤ R.locals) (hc' : cells + rm.cells = cells') (hs' : slots + rm.slots = slots') (hc : cells' ≤ R.cells) (hs : slots' ≤ R.slots)
    (k : ∀ T' h' v, St p l e R s m args below meth c n0 T' cells' slots' → T'.heap = h' → Q' v h' → Go p e below s R n0 Q (T'.setTop (mkF m pc' Ls (v.toList ++ stk)))) : Go p e below s R n0 Q (T.setTop (mkF m pc Ls st0)) := by
  subst hp hc' hs' hst; obtain ⟨locs, X, N⟩ := X
  obtain ⟨cq, kq, qa, qb, qc⟩ := isOf K.hZ eT E
  obtain ⟨_, _, ⟨T1, L1, k1, n1⟩, -, X1, ⟨Lc1, hQ1, l1, y1, z1⟩, st1⟩ := X.interfaceBack K.hx K.own' (mvT K.hZ w1) (mvT K.hZ w2) (mvT K.hZ w7 (by simp [Cond.onTables, Cond.keepsFace, Cond.keeps, Cond.steady, Cond.faceAtom, hy.1, hy.2])) (mvT K.hZ w3) (mvT K.hZ w4) (mvT K.hZ w8) (mvT K.hZ w9) (mvT K.hZ w10) hy (backOf (W := W) (Q := fun v u L => Q' v u ∧ Fr n0 L) (C0 []) K.hZ w5 w6 hf hl) qa qb qc (g := mkF m pc Ls (argsL.reverse ++ .ref a :: stk)) rfl (by rw [K.ml]; exact hsize) (Steps.refl _) (argsL := argsL) (rest := stk) hlen rfl (by show 2 * 0 + _ ≤ _; omega) (hb K.by' hd) (fun _ _ => ⟨rfl, eT, hc, hs⟩)
  dsimp only [Pt.U, Pt.locs, Pt.cells, Pt.slots] at X1 l1 y1 z1 st1 hQ1
  subst l1 y1 z1
  exact go_by (fun t k => st1.trans k) (k T1 _ _ ⟨_, X1, Fr.app N hQ1.2⟩ rfl hQ1.1)

end OwnKit

def own_maxL (x y : Int64) : Int64 := if x < y then y else x
/-- the boxes that the JVM keeps -/
def own_cache (Z : State) (ca : Addr) : Prop := ∃ vs, AV Z Z.heap ca (.object "java/lang/Integer") vs ∧ ∀ x : Int32, ¬ x < -128 → ¬ 127 < x → ∃ i : Nat, (x + 128).toInt = (i : Int) ∧ ∃ b, vs[i]? = some (.ref b) ∧ Exa Z Z.heap b "java/lang/Integer" ∧ Fld Z Z.heap b "java/lang/Integer" "value" "I" (.int x)
theorem own_eq_int {args : Array Value} {s : State} {idx : List Nat} {t : Term} {k : Int32} (h : (Jvm.Cond.eq t (Term.int k)).value args s none s idx = some true) : t.eval args s none idx s = some (.int k) := by
  obtain ⟨x, y, h1, h2, -, kin⟩ := cmp_v (Or.inl h)
  cases h2
  obtain ⟨z, rfl⟩ := kin
  have e : z = k := by
    have h2 : (Term.int k).eval args s none idx s = some (.int k) := rfl
    simp only [Cond.value, h1, h2] at h
    simpa using h
  rw [h1, e]
theorem own_cache_of {args : Array Value} {s : State} {t : Term} {ca : Addr} (ev : ∀ idx, t.eval args s none idx s = some (.ref ca)) (h4 : (Jvm.Cond.arrayOf t (.object "java/lang/Integer")).value args s none s [] = some true)
    (h6 : (Jvm.Cond.eq (Term.length t) (Term.int 256)).value args s none s [] = some true)
    (h7 : (Jvm.Cond.all t (Jvm.Cond.and (Jvm.Cond.exactly (Term.elem t (Term.index 0)) "java/lang/Integer") (Jvm.Cond.eq (Term.field (Term.elem t (Term.index 0)) "java/lang/Integer" "value" "I") (Term.sub (Term.index 0) (Term.int 128))))).value args s none s [] = some true) : own_cache s ca := by
  obtain ⟨cl, A⟩ := Arr.start (ev []) h4
  have harr := A.fin (U := s) (Vm.Alike.refl _)
  have hlen := own_eq_int h6
  simp [Term.eval, ev [], harr] at hlen
  have hsz : cl.slots.size = 256 := by
    obtain ⟨q1, q2⟩ := hlen
    have := len_toInt q1
    rw [q2] at this
    have k : (256 : Int32).toInt = 256 := by decide
    omega
  refine ⟨cl.slots.toList, ⟨cl, A, by simp, by simp; omega⟩, fun x g1 g2 => ?_⟩
  rw [Int32.lt_iff_toInt_lt] at g1 g2
  have k1 : (-128 : Int32).toInt = -128 := by decide
  have k2 : (127 : Int32).toInt = 127 := by decide
  have k3 : (128 : Int32).toInt = 128 := by decide
  rw [k1] at g1
  rw [k2] at g2
  have e1 : (x + 128).toInt = x.toInt + 128 := by rw [XT.add32 (by rw [k3]; constructor <;> omega), k3]
  obtain ⟨i, hi⟩ : ∃ i : Nat, x.toInt + 128 = (i : Int) := ⟨(x.toInt + 128).toNat, by omega⟩
  refine ⟨i, e1.trans hi, ?_⟩
  have q := Cond.all_elim (ev []) harr h7 i (by omega)
  obtain ⟨q1, q2⟩ := and_e q
  obtain ⟨b, eb⟩ := exa_v q1
  have ei : i.toInt32.toInt = (i : Int) := len_toInt (by omega)
  have ex : i.toInt32 - 128 = x := by
    apply Int32.toInt_inj.mp
    rw [XT.sub32 (by rw [k3, ei]; constructor <;> omega), k3, ei]; omega
  refine ⟨b, ?_, exa_at eb q1, ?_⟩
  · obtain ⟨a', j, cl', r1, r2, r3, -, r5⟩ := Term.elem_spec eb
    rw [ev] at r1
    cases r1
    rw [Term.index_eval] at r2
    cases r2
    rw [harr] at r3
    cases r3
    rw [(idx_nat ei).1] at r5
    simpa using r5
  · obtain ⟨u, y, h1, h2, -, kin⟩ := cmp_v (Or.inl q2)
    have h2' : y = .int (i.toInt32 - 128) := by
      have : (Term.sub (Term.index 0) (Term.int 128)).eval args s none [i] s = some (.int (i.toInt32 - 128)) := rfl
      rw [this] at h2
      exact (Option.some.inj h2).symm
    subst h2'
    obtain ⟨z, rfl⟩ := kin
    have e : z = i.toInt32 - 128 := by simpa [Cond.value, h1, h2] using q2
    rw [e, ex, fld_at eb] at h1
    exact Fld.start h1

theorem d3_0 : decode jdk_30_method_1_code 0 = .ok (.aload_n 0, 1) := by decide +kernel
theorem d3_1 : decode jdk_30_method_1_code 1 = .ok (.invokespecial 1, 3) := by decide +kernel
theorem d3_4 : decode jdk_30_method_1_code 4 = .ok (.return_, 1) := by decide +kernel
theorem pn_java_lang_Record : plainName "java/lang/Record" = true := by first | (simp [plainName, overriddenIn]; done) | decide +kernel
theorem ef_rmRec (m : MethodId) (a1 : Addr) : entryFrame m #[(.ref a1)] 1 = mkF m 0 #[.val (.ref a1)] [] := by first | (simp [entryFrame, mkF, argsToLocals, Value.category]; done) | rfl
def Q_rmRec (Z : State) (n0 : Nat) (a1 : Addr) (h0 : Heap) (v : Option Value) (h : Heap) : Prop := v = none ∧ h = h0
abbrev R_rmRec : Room := { frames := 1, cells := 0, slots := 0, locals := 12 }
set_option maxRecDepth 65536 in
set_option maxHeartbeats 40000000 in
theorem rmRec {l : Launch} {Z : State} {n0 : Nat} {a0 : Array Value} (hw : ∀ d ∈ tables_1, d.before a0 Z = true) (a1 : Addr) (h0 : Heap) :
    Con l Z n0 (⟨"java/lang/Record", "<init>", "()V"⟩ : MethodName) jdk_30_method_1_code 1 none R_rmRec #[(.ref a1)] h0 (Q_rmRec Z n0 a1 h0) := by
  refine con_of (plainFor_of_name pn_java_lang_Record) ?_
  intro p e s m below meth c T0 K X0 e0
  replace K : Ctx p s m meth c Z "java/lang/Record" "<init>" jdk_30_method_1_code 1 none := K
  refine go_entry (ef_rmRec m a1) ?_
  refine go_aloadN K X0 d3_0 rfl rfl rfl ?_
  refine go_initO K X0 (wd hw 16 rfl) (wd hw 17 rfl) (wd hw 18 rfl) e0 rfl d3_1 rfl (by decide) (W := 0) (Nat.le_of_eq rfl) (by decide) ?_
  intro T1 X1 e1
  refine go_ret K X1 d3_4 (by decide) (by decide) ?_
  rw [e1]
  exact ⟨rfl, rfl⟩
theorem d11_0 : decode jdk_22_method_1_code 0 = .ok (.aload_n 0, 1) := by decide +kernel
theorem d11_1 : decode jdk_22_method_1_code 1 = .ok (.invokespecial 1, 3) := by decide +kernel
theorem d11_4 : decode jdk_22_method_1_code 4 = .ok (.return_, 1) := by decide +kernel
theorem pn_java_util_AbstractCollection : plainName "java/util/AbstractCollection" = true := by first | (simp [plainName, overriddenIn]; done) | decide +kernel
theorem ef_rmAC (m : MethodId) (a1 : Addr) : entryFrame m #[(.ref a1)] 1 = mkF m 0 #[.val (.ref a1)] [] := by first | (simp [entryFrame, mkF, argsToLocals, Value.category]; done) | rfl
def Q_rmAC (Z : State) (n0 : Nat) (a1 : Addr) (h0 : Heap) (v : Option Value) (h : Heap) : Prop := v = none ∧ h = h0
abbrev R_rmAC : Room := { frames := 1, cells := 0, slots := 0, locals := 12 }
set_option maxRecDepth 65536 in
set_option maxHeartbeats 40000000 in
theorem rmAC {l : Launch} {Z : State} {n0 : Nat} {a0 : Array Value} (hw : ∀ d ∈ tables_1, d.before a0 Z = true) (a1 : Addr) (h0 : Heap) :
    Con l Z n0 (⟨"java/util/AbstractCollection", "<init>", "()V"⟩ : MethodName) jdk_22_method_1_code 1 none R_rmAC #[(.ref a1)] h0 (Q_rmAC Z n0 a1 h0) := by
  refine con_of (plainFor_of_name pn_java_util_AbstractCollection) ?_
  intro p e s m below meth c T0 K X0 e0
  replace K : Ctx p s m meth c Z "java/util/AbstractCollection" "<init>" jdk_22_method_1_code 1 none := K
  refine go_entry (ef_rmAC m a1) ?_
  refine go_aloadN K X0 d11_0 rfl rfl rfl ?_
  refine go_initO K X0 (wd hw 70 rfl) (wd hw 17 rfl) (wd hw 18 rfl) e0 rfl d11_1 rfl (by decide) (W := 0) (Nat.le_of_eq rfl) (by decide) ?_
  intro T2 X2 e2
  refine go_ret K X2 d11_4 (by decide) (by decide) ?_
  rw [e2]
  exact ⟨rfl, rfl⟩
theorem d10_0 : decode jdk_47_method_1_code 0 = .ok (.aload_n 0, 1) := by decide +kernel
theorem d10_1 : decode jdk_47_method_1_code 1 = .ok (.invokespecial 1, 3) := by decide +kernel
theorem pd_0 : parseMethodDescriptor "()V" = some ⟨[], none⟩ := by decide +kernel
theorem d10_4 : decode jdk_47_method_1_code 4 = .ok (.return_, 1) := by decide +kernel
theorem pn_java_util_ImmutableCollections_AbstractImmutableCollection : plainName "java/util/ImmutableCollections$AbstractImmutableCollection" = true := by first | (simp [plainName, overriddenIn]; done) | decide +kernel
theorem ef_rmAIC (m : MethodId) (a1 : Addr) : entryFrame m #[(.ref a1)] 1 = mkF m 0 #[.val (.ref a1)] [] := by first | (simp [entryFrame, mkF, argsToLocals, Value.category]; done) | rfl
def Q_rmAIC (Z : State) (n0 : Nat) (a1 : Addr) (h0 : Heap) (v : Option Value) (h : Heap) : Prop := v = none ∧ h = h0
abbrev R_rmAIC : Room := { frames := 2, cells := 0, slots := 0, locals := 24 }
set_option maxRecDepth 65536 in
set_option maxHeartbeats 40000000 in
theorem rmAIC {l : Launch} {Z : State} {n0 : Nat} {a0 : Array Value} (hw : ∀ d ∈ tables_1, d.before a0 Z = true) (a1 : Addr) (h0 : Heap) :
    Con l Z n0 (⟨"java/util/ImmutableCollections$AbstractImmutableCollection", "<init>", "()V"⟩ : MethodName) jdk_47_method_1_code 1 none R_rmAIC #[(.ref a1)] h0 (Q_rmAIC Z n0 a1 h0) := by
  refine con_of (plainFor_of_name pn_java_util_ImmutableCollections_AbstractImmutableCollection) ?_
  intro p e s m below meth c T0 K X0 e0
  replace K : Ctx p s m meth c Z "java/util/ImmutableCollections$AbstractImmutableCollection" "<init>" jdk_47_method_1_code 1 none := K
  refine go_entry (ef_rmAIC m a1) ?_
  refine go_aloadN K X0 d10_0 rfl rfl rfl ?_
  refine go_init K X0 (a := a1) (argsL := []) (stk := []) (wd hw 64 rfl) (wd hw 65 rfl) (wd hw 68 rfl) (wd hw 69 rfl) (by decide) rfl (lenOf pd_0 rfl) e0 (rmAC hw a1 h0 ) rfl rfl d10_1 rfl (by decide) (W := 0) (Nat.le_of_eq rfl) (by decide) (cells' := 0) (slots' := 0) rfl rfl (by decide) (by decide) ?_
  rintro T3 h3 _ X3 e3 ⟨rfl, qe3⟩
  show Go _ _ _ _ _ _ _ (T3.setTop (mkF m 4 #[.val (.ref a1)] []))
  replace e3 := e3.trans qe3
  refine go_ret K X3 d10_4 (by decide) (by decide) ?_
  rw [e3]
  exact ⟨rfl, rfl⟩
theorem d9_0 : decode jdk_46_method_1_code 0 = .ok (.aload_n 0, 1) := by decide +kernel
theorem d9_1 : decode jdk_46_method_1_code 1 = .ok (.invokespecial 1, 3) := by decide +kernel
theorem d9_4 : decode jdk_46_method_1_code 4 = .ok (.return_, 1) := by decide +kernel
theorem pn_java_util_ImmutableCollections_AbstractImmutableList : plainName "java/util/ImmutableCollections$AbstractImmutableList" = true := by first | (simp [plainName, overriddenIn]; done) | decide +kernel
theorem ef_rmAIL (m : MethodId) (a1 : Addr) : entryFrame m #[(.ref a1)] 1 = mkF m 0 #[.val (.ref a1)] [] := by first | (simp [entryFrame, mkF, argsToLocals, Value.category]; done) | rfl
def Q_rmAIL (Z : State) (n0 : Nat) (a1 : Addr) (h0 : Heap) (v : Option Value) (h : Heap) : Prop := v = none ∧ h = h0
abbrev R_rmAIL : Room := { frames := 3, cells := 0, slots := 0, locals := 36 }
set_option maxRecDepth 65536 in
set_option maxHeartbeats 40000000 in
theorem rmAIL {l : Launch} {Z : State} {n0 : Nat} {a0 : Array Value} (hw : ∀ d ∈ tables_1, d.before a0 Z = true) (a1 : Addr) (h0 : Heap) :
    Con l Z n0 (⟨"java/util/ImmutableCollections$AbstractImmutableList", "<init>", "()V"⟩ : MethodName) jdk_46_method_1_code 1 none R_rmAIL #[(.ref a1)] h0 (Q_rmAIL Z n0 a1 h0) := by
  refine con_of (plainFor_of_name pn_java_util_ImmutableCollections_AbstractImmutableList) ?_
  intro p e s m below meth c T0 K X0 e0
  replace K : Ctx p s m meth c Z "java/util/ImmutableCollections$AbstractImmutableList" "<init>" jdk_46_method_1_code 1 none := K
  refine go_entry (ef_rmAIL m a1) ?_
  refine go_aloadN K X0 d9_0 rfl rfl rfl ?_
  refine go_init K X0 (a := a1) (argsL := []) (stk := []) (wd hw 58 rfl) (wd hw 59 rfl) (wd hw 62 rfl) (wd hw 63 rfl) (by decide) rfl (lenOf pd_0 rfl) e0 (rmAIC hw a1 h0 ) rfl rfl d9_1 rfl (by decide) (W := 0) (Nat.le_of_eq rfl) (by decide) (cells' := 0) (slots' := 0) rfl rfl (by decide) (by decide) ?_
  rintro T4 h4 _ X4 e4 ⟨rfl, qe4⟩
  show Go _ _ _ _ _ _ _ (T4.setTop (mkF m 4 #[.val (.ref a1)] []))
  replace e4 := e4.trans qe4
  refine go_ret K X4 d9_4 (by decide) (by decide) ?_
  rw [e4]
  exact ⟨rfl, rfl⟩
theorem d17_0 : decode jdk_18_method_1_code 0 = .ok (.aload_n 0, 1) := by decide +kernel
theorem d17_1 : decode jdk_18_method_1_code 1 = .ok (.invokespecial 1, 3) := by decide +kernel
theorem d17_4 : decode jdk_18_method_1_code 4 = .ok (.return_, 1) := by decide +kernel
theorem pn_java_lang_Number : plainName "java/lang/Number" = true := by first | (simp [plainName, overriddenIn]; done) | decide +kernel
theorem ef_rmNum (m : MethodId) (a1 : Addr) : entryFrame m #[(.ref a1)] 1 = mkF m 0 #[.val (.ref a1)] [] := by first | (simp [entryFrame, mkF, argsToLocals, Value.category]; done) | rfl
def Q_rmNum (Z : State) (n0 : Nat) (a1 : Addr) (h0 : Heap) (v : Option Value) (h : Heap) : Prop := v = none ∧ h = h0
abbrev R_rmNum : Room := { frames := 1, cells := 0, slots := 0, locals := 12 }
set_option maxRecDepth 65536 in
set_option maxHeartbeats 40000000 in
theorem rmNum {l : Launch} {Z : State} {n0 : Nat} {a0 : Array Value} (hw : ∀ d ∈ tables_1, d.before a0 Z = true) (a1 : Addr) (h0 : Heap) :
    Con l Z n0 (⟨"java/lang/Number", "<init>", "()V"⟩ : MethodName) jdk_18_method_1_code 1 none R_rmNum #[(.ref a1)] h0 (Q_rmNum Z n0 a1 h0) := by
  refine con_of (plainFor_of_name pn_java_lang_Number) ?_
  intro p e s m below meth c T0 K X0 e0
  replace K : Ctx p s m meth c Z "java/lang/Number" "<init>" jdk_18_method_1_code 1 none := K
  refine go_entry (ef_rmNum m a1) ?_
  refine go_aloadN K X0 d17_0 rfl rfl rfl ?_
  refine go_initO K X0 (wd hw 118 rfl) (wd hw 17 rfl) (wd hw 18 rfl) e0 rfl d17_1 rfl (by decide) (W := 0) (Nat.le_of_eq rfl) (by decide) ?_
  intro T5 X5 e5
  refine go_ret K X5 d17_4 (by decide) (by decide) ?_
  rw [e5]
  exact ⟨rfl, rfl⟩
theorem d1_0 : decode jdk_29_method_66_code 0 = .ok (.lload_n 0, 1) := by decide +kernel
theorem d1_1 : decode jdk_29_method_66_code 1 = .ok (.lload_n 2, 1) := by decide +kernel
theorem d1_2 : decode jdk_29_method_66_code 2 = .ok (.lcmp, 1) := by decide +kernel
theorem d1_3 : decode jdk_29_method_66_code 3 = .ok (.ifCond .lt 7, 3) := by decide +kernel
theorem d1_10 : decode jdk_29_method_66_code 10 = .ok (.lload_n 2, 1) := by decide +kernel
theorem d1_11 : decode jdk_29_method_66_code 11 = .ok (.lreturn, 1) := by decide +kernel
theorem d1_6 : decode jdk_29_method_66_code 6 = .ok (.lload_n 0, 1) := by decide +kernel
theorem d1_7 : decode jdk_29_method_66_code 7 = .ok (.goto 4, 3) := by decide +kernel
theorem ef_rmMax (m : MethodId) (q1 : Int64) (q2 : Int64) : entryFrame m #[(.long q1), (.long q2)] 4 = mkF m 0 #[.val (.long q1), .second, .val (.long q2), .second] [] := by first | (simp [entryFrame, mkF, argsToLocals, Value.category]; done) | rfl
def Q_rmMax (Z : State) (n0 : Nat) (q1 : Int64) (q2 : Int64) (h0 : Heap) (v : Option Value) (h : Heap) : Prop := v = some (.long (own_maxL q1 q2)) ∧ h = h0
abbrev R_rmMax : Room := { frames := 0, cells := 0, slots := 0, locals := 0 }
set_option maxRecDepth 65536 in
set_option maxHeartbeats 40000000 in
theorem rmMax {l : Launch} {Z : State} {n0 : Nat} {a0 : Array Value} (hw : ∀ d ∈ tables_1, d.before a0 Z = true) (q1 : Int64) (q2 : Int64) (h0 : Heap) :
    Con l Z n0 (⟨"java/lang/Math", "max", "(JJ)J"⟩ : MethodName) jdk_29_method_66_code 4 (some .long) R_rmMax #[(.long q1), (.long q2)] h0 (Q_rmMax Z n0 q1 q2 h0) := by
  refine con_of (Jvm.Free.JP.mathPlain rfl (by decide +kernel)) ?_
  intro p e s m below meth c T0 K X0 e0
  replace K : Ctx p s m meth c Z "java/lang/Math" "max" jdk_29_method_66_code 4 (some .long) := K
  refine go_entry (ef_rmMax m q1 q2) ?_
  refine go_lloadN K X0 d1_0 rfl rfl ?_
  refine go_lloadN K X0 d1_1 rfl rfl ?_
  refine go_lif K X0 d1_2 rfl d1_3 (by decide) rfl rfl ?_ ?_
  · intro (hc6 : q1 < q2)
    refine go_lloadN K X0 d1_10 rfl rfl ?_
    refine go_retJ K X0 d1_11 (by decide) (by decide) ?_
    rw [e0]
    exact ⟨(by simp [own_maxL, hc6]), rfl⟩
  · intro (hc6 : ¬ q1 < q2)
    refine go_lloadN K X0 d1_6 rfl rfl ?_
    refine go_goto K X0 d1_7 (by decide) rfl ?_
    refine go_retJ K X0 d1_11 (by decide) (by decide) ?_
    rw [e0]
    exact ⟨(by simp [own_maxL, hc6]), rfl⟩
theorem d2_0 : decode prog_3_method_1_code 0 = .ok (.aload_n 0, 1) := by decide +kernel
theorem d2_1 : decode prog_3_method_1_code 1 = .ok (.invokespecial 1, 3) := by decide +kernel
theorem d2_4 : decode prog_3_method_1_code 4 = .ok (.aload_n 0, 1) := by decide +kernel
theorem d2_5 : decode prog_3_method_1_code 5 = .ok (.iload_n 1, 1) := by decide +kernel
theorem d2_6 : decode prog_3_method_1_code 6 = .ok (.putfield 7, 3) := by decide +kernel
theorem d2_9 : decode prog_3_method_1_code 9 = .ok (.aload_n 0, 1) := by decide +kernel
theorem d2_10 : decode prog_3_method_1_code 10 = .ok (.iload_n 2, 1) := by decide +kernel
theorem d2_11 : decode prog_3_method_1_code 11 = .ok (.putfield 13, 3) := by decide +kernel
theorem d2_14 : decode prog_3_method_1_code 14 = .ok (.aload_n 0, 1) := by decide +kernel
theorem d2_15 : decode prog_3_method_1_code 15 = .ok (.lload_n 3, 1) := by decide +kernel
theorem d2_16 : decode prog_3_method_1_code 16 = .ok (.putfield 16, 3) := by decide +kernel
theorem d2_19 : decode prog_3_method_1_code 19 = .ok (.aload_n 0, 1) := by decide +kernel
theorem d2_20 : decode prog_3_method_1_code 20 = .ok (.lload 5, 2) := by decide +kernel
theorem d2_22 : decode prog_3_method_1_code 22 = .ok (.putfield 20, 3) := by decide +kernel
theorem d2_25 : decode prog_3_method_1_code 25 = .ok (.aload_n 0, 1) := by decide +kernel
theorem d2_26 : decode prog_3_method_1_code 26 = .ok (.iload 7, 2) := by decide +kernel
theorem d2_28 : decode prog_3_method_1_code 28 = .ok (.putfield 23, 3) := by decide +kernel
theorem d2_31 : decode prog_3_method_1_code 31 = .ok (.return_, 1) := by decide +kernel
theorem pn_com_example_early_clock_earlyclock_Definition_Delay : plainName "com/example/early_clock/earlyclock/Definition$Delay" = true := by first | (simp [plainName, overriddenIn]; done) | decide +kernel
theorem ef_rmInit (m : MethodId) (a1 : Addr) (p2 : Int32) (p3 : Int32) (q4 : Int64) (q5 : Int64) (p6 : Int32) : entryFrame m #[(.ref a1), (.int p2), (.int p3), (.long q4), (.long q5), (.int p6)] 8 = mkF m 0 #[.val (.ref a1), .val (.int p2), .val (.int p3), .val (.long q4), .second, .val (.long q5), .second, .val (.int p6)] [] := by first | (simp [entryFrame, mkF, argsToLocals, Value.category]; done) | rfl
def Q_rmInit (Z : State) (n0 : Nat) (a1 : Addr) (p2 : Int32) (p3 : Int32) (q4 : Int64) (q5 : Int64) (p6 : Int32) (u0 : Value) (u1 : Value) (u2 : Value) (u3 : Value) (u4 : Value) (h0 : Heap) (v : Option Value) (h : Heap) : Prop := v = none ∧ Keep h0 h [a1] ∧ Exa Z h a1 "com/example/early_clock/earlyclock/Definition$Delay" ∧ Fld Z h a1 "com/example/early_clock/earlyclock/Definition$Delay" "clock" "I" (.int p2) ∧ Fld Z h a1 "com/example/early_clock/earlyclock/Definition$Delay" "source" "I" (.int p3) ∧ Fld Z h a1 "com/example/early_clock/earlyclock/Definition$Delay" "least" "J" (.long q4) ∧ Fld Z h a1 "com/example/early_clock/earlyclock/Definition$Delay" "most" "J" (.long q5) ∧ Fld Z h a1 "com/example/early_clock/earlyclock/Definition$Delay" "on" "I" (.int p6)
abbrev R_rmInit : Room := { frames := 2, cells := 0, slots := 0, locals := 24 }
set_option maxRecDepth 65536 in
set_option maxHeartbeats 40000000 in
theorem rmInit {l : Launch} {Z : State} {n0 : Nat} {a0 : Array Value} (hw : ∀ d ∈ tables_1, d.before a0 Z = true) (a1 : Addr) (p2 : Int32) (p3 : Int32) (q4 : Int64) (q5 : Int64) (p6 : Int32) (u0 : Value) (u1 : Value) (u2 : Value) (u3 : Value) (u4 : Value) (h0 : Heap) (H0 : n0 ≤ a1) (H1 : Exa Z h0 a1 "com/example/early_clock/earlyclock/Definition$Delay") (H2 : Fld Z h0 a1 "com/example/early_clock/earlyclock/Definition$Delay" "clock" "I" u0) (H3 : Fld Z h0 a1 "com/example/early_clock/earlyclock/Definition$Delay" "source" "I" u1) (H4 : Fld Z h0 a1 "com/example/early_clock/earlyclock/Definition$Delay" "least" "J" u2) (H5 : Fld Z h0 a1 "com/example/early_clock/earlyclock/Definition$Delay" "most" "J" u3) (H6 : Fld Z h0 a1 "com/example/early_clock/earlyclock/Definition$Delay" "on" "I" u4) :
    Con l Z n0 (⟨"com/example/early_clock/earlyclock/Definition$Delay", "<init>", "(IIJJI)V"⟩ : MethodName) prog_3_method_1_code 8 none R_rmInit #[(.ref a1), (.int p2), (.int p3), (.long q4), (.long q5), (.int p6)] h0 (Q_rmInit Z n0 a1 p2 p3 q4 q5 p6 u0 u1 u2 u3 u4 h0) := by
  refine con_of (plainFor_of_name pn_com_example_early_clock_earlyclock_Definition_Delay) ?_
  intro p e s m below meth c T0 K X0 e0
  replace K : Ctx p s m meth c Z "com/example/early_clock/earlyclock/Definition$Delay" "<init>" prog_3_method_1_code 8 none := K
  refine go_entry (ef_rmInit m a1 p2 p3 q4 q5 p6) ?_
  refine go_aloadN K X0 d2_0 rfl rfl rfl ?_
  refine go_init K X0 (a := a1) (argsL := []) (stk := []) (wd hw 11 rfl) (wd hw 12 rfl) (wd hw 14 rfl) (wd hw 15 rfl) (by decide) rfl (lenOf pd_0 rfl) e0 (rmRec hw a1 h0 ) rfl rfl d2_1 rfl (by decide) (W := 0) (Nat.le_of_eq rfl) (by decide) (cells' := 0) (slots' := 0) rfl rfl (by decide) (by decide) ?_
  rintro T7 h7 _ X7 e7 ⟨rfl, qe7⟩
  show Go _ _ _ _ _ _ _ (T7.setTop (mkF m 4 #[.val (.ref a1), .val (.int p2), .val (.int p3), .val (.long q4), .second, .val (.long q5), .second, .val (.int p6)] []))
  replace e7 := e7.trans qe7
  refine go_aloadN K X7 d2_4 rfl rfl rfl ?_
  refine go_iloadN K X7 d2_5 rfl rfl ?_
  refine go_putF K X7 (host := "") (Or.inl (wd hw 19 rfl)) Via.refl e7 H2 H1 (Or.inr ⟨(wd hw 20 rfl), rfl, rfl⟩) (wd hw 6 rfl) (ty := .int) (by decide) rfl rfl H0 d2_6 rfl ?_
  intro T8 h8 X8 e8 W8
  have kp9 : Keep h0 h8 [a1] := (Keep.refl h0 [a1]).trans (Keep.of_wr W8) (allS (Or.inl (List.mem_of_getElem? (i := 0) rfl)) all0)
  have f10 : Fld Z h8 a1 "com/example/early_clock/earlyclock/Definition$Delay" "clock" "I" (.int p2) := H2.same W8
  refine go_aloadN K X8 d2_9 rfl rfl rfl ?_
  refine go_iloadN K X8 d2_10 rfl rfl ?_
  have f11 : Exa Z h8 a1 "com/example/early_clock/earlyclock/Definition$Delay" := (H1.keep (Keep.of_wr W8))
  have f12 : Fld Z h8 a1 "com/example/early_clock/earlyclock/Definition$Delay" "source" "I" u1 := (H3.other W8 (Or.inr (slot_ne (Or.inr (wd hw 22 rfl)) (Or.inr (wd hw 20 rfl)) (by decide) (t := .int) (t' := .int) (by decide) (by decide))))
  refine go_putF K X8 (host := "") (Or.inl (wd hw 21 rfl)) Via.refl e8 f12 f11 (Or.inr ⟨(wd hw 22 rfl), rfl, rfl⟩) (wd hw 6 rfl) (ty := .int) (by decide) rfl rfl H0 d2_11 rfl ?_
  intro T13 h13 X13 e13 W13
  have kp14 : Keep h0 h13 [a1] := kp9.trans (Keep.of_wr W13) (allS (Or.inl (List.mem_of_getElem? (i := 0) rfl)) all0)
  have f15 : Fld Z h13 a1 "com/example/early_clock/earlyclock/Definition$Delay" "source" "I" (.int p3) := f12.same W13
  refine go_aloadN K X13 d2_14 rfl rfl rfl ?_
  refine go_lloadN K X13 d2_15 rfl rfl ?_
  have f16 : Exa Z h13 a1 "com/example/early_clock/earlyclock/Definition$Delay" := (f11.keep (Keep.of_wr W13))
  have f17 : Fld Z h13 a1 "com/example/early_clock/earlyclock/Definition$Delay" "least" "J" u2 := ((H4.other W8 (Or.inr (slot_ne (Or.inr (wd hw 24 rfl)) (Or.inr (wd hw 20 rfl)) (by decide) (t := .long) (t' := .int) (by decide) (by decide)))).other W13 (Or.inr (slot_ne (Or.inr (wd hw 24 rfl)) (Or.inr (wd hw 22 rfl)) (by decide) (t := .long) (t' := .int) (by decide) (by decide))))
  refine go_putF K X13 (host := "") (Or.inl (wd hw 23 rfl)) Via.refl e13 f17 f16 (Or.inr ⟨(wd hw 24 rfl), rfl, rfl⟩) (wd hw 6 rfl) (ty := .long) (by decide) rfl rfl H0 d2_16 rfl ?_
  intro T18 h18 X18 e18 W18
  have kp19 : Keep h0 h18 [a1] := kp14.trans (Keep.of_wr W18) (allS (Or.inl (List.mem_of_getElem? (i := 0) rfl)) all0)
  have f20 : Fld Z h18 a1 "com/example/early_clock/earlyclock/Definition$Delay" "least" "J" (.long q4) := f17.same W18
  refine go_aloadN K X18 d2_19 rfl rfl rfl ?_
  refine go_lload K X18 d2_20 rfl rfl ?_
  have f21 : Exa Z h18 a1 "com/example/early_clock/earlyclock/Definition$Delay" := (f16.keep (Keep.of_wr W18))
  have f22 : Fld Z h18 a1 "com/example/early_clock/earlyclock/Definition$Delay" "most" "J" u3 := (((H5.other W8 (Or.inr (slot_ne (Or.inr (wd hw 26 rfl)) (Or.inr (wd hw 20 rfl)) (by decide) (t := .long) (t' := .int) (by decide) (by decide)))).other W13 (Or.inr (slot_ne (Or.inr (wd hw 26 rfl)) (Or.inr (wd hw 22 rfl)) (by decide) (t := .long) (t' := .int) (by decide) (by decide)))).other W18 (Or.inr (slot_ne (Or.inr (wd hw 26 rfl)) (Or.inr (wd hw 24 rfl)) (by decide) (t := .long) (t' := .long) (by decide) (by decide))))
  refine go_putF K X18 (host := "") (Or.inl (wd hw 25 rfl)) Via.refl e18 f22 f21 (Or.inr ⟨(wd hw 26 rfl), rfl, rfl⟩) (wd hw 6 rfl) (ty := .long) (by decide) rfl rfl H0 d2_22 rfl ?_
  intro T23 h23 X23 e23 W23
  have kp24 : Keep h0 h23 [a1] := kp19.trans (Keep.of_wr W23) (allS (Or.inl (List.mem_of_getElem? (i := 0) rfl)) all0)
  have f25 : Fld Z h23 a1 "com/example/early_clock/earlyclock/Definition$Delay" "most" "J" (.long q5) := f22.same W23
  refine go_aloadN K X23 d2_25 rfl rfl rfl ?_
  refine go_iload K X23 d2_26 rfl rfl ?_
  have f26 : Exa Z h23 a1 "com/example/early_clock/earlyclock/Definition$Delay" := (f21.keep (Keep.of_wr W23))
  have f27 : Fld Z h23 a1 "com/example/early_clock/earlyclock/Definition$Delay" "on" "I" u4 := ((((H6.other W8 (Or.inr (slot_ne (Or.inr (wd hw 28 rfl)) (Or.inr (wd hw 20 rfl)) (by decide) (t := .int) (t' := .int) (by decide) (by decide)))).other W13 (Or.inr (slot_ne (Or.inr (wd hw 28 rfl)) (Or.inr (wd hw 22 rfl)) (by decide) (t := .int) (t' := .int) (by decide) (by decide)))).other W18 (Or.inr (slot_ne (Or.inr (wd hw 28 rfl)) (Or.inr (wd hw 24 rfl)) (by decide) (t := .int) (t' := .long) (by decide) (by decide)))).other W23 (Or.inr (slot_ne (Or.inr (wd hw 28 rfl)) (Or.inr (wd hw 26 rfl)) (by decide) (t := .int) (t' := .long) (by decide) (by decide))))
  refine go_putF K X23 (host := "") (Or.inl (wd hw 27 rfl)) Via.refl e23 f27 f26 (Or.inr ⟨(wd hw 28 rfl), rfl, rfl⟩) (wd hw 6 rfl) (ty := .int) (by decide) rfl rfl H0 d2_28 rfl ?_
  intro T28 h28 X28 e28 W28
  have kp29 : Keep h0 h28 [a1] := kp24.trans (Keep.of_wr W28) (allS (Or.inl (List.mem_of_getElem? (i := 0) rfl)) all0)
  have f30 : Fld Z h28 a1 "com/example/early_clock/earlyclock/Definition$Delay" "on" "I" (.int p6) := f27.same W28
  refine go_ret K X28 d2_31 (by decide) (by decide) ?_
  have f31 : Exa Z h28 a1 "com/example/early_clock/earlyclock/Definition$Delay" := (f26.keep (Keep.of_wr W28))
  have f32 : Fld Z h28 a1 "com/example/early_clock/earlyclock/Definition$Delay" "clock" "I" (.int p2) := ((((f10.other W13 (Or.inr (slot_ne (Or.inr (wd hw 20 rfl)) (Or.inr (wd hw 22 rfl)) (by decide) (t := .int) (t' := .int) (by decide) (by decide)))).other W18 (Or.inr (slot_ne (Or.inr (wd hw 20 rfl)) (Or.inr (wd hw 24 rfl)) (by decide) (t := .int) (t' := .long) (by decide) (by decide)))).other W23 (Or.inr (slot_ne (Or.inr (wd hw 20 rfl)) (Or.inr (wd hw 26 rfl)) (by decide) (t := .int) (t' := .long) (by decide) (by decide)))).other W28 (Or.inr (slot_ne (Or.inr (wd hw 20 rfl)) (Or.inr (wd hw 28 rfl)) (by decide) (t := .int) (t' := .int) (by decide) (by decide))))
  have f33 : Fld Z h28 a1 "com/example/early_clock/earlyclock/Definition$Delay" "source" "I" (.int p3) := (((f15.other W18 (Or.inr (slot_ne (Or.inr (wd hw 22 rfl)) (Or.inr (wd hw 24 rfl)) (by decide) (t := .int) (t' := .long) (by decide) (by decide)))).other W23 (Or.inr (slot_ne (Or.inr (wd hw 22 rfl)) (Or.inr (wd hw 26 rfl)) (by decide) (t := .int) (t' := .long) (by decide) (by decide)))).other W28 (Or.inr (slot_ne (Or.inr (wd hw 22 rfl)) (Or.inr (wd hw 28 rfl)) (by decide) (t := .int) (t' := .int) (by decide) (by decide))))
  have f34 : Fld Z h28 a1 "com/example/early_clock/earlyclock/Definition$Delay" "least" "J" (.long q4) := ((f20.other W23 (Or.inr (slot_ne (Or.inr (wd hw 24 rfl)) (Or.inr (wd hw 26 rfl)) (by decide) (t := .long) (t' := .long) (by decide) (by decide)))).other W28 (Or.inr (slot_ne (Or.inr (wd hw 24 rfl)) (Or.inr (wd hw 28 rfl)) (by decide) (t := .long) (t' := .int) (by decide) (by decide))))
  have f35 : Fld Z h28 a1 "com/example/early_clock/earlyclock/Definition$Delay" "most" "J" (.long q5) := (f25.other W28 (Or.inr (slot_ne (Or.inr (wd hw 26 rfl)) (Or.inr (wd hw 28 rfl)) (by decide) (t := .long) (t' := .int) (by decide) (by decide))))
  rw [e28]
  exact ⟨rfl, kp29, f31, f32, f33, f34, f35, f30⟩
theorem d16_0 : decode jdk_33_method_23_code 0 = .ok (.aload_n 0, 1) := by decide +kernel
theorem d16_1 : decode jdk_33_method_23_code 1 = .ok (.invokespecial 202, 3) := by decide +kernel
theorem d16_4 : decode jdk_33_method_23_code 4 = .ok (.aload_n 0, 1) := by decide +kernel
theorem d16_5 : decode jdk_33_method_23_code 5 = .ok (.iload_n 1, 1) := by decide +kernel
theorem d16_6 : decode jdk_33_method_23_code 6 = .ok (.putfield 205, 3) := by decide +kernel
theorem d16_9 : decode jdk_33_method_23_code 9 = .ok (.return_, 1) := by decide +kernel
theorem pn_java_lang_Integer : plainName "java/lang/Integer" = true := by first | (simp [plainName, overriddenIn]; done) | decide +kernel
theorem ef_rmIntInit (m : MethodId) (a1 : Addr) (p2 : Int32) : entryFrame m #[(.ref a1), (.int p2)] 2 = mkF m 0 #[.val (.ref a1), .val (.int p2)] [] := by first | (simp [entryFrame, mkF, argsToLocals, Value.category]; done) | rfl
def Q_rmIntInit (Z : State) (n0 : Nat) (a1 : Addr) (p2 : Int32) (u0 : Value) (h0 : Heap) (v : Option Value) (h : Heap) : Prop := v = none ∧ Keep h0 h [a1] ∧ Exa Z h a1 "java/lang/Integer" ∧ Fld Z h a1 "java/lang/Integer" "value" "I" (.int p2)
abbrev R_rmIntInit : Room := { frames := 2, cells := 0, slots := 0, locals := 24 }
set_option maxRecDepth 65536 in
set_option maxHeartbeats 40000000 in
theorem rmIntInit {l : Launch} {Z : State} {n0 : Nat} {a0 : Array Value} (hw : ∀ d ∈ tables_1, d.before a0 Z = true) (a1 : Addr) (p2 : Int32) (u0 : Value) (h0 : Heap) (H0 : n0 ≤ a1) (H1 : Exa Z h0 a1 "java/lang/Integer") (H2 : Fld Z h0 a1 "java/lang/Integer" "value" "I" u0) :
    Con l Z n0 (⟨"java/lang/Integer", "<init>", "(I)V"⟩ : MethodName) jdk_33_method_23_code 2 none R_rmIntInit #[(.ref a1), (.int p2)] h0 (Q_rmIntInit Z n0 a1 p2 u0 h0) := by
  refine con_of (plainFor_of_name pn_java_lang_Integer) ?_
  intro p e s m below meth c T0 K X0 e0
  replace K : Ctx p s m meth c Z "java/lang/Integer" "<init>" jdk_33_method_23_code 2 none := K
  refine go_entry (ef_rmIntInit m a1 p2) ?_
  refine go_aloadN K X0 d16_0 rfl rfl rfl ?_
  refine go_init K X0 (a := a1) (argsL := []) (stk := []) (wd hw 112 rfl) (wd hw 113 rfl) (wd hw 116 rfl) (wd hw 117 rfl) (by decide) rfl (lenOf pd_0 rfl) e0 (rmNum hw a1 h0 ) rfl rfl d16_1 rfl (by decide) (W := 0) (Nat.le_of_eq rfl) (by decide) (cells' := 0) (slots' := 0) rfl rfl (by decide) (by decide) ?_
  rintro T36 h36 _ X36 e36 ⟨rfl, qe36⟩
  show Go _ _ _ _ _ _ _ (T36.setTop (mkF m 4 #[.val (.ref a1), .val (.int p2)] []))
  replace e36 := e36.trans qe36
  refine go_aloadN K X36 d16_4 rfl rfl rfl ?_
  refine go_iloadN K X36 d16_5 rfl rfl ?_
  refine go_putF K X36 (host := "") (Or.inl (wd hw 105 rfl)) Via.refl e36 H2 H1 (Or.inr ⟨(wd hw 106 rfl), rfl, rfl⟩) (wd hw 108 rfl) (ty := .int) (by decide) rfl rfl H0 d16_6 rfl ?_
  intro T37 h37 X37 e37 W37
  have kp38 : Keep h0 h37 [a1] := (Keep.refl h0 [a1]).trans (Keep.of_wr W37) (allS (Or.inl (List.mem_of_getElem? (i := 0) rfl)) all0)
  have f39 : Fld Z h37 a1 "java/lang/Integer" "value" "I" (.int p2) := H2.same W37
  refine go_ret K X37 d16_9 (by decide) (by decide) ?_
  have f40 : Exa Z h37 a1 "java/lang/Integer" := (H1.keep (Keep.of_wr W37))
  rw [e37]
  exact ⟨rfl, kp38, f40, f39⟩
theorem d6_0 : decode jdk_33_method_22_code 0 = .ok (.iload_n 0, 1) := by decide +kernel
theorem d6_1 : decode jdk_33_method_22_code 1 = .ok (.bipush (-128), 2) := by decide +kernel
theorem d6_3 : decode jdk_33_method_22_code 3 = .ok (.if_icmp .lt 20, 3) := by decide +kernel
theorem d6_23 : decode jdk_33_method_22_code 23 = .ok (.new 1, 3) := by decide +kernel
theorem d6_26 : decode jdk_33_method_22_code 26 = .ok (.dup, 1) := by decide +kernel
theorem d6_27 : decode jdk_33_method_22_code 27 = .ok (.iload_n 0, 1) := by decide +kernel
theorem d6_28 : decode jdk_33_method_22_code 28 = .ok (.invokespecial 199, 3) := by decide +kernel
theorem pd_1 : parseMethodDescriptor "(I)V" = some ⟨[.int], none⟩ := by decide +kernel
theorem d6_31 : decode jdk_33_method_22_code 31 = .ok (.areturn, 1) := by decide +kernel
theorem d6_6 : decode jdk_33_method_22_code 6 = .ok (.iload_n 0, 1) := by decide +kernel
theorem d6_7 : decode jdk_33_method_22_code 7 = .ok (.getstatic 191, 3) := by decide +kernel
theorem d6_10 : decode jdk_33_method_22_code 10 = .ok (.if_icmp .gt 13, 3) := by decide +kernel
theorem d6_13 : decode jdk_33_method_22_code 13 = .ok (.getstatic 195, 3) := by decide +kernel
theorem d6_16 : decode jdk_33_method_22_code 16 = .ok (.iload_n 0, 1) := by decide +kernel
theorem d6_17 : decode jdk_33_method_22_code 17 = .ok (.sipush 128, 3) := by decide +kernel
theorem d6_20 : decode jdk_33_method_22_code 20 = .ok (.iadd, 1) := by decide +kernel
theorem d6_21 : decode jdk_33_method_22_code 21 = .ok (.aaload, 1) := by decide +kernel
theorem d6_22 : decode jdk_33_method_22_code 22 = .ok (.areturn, 1) := by decide +kernel
theorem ef_rmVal (m : MethodId) (p1 : Int32) : entryFrame m #[(.int p1)] 1 = mkF m 0 #[.val (.int p1)] [] := by first | (simp [entryFrame, mkF, argsToLocals, Value.category]; done) | rfl
def Q_rmVal (Z : State) (n0 : Nat) (p1 : Int32) (ca : Addr) (h0 : Heap) (v : Option Value) (h : Heap) : Prop := ∃ r : Addr, v = some (.ref r) ∧ Keep h0 h [] ∧ Exa Z h r "java/lang/Integer" ∧ Fld Z h r "java/lang/Integer" "value" "I" (.int p1)
abbrev R_rmVal : Room := { frames := 3, cells := 1, slots := 1, locals := 38 }
set_option maxRecDepth 65536 in
set_option maxHeartbeats 40000000 in
theorem rmVal {l : Launch} {Z : State} {n0 : Nat} {a0 : Array Value} (hw : ∀ d ∈ tables_1, d.before a0 Z = true) (p1 : Int32) (ca : Addr) (h0 : Heap) (H0 : n0 ≤ h0.size) (H1 : Old Z n0 h0) (H2 : Sta Z Z.heap "java/lang/Integer$IntegerCache" "high" "I" (.int (127 : Int32))) (H3 : Sta Z Z.heap "java/lang/Integer$IntegerCache" "cache" "[Ljava/lang/Integer;" (.ref ca)) (H4 : own_cache Z ca) :
    Con l Z n0 (⟨"java/lang/Integer", "valueOf", "(I)Ljava/lang/Integer;"⟩ : MethodName) jdk_33_method_22_code 1 (some (.object "java/lang/Integer")) R_rmVal #[(.int p1)] h0 (Q_rmVal Z n0 p1 ca h0) := by
  refine con_of (plainFor_of_name pn_java_lang_Integer) ?_
  intro p e s m below meth c T0 K X0 e0
  replace K : Ctx p s m meth c Z "java/lang/Integer" "valueOf" jdk_33_method_22_code 1 (some (.object "java/lang/Integer")) := K
  refine go_entry (ef_rmVal m p1) ?_
  refine go_iloadN K X0 d6_0 rfl rfl ?_
  refine go_bipush K X0 (-128 : Int32) d6_1 rfl rfl ?_
  refine go_icmp K X0 d6_3 (by decide) rfl rfl ?_ ?_
  · intro (hc41 : p1 < (-128 : Int32))
    refine go_new K X0 (wd hw 107 rfl) (wd hw 108 rfl) (wd hw 36 rfl) e0 d6_23 rfl (cells' := 1) (slots' := 1) rfl rfl (by decide) (by decide) ?_
    intro T42 h42 b42 g42 X42 e42 E42 A42 D42
    have ga43 : n0 ≤ b42 := Nat.le_trans H0 (Nat.le_of_eq g42.symm)
    have gb44 : h0.size ≤ b42 := Nat.le_trans (Keep.refl h0 []).1 (Nat.le_of_eq g42.symm)
    have kp45 : Keep h0 h42 [] := (Keep.refl h0 []).trans (Keep.ext (Keep.refl _ []) E42) all0
    refine go_dup K X42 d6_26 rfl rfl ?_
    refine go_iloadN K X42 d6_27 rfl rfl ?_
    refine go_init K X42 (a := b42) (argsL := [(.int p1)]) (stk := [(.ref b42)]) (wd hw 109 rfl) (wd hw 110 rfl) (wd hw 36 rfl) (wd hw 111 rfl) (by decide) rfl (lenOf pd_1 rfl) e42 (rmIntInit hw b42 p1 (.int (0 : Int32)) h42 ga43 A42 (D42 (Or.inr (wd hw 106 rfl)) (ty := .int) (by decide) : Fld Z h42 b42 "java/lang/Integer" "value" "I" (.int (0 : Int32)))) rfl rfl d6_28 rfl (by decide) (W := 1) (Nat.le_of_eq rfl) (by decide) (cells' := 1) (slots' := 1) rfl rfl (by decide) (by decide) ?_
    rintro T46 h46 _ X46 e46 ⟨rfl, K46, f47, f48⟩
    show Go _ _ _ _ _ _ _ (T46.setTop (mkF m 31 #[.val (.int p1)] [(.ref b42)]))
    have kp49 : Keep h0 h46 [] := kp45.trans K46 (allS (Or.inr gb44) all0)
    refine go_retA K X46 rfl rfl rfl d6_31 (by decide) (by decide) ?_
    rw [e46]
    exact ⟨b42, rfl, kp49, f47, f48⟩
  · intro (hc41 : ¬ p1 < (-128 : Int32))
    refine go_iloadN K X0 d6_6 rfl rfl ?_
    refine go_getS K X0 (host := "") (Or.inl (wd hw 38 rfl)) Via.refl e0 (H2.ext H1.2) d6_7 rfl ?_
    intro T50 X50 e50
    refine go_icmp K X50 d6_10 (by decide) rfl rfl ?_ ?_
    · intro (hc51 : (127 : Int32) < p1)
      refine go_new K X50 (wd hw 107 rfl) (wd hw 108 rfl) (wd hw 36 rfl) e50 d6_23 rfl (cells' := 1) (slots' := 1) rfl rfl (by decide) (by decide) ?_
      intro T52 h52 b52 g52 X52 e52 E52 A52 D52
      have ga53 : n0 ≤ b52 := Nat.le_trans H0 (Nat.le_of_eq g52.symm)
      have gb54 : h0.size ≤ b52 := Nat.le_trans (Keep.refl h0 []).1 (Nat.le_of_eq g52.symm)
      have kp55 : Keep h0 h52 [] := (Keep.refl h0 []).trans (Keep.ext (Keep.refl _ []) E52) all0
      refine go_dup K X52 d6_26 rfl rfl ?_
      refine go_iloadN K X52 d6_27 rfl rfl ?_
      refine go_init K X52 (a := b52) (argsL := [(.int p1)]) (stk := [(.ref b52)]) (wd hw 109 rfl) (wd hw 110 rfl) (wd hw 36 rfl) (wd hw 111 rfl) (by decide) rfl (lenOf pd_1 rfl) e52 (rmIntInit hw b52 p1 (.int (0 : Int32)) h52 ga53 A52 (D52 (Or.inr (wd hw 106 rfl)) (ty := .int) (by decide) : Fld Z h52 b52 "java/lang/Integer" "value" "I" (.int (0 : Int32)))) rfl rfl d6_28 rfl (by decide) (W := 1) (Nat.le_of_eq rfl) (by decide) (cells' := 1) (slots' := 1) rfl rfl (by decide) (by decide) ?_
      rintro T56 h56 _ X56 e56 ⟨rfl, K56, f57, f58⟩
      show Go _ _ _ _ _ _ _ (T56.setTop (mkF m 31 #[.val (.int p1)] [(.ref b52)]))
      have kp59 : Keep h0 h56 [] := kp55.trans K56 (allS (Or.inr gb54) all0)
      refine go_retA K X56 rfl rfl rfl d6_31 (by decide) (by decide) ?_
      rw [e56]
      exact ⟨b52, rfl, kp59, f57, f58⟩
    · intro (hc51 : ¬ (127 : Int32) < p1)
      obtain ⟨vs, hvs, hel⟩ := H4
      obtain ⟨i, hi, b, hb1, hb2, hb3⟩ := hel p1 hc41 hc51
      refine go_getS K X50 (host := "") (Or.inl (wd hw 40 rfl)) Via.refl e50 (H3.ext H1.2) d6_13 rfl ?_
      intro T60 X60 e60
      refine go_iloadN K X60 d6_16 rfl rfl ?_
      refine go_sipush K X60 (128 : Int32) d6_17 rfl rfl ?_
      refine go_iadd K X60 d6_20 rfl ?_
      refine go_aaload K X60 e60 (hvs.ext H1.2) (i := i) hi hb1 rfl d6_21 rfl ?_
      refine go_retA K X60 rfl rfl rfl d6_22 (by decide) (by decide) ?_
      rw [e60]
      exact ⟨b, rfl, (Keep.refl h0 []), (hb2.ext H1.2), (hb3.ext H1.2)⟩
theorem d12_0 : decode jdk_31_method_10_code 0 = .ok (.aload_n 0, 1) := by decide +kernel
theorem d12_1 : decode jdk_31_method_10_code 1 = .ok (.ifnonnull 11, 3) := by decide +kernel
theorem d12_12 : decode jdk_31_method_10_code 12 = .ok (.aload_n 0, 1) := by decide +kernel
theorem d12_13 : decode jdk_31_method_10_code 13 = .ok (.areturn, 1) := by decide +kernel
theorem pn_java_util_Objects : plainName "java/util/Objects" = true := by first | (simp [plainName, overriddenIn]; done) | decide +kernel
theorem ef_rmRnn (m : MethodId) (a1 : Addr) : entryFrame m #[(.ref a1)] 1 = mkF m 0 #[.val (.ref a1)] [] := by first | (simp [entryFrame, mkF, argsToLocals, Value.category]; done) | rfl
def Q_rmRnn (Z : State) (n0 : Nat) (a1 : Addr) (h0 : Heap) (v : Option Value) (h : Heap) : Prop := v = some (.ref a1) ∧ h = h0
abbrev R_rmRnn : Room := { frames := 0, cells := 0, slots := 0, locals := 0 }
set_option maxRecDepth 65536 in
set_option maxHeartbeats 40000000 in
theorem rmRnn {l : Launch} {Z : State} {n0 : Nat} {a0 : Array Value} (hw : ∀ d ∈ tables_1, d.before a0 Z = true) (a1 : Addr) (h0 : Heap) :
    Con l Z n0 (⟨"java/util/Objects", "requireNonNull", "(Ljava/lang/Object;)Ljava/lang/Object;"⟩ : MethodName) jdk_31_method_10_code 1 (some (.object "java/lang/Object")) R_rmRnn #[(.ref a1)] h0 (Q_rmRnn Z n0 a1 h0) := by
  refine con_of (plainFor_of_name pn_java_util_Objects) ?_
  intro p e s m below meth c T0 K X0 e0
  replace K : Ctx p s m meth c Z "java/util/Objects" "requireNonNull" jdk_31_method_10_code 1 (some (.object "java/lang/Object")) := K
  refine go_entry (ef_rmRnn m a1) ?_
  refine go_aloadN K X0 d12_0 rfl rfl rfl ?_
  refine go_nonnullT K X0 d12_1 (by decide) rfl ?_
  refine go_aloadN K X0 d12_12 rfl rfl rfl ?_
  refine go_retA K X0 rfl rfl rfl d12_13 (by decide) (by decide) ?_
  rw [e0]
  exact ⟨rfl, rfl⟩
theorem d8_0 : decode jdk_44_method_2_code 0 = .ok (.aload_n 0, 1) := by decide +kernel
theorem d8_1 : decode jdk_44_method_2_code 1 = .ok (.invokespecial 1, 3) := by decide +kernel
theorem d8_4 : decode jdk_44_method_2_code 4 = .ok (.aload_n 0, 1) := by decide +kernel
theorem d8_5 : decode jdk_44_method_2_code 5 = .ok (.aload_n 1, 1) := by decide +kernel
theorem d8_6 : decode jdk_44_method_2_code 6 = .ok (.invokestatic 7, 3) := by decide +kernel
theorem pd_2 : parseMethodDescriptor "(Ljava/lang/Object;)Ljava/lang/Object;" = some ⟨[(.object "java/lang/Object")], some (.object "java/lang/Object")⟩ := by decide +kernel
theorem d8_9 : decode jdk_44_method_2_code 9 = .ok (.putfield 13, 3) := by decide +kernel
theorem d8_12 : decode jdk_44_method_2_code 12 = .ok (.aload_n 0, 1) := by decide +kernel
theorem d8_13 : decode jdk_44_method_2_code 13 = .ok (.aload_n 2, 1) := by decide +kernel
theorem d8_14 : decode jdk_44_method_2_code 14 = .ok (.invokestatic 7, 3) := by decide +kernel
theorem d8_17 : decode jdk_44_method_2_code 17 = .ok (.putfield 24, 3) := by decide +kernel
theorem d8_20 : decode jdk_44_method_2_code 20 = .ok (.return_, 1) := by decide +kernel
theorem pn_java_util_ImmutableCollections_List12 : plainName "java/util/ImmutableCollections$List12" = true := by first | (simp [plainName, overriddenIn]; done) | decide +kernel
theorem ef_rmL12 (m : MethodId) (a1 : Addr) (a2 : Addr) (a3 : Addr) : entryFrame m #[(.ref a1), (.ref a2), (.ref a3)] 3 = mkF m 0 #[.val (.ref a1), .val (.ref a2), .val (.ref a3)] [] := by first | (simp [entryFrame, mkF, argsToLocals, Value.category]; done) | rfl
def Q_rmL12 (Z : State) (n0 : Nat) (a1 : Addr) (a2 : Addr) (a3 : Addr) (u0 : Value) (u1 : Value) (h0 : Heap) (v : Option Value) (h : Heap) : Prop := v = none ∧ Keep h0 h [a1] ∧ Exa Z h a1 "java/util/ImmutableCollections$List12" ∧ Fld Z h a1 "java/util/ImmutableCollections$List12" "e0" "Ljava/lang/Object;" (.ref a2) ∧ Fld Z h a1 "java/util/ImmutableCollections$List12" "e1" "Ljava/lang/Object;" (.ref a3)
abbrev R_rmL12 : Room := { frames := 4, cells := 0, slots := 0, locals := 48 }
set_option maxRecDepth 65536 in
set_option maxHeartbeats 40000000 in
theorem rmL12 {l : Launch} {Z : State} {n0 : Nat} {a0 : Array Value} (hw : ∀ d ∈ tables_1, d.before a0 Z = true) (a1 : Addr) (a2 : Addr) (a3 : Addr) (u0 : Value) (u1 : Value) (h0 : Heap) (H0 : n0 ≤ a1) (H1 : Exa Z h0 a1 "java/util/ImmutableCollections$List12") (H2 : Fld Z h0 a1 "java/util/ImmutableCollections$List12" "e0" "Ljava/lang/Object;" u0) (H3 : Fld Z h0 a1 "java/util/ImmutableCollections$List12" "e1" "Ljava/lang/Object;" u1) :
    Con l Z n0 (⟨"java/util/ImmutableCollections$List12", "<init>", "(Ljava/lang/Object;Ljava/lang/Object;)V"⟩ : MethodName) jdk_44_method_2_code 3 none R_rmL12 #[(.ref a1), (.ref a2), (.ref a3)] h0 (Q_rmL12 Z n0 a1 a2 a3 u0 u1 h0) := by
  refine con_of (plainFor_of_name pn_java_util_ImmutableCollections_List12) ?_
  intro p e s m below meth c T0 K X0 e0
  replace K : Ctx p s m meth c Z "java/util/ImmutableCollections$List12" "<init>" jdk_44_method_2_code 3 none := K
  refine go_entry (ef_rmL12 m a1 a2 a3) ?_
  refine go_aloadN K X0 d8_0 rfl rfl rfl ?_
  refine go_init K X0 (a := a1) (argsL := []) (stk := []) (wd hw 52 rfl) (wd hw 53 rfl) (wd hw 56 rfl) (wd hw 57 rfl) (by decide) rfl (lenOf pd_0 rfl) e0 (rmAIL hw a1 h0 ) rfl rfl d8_1 rfl (by decide) (W := 0) (Nat.le_of_eq rfl) (by decide) (cells' := 0) (slots' := 0) rfl rfl (by decide) (by decide) ?_
  rintro T61 h61 _ X61 e61 ⟨rfl, qe61⟩
  show Go _ _ _ _ _ _ _ (T61.setTop (mkF m 4 #[.val (.ref a1), .val (.ref a2), .val (.ref a3)] []))
  replace e61 := e61.trans qe61
  refine go_aloadN K X61 d8_4 rfl rfl rfl ?_
  refine go_aloadN K X61 d8_5 rfl rfl rfl ?_
  refine go_static K X61 (argsL := [(.ref a2)]) (stk := [(.ref a1)]) (wd hw 71 rfl) (wd hw 72 rfl) (wd hw 73 rfl) (wd hw 74 rfl) (by decide) (lenOf pd_2 rfl) e61 (rmRnn hw a2 h0 ) rfl rfl d8_6 rfl (by decide) (W := 1) (Nat.le_of_eq rfl) (by decide) (cells' := 0) (slots' := 0) rfl rfl (by decide) (by decide) ?_
  rintro T62 h62 _ X62 e62 ⟨rfl, qe62⟩
  show Go _ _ _ _ _ _ _ (T62.setTop (mkF m 9 #[.val (.ref a1), .val (.ref a2), .val (.ref a3)] [(.ref a2), (.ref a1)]))
  replace e62 := e62.trans qe62
  refine go_putF K X62 (host := "") (Or.inl (wd hw 75 rfl)) Via.refl e62 H2 H1 (Or.inr ⟨(wd hw 76 rfl), rfl, rfl⟩) (wd hw 46 rfl) (ty := (.object "java/lang/Object")) (by decide) rfl rfl H0 d8_9 rfl ?_
  intro T63 h63 X63 e63 W63
  have kp64 : Keep h0 h63 [a1] := (Keep.refl h0 [a1]).trans (Keep.of_wr W63) (allS (Or.inl (List.mem_of_getElem? (i := 0) rfl)) all0)
  have f65 : Fld Z h63 a1 "java/util/ImmutableCollections$List12" "e0" "Ljava/lang/Object;" (.ref a2) := H2.same W63
  refine go_aloadN K X63 d8_12 rfl rfl rfl ?_
  refine go_aloadN K X63 d8_13 rfl rfl rfl ?_
  refine go_static K X63 (argsL := [(.ref a3)]) (stk := [(.ref a1)]) (wd hw 71 rfl) (wd hw 72 rfl) (wd hw 73 rfl) (wd hw 74 rfl) (by decide) (lenOf pd_2 rfl) e63 (rmRnn hw a3 h63 ) rfl rfl d8_14 rfl (by decide) (W := 1) (Nat.le_of_eq rfl) (by decide) (cells' := 0) (slots' := 0) rfl rfl (by decide) (by decide) ?_
  rintro T66 h66 _ X66 e66 ⟨rfl, qe66⟩
  show Go _ _ _ _ _ _ _ (T66.setTop (mkF m 17 #[.val (.ref a1), .val (.ref a2), .val (.ref a3)] [(.ref a3), (.ref a1)]))
  replace e66 := e66.trans qe66
  have f67 : Exa Z h63 a1 "java/util/ImmutableCollections$List12" := (H1.keep (Keep.of_wr W63))
  have f68 : Fld Z h63 a1 "java/util/ImmutableCollections$List12" "e1" "Ljava/lang/Object;" u1 := (H3.other W63 (Or.inr (slot_ne (Or.inr (wd hw 78 rfl)) (Or.inr (wd hw 76 rfl)) (by decide) (t := (.object "java/lang/Object")) (t' := (.object "java/lang/Object")) (by decide) (by decide))))
  refine go_putF K X66 (host := "") (Or.inl (wd hw 77 rfl)) Via.refl e66 f68 f67 (Or.inr ⟨(wd hw 78 rfl), rfl, rfl⟩) (wd hw 46 rfl) (ty := (.object "java/lang/Object")) (by decide) rfl rfl H0 d8_17 rfl ?_
  intro T69 h69 X69 e69 W69
  have kp70 : Keep h0 h69 [a1] := kp64.trans (Keep.of_wr W69) (allS (Or.inl (List.mem_of_getElem? (i := 0) rfl)) all0)
  have f71 : Fld Z h69 a1 "java/util/ImmutableCollections$List12" "e1" "Ljava/lang/Object;" (.ref a3) := f68.same W69
  refine go_ret K X69 d8_20 (by decide) (by decide) ?_
  have f72 : Exa Z h69 a1 "java/util/ImmutableCollections$List12" := (f67.keep (Keep.of_wr W69))
  have f73 : Fld Z h69 a1 "java/util/ImmutableCollections$List12" "e0" "Ljava/lang/Object;" (.ref a2) := (f65.other W69 (Or.inr (slot_ne (Or.inr (wd hw 76 rfl)) (Or.inr (wd hw 78 rfl)) (by decide) (t := (.object "java/lang/Object")) (t' := (.object "java/lang/Object")) (by decide) (by decide))))
  rw [e69]
  exact ⟨rfl, kp70, f72, f73, f71⟩
theorem d7_0 : decode jdk_40_method_38_code 0 = .ok (.new 96, 3) := by decide +kernel
theorem d7_3 : decode jdk_40_method_38_code 3 = .ok (.dup, 1) := by decide +kernel
theorem d7_4 : decode jdk_40_method_38_code 4 = .ok (.aload_n 0, 1) := by decide +kernel
theorem d7_5 : decode jdk_40_method_38_code 5 = .ok (.aload_n 1, 1) := by decide +kernel
theorem d7_6 : decode jdk_40_method_38_code 6 = .ok (.invokespecial 100, 3) := by decide +kernel
theorem pd_3 : parseMethodDescriptor "(Ljava/lang/Object;Ljava/lang/Object;)V" = some ⟨[(.object "java/lang/Object"), (.object "java/lang/Object")], none⟩ := by decide +kernel
theorem d7_9 : decode jdk_40_method_38_code 9 = .ok (.areturn, 1) := by decide +kernel
theorem pn_java_util_List : plainName "java/util/List" = true := by first | (simp [plainName, overriddenIn]; done) | decide +kernel
theorem ef_rmOf (m : MethodId) (a1 : Addr) (a2 : Addr) : entryFrame m #[(.ref a1), (.ref a2)] 2 = mkF m 0 #[.val (.ref a1), .val (.ref a2)] [] := by first | (simp [entryFrame, mkF, argsToLocals, Value.category]; done) | rfl
def Q_rmOf (Z : State) (n0 : Nat) (a1 : Addr) (a2 : Addr) (h0 : Heap) (v : Option Value) (h : Heap) : Prop := ∃ r : Addr, v = some (.ref r) ∧ Keep h0 h [] ∧ h0.size ≤ r ∧ Exa Z h r "java/util/ImmutableCollections$List12" ∧ Fld Z h r "java/util/ImmutableCollections$List12" "e0" "Ljava/lang/Object;" (.ref a1) ∧ Fld Z h r "java/util/ImmutableCollections$List12" "e1" "Ljava/lang/Object;" (.ref a2)
abbrev R_rmOf : Room := { frames := 5, cells := 1, slots := 2, locals := 63 }
set_option maxRecDepth 65536 in
set_option maxHeartbeats 40000000 in
theorem rmOf {l : Launch} {Z : State} {n0 : Nat} {a0 : Array Value} (hw : ∀ d ∈ tables_1, d.before a0 Z = true) (a1 : Addr) (a2 : Addr) (h0 : Heap) (H0 : n0 ≤ h0.size) :
    Con l Z n0 (⟨"java/util/List", "of", "(Ljava/lang/Object;Ljava/lang/Object;)Ljava/util/List;"⟩ : MethodName) jdk_40_method_38_code 2 (some (.object "java/util/List")) R_rmOf #[(.ref a1), (.ref a2)] h0 (Q_rmOf Z n0 a1 a2 h0) := by
  refine con_of (plainFor_of_name pn_java_util_List) ?_
  intro p e s m below meth c T0 K X0 e0
  replace K : Ctx p s m meth c Z "java/util/List" "of" jdk_40_method_38_code 2 (some (.object "java/util/List")) := K
  refine go_entry (ef_rmOf m a1 a2) ?_
  refine go_new K X0 (wd hw 45 rfl) (wd hw 46 rfl) (wd hw 47 rfl) e0 d7_0 rfl (cells' := 1) (slots' := 2) rfl rfl (by decide) (by decide) ?_
  intro T74 h74 b74 g74 X74 e74 E74 A74 D74
  have ga75 : n0 ≤ b74 := Nat.le_trans H0 (Nat.le_of_eq g74.symm)
  have gb76 : h0.size ≤ b74 := Nat.le_trans (Keep.refl h0 []).1 (Nat.le_of_eq g74.symm)
  have kp77 : Keep h0 h74 [] := (Keep.refl h0 []).trans (Keep.ext (Keep.refl _ []) E74) all0
  refine go_dup K X74 d7_3 rfl rfl ?_
  refine go_aloadN K X74 d7_4 rfl rfl rfl ?_
  refine go_aloadN K X74 d7_5 rfl rfl rfl ?_
  refine go_init K X74 (a := b74) (argsL := [(.ref a1), (.ref a2)]) (stk := [(.ref b74)]) (wd hw 48 rfl) (wd hw 49 rfl) (wd hw 47 rfl) (wd hw 51 rfl) (by decide) rfl (lenOf pd_3 rfl) e74 (rmL12 hw b74 a1 a2 .null .null h74 ga75 A74 (D74 (Or.inr (wd hw 76 rfl)) (ty := (.object "java/lang/Object")) (by decide) : Fld Z h74 b74 "java/util/ImmutableCollections$List12" "e0" "Ljava/lang/Object;" .null) (D74 (Or.inr (wd hw 78 rfl)) (ty := (.object "java/lang/Object")) (by decide) : Fld Z h74 b74 "java/util/ImmutableCollections$List12" "e1" "Ljava/lang/Object;" .null)) rfl rfl d7_6 rfl (by decide) (W := 1) (Nat.le_of_eq rfl) (by decide) (cells' := 1) (slots' := 2) rfl rfl (by decide) (by decide) ?_
  rintro T78 h78 _ X78 e78 ⟨rfl, K78, f79, f80, f81⟩
  show Go _ _ _ _ _ _ _ (T78.setTop (mkF m 9 #[.val (.ref a1), .val (.ref a2)] [(.ref b74)]))
  have kp82 : Keep h0 h78 [] := kp77.trans K78 (allS (Or.inr gb76) all0)
  refine go_retA K X78 rfl rfl rfl d7_9 (by decide) (by decide) ?_
  rw [e78]
  exact ⟨b74, rfl, kp82, gb76, f79, f80, f81⟩
theorem d5_0 : decode prog_3_method_2_code 0 = .ok (.aload_n 0, 1) := by decide +kernel
theorem d5_1 : decode prog_3_method_2_code 1 = .ok (.getfield 13, 3) := by decide +kernel
theorem d5_4 : decode prog_3_method_2_code 4 = .ok (.invokestatic 26, 3) := by decide +kernel
theorem pd_4 : parseMethodDescriptor "(I)Ljava/lang/Integer;" = some ⟨[.int], some (.object "java/lang/Integer")⟩ := by decide +kernel
theorem d5_7 : decode prog_3_method_2_code 7 = .ok (.aload_n 0, 1) := by decide +kernel
theorem d5_8 : decode prog_3_method_2_code 8 = .ok (.getfield 23, 3) := by decide +kernel
theorem d5_11 : decode prog_3_method_2_code 11 = .ok (.invokestatic 26, 3) := by decide +kernel
theorem d5_14 : decode prog_3_method_2_code 14 = .ok (.invokestatic 32, 3) := by decide +kernel
theorem pd_5 : parseMethodDescriptor "(Ljava/lang/Object;Ljava/lang/Object;)Ljava/util/List;" = some ⟨[(.object "java/lang/Object"), (.object "java/lang/Object")], some (.object "java/util/List")⟩ := by decide +kernel
theorem d5_17 : decode prog_3_method_2_code 17 = .ok (.areturn, 1) := by decide +kernel
theorem ef_rmArgs (m : MethodId) (a1 : Addr) : entryFrame m #[(.ref a1)] 1 = mkF m 0 #[.val (.ref a1)] [] := by first | (simp [entryFrame, mkF, argsToLocals, Value.category]; done) | rfl
def Q_rmArgs (Z : State) (n0 : Nat) (a1 : Addr) (ca : Addr) (p2 : Int32) (p3 : Int32) (h0 : Heap) (v : Option Value) (h : Heap) : Prop := ∃ r : Addr, ∃ x : Addr, ∃ y : Addr, v = some (.ref r) ∧ Keep h0 h [] ∧ Exa Z h r "java/util/ImmutableCollections$List12" ∧ Fld Z h r "java/util/ImmutableCollections$List12" "e0" "Ljava/lang/Object;" (.ref x) ∧ Fld Z h r "java/util/ImmutableCollections$List12" "e1" "Ljava/lang/Object;" (.ref y) ∧ Exa Z h x "java/lang/Integer" ∧ Fld Z h x "java/lang/Integer" "value" "I" (.int p2) ∧ Exa Z h y "java/lang/Integer" ∧ Fld Z h y "java/lang/Integer" "value" "I" (.int p3)
abbrev R_rmArgs : Room := { frames := 6, cells := 3, slots := 4, locals := 76 }
set_option maxRecDepth 65536 in
set_option maxHeartbeats 40000000 in
theorem rmArgs {l : Launch} {Z : State} {n0 : Nat} {a0 : Array Value} (hw : ∀ d ∈ tables_1, d.before a0 Z = true) (a1 : Addr) (ca : Addr) (p2 : Int32) (p3 : Int32) (h0 : Heap) (H0 : n0 ≤ h0.size) (H1 : Old Z n0 h0) (H2 : Sta Z Z.heap "java/lang/Integer$IntegerCache" "high" "I" (.int (127 : Int32))) (H3 : Sta Z Z.heap "java/lang/Integer$IntegerCache" "cache" "[Ljava/lang/Integer;" (.ref ca)) (H4 : own_cache Z ca) (H5 : Fld Z h0 a1 "com/example/early_clock/earlyclock/Definition$Delay" "source" "I" (.int p2)) (H6 : Fld Z h0 a1 "com/example/early_clock/earlyclock/Definition$Delay" "on" "I" (.int p3)) :
    Con l Z n0 (⟨"com/example/early_clock/earlyclock/Definition$Delay", "arguments", "()Ljava/util/List;"⟩ : MethodName) prog_3_method_2_code 1 (some (.object "java/util/List")) R_rmArgs #[(.ref a1)] h0 (Q_rmArgs Z n0 a1 ca p2 p3 h0) := by
  refine con_of (plainFor_of_name pn_com_example_early_clock_earlyclock_Definition_Delay) ?_
  intro p e s m below meth c T0 K X0 e0
  replace K : Ctx p s m meth c Z "com/example/early_clock/earlyclock/Definition$Delay" "arguments" prog_3_method_2_code 1 (some (.object "java/util/List")) := K
  refine go_entry (ef_rmArgs m a1) ?_
  refine go_aloadN K X0 d5_0 rfl rfl rfl ?_
  refine go_getF K X0 (host := "") (Or.inl (wd hw 21 rfl)) Via.refl e0 H5 d5_1 rfl ?_
  intro T83 X83 e83
  refine go_static K X83 (argsL := [(.int p2)]) (stk := []) (wd hw 34 rfl) (wd hw 35 rfl) (wd hw 36 rfl) (wd hw 37 rfl) (by decide) (lenOf pd_4 rfl) e83 (rmVal hw p2 ca h0 H0 H1 H2 H3 H4) rfl rfl d5_4 rfl (by decide) (W := 0) (Nat.le_of_eq rfl) (by decide) (cells' := 1) (slots' := 1) rfl rfl (by decide) (by decide) ?_
  rintro T84 h84 _ X84 e84 ⟨r85, rfl, K84, f86, f87⟩
  show Go _ _ _ _ _ _ _ (T84.setTop (mkF m 7 #[.val (.ref a1)] [(.ref r85)]))
  have kp88 : Keep h0 h84 [] := (Keep.refl h0 []).trans K84 all0
  refine go_aloadN K X84 d5_7 rfl rfl rfl ?_
  have f89 : Fld Z h84 a1 "com/example/early_clock/earlyclock/Definition$Delay" "on" "I" (.int p3) := (H6.keep K84 nin0)
  refine go_getF K X84 (host := "") (Or.inl (wd hw 27 rfl)) Via.refl e84 f89 d5_8 rfl ?_
  intro T90 X90 e90
  have f91 : Old Z n0 h84 := (H1.keep K84 all0)
  refine go_static K X90 (argsL := [(.int p3)]) (stk := [(.ref r85)]) (wd hw 34 rfl) (wd hw 35 rfl) (wd hw 36 rfl) (wd hw 37 rfl) (by decide) (lenOf pd_4 rfl) e90 (rmVal hw p3 ca h84 (Nat.le_trans H0 K84.1) f91 H2 H3 H4) rfl rfl d5_11 rfl (by decide) (W := 1) (Nat.le_of_eq rfl) (by decide) (cells' := 2) (slots' := 2) rfl rfl (by decide) (by decide) ?_
  rintro T92 h92 _ X92 e92 ⟨r93, rfl, K92, f94, f95⟩
  show Go _ _ _ _ _ _ _ (T92.setTop (mkF m 14 #[.val (.ref a1)] [(.ref r93), (.ref r85)]))
  have kp96 : Keep h0 h92 [] := kp88.trans K92 all0
  refine go_static K X92 (argsL := [(.ref r85), (.ref r93)]) (stk := []) (wd hw 41 rfl) (wd hw 42 rfl) (wd hw 43 rfl) (wd hw 44 rfl) (by decide) (lenOf pd_5 rfl) e92 (rmOf hw r85 r93 h92 (Nat.le_trans (Nat.le_trans H0 K84.1) K92.1)) rfl rfl d5_14 rfl (by decide) (W := 0) (Nat.le_of_eq rfl) (by decide) (cells' := 3) (slots' := 4) rfl rfl (by decide) (by decide) ?_
  rintro T97 h97 _ X97 e97 ⟨r98, rfl, K97, f99, f100, f101, f102⟩
  show Go _ _ _ _ _ _ _ (T97.setTop (mkF m 17 #[.val (.ref a1)] [(.ref r98)]))
  have ga103 : n0 ≤ r98 := Nat.le_trans (Nat.le_trans (Nat.le_trans H0 K84.1) K92.1) f99
  have gb104 : h0.size ≤ r98 := Nat.le_trans kp96.1 f99
  have kp105 : Keep h0 h97 [] := kp96.trans K97 all0
  refine go_retA K X97 rfl rfl rfl d5_17 (by decide) (by decide) ?_
  have f106 : Exa Z h97 r85 "java/lang/Integer" := ((f86.keep K92).keep K97)
  have f107 : Fld Z h97 r85 "java/lang/Integer" "value" "I" (.int p2) := ((f87.keep K92 nin0).keep K97 nin0)
  have f108 : Exa Z h97 r93 "java/lang/Integer" := (f94.keep K97)
  have f109 : Fld Z h97 r93 "java/lang/Integer" "value" "I" (.int p3) := (f95.keep K97 nin0)
  rw [e97]
  exact ⟨r98, r85, r93, rfl, kp105, f100, f101, f102, f106, f107, f108, f109⟩
theorem d13_0 : decode jdk_44_method_3_code 0 = .ok (.aload_n 0, 1) := by decide +kernel
theorem d13_1 : decode jdk_44_method_3_code 1 = .ok (.getfield 24, 3) := by decide +kernel
theorem d13_4 : decode jdk_44_method_3_code 4 = .ok (.getstatic 19, 3) := by decide +kernel
theorem d13_7 : decode jdk_44_method_3_code 7 = .ok (.if_acmp .eq 7, 3) := by decide +kernel
theorem d13_10 : decode jdk_44_method_3_code 10 = .ok (.iconst 2, 1) := by decide +kernel
theorem d13_11 : decode jdk_44_method_3_code 11 = .ok (.goto 4, 3) := by decide +kernel
theorem d13_15 : decode jdk_44_method_3_code 15 = .ok (.ireturn, 1) := by decide +kernel
theorem ef_rmSize (m : MethodId) (a1 : Addr) : entryFrame m #[(.ref a1)] 1 = mkF m 0 #[.val (.ref a1)] [] := by first | (simp [entryFrame, mkF, argsToLocals, Value.category]; done) | rfl
def Q_rmSize (Z : State) (n0 : Nat) (a1 : Addr) (y : Addr) (em : Addr) (h0 : Heap) (v : Option Value) (h : Heap) : Prop := v = some (.int (2 : Int32)) ∧ h = h0
abbrev R_rmSize : Room := { frames := 0, cells := 0, slots := 0, locals := 0 }
set_option maxRecDepth 65536 in
set_option maxHeartbeats 40000000 in
theorem rmSize {l : Launch} {Z : State} {n0 : Nat} {a0 : Array Value} (hw : ∀ d ∈ tables_1, d.before a0 Z = true) (a1 : Addr) (y : Addr) (em : Addr) (h0 : Heap) (H0 : Old Z n0 h0) (H1 : Sta Z Z.heap "java/util/ImmutableCollections" "EMPTY" "Ljava/lang/Object;" (.ref em)) (H2 : Fld Z h0 a1 "java/util/ImmutableCollections$List12" "e1" "Ljava/lang/Object;" (.ref y)) (H3 : ¬ Value.ref y = Value.ref em) :
    Con l Z n0 (⟨"java/util/ImmutableCollections$List12", "size", "()I"⟩ : MethodName) jdk_44_method_3_code 1 (some .int) R_rmSize #[(.ref a1)] h0 (Q_rmSize Z n0 a1 y em h0) := by
  refine con_of (plainFor_of_name pn_java_util_ImmutableCollections_List12) ?_
  intro p e s m below meth c T0 K X0 e0
  replace K : Ctx p s m meth c Z "java/util/ImmutableCollections$List12" "size" jdk_44_method_3_code 1 (some .int) := K
  refine go_entry (ef_rmSize m a1) ?_
  refine go_aloadN K X0 d13_0 rfl rfl rfl ?_
  refine go_getF K X0 (host := "") (Or.inl (wd hw 77 rfl)) Via.refl e0 H2 d13_1 rfl ?_
  intro T110 X110 e110
  refine go_getS K X110 (Or.inr (wd hw 88 rfl)) Via.refl e110 (H1.ext H0.2) d13_4 rfl ?_
  intro T111 X111 e111
  refine go_acmpF K X111 d13_7 rfl rfl rfl (XT.aa_eq_f H3) ?_
  refine go_iconst K X111 (2 : Int32) d13_10 rfl rfl ?_
  refine go_goto K X111 d13_11 (by decide) rfl ?_
  refine go_retI K X111 d13_15 (by decide) (by decide) ?_
  rw [e111]
  exact ⟨rfl, rfl⟩
theorem d14_0 : decode jdk_44_method_5_code 0 = .ok (.iload_n 1, 1) := by decide +kernel
theorem d14_1 : decode jdk_44_method_5_code 1 = .ok (.ifCond .ne 8, 3) := by decide +kernel
theorem d14_4 : decode jdk_44_method_5_code 4 = .ok (.aload_n 0, 1) := by decide +kernel
theorem d14_5 : decode jdk_44_method_5_code 5 = .ok (.getfield 13, 3) := by decide +kernel
theorem d14_8 : decode jdk_44_method_5_code 8 = .ok (.areturn, 1) := by decide +kernel
theorem ef_rmGet0 (m : MethodId) (a1 : Addr) : entryFrame m #[(.ref a1), (.int (0 : Int32))] 2 = mkF m 0 #[.val (.ref a1), .val (.int (0 : Int32))] [] := by first | (simp [entryFrame, mkF, argsToLocals, Value.category]; done) | rfl
def Q_rmGet0 (Z : State) (n0 : Nat) (a1 : Addr) (y : Addr) (h0 : Heap) (v : Option Value) (h : Heap) : Prop := v = some (.ref y) ∧ h = h0
abbrev R_rmGet0 : Room := { frames := 0, cells := 0, slots := 0, locals := 0 }
set_option maxRecDepth 65536 in
set_option maxHeartbeats 40000000 in
theorem rmGet0 {l : Launch} {Z : State} {n0 : Nat} {a0 : Array Value} (hw : ∀ d ∈ tables_1, d.before a0 Z = true) (a1 : Addr) (y : Addr) (h0 : Heap) (H0 : Fld Z h0 a1 "java/util/ImmutableCollections$List12" "e0" "Ljava/lang/Object;" (.ref y)) :
    Con l Z n0 (⟨"java/util/ImmutableCollections$List12", "get", "(I)Ljava/lang/Object;"⟩ : MethodName) jdk_44_method_5_code 2 (some (.object "java/lang/Object")) R_rmGet0 #[(.ref a1), (.int (0 : Int32))] h0 (Q_rmGet0 Z n0 a1 y h0) := by
  refine con_of (plainFor_of_name pn_java_util_ImmutableCollections_List12) ?_
  intro p e s m below meth c T0 K X0 e0
  replace K : Ctx p s m meth c Z "java/util/ImmutableCollections$List12" "get" jdk_44_method_5_code 2 (some (.object "java/lang/Object")) := K
  refine go_entry (ef_rmGet0 m a1) ?_
  refine go_iloadN K X0 d14_0 rfl rfl ?_
  refine go_ifF K X0 d14_1 rfl (by decide : (0 : Int32) = (0 : Int32)) ?_
  refine go_aloadN K X0 d14_4 rfl rfl rfl ?_
  refine go_getF K X0 (host := "") (Or.inl (wd hw 75 rfl)) Via.refl e0 H0 d14_5 rfl ?_
  intro T112 X112 e112
  refine go_retA K X112 rfl rfl rfl d14_8 (by decide) (by decide) ?_
  rw [e112]
  exact ⟨rfl, rfl⟩
theorem d14_9 : decode jdk_44_method_5_code 9 = .ok (.iload_n 1, 1) := by decide +kernel
theorem d14_10 : decode jdk_44_method_5_code 10 = .ok (.iconst 1, 1) := by decide +kernel
theorem d14_11 : decode jdk_44_method_5_code 11 = .ok (.if_icmp .ne 18, 3) := by decide +kernel
theorem d14_14 : decode jdk_44_method_5_code 14 = .ok (.aload_n 0, 1) := by decide +kernel
theorem d14_15 : decode jdk_44_method_5_code 15 = .ok (.getfield 24, 3) := by decide +kernel
theorem d14_18 : decode jdk_44_method_5_code 18 = .ok (.getstatic 19, 3) := by decide +kernel
theorem d14_21 : decode jdk_44_method_5_code 21 = .ok (.if_acmp .eq 8, 3) := by decide +kernel
theorem d14_24 : decode jdk_44_method_5_code 24 = .ok (.aload_n 0, 1) := by decide +kernel
theorem d14_25 : decode jdk_44_method_5_code 25 = .ok (.getfield 24, 3) := by decide +kernel
theorem d14_28 : decode jdk_44_method_5_code 28 = .ok (.areturn, 1) := by decide +kernel
theorem ef_rmGet1 (m : MethodId) (a1 : Addr) : entryFrame m #[(.ref a1), (.int (1 : Int32))] 2 = mkF m 0 #[.val (.ref a1), .val (.int (1 : Int32))] [] := by first | (simp [entryFrame, mkF, argsToLocals, Value.category]; done) | rfl
def Q_rmGet1 (Z : State) (n0 : Nat) (a1 : Addr) (y : Addr) (em : Addr) (h0 : Heap) (v : Option Value) (h : Heap) : Prop := v = some (.ref y) ∧ h = h0
abbrev R_rmGet1 : Room := { frames := 0, cells := 0, slots := 0, locals := 0 }
set_option maxRecDepth 65536 in
set_option maxHeartbeats 40000000 in
theorem rmGet1 {l : Launch} {Z : State} {n0 : Nat} {a0 : Array Value} (hw : ∀ d ∈ tables_1, d.before a0 Z = true) (a1 : Addr) (y : Addr) (em : Addr) (h0 : Heap) (H0 : Old Z n0 h0) (H1 : Sta Z Z.heap "java/util/ImmutableCollections" "EMPTY" "Ljava/lang/Object;" (.ref em)) (H2 : Fld Z h0 a1 "java/util/ImmutableCollections$List12" "e1" "Ljava/lang/Object;" (.ref y)) (H3 : ¬ Value.ref y = Value.ref em) :
    Con l Z n0 (⟨"java/util/ImmutableCollections$List12", "get", "(I)Ljava/lang/Object;"⟩ : MethodName) jdk_44_method_5_code 2 (some (.object "java/lang/Object")) R_rmGet1 #[(.ref a1), (.int (1 : Int32))] h0 (Q_rmGet1 Z n0 a1 y em h0) := by
  refine con_of (plainFor_of_name pn_java_util_ImmutableCollections_List12) ?_
  intro p e s m below meth c T0 K X0 e0
  replace K : Ctx p s m meth c Z "java/util/ImmutableCollections$List12" "get" jdk_44_method_5_code 2 (some (.object "java/lang/Object")) := K
  refine go_entry (ef_rmGet1 m a1) ?_
  refine go_iloadN K X0 d14_0 rfl rfl ?_
  refine go_ifT K X0 d14_1 (by decide) rfl (by decide : ¬ (1 : Int32) = (0 : Int32)) ?_
  refine go_iloadN K X0 d14_9 rfl rfl ?_
  refine go_iconst K X0 (1 : Int32) d14_10 rfl rfl ?_
  refine go_icmpF K X0 d14_11 rfl (by decide : (1 : Int32) = (1 : Int32)) ?_
  refine go_aloadN K X0 d14_14 rfl rfl rfl ?_
  refine go_getF K X0 (host := "") (Or.inl (wd hw 77 rfl)) Via.refl e0 H2 d14_15 rfl ?_
  intro T113 X113 e113
  refine go_getS K X113 (Or.inr (wd hw 88 rfl)) Via.refl e113 (H1.ext H0.2) d14_18 rfl ?_
  intro T114 X114 e114
  refine go_acmpF K X114 d14_21 rfl rfl rfl (XT.aa_eq_f H3) ?_
  refine go_aloadN K X114 d14_24 rfl rfl rfl ?_
  refine go_getF K X114 (host := "") (Or.inl (wd hw 77 rfl)) Via.refl e114 H2 d14_25 rfl ?_
  intro T115 X115 e115
  refine go_retA K X115 rfl rfl rfl d14_28 (by decide) (by decide) ?_
  rw [e115]
  exact ⟨rfl, rfl⟩
theorem d15_0 : decode jdk_33_method_27_code 0 = .ok (.aload_n 0, 1) := by decide +kernel
theorem d15_1 : decode jdk_33_method_27_code 1 = .ok (.getfield 205, 3) := by decide +kernel
theorem d15_4 : decode jdk_33_method_27_code 4 = .ok (.ireturn, 1) := by decide +kernel
theorem ef_rmInt (m : MethodId) (a1 : Addr) : entryFrame m #[(.ref a1)] 1 = mkF m 0 #[.val (.ref a1)] [] := by first | (simp [entryFrame, mkF, argsToLocals, Value.category]; done) | rfl
def Q_rmInt (Z : State) (n0 : Nat) (a1 : Addr) (p2 : Int32) (h0 : Heap) (v : Option Value) (h : Heap) : Prop := v = some (.int p2) ∧ h = h0
abbrev R_rmInt : Room := { frames := 0, cells := 0, slots := 0, locals := 0 }
set_option maxRecDepth 65536 in
set_option maxHeartbeats 40000000 in
theorem rmInt {l : Launch} {Z : State} {n0 : Nat} {a0 : Array Value} (hw : ∀ d ∈ tables_1, d.before a0 Z = true) (a1 : Addr) (p2 : Int32) (h0 : Heap) (H0 : Fld Z h0 a1 "java/lang/Integer" "value" "I" (.int p2)) :
    Con l Z n0 (⟨"java/lang/Integer", "intValue", "()I"⟩ : MethodName) jdk_33_method_27_code 1 (some .int) R_rmInt #[(.ref a1)] h0 (Q_rmInt Z n0 a1 p2 h0) := by
  refine con_of (plainFor_of_name pn_java_lang_Integer) ?_
  intro p e s m below meth c T0 K X0 e0
  replace K : Ctx p s m meth c Z "java/lang/Integer" "intValue" jdk_33_method_27_code 1 (some .int) := K
  refine go_entry (ef_rmInt m a1) ?_
  refine go_aloadN K X0 d15_0 rfl rfl rfl ?_
  refine go_getF K X0 (host := "") (Or.inl (wd hw 105 rfl)) Via.refl e0 H0 d15_1 rfl ?_
  intro T116 X116 e116
  refine go_retI K X116 d15_4 (by decide) (by decide) ?_
  rw [e116]
  exact ⟨rfl, rfl⟩
theorem pd_6 : parseMethodDescriptor "(JJ)J" = some ⟨[.long, .long], some .long⟩ := by decide +kernel
theorem pd_7 : parseMethodDescriptor "(IIJJI)V" = some ⟨[.int, .int, .long, .long, .int], none⟩ := by decide +kernel
theorem pd_8 : parseMethodDescriptor "()Ljava/util/List;" = some ⟨[], some (.object "java/util/List")⟩ := by decide +kernel
theorem pd_9 : parseMethodDescriptor "()I" = some ⟨[], some .int⟩ := by decide +kernel
theorem pd_10 : parseMethodDescriptor "(I)Ljava/lang/Object;" = some ⟨[.int], some (.object "java/lang/Object")⟩ := by decide +kernel
theorem pn_com_example_early_clock_earlyclock_DelayArgumentsPinLaw : plainName "com/example/early_clock/earlyclock/DelayArgumentsPinLaw" = true := by first | (simp [plainName, overriddenIn]; done) | decide +kernel
theorem ef_rmLaw (m : MethodId) (p1 : Int32) (p2 : Int32) (q3 : Int64) (q4 : Int64) (p5 : Int32) : entryFrame m #[(.int p1), (.int p2), (.long q3), (.long q4), (.int p5)] maxLocals = mkF m 0 #[.val (.int p1), .val (.int p2), .val (.long q3), .second, .val (.long q4), .second, .val (.int p5), .unset, .unset, .unset, .unset, .unset, .unset, .unset, .unset] [] := by first | (simp [entryFrame, mkF, argsToLocals, Value.category, maxLocals]; done) | rfl
def Q_rmLaw (Z : State) (n0 : Nat) (p1 : Int32) (p2 : Int32) (q3 : Int64) (q4 : Int64) (p5 : Int32) (ca : Addr) (em : Addr) (h0 : Heap) (v : Option Value) (h : Heap) : Prop := v = some (.int (1 : Int32)) ∧ Keep h0 h []
set_option maxRecDepth 65536 in
set_option maxHeartbeats 40000000 in
theorem rmLaw {l : Launch} {Z : State} {n0 : Nat} {a0 : Array Value} (hw : ∀ d ∈ tables_1, d.before a0 Z = true) (p1 : Int32) (p2 : Int32) (q3 : Int64) (q4 : Int64) (p5 : Int32) (ca : Addr) (em : Addr) (h0 : Heap) (H0 : n0 ≤ h0.size) (H1 : Old Z n0 h0) (H2 : Sta Z Z.heap "java/lang/Integer$IntegerCache" "high" "I" (.int (127 : Int32))) (H3 : Sta Z Z.heap "java/lang/Integer$IntegerCache" "cache" "[Ljava/lang/Integer;" (.ref ca)) (H4 : own_cache Z ca) (H5 : Sta Z Z.heap "java/util/ImmutableCollections" "EMPTY" "Ljava/lang/Object;" (.ref em)) (H6 : Exa Z h0 em "java/lang/Object") :
    Con l Z n0 x code maxLocals ret room_1 #[(.int p1), (.int p2), (.long q3), (.long q4), (.int p5)] h0 (Q_rmLaw Z n0 p1 p2 q3 q4 p5 ca em h0) := by
  refine con_of (plainFor_of_name pn_com_example_early_clock_earlyclock_DelayArgumentsPinLaw) ?_
  intro p e s m below meth c T0 K X0 e0
  replace K : Ctx p s m meth c Z "com/example/early_clock/earlyclock/DelayArgumentsPinLaw" "law" code maxLocals (some .boolean) := K
  refine go_entry (ef_rmLaw m p1 p2 q3 q4 p5) ?_
  refine go_lloadN K X0 at_0 rfl rfl ?_
  refine go_ldc2J K X0 (wd hw 0 rfl) at_1 rfl ?_
  refine go_land K X0 at_4 rfl ?_
  refine go_lstore K X0 #[.val (.int p1), .val (.int p2), .val (.long q3), .second, .val (.long q4), .second, .val (.int p5), .val (.long (q3 &&& (9223372036854775807 : Int64))), .second, .unset, .unset, .unset, .unset, .unset, .unset] at_5 rfl rfl ?_
  refine go_lload K X0 at_7 rfl rfl ?_
  refine go_lload K X0 at_9 rfl rfl ?_
  refine go_ldc2J K X0 (wd hw 0 rfl) at_11 rfl ?_
  refine go_land K X0 at_14 rfl ?_
  refine go_static K X0 (argsL := [(.long (q3 &&& (9223372036854775807 : Int64))), (.long (q4 &&& (9223372036854775807 : Int64)))]) (stk := []) (wd hw 1 rfl) (wd hw 2 rfl) (wd hw 3 rfl) (wd hw 4 rfl) (by decide) (lenOf pd_6 rfl) e0 (rmMax hw (q3 &&& (9223372036854775807 : Int64)) (q4 &&& (9223372036854775807 : Int64)) h0 ) rfl rfl at_15 rfl (by decide) (W := 0) (Nat.le_of_eq rfl) (by decide) (cells' := 0) (slots' := 0) rfl rfl (by decide) (by decide) ?_
  rintro T117 h117 _ X117 e117 ⟨rfl, qe117⟩
  show Go _ _ _ _ _ _ _ (T117.setTop (mkF m 18 #[.val (.int p1), .val (.int p2), .val (.long q3), .second, .val (.long q4), .second, .val (.int p5), .val (.long (q3 &&& (9223372036854775807 : Int64))), .second, .unset, .unset, .unset, .unset, .unset, .unset] [(.long (own_maxL (q3 &&& (9223372036854775807 : Int64)) (q4 &&& (9223372036854775807 : Int64))))]))
  replace e117 := e117.trans qe117
  generalize h_hi : (own_maxL (q3 &&& (9223372036854775807 : Int64)) (q4 &&& (9223372036854775807 : Int64))) = hi
  refine go_lstore K X117 #[.val (.int p1), .val (.int p2), .val (.long q3), .second, .val (.long q4), .second, .val (.int p5), .val (.long (q3 &&& (9223372036854775807 : Int64))), .second, .val (.long hi), .second, .unset, .unset, .unset, .unset] at_18 rfl rfl ?_
  refine go_new K X117 (wd hw 5 rfl) (wd hw 6 rfl) (wd hw 7 rfl) e117 at_20 rfl (cells' := 1) (slots' := 5) rfl rfl (by decide) (by decide) ?_
  intro T118 h118 b118 g118 X118 e118 E118 A118 D118
  have ga119 : n0 ≤ b118 := Nat.le_trans H0 (Nat.le_of_eq g118.symm)
  have gb120 : h0.size ≤ b118 := Nat.le_trans (Keep.refl h0 []).1 (Nat.le_of_eq g118.symm)
  have kp121 : Keep h0 h118 [] := (Keep.refl h0 []).trans (Keep.ext (Keep.refl _ []) E118) all0
  refine go_dup K X118 at_23 rfl rfl ?_
  refine go_iloadN K X118 at_24 rfl rfl ?_
  refine go_iloadN K X118 at_25 rfl rfl ?_
  refine go_lload K X118 at_26 rfl rfl ?_
  refine go_lload K X118 at_28 rfl rfl ?_
  refine go_iload K X118 at_30 rfl rfl ?_
  refine go_init K X118 (a := b118) (argsL := [(.int p1), (.int p2), (.long (q3 &&& (9223372036854775807 : Int64))), (.long hi), (.int p5)]) (stk := [(.ref b118)]) (wd hw 8 rfl) (wd hw 9 rfl) (wd hw 7 rfl) (wd hw 10 rfl) (by decide) rfl (lenOf pd_7 rfl) e118 (rmInit hw b118 p1 p2 (q3 &&& (9223372036854775807 : Int64)) hi p5 (.int (0 : Int32)) (.int (0 : Int32)) (.long (0 : Int64)) (.long (0 : Int64)) (.int (0 : Int32)) h118 ga119 A118 (D118 (Or.inr (wd hw 20 rfl)) (ty := .int) (by decide) : Fld Z h118 b118 "com/example/early_clock/earlyclock/Definition$Delay" "clock" "I" (.int (0 : Int32))) (D118 (Or.inr (wd hw 22 rfl)) (ty := .int) (by decide) : Fld Z h118 b118 "com/example/early_clock/earlyclock/Definition$Delay" "source" "I" (.int (0 : Int32))) (D118 (Or.inr (wd hw 24 rfl)) (ty := .long) (by decide) : Fld Z h118 b118 "com/example/early_clock/earlyclock/Definition$Delay" "least" "J" (.long (0 : Int64))) (D118 (Or.inr (wd hw 26 rfl)) (ty := .long) (by decide) : Fld Z h118 b118 "com/example/early_clock/earlyclock/Definition$Delay" "most" "J" (.long (0 : Int64))) (D118 (Or.inr (wd hw 28 rfl)) (ty := .int) (by decide) : Fld Z h118 b118 "com/example/early_clock/earlyclock/Definition$Delay" "on" "I" (.int (0 : Int32)))) rfl rfl at_32 rfl (by decide) (W := 1) (Nat.le_of_eq rfl) (by decide) (cells' := 1) (slots' := 5) rfl rfl (by decide) (by decide) ?_
  rintro T122 h122 _ X122 e122 ⟨rfl, K122, f123, f124, f125, f126, f127, f128⟩
  show Go _ _ _ _ _ _ _ (T122.setTop (mkF m 35 #[.val (.int p1), .val (.int p2), .val (.long q3), .second, .val (.long q4), .second, .val (.int p5), .val (.long (q3 &&& (9223372036854775807 : Int64))), .second, .val (.long hi), .second, .unset, .unset, .unset, .unset] [(.ref b118)]))
  have kp129 : Keep h0 h122 [] := kp121.trans K122 (allS (Or.inr gb120) all0)
  refine go_astore K X122 #[.val (.int p1), .val (.int p2), .val (.long q3), .second, .val (.long q4), .second, .val (.int p5), .val (.long (q3 &&& (9223372036854775807 : Int64))), .second, .val (.long hi), .second, .val (.ref b118), .unset, .unset, .unset] at_35 rfl rfl rfl ?_
  refine go_aload K X122 at_37 rfl rfl rfl ?_
  have f130 : Old Z n0 h122 := ((H1.ext E118).keep K122 (allS ga119 all0))
  refine go_virt K X122 (a := b118) (argsL := []) (stk := []) (wd hw 29 rfl) (wd hw 30 rfl) (wd hw 32 rfl) (wd hw 32 rfl) (wd hw 31 rfl) (wd hw 33 rfl) (wd hw 7 rfl) (by decide) (lenOf pd_8 rfl) e122 f123 (rmArgs hw b118 ca p2 p5 h122 (Nat.le_trans (Nat.le_trans H0 (Keep.ext (Keep.refl _ []) E118).1) K122.1) f130 H2 H3 H4 f125 f128) rfl rfl at_39 rfl (by decide) (W := 0) (Nat.le_of_eq rfl) (by decide) (cells' := 4) (slots' := 9) rfl rfl (by decide) (by decide) ?_
  rintro T131 h131 _ X131 e131 ⟨r132, x133, y134, rfl, K131, f135, f136, f137, f138, f139, f140, f141⟩
  show Go _ _ _ _ _ _ _ (T131.setTop (mkF m 42 #[.val (.int p1), .val (.int p2), .val (.long q3), .second, .val (.long q4), .second, .val (.int p5), .val (.long (q3 &&& (9223372036854775807 : Int64))), .second, .val (.long hi), .second, .val (.ref b118), .unset, .unset, .unset] [(.ref r132)]))
  have kp142 : Keep h0 h131 [] := kp129.trans K131 all0
  have f143 : Exa Z h131 em "java/lang/Object" := (((H6.keep (Keep.ext (Keep.refl _ []) E118)).keep K122).keep K131)
  have ney : ¬ Value.ref y134 = Value.ref em := fun q => ne_exa f140 f143 (by decide) (Value.ref.inj q)
  refine go_astore K X131 #[.val (.int p1), .val (.int p2), .val (.long q3), .second, .val (.long q4), .second, .val (.int p5), .val (.long (q3 &&& (9223372036854775807 : Int64))), .second, .val (.long hi), .second, .val (.ref b118), .val (.ref r132), .unset, .unset] at_42 rfl rfl rfl ?_
  refine go_aload K X131 at_44 rfl rfl rfl ?_
  have f144 : Old Z n0 h131 := (f130.keep K131 all0)
  refine go_face K X131 (a := r132) (argsL := []) (stk := []) (wd hw 79 rfl) (wd hw 80 rfl) (wd hw 81 rfl) (wd hw 82 rfl) (wd hw 83 rfl) (wd hw 84 rfl) (wd hw 85 rfl) (wd hw 86 rfl) (wd hw 87 rfl) (wd hw 47 rfl) (by decide) (lenOf pd_9 rfl) e131 f135 (rmSize hw r132 y134 em h131 f144 H5 f137 ney) rfl rfl at_46 rfl (by decide) (W := 0) (Nat.le_of_eq rfl) (by decide) (cells' := 4) (slots' := 9) rfl rfl (by decide) (by decide) ?_
  rintro T145 h145 _ X145 e145 ⟨rfl, qe145⟩
  show Go _ _ _ _ _ _ _ (T145.setTop (mkF m 51 #[.val (.int p1), .val (.int p2), .val (.long q3), .second, .val (.long q4), .second, .val (.int p5), .val (.long (q3 &&& (9223372036854775807 : Int64))), .second, .val (.long hi), .second, .val (.ref b118), .val (.ref r132), .unset, .unset] [(.int (2 : Int32))]))
  replace e145 := e145.trans qe145
  refine go_iconst K X145 (2 : Int32) at_51 rfl rfl ?_
  refine go_icmpT K X145 at_52 (by decide) rfl (by decide : (2 : Int32) = (2 : Int32)) ?_
  refine go_aload K X145 at_57 rfl rfl rfl ?_
  refine go_iconst K X145 (0 : Int32) at_59 rfl rfl ?_
  refine go_face K X145 (a := r132) (argsL := [(.int (0 : Int32))]) (stk := []) (wd hw 90 rfl) (wd hw 91 rfl) (wd hw 92 rfl) (wd hw 93 rfl) (wd hw 94 rfl) (wd hw 95 rfl) (wd hw 96 rfl) (wd hw 86 rfl) (wd hw 97 rfl) (wd hw 47 rfl) (by decide) (lenOf pd_10 rfl) e145 f135 (rmGet0 hw r132 x133 h131 f136) rfl rfl at_60 rfl (by decide) (W := 0) (Nat.le_of_eq rfl) (by decide) (cells' := 4) (slots' := 9) rfl rfl (by decide) (by decide) ?_
  rintro T146 h146 _ X146 e146 ⟨rfl, qe146⟩
  show Go _ _ _ _ _ _ _ (T146.setTop (mkF m 65 #[.val (.int p1), .val (.int p2), .val (.long q3), .second, .val (.long q4), .second, .val (.int p5), .val (.long (q3 &&& (9223372036854775807 : Int64))), .second, .val (.long hi), .second, .val (.ref b118), .val (.ref r132), .unset, .unset] [(.ref x133)]))
  replace e146 := e146.trans qe146
  refine go_cast K X146 (wd hw 98 rfl) e146 (Ins.self f138) at_65 rfl ?_
  intro T147 X147 e147
  refine go_astore K X147 #[.val (.int p1), .val (.int p2), .val (.long q3), .second, .val (.long q4), .second, .val (.int p5), .val (.long (q3 &&& (9223372036854775807 : Int64))), .second, .val (.long hi), .second, .val (.ref b118), .val (.ref r132), .val (.ref x133), .unset] at_68 rfl rfl rfl ?_
  refine go_aload K X147 at_70 rfl rfl rfl ?_
  refine go_iconst K X147 (1 : Int32) at_72 rfl rfl ?_
  refine go_face K X147 (a := r132) (argsL := [(.int (1 : Int32))]) (stk := []) (wd hw 90 rfl) (wd hw 91 rfl) (wd hw 92 rfl) (wd hw 93 rfl) (wd hw 94 rfl) (wd hw 95 rfl) (wd hw 96 rfl) (wd hw 86 rfl) (wd hw 97 rfl) (wd hw 47 rfl) (by decide) (lenOf pd_10 rfl) e147 f135 (rmGet1 hw r132 y134 em h131 f144 H5 f137 ney) rfl rfl at_73 rfl (by decide) (W := 0) (Nat.le_of_eq rfl) (by decide) (cells' := 4) (slots' := 9) rfl rfl (by decide) (by decide) ?_
  rintro T148 h148 _ X148 e148 ⟨rfl, qe148⟩
  show Go _ _ _ _ _ _ _ (T148.setTop (mkF m 78 #[.val (.int p1), .val (.int p2), .val (.long q3), .second, .val (.long q4), .second, .val (.int p5), .val (.long (q3 &&& (9223372036854775807 : Int64))), .second, .val (.long hi), .second, .val (.ref b118), .val (.ref r132), .val (.ref x133), .unset] [(.ref y134)]))
  replace e148 := e148.trans qe148
  refine go_cast K X148 (wd hw 98 rfl) e148 (Ins.self f140) at_78 rfl ?_
  intro T149 X149 e149
  refine go_astore K X149 #[.val (.int p1), .val (.int p2), .val (.long q3), .second, .val (.long q4), .second, .val (.int p5), .val (.long (q3 &&& (9223372036854775807 : Int64))), .second, .val (.long hi), .second, .val (.ref b118), .val (.ref r132), .val (.ref x133), .val (.ref y134)] at_81 rfl rfl rfl ?_
  refine go_aload K X149 at_83 rfl rfl rfl ?_
  refine go_virt K X149 (a := x133) (argsL := []) (stk := []) (wd hw 100 rfl) (wd hw 101 rfl) (wd hw 103 rfl) (wd hw 103 rfl) (wd hw 102 rfl) (wd hw 104 rfl) (wd hw 36 rfl) (by decide) (lenOf pd_9 rfl) e149 f138 (rmInt hw x133 p2 h131 f139) rfl rfl at_85 rfl (by decide) (W := 0) (Nat.le_of_eq rfl) (by decide) (cells' := 4) (slots' := 9) rfl rfl (by decide) (by decide) ?_
  rintro T150 h150 _ X150 e150 ⟨rfl, qe150⟩
  show Go _ _ _ _ _ _ _ (T150.setTop (mkF m 88 #[.val (.int p1), .val (.int p2), .val (.long q3), .second, .val (.long q4), .second, .val (.int p5), .val (.long (q3 &&& (9223372036854775807 : Int64))), .second, .val (.long hi), .second, .val (.ref b118), .val (.ref r132), .val (.ref x133), .val (.ref y134)] [(.int p2)]))
  replace e150 := e150.trans qe150
  refine go_iloadN K X150 at_88 rfl rfl ?_
  refine go_icmpF K X150 at_89 rfl (rfl : p2 = p2) ?_
  refine go_aload K X150 at_92 rfl rfl rfl ?_
  refine go_virt K X150 (a := y134) (argsL := []) (stk := []) (wd hw 100 rfl) (wd hw 101 rfl) (wd hw 103 rfl) (wd hw 103 rfl) (wd hw 102 rfl) (wd hw 104 rfl) (wd hw 36 rfl) (by decide) (lenOf pd_9 rfl) e150 f140 (rmInt hw y134 p5 h131 f141) rfl rfl at_94 rfl (by decide) (W := 0) (Nat.le_of_eq rfl) (by decide) (cells' := 4) (slots' := 9) rfl rfl (by decide) (by decide) ?_
  rintro T151 h151 _ X151 e151 ⟨rfl, qe151⟩
  show Go _ _ _ _ _ _ _ (T151.setTop (mkF m 97 #[.val (.int p1), .val (.int p2), .val (.long q3), .second, .val (.long q4), .second, .val (.int p5), .val (.long (q3 &&& (9223372036854775807 : Int64))), .second, .val (.long hi), .second, .val (.ref b118), .val (.ref r132), .val (.ref x133), .val (.ref y134)] [(.int p5)]))
  replace e151 := e151.trans qe151
  refine go_iload K X151 at_97 rfl rfl ?_
  refine go_icmpF K X151 at_99 rfl (rfl : p5 = p5) ?_
  refine go_iconst K X151 (1 : Int32) at_102 rfl rfl ?_
  refine go_goto K X151 at_103 (by decide) rfl ?_
  refine go_retZ K X151 (Or.inr rfl) at_107 (by decide) (by decide) ?_
  rw [e151]
  exact ⟨rfl, kp142⟩
set_option maxRecDepth 65536 in
set_option maxHeartbeats 40000000 in
theorem comes_1 {Post : Tables → Env → Array Value → State → Outcome → State → Prop} (hpost : ∀ tb e args s v u, (limb_1_1.after args s (.returned v) u = true ∧ limb_1_2.after args s (.returned v) u = true ∧ True) → FrameEnd s (.returned v) u (Jvm.fieldLocs frame_1_writes args s ++ Jvm.arrayLocs frame_1_arrays args s ++ Jvm.staticLocs frame_1_statics s) 16 128 → Post tb e args s (.returned v) u) :
    ArmFor flags0 classFile x code maxLocals ret World_1 tables_1 room_1 Calls_1 rest_1 Pre_1 Post := by
  intro l hfl _ _ p e ha hc hk s m args below hf hA hF happ hP
  obtain ⟨hcalls, hrest, hpre⟩ := hP
  obtain ⟨-, -, -, hnamed, -, -, -, hat⟩ := (Spec.applies_iff hf).mp happ
  obtain ⟨hg, hn⟩ := and_e (Cond.before_iff.mp (show (Jvm.Cond.and given_1 narrow_1).before args s = true from hpre))
  obtain ⟨g1, g2⟩ := and_e hg
  obtain ⟨g3, g4⟩ := and_e g2
  obtain ⟨g5, g6⟩ := and_e g4
  obtain ⟨g7, g8⟩ := and_e g6
  obtain ⟨g9, g10⟩ := and_e g8
  obtain ⟨w0, w1, w2, w3, w4, rfl⟩ : ∃ w0 w1 w2 w3 w4 : Value, args = #[w0, w1, w2, w3, w4] := by
    have hs : args.size = 5 := by simpa [Cond.value, given_1] using g1
    obtain ⟨L⟩ := args
    match L, hs with
    | [w0, w1, w2, w3, w4], _ => exact ⟨w0, w1, w2, w3, w4, rfl⟩
  have hw := fun d (hd : d ∈ tables_1) => atoms_spec (ws := Jvm.Cond.code x code maxLocals ret :: tables_1) hat d (List.mem_cons_of_mem _ hd)
  have hfit : Fit s := fun {y c} hc i hi => by
    obtain ⟨ha, rfl⟩ := Array.getElem?_eq_some_iff.mp hc
    have q := List.all_eq_true.mp ((Array.all_eq_true_iff_forall_mem.mp hF) _ (Array.getElem_mem ha)) i (List.mem_range.mpr hi)
    simpa [Array.getElem?_eq_getElem hi] using q
  obtain ⟨hsets, hown0⟩ := atoms_of _ (rest_1_c_eq ▸ (show rest_1_c.before _ s = true from hrest))
  have hr0 := Cond.before_iff.mp hown0
  obtain ⟨i0, ei0⟩ := is_v g3
  obtain rfl : w0 = (.int i0) := Option.some.inj ei0
  obtain ⟨i1, ei1⟩ := is_v g5
  obtain rfl : w1 = (.int i1) := Option.some.inj ei1
  obtain ⟨i2, ei2⟩ := isL_v g7
  obtain rfl : w2 = (.long i2) := Option.some.inj ei2
  obtain ⟨i3, ei3⟩ := isL_v g9
  obtain rfl : w3 = (.long i3) := Option.some.inj ei3
  obtain ⟨i4, ei4⟩ := is_v g10
  obtain rfl : w4 = (.int i4) := Option.some.inj ei4
  have sHi := Sta.start (own_eq_int (Cond.before_iff.mp (hsets _ (List.mem_of_getElem? (i := 3) rfl)))) (Or.inl (hsets _ (List.mem_of_getElem? (i := 1) rfl)))
  obtain ⟨ca, vca⟩ := exa_v (Cond.before_iff.mp (hsets _ (List.mem_of_getElem? (i := 5) rfl)))
  have sCa := Sta.start vca (Or.inr ⟨(wd hw 39 rfl), (hsets _ (List.mem_of_getElem? (i := 2) rfl))⟩)
  have rCa := own_cache_of (fun _ => vca) (Cond.before_iff.mp (hsets _ (List.mem_of_getElem? (i := 4) rfl))) (Cond.before_iff.mp (hsets _ (List.mem_of_getElem? (i := 6) rfl))) (Cond.before_iff.mp (hsets _ (List.mem_of_getElem? (i := 7) rfl)))
  obtain ⟨em, vem⟩ := exa_v (Cond.before_iff.mp (hsets _ (List.mem_of_getElem? (i := 10) rfl)))
  have sEm := Sta.start vem (Or.inl (hsets _ (List.mem_of_getElem? (i := 9) rfl)))
  have xEm := Exa.start vem (Cond.before_iff.mp (hsets _ (List.mem_of_getElem? (i := 10) rfl)))
  obtain ⟨n, o, h1, h2, h3, _, L, rfl, ⟨⟨rfl, -⟩, N⟩, hq⟩ := rmLaw (l := l) (n0 := s.heap.size) hw i0 i1 i2 i3 i4 ca em s.heap (Nat.le_refl _) (Old.start s) sHi sCa rCa sEm xEm tables_1 p e ha hc hk s m _ below hf ((Spec.applies_iff_loose hf).mp happ).1 ⟨rfl, State.Warmed39.refl s, rfl⟩ trivial
  refine ⟨n, _, h1, h2, h3, hpost _ _ _ _ _ _ ⟨Cond.after_iff.mpr rfl, Cond.after_iff.mpr (eq_i res_at (Term.int_eval (1)) rfl), trivial⟩ ⟨hq.1, hq.2.1, (hq.2.2.sift fun y hy => Or.inr (N y hy)).mono (by decide) (by decide)⟩⟩
theorem main_1_1 : Claimed_1_1 := comes_1 fun _ _ _ _ _ _ h hF => ⟨h.1, hF⟩
theorem main_1_2 : Claimed_1_2 := comes_1 fun _ _ _ _ _ _ h hF => ⟨h.2.1, hF⟩
end Jvm.Pilot.@@N@@
namespace Jvm.Pilot.@@N@@
open Jvm Jvm.ClassFile Sem Op Lib Jvm.Free Jvm.Stand Jvm.Pilot.@@N@@.Jvm.D
/-! MADE BY PROGRAM (witnessworld.py) out of the Statement's table words and the real class files: 31 classes; the members and pool entries that the words name. The judged class is class 1, her method 1. -/
namespace start1
open Jvm.ClassFile
def u (s : String) : CpInfo := .utf8 (stringToUtf16 s)
/-- a pool by its gaps: so many unusable entries, then the entry; so many at the end -/
def gap : Nat → List CpInfo → List CpInfo
  | 0, r => r
  | n + 1, r => .unusable :: gap n r
def poolList (es : List (Nat × CpInfo)) (last : Nat) : List CpInfo := es.foldr (fun e r => gap e.1 (e.2 :: r)) (gap last [])
def pool (es : List (Nat × CpInfo)) (last : Nat) : Array CpInfo := ⟨poolList es last⟩
def fileOf (pool : Array CpInfo) (this : Nat) (attrs : Array Attribute := #[]) (ms : Array MethodInfo := #[]) (fl : Nat := 33) (sup : Nat := 0) (ifs : Array Nat := #[]) (fds : Array FieldInfo := #[]) : ClassFile where
  minorVersion := 0
  majorVersion := 65
  constantPool := pool
  accessFlags := fl
  thisClass := this
  superClass := sup
  interfaces := ifs
  fields := fds
  methods := ms
  attributes := attrs
def plain (name : String) (sup : Option ClassId) : Class where
  name := name
  kind := .ordinary
  loader := none
  accessFlags := 33
  super := sup
  interfaces := #[]
  cf := none
  fields := #[]
  methods := #[]
  instanceTypes := #[]
  staticTypes := #[]
  resolved := #[]
  callSites := []
  init := .initialized
  statics := none
  mirror := none

def pool0 : Array CpInfo := pool [(5, u "<init>"), (0, u "()V"), (1, .class_ 10), (1, u "java/lang/Object")] 113

def k0c0 : Code := { maxStack := 0, maxLocals := 1, code := object_method_1_code, exceptionTable := #[], attributes := #[] }
def k0m0 : Method := { name := "<init>", desc := "()V", sig := { parameters := [], returnType := none }, accessFlags := 1, code := some k0c0 }
/-- java/lang/Object -/
def k0 : Class := { plain "java/lang/Object" none with
  accessFlags := 33
  interfaces := #[]
  cf := some (fileOf pool0 8 #[] #[{ accessFlags := 1, nameIndex := 5, descriptorIndex := 6, attributes := #[] }] 33 0 #[] #[])
  fields := #[]
  methods := #[k0m0]
  instanceTypes := #[]
  staticTypes := #[]
  resolved := Array.replicate 124 none
  statics := none }

def pool1 : Array CpInfo := pool [(2, .class_ 4), (1, u "java/lang/Object"), (0, u "<init>"), (0, u "()V"), (2, .long 9223372036854775807), (1, .methodref 12 13), (0, .class_ 14), (0, .nameAndType 15 16), (0, u "java/lang/Math"), (0, u "max"), (0, u "(JJ)J"), (0, .class_ 18), (0, u "com/example/early_clock/earlyclock/Definition$Delay"), (0, .methodref 17 20), (0, .nameAndType 5 21), (0, u "(IIJJI)V"), (0, .methodref 17 23), (0, .nameAndType 24 25), (0, u "arguments"), (0, u "()Ljava/util/List;"), (0, .interfaceMethodref 27 28), (0, .class_ 29), (0, .nameAndType 30 31), (0, u "java/util/List"), (0, u "size"), (0, u "()I"), (0, .interfaceMethodref 27 33), (0, .nameAndType 34 35), (0, u "get"), (0, u "(I)Ljava/lang/Object;"), (0, .class_ 37), (0, u "java/lang/Integer"), (0, .methodref 36 39), (0, .nameAndType 40 31), (0, u "intValue"), (0, .class_ 42), (0, u "com/example/early_clock/earlyclock/DelayArgumentsPinLaw"), (2, u "law"), (0, u "(IIJJI)Z")] 7

def k1m0 : Method := { name := "<init>", desc := "()V", sig := { parameters := [], returnType := none }, accessFlags := 2, code := none }
def k1c1 : Code := { maxStack := 9, maxLocals := 15, code := code, exceptionTable := #[], attributes := #[] }
def k1m1 : Method := { name := "law", desc := "(IIJJI)Z", sig := { parameters := [.int, .int, .long, .long, .int], returnType := some .boolean }, accessFlags := 9, code := some k1c1 }
/-- com/example/early_clock/earlyclock/DelayArgumentsPinLaw -/
def k1 : Class := { plain "com/example/early_clock/earlyclock/DelayArgumentsPinLaw" (some 0) with
  accessFlags := 49
  interfaces := #[]
  cf := some (fileOf pool1 41 #[] #[{ accessFlags := 2, nameIndex := 5, descriptorIndex := 6, attributes := #[] }, { accessFlags := 9, nameIndex := 45, descriptorIndex := 46, attributes := #[] }] 49 2 #[] #[])
  fields := #[]
  methods := #[k1m0, k1m1]
  instanceTypes := #[]
  staticTypes := #[]
  resolved := Array.replicate 54 none
  statics := none }

def pool2 : Array CpInfo := pool [(1, .class_ 2), (0, u "java/lang/Math"), (1, .class_ 6), (1, u "java/lang/Object"), (0, u "<init>"), (0, u "()V"), (89, .class_ 100), (1, u "java/lang/Math$RandomNumberGeneratorHolder"), (20, u "(JJ)J"), (50, u "negativeZeroFloatBits"), (0, u "J"), (2, u "negativeZeroDoubleBits"), (21, u "max"), (46, u "$assertionsDisabled"), (0, u "Z"), (91, u "twoToTheDoubleScaleDown"), (0, u "D"), (4, u "twoToTheDoubleScaleUp"), (9, u "E"), (3, u "PI"), (2, u "TAU"), (2, u "DEGREES_TO_RADIANS"), (0, u "RADIANS_TO_DEGREES")] 94

def k2m0 : Method := { name := "<init>", desc := "()V", sig := { parameters := [], returnType := none }, accessFlags := 2, code := none }
def k2c1 : Code := { maxStack := 4, maxLocals := 4, code := jdk_29_method_66_code, exceptionTable := #[], attributes := #[] }
def k2m1 : Method := { name := "max", desc := "(JJ)J", sig := { parameters := [.long, .long], returnType := some .long }, accessFlags := 9, code := some k2c1 }
/-- java/lang/Math -/
def k2 : Class := { plain "java/lang/Math" (some 0) with
  accessFlags := 49
  interfaces := #[]
  cf := some (fileOf pool2 1 #[.nestMembers #[98]] #[{ accessFlags := 2, nameIndex := 7, descriptorIndex := 8, attributes := #[] }, { accessFlags := 9, nameIndex := 198, descriptorIndex := 121, attributes := #[] }] 49 4 #[] #[{ accessFlags := 25, nameIndex := 354, descriptorIndex := 339, attributes := #[] }, { accessFlags := 25, nameIndex := 358, descriptorIndex := 339, attributes := #[] }, { accessFlags := 25, nameIndex := 361, descriptorIndex := 339, attributes := #[] }, { accessFlags := 26, nameIndex := 364, descriptorIndex := 339, attributes := #[] }, { accessFlags := 26, nameIndex := 365, descriptorIndex := 339, attributes := #[] }, { accessFlags := 26, nameIndex := 172, descriptorIndex := 173, attributes := #[] }, { accessFlags := 26, nameIndex := 176, descriptorIndex := 173, attributes := #[] }, { accessFlags := 8, nameIndex := 344, descriptorIndex := 339, attributes := #[] }, { accessFlags := 8, nameIndex := 338, descriptorIndex := 339, attributes := #[] }, { accessFlags := 4120, nameIndex := 245, descriptorIndex := 246, attributes := #[] }])
  fields := #[{ name := "E", type := .double, accessFlags := 25, slot := 0, constantValue := 0 }, { name := "PI", type := .double, accessFlags := 25, slot := 1, constantValue := 0 }, { name := "TAU", type := .double, accessFlags := 25, slot := 2, constantValue := 0 }, { name := "DEGREES_TO_RADIANS", type := .double, accessFlags := 26, slot := 3, constantValue := 0 }, { name := "RADIANS_TO_DEGREES", type := .double, accessFlags := 26, slot := 4, constantValue := 0 }, { name := "negativeZeroFloatBits", type := .long, accessFlags := 26, slot := 5, constantValue := 0 }, { name := "negativeZeroDoubleBits", type := .long, accessFlags := 26, slot := 6, constantValue := 0 }, { name := "twoToTheDoubleScaleUp", type := .double, accessFlags := 8, slot := 7, constantValue := 0 }, { name := "twoToTheDoubleScaleDown", type := .double, accessFlags := 8, slot := 8, constantValue := 0 }, { name := "$assertionsDisabled", type := .boolean, accessFlags := 4120, slot := 9, constantValue := 0 }]
  methods := #[k2m0, k2m1]
  instanceTypes := #[]
  staticTypes := #[.double, .double, .double, .double, .double, .long, .long, .double, .double, .boolean]
  resolved := Array.replicate 460 none
  statics := none }

def pool3 : Array CpInfo := pool [(1, .methodref 2 3), (0, .class_ 4), (0, .nameAndType 5 6), (0, u "java/lang/Object"), (0, u "<init>"), (0, u "()V"), (0, .class_ 8), (0, u "java/lang/Record")] 13

def k3c0 : Code := { maxStack := 1, maxLocals := 1, code := jdk_30_method_1_code, exceptionTable := #[], attributes := #[] }
def k3m0 : Method := { name := "<init>", desc := "()V", sig := { parameters := [], returnType := none }, accessFlags := 4, code := some k3c0 }
/-- java/lang/Record -/
def k3 : Class := { plain "java/lang/Record" (some 0) with
  accessFlags := 1057
  interfaces := #[]
  cf := some (fileOf pool3 7 #[] #[{ accessFlags := 4, nameIndex := 5, descriptorIndex := 6, attributes := #[] }] 1057 2 #[] #[])
  fields := #[]
  methods := #[k3m0]
  instanceTypes := #[]
  staticTypes := #[]
  resolved := Array.replicate 22 none
  statics := none }

def pool4 : Array CpInfo := pool [(45, .class_ 46), (0, u "com/example/early_clock/earlyclock/Definition"), (0, .class_ 48), (0, u "java/lang/Object"), (19, .class_ 69), (0, u "com/example/early_clock/earlyclock/Definition$Sup"), (0, .class_ 71), (0, u "com/example/early_clock/earlyclock/Definition$Inf"), (0, .class_ 73), (0, u "com/example/early_clock/earlyclock/Definition$Delay"), (0, .class_ 75), (0, u "com/example/early_clock/earlyclock/Definition$Periodic")] 6

/-- com/example/early_clock/earlyclock/Definition -/
def k4 : Class := { plain "com/example/early_clock/earlyclock/Definition" (some 0) with
  accessFlags := 1537
  interfaces := #[]
  cf := some (fileOf pool4 45 #[.nestMembers #[68, 70, 72, 74]] #[] 1537 47 #[] #[])
  fields := #[]
  methods := #[]
  instanceTypes := #[]
  staticTypes := #[]
  resolved := Array.replicate 82 none
  statics := none }

def pool5 : Array CpInfo := pool [(1, .methodref 2 3), (0, .class_ 4), (0, .nameAndType 5 6), (0, u "java/lang/Record"), (0, u "<init>"), (0, u "()V"), (0, .fieldref 8 9), (0, .class_ 10), (0, .nameAndType 11 12), (0, u "com/example/early_clock/earlyclock/Definition$Delay"), (0, u "clock"), (0, u "I"), (0, .fieldref 8 14), (0, .nameAndType 15 12), (0, u "source"), (0, .fieldref 8 17), (0, .nameAndType 18 19), (0, u "least"), (0, u "J"), (0, .fieldref 8 21), (0, .nameAndType 22 19), (0, u "most"), (0, .fieldref 8 24), (0, .nameAndType 25 12), (0, u "on"), (0, .methodref 27 28), (0, .class_ 29), (0, .nameAndType 30 31), (0, u "java/lang/Integer"), (0, u "valueOf"), (0, u "(I)Ljava/lang/Integer;"), (0, .interfaceMethodref 33 34), (0, .class_ 35), (0, .nameAndType 36 37), (0, u "java/util/List"), (0, u "of"), (0, u "(Ljava/lang/Object;Ljava/lang/Object;)Ljava/util/List;"), (59, .class_ 98), (0, u "com/example/early_clock/earlyclock/Definition"), (0, u "(IIJJI)V"), (3, u "arguments"), (0, u "()Ljava/util/List;")] 38

def k5c0 : Code := { maxStack := 3, maxLocals := 8, code := prog_3_method_1_code, exceptionTable := #[], attributes := #[] }
def k5m0 : Method := { name := "<init>", desc := "(IIJJI)V", sig := { parameters := [.int, .int, .long, .long, .int], returnType := none }, accessFlags := 1, code := some k5c0 }
def k5c1 : Code := { maxStack := 2, maxLocals := 1, code := prog_3_method_2_code, exceptionTable := #[], attributes := #[] }
def k5m1 : Method := { name := "arguments", desc := "()Ljava/util/List;", sig := { parameters := [], returnType := some (.object "java/util/List") }, accessFlags := 1, code := some k5c1 }
/-- com/example/early_clock/earlyclock/Definition$Delay -/
def k5 : Class := { plain "com/example/early_clock/earlyclock/Definition$Delay" (some 3) with
  accessFlags := 49
  interfaces := #[4]
  cf := some (fileOf pool5 8 #[.nestHost 97] #[{ accessFlags := 1, nameIndex := 5, descriptorIndex := 99, attributes := #[] }, { accessFlags := 1, nameIndex := 103, descriptorIndex := 104, attributes := #[] }] 49 2 #[97] #[{ accessFlags := 18, nameIndex := 11, descriptorIndex := 12, attributes := #[] }, { accessFlags := 18, nameIndex := 15, descriptorIndex := 12, attributes := #[] }, { accessFlags := 18, nameIndex := 18, descriptorIndex := 19, attributes := #[] }, { accessFlags := 18, nameIndex := 22, descriptorIndex := 19, attributes := #[] }, { accessFlags := 18, nameIndex := 25, descriptorIndex := 12, attributes := #[] }])
  fields := #[{ name := "clock", type := .int, accessFlags := 18, slot := 0, constantValue := 0 }, { name := "source", type := .int, accessFlags := 18, slot := 1, constantValue := 0 }, { name := "least", type := .long, accessFlags := 18, slot := 2, constantValue := 0 }, { name := "most", type := .long, accessFlags := 18, slot := 3, constantValue := 0 }, { name := "on", type := .int, accessFlags := 18, slot := 4, constantValue := 0 }]
  methods := #[k5m0, k5m1]
  instanceTypes := #[.int, .int, .long, .long, .int]
  staticTypes := #[]
  resolved := Array.replicate 143 none
  statics := none }

def pool6 : Array CpInfo := pool [(1, .class_ 2), (0, u "java/io/Serializable"), (0, .class_ 4), (0, u "java/lang/Object")] 2

/-- java/io/Serializable -/
def k6 : Class := { plain "java/io/Serializable" (some 0) with
  accessFlags := 1537
  interfaces := #[]
  cf := some (fileOf pool6 1 #[] #[] 1537 3 #[] #[])
  fields := #[]
  methods := #[]
  instanceTypes := #[]
  staticTypes := #[]
  resolved := Array.replicate 7 none
  statics := none }

def pool7 : Array CpInfo := pool [(1, .methodref 2 3), (0, .class_ 4), (0, .nameAndType 5 6), (0, u "java/lang/Object"), (0, u "<init>"), (0, u "()V"), (1, .class_ 10), (1, u "java/lang/Number"), (2, .class_ 14), (0, u "java/io/Serializable"), (0, u "serialVersionUID"), (0, u "J")] 20

def k7c0 : Code := { maxStack := 1, maxLocals := 1, code := jdk_18_method_1_code, exceptionTable := #[], attributes := #[] }
def k7m0 : Method := { name := "<init>", desc := "()V", sig := { parameters := [], returnType := none }, accessFlags := 1, code := some k7c0 }
/-- java/lang/Number -/
def k7 : Class := { plain "java/lang/Number" (some 0) with
  accessFlags := 1057
  interfaces := #[6]
  cf := some (fileOf pool7 8 #[] #[{ accessFlags := 1, nameIndex := 5, descriptorIndex := 6, attributes := #[] }] 1057 2 #[13] #[{ accessFlags := 26, nameIndex := 15, descriptorIndex := 16, attributes := #[] }])
  fields := #[{ name := "serialVersionUID", type := .long, accessFlags := 26, slot := 0, constantValue := 0 }]
  methods := #[k7m0]
  instanceTypes := #[]
  staticTypes := #[.long]
  resolved := Array.replicate 37 none
  statics := none }

def pool8 : Array CpInfo := pool [(1, .class_ 2), (0, u "java/lang/Comparable"), (0, .class_ 4), (0, u "java/lang/Object")] 7

/-- java/lang/Comparable -/
def k8 : Class := { plain "java/lang/Comparable" (some 0) with
  accessFlags := 1537
  interfaces := #[]
  cf := some (fileOf pool8 1 #[] #[] 1537 3 #[] #[])
  fields := #[]
  methods := #[]
  instanceTypes := #[]
  staticTypes := #[]
  resolved := Array.replicate 12 none
  statics := none }

def pool9 : Array CpInfo := pool [(1, .class_ 2), (0, u "java/lang/constant/Constable"), (0, .class_ 4), (0, u "java/lang/Object")] 6

/-- java/lang/constant/Constable -/
def k9 : Class := { plain "java/lang/constant/Constable" (some 0) with
  accessFlags := 1537
  interfaces := #[]
  cf := some (fileOf pool9 1 #[] #[] 1537 3 #[] #[])
  fields := #[]
  methods := #[]
  instanceTypes := #[]
  staticTypes := #[]
  resolved := Array.replicate 11 none
  statics := none }

def pool10 : Array CpInfo := pool [(1, .class_ 2), (0, u "java/lang/constant/ConstantDesc"), (0, .class_ 4), (0, u "java/lang/Object")] 32

/-- java/lang/constant/ConstantDesc -/
def k10 : Class := { plain "java/lang/constant/ConstantDesc" (some 0) with
  accessFlags := 1537
  interfaces := #[]
  cf := some (fileOf pool10 1 #[] #[] 1537 3 #[] #[])
  fields := #[]
  methods := #[]
  instanceTypes := #[]
  staticTypes := #[]
  resolved := Array.replicate 37 none
  statics := none }

def pool11 : Array CpInfo := pool [(1, .class_ 2), (0, u "java/lang/Integer"), (16, u "digits"), (0, u "[C"), (46, u "<init>"), (17, u "DigitOnes"), (0, u "[B"), (2, u "DigitTens"), (10, .nameAndType 67 101), (0, u "()V"), (19, u "()I"), (65, u "valueOf"), (0, u "(I)Ljava/lang/Integer;"), (0, .class_ 190), (0, u "java/lang/Integer$IntegerCache"), (0, .fieldref 189 192), (0, .nameAndType 193 194), (0, u "high"), (0, u "I"), (0, .fieldref 189 196), (0, .nameAndType 197 198), (0, u "cache"), (0, u "[Ljava/lang/Integer;"), (0, .methodref 1 200), (0, .nameAndType 67 201), (0, u "(I)V"), (0, .methodref 203 100), (0, .class_ 204), (0, u "java/lang/Number"), (0, .fieldref 1 206), (0, .nameAndType 207 194), (0, u "value"), (5, u "intValue"), (88, u "TYPE"), (0, u "Ljava/lang/Class;"), (0, .class_ 305), (0, u "java/lang/Comparable"), (0, .class_ 307), (0, u "java/lang/constant/Constable"), (0, .class_ 309), (0, u "java/lang/constant/ConstantDesc"), (0, u "MIN_VALUE"), (1, u "MAX_VALUE"), (3, u "SIZE"), (1, u "BYTES"), (1, u "serialVersionUID"), (0, u "J")] 131

def k11c0 : Code := { maxStack := 3, maxLocals := 1, code := jdk_33_method_22_code, exceptionTable := #[], attributes := #[] }
def k11m0 : Method := { name := "valueOf", desc := "(I)Ljava/lang/Integer;", sig := { parameters := [.int], returnType := some (.object "java/lang/Integer") }, accessFlags := 9, code := some k11c0 }
def k11c1 : Code := { maxStack := 2, maxLocals := 2, code := jdk_33_method_23_code, exceptionTable := #[], attributes := #[] }
def k11m1 : Method := { name := "<init>", desc := "(I)V", sig := { parameters := [.int], returnType := none }, accessFlags := 1, code := some k11c1 }
def k11c2 : Code := { maxStack := 1, maxLocals := 1, code := jdk_33_method_27_code, exceptionTable := #[], attributes := #[] }
def k11m2 : Method := { name := "intValue", desc := "()I", sig := { parameters := [], returnType := some .int }, accessFlags := 1, code := some k11c2 }
/-- java/lang/Integer -/
def k11 : Class := { plain "java/lang/Integer" (some 7) with
  accessFlags := 49
  interfaces := #[8, 9, 10]
  cf := some (fileOf pool11 1 #[.nestMembers #[189]] #[{ accessFlags := 9, nameIndex := 187, descriptorIndex := 188, attributes := #[] }, { accessFlags := 1, nameIndex := 67, descriptorIndex := 201, attributes := #[] }, { accessFlags := 1, nameIndex := 213, descriptorIndex := 121, attributes := #[] }] 49 203 #[304, 306, 308] #[{ accessFlags := 25, nameIndex := 310, descriptorIndex := 194, attributes := #[] }, { accessFlags := 25, nameIndex := 312, descriptorIndex := 194, attributes := #[] }, { accessFlags := 25, nameIndex := 302, descriptorIndex := 303, attributes := #[] }, { accessFlags := 24, nameIndex := 19, descriptorIndex := 20, attributes := #[] }, { accessFlags := 24, nameIndex := 89, descriptorIndex := 86, attributes := #[] }, { accessFlags := 24, nameIndex := 85, descriptorIndex := 86, attributes := #[] }, { accessFlags := 18, nameIndex := 207, descriptorIndex := 194, attributes := #[] }, { accessFlags := 25, nameIndex := 316, descriptorIndex := 194, attributes := #[] }, { accessFlags := 25, nameIndex := 318, descriptorIndex := 194, attributes := #[] }, { accessFlags := 26, nameIndex := 320, descriptorIndex := 321, attributes := #[] }])
  fields := #[{ name := "MIN_VALUE", type := .int, accessFlags := 25, slot := 0, constantValue := 0 }, { name := "MAX_VALUE", type := .int, accessFlags := 25, slot := 1, constantValue := 0 }, { name := "TYPE", type := (.object "java/lang/Class"), accessFlags := 25, slot := 2, constantValue := 0 }, { name := "digits", type := (.array .char), accessFlags := 24, slot := 3, constantValue := 0 }, { name := "DigitTens", type := (.array .byte), accessFlags := 24, slot := 4, constantValue := 0 }, { name := "DigitOnes", type := (.array .byte), accessFlags := 24, slot := 5, constantValue := 0 }, { name := "value", type := .int, accessFlags := 18, slot := 0, constantValue := 0 }, { name := "SIZE", type := .int, accessFlags := 25, slot := 6, constantValue := 0 }, { name := "BYTES", type := .int, accessFlags := 25, slot := 7, constantValue := 0 }, { name := "serialVersionUID", type := .long, accessFlags := 26, slot := 8, constantValue := 0 }]
  methods := #[k11m0, k11m1, k11m2]
  instanceTypes := #[.int]
  staticTypes := #[.int, .int, (.object "java/lang/Class"), (.array .char), (.array .byte), (.array .byte), .int, .int, .long]
  resolved := Array.replicate 453 none
  statics := none }

def pool12 : Array CpInfo := pool [(2, .class_ 4), (1, u "java/lang/Object"), (0, u "<init>"), (0, u "()V"), (0, .class_ 8), (0, u "java/lang/Integer"), (7, .class_ 18), (1, u "java/lang/Integer$IntegerCache"), (0, u "$assertionsDisabled"), (0, u "Z"), (26, u "high"), (0, u "I"), (8, u "archivedCache"), (0, u "[Ljava/lang/Integer;"), (12, u "cache"), (0, u "low")] 27

def k12m0 : Method := { name := "<init>", desc := "()V", sig := { parameters := [], returnType := none }, accessFlags := 2, code := none }
/-- java/lang/Integer$IntegerCache -/
def k12 : Class := { plain "java/lang/Integer$IntegerCache" (some 0) with
  accessFlags := 48
  interfaces := #[]
  cf := some (fileOf pool12 16 #[.nestHost 7] #[{ accessFlags := 2, nameIndex := 5, descriptorIndex := 6, attributes := #[] }] 48 2 #[] #[{ accessFlags := 24, nameIndex := 72, descriptorIndex := 48, attributes := #[] }, { accessFlags := 24, nameIndex := 47, descriptorIndex := 48, attributes := #[] }, { accessFlags := 24, nameIndex := 71, descriptorIndex := 58, attributes := #[] }, { accessFlags := 8, nameIndex := 57, descriptorIndex := 58, attributes := #[] }, { accessFlags := 4120, nameIndex := 19, descriptorIndex := 20, attributes := #[] }])
  fields := #[{ name := "low", type := .int, accessFlags := 24, slot := 0, constantValue := 0 }, { name := "high", type := .int, accessFlags := 24, slot := 1, constantValue := 0 }, { name := "cache", type := (.array (.object "java/lang/Integer")), accessFlags := 24, slot := 2, constantValue := 0 }, { name := "archivedCache", type := (.array (.object "java/lang/Integer")), accessFlags := 8, slot := 3, constantValue := 0 }, { name := "$assertionsDisabled", type := .boolean, accessFlags := 4120, slot := 4, constantValue := 0 }]
  methods := #[k12m0]
  instanceTypes := #[]
  staticTypes := #[.int, .int, (.array (.object "java/lang/Integer")), (.array (.object "java/lang/Integer")), .boolean]
  resolved := Array.replicate 100 none
  statics := some 0 }

def pool13 : Array CpInfo := pool [(8, .class_ 10), (1, u "java/lang/Iterable"), (24, .class_ 36), (0, u "java/lang/Object")] 25

/-- java/lang/Iterable -/
def k13 : Class := { plain "java/lang/Iterable" (some 0) with
  accessFlags := 1537
  interfaces := #[]
  cf := some (fileOf pool13 8 #[] #[] 1537 35 #[] #[])
  fields := #[]
  methods := #[]
  instanceTypes := #[]
  staticTypes := #[]
  resolved := Array.replicate 62 none
  statics := none }

def pool14 : Array CpInfo := pool [(10, .class_ 12), (1, u "java/util/Collection"), (47, .class_ 61), (0, u "java/lang/Object"), (0, .class_ 63), (0, u "java/lang/Iterable")] 51

/-- java/util/Collection -/
def k14 : Class := { plain "java/util/Collection" (some 0) with
  accessFlags := 1537
  interfaces := #[13]
  cf := some (fileOf pool14 10 #[] #[] 1537 60 #[62] #[])
  fields := #[]
  methods := #[]
  instanceTypes := #[]
  staticTypes := #[]
  resolved := Array.replicate 115 none
  statics := none }

def pool15 : Array CpInfo := pool [(8, .class_ 10), (1, u "java/util/SequencedCollection"), (15, .class_ 27), (0, u "java/lang/Object"), (0, .class_ 29), (0, u "java/util/Collection")] 27

/-- java/util/SequencedCollection -/
def k15 : Class := { plain "java/util/SequencedCollection" (some 0) with
  accessFlags := 1537
  interfaces := #[14]
  cf := some (fileOf pool15 8 #[] #[] 1537 26 #[28] #[])
  fields := #[]
  methods := #[]
  instanceTypes := #[]
  staticTypes := #[]
  resolved := Array.replicate 57 none
  statics := none }

def pool16 : Array CpInfo := pool [(8, .class_ 10), (1, u "java/util/List"), (37, u "<init>"), (26, u "get"), (0, u "(I)Ljava/lang/Object;"), (2, u "size"), (0, u "()I"), (7, u "of"), (7, .class_ 97), (0, u "java/util/ImmutableCollections$List12"), (2, .methodref 96 101), (0, .nameAndType 48 102), (0, u "(Ljava/lang/Object;Ljava/lang/Object;)V"), (0, .class_ 104), (0, u "java/lang/Object"), (15, .class_ 121), (0, u "java/util/SequencedCollection"), (79, u "(Ljava/lang/Object;Ljava/lang/Object;)Ljava/util/List;")] 49

def k16m0 : Method := { name := "size", desc := "()I", sig := { parameters := [], returnType := some .int }, accessFlags := 1025, code := none }
def k16m1 : Method := { name := "get", desc := "(I)Ljava/lang/Object;", sig := { parameters := [.int], returnType := some (.object "java/lang/Object") }, accessFlags := 1025, code := none }
def k16c2 : Code := { maxStack := 4, maxLocals := 2, code := jdk_40_method_38_code, exceptionTable := #[], attributes := #[] }
def k16m2 : Method := { name := "of", desc := "(Ljava/lang/Object;Ljava/lang/Object;)Ljava/util/List;", sig := { parameters := [(.object "java/lang/Object"), (.object "java/lang/Object")], returnType := some (.object "java/util/List") }, accessFlags := 9, code := some k16c2 }
/-- java/util/List -/
def k16 : Class := { plain "java/util/List" (some 0) with
  accessFlags := 1537
  interfaces := #[15]
  cf := some (fileOf pool16 8 #[] #[{ accessFlags := 1025, nameIndex := 79, descriptorIndex := 80, attributes := #[] }, { accessFlags := 1025, nameIndex := 75, descriptorIndex := 76, attributes := #[] }, { accessFlags := 9, nameIndex := 88, descriptorIndex := 201, attributes := #[] }] 1537 103 #[120] #[])
  fields := #[]
  methods := #[k16m0, k16m1, k16m2]
  instanceTypes := #[]
  staticTypes := #[]
  resolved := Array.replicate 251 none
  statics := none }

def pool17 : Array CpInfo := pool [(1, .methodref 2 3), (0, .class_ 4), (0, .nameAndType 5 6), (0, u "java/lang/Object"), (0, u "<init>"), (0, u "()V"), (1, .class_ 10), (1, u "java/util/AbstractCollection"), (66, .class_ 78), (0, u "java/util/Collection")] 81

def k17c0 : Code := { maxStack := 1, maxLocals := 1, code := jdk_22_method_1_code, exceptionTable := #[], attributes := #[] }
def k17m0 : Method := { name := "<init>", desc := "()V", sig := { parameters := [], returnType := none }, accessFlags := 4, code := some k17c0 }
/-- java/util/AbstractCollection -/
def k17 : Class := { plain "java/util/AbstractCollection" (some 0) with
  accessFlags := 1057
  interfaces := #[14]
  cf := some (fileOf pool17 8 #[] #[{ accessFlags := 4, nameIndex := 5, descriptorIndex := 6, attributes := #[] }] 1057 2 #[77] #[])
  fields := #[]
  methods := #[k17m0]
  instanceTypes := #[]
  staticTypes := #[]
  resolved := Array.replicate 160 none
  statics := none }

def pool18 : Array CpInfo := pool [(1, .methodref 2 3), (0, .class_ 4), (0, .nameAndType 5 6), (0, u "java/util/AbstractCollection"), (0, u "<init>"), (0, u "()V"), (1, .class_ 10), (1, u "java/util/ImmutableCollections"), (2, .class_ 14), (0, u "java/util/ImmutableCollections$AbstractImmutableCollection")] 41

def k18c0 : Code := { maxStack := 1, maxLocals := 1, code := jdk_47_method_1_code, exceptionTable := #[], attributes := #[] }
def k18m0 : Method := { name := "<init>", desc := "()V", sig := { parameters := [], returnType := none }, accessFlags := 0, code := some k18c0 }
/-- java/util/ImmutableCollections$AbstractImmutableCollection -/
def k18 : Class := { plain "java/util/ImmutableCollections$AbstractImmutableCollection" (some 17) with
  accessFlags := 1056
  interfaces := #[]
  cf := some (fileOf pool18 13 #[.nestHost 8] #[{ accessFlags := 0, nameIndex := 5, descriptorIndex := 6, attributes := #[] }] 1056 2 #[] #[])
  fields := #[]
  methods := #[k18m0]
  instanceTypes := #[]
  staticTypes := #[]
  resolved := Array.replicate 56 none
  statics := none }

def pool19 : Array CpInfo := pool [(1, .class_ 2), (0, u "java/util/RandomAccess"), (0, .class_ 4), (0, u "java/lang/Object")] 2

/-- java/util/RandomAccess -/
def k19 : Class := { plain "java/util/RandomAccess" (some 0) with
  accessFlags := 1537
  interfaces := #[]
  cf := some (fileOf pool19 1 #[] #[] 1537 3 #[] #[])
  fields := #[]
  methods := #[]
  instanceTypes := #[]
  staticTypes := #[]
  resolved := Array.replicate 7 none
  statics := none }

def pool20 : Array CpInfo := pool [(1, .methodref 2 3), (0, .class_ 4), (0, .nameAndType 5 6), (0, u "java/util/ImmutableCollections$AbstractImmutableCollection"), (0, u "<init>"), (0, u "()V"), (1, .class_ 10), (1, u "java/util/ImmutableCollections"), (3, .class_ 16), (1, u "java/util/ImmutableCollections$AbstractImmutableList"), (60, .class_ 78), (0, u "java/util/List"), (45, .class_ 125), (0, u "java/util/RandomAccess")] 70

def k20c0 : Code := { maxStack := 1, maxLocals := 1, code := jdk_46_method_1_code, exceptionTable := #[], attributes := #[] }
def k20m0 : Method := { name := "<init>", desc := "()V", sig := { parameters := [], returnType := none }, accessFlags := 0, code := some k20c0 }
/-- java/util/ImmutableCollections$AbstractImmutableList -/
def k20 : Class := { plain "java/util/ImmutableCollections$AbstractImmutableList" (some 18) with
  accessFlags := 1056
  interfaces := #[16, 19]
  cf := some (fileOf pool20 14 #[.nestHost 8] #[{ accessFlags := 0, nameIndex := 5, descriptorIndex := 6, attributes := #[] }] 1056 2 #[77, 124] #[])
  fields := #[]
  methods := #[k20m0]
  instanceTypes := #[]
  staticTypes := #[]
  resolved := Array.replicate 196 none
  statics := none }

def pool21 : Array CpInfo := pool [(1, .methodref 2 3), (0, .class_ 4), (0, .nameAndType 5 6), (0, u "java/util/ImmutableCollections$AbstractImmutableList"), (0, u "<init>"), (0, u "()V"), (0, .methodref 8 9), (0, .class_ 10), (0, .nameAndType 11 12), (0, u "java/util/Objects"), (0, u "requireNonNull"), (0, u "(Ljava/lang/Object;)Ljava/lang/Object;"), (0, .fieldref 14 15), (0, .class_ 16), (0, .nameAndType 17 18), (0, u "java/util/ImmutableCollections$List12"), (0, u "e0"), (0, u "Ljava/lang/Object;"), (0, .fieldref 20 21), (0, .class_ 22), (0, .nameAndType 23 18), (0, u "java/util/ImmutableCollections"), (0, u "EMPTY"), (0, .fieldref 14 25), (0, .nameAndType 26 18), (0, u "e1"), (24, u "size"), (0, u "()I"), (17, .class_ 71), (0, u "java/io/Serializable"), (13, u "(Ljava/lang/Object;Ljava/lang/Object;)V"), (4, u "get"), (0, u "(I)Ljava/lang/Object;")] 33

def k21c0 : Code := { maxStack := 2, maxLocals := 3, code := jdk_44_method_2_code, exceptionTable := #[], attributes := #[] }
def k21m0 : Method := { name := "<init>", desc := "(Ljava/lang/Object;Ljava/lang/Object;)V", sig := { parameters := [(.object "java/lang/Object"), (.object "java/lang/Object")], returnType := none }, accessFlags := 0, code := some k21c0 }
def k21c1 : Code := { maxStack := 2, maxLocals := 1, code := jdk_44_method_3_code, exceptionTable := #[], attributes := #[] }
def k21m1 : Method := { name := "size", desc := "()I", sig := { parameters := [], returnType := some .int }, accessFlags := 1, code := some k21c1 }
def k21c2 : Code := { maxStack := 2, maxLocals := 2, code := jdk_44_method_5_code, exceptionTable := #[], attributes := #[] }
def k21m2 : Method := { name := "get", desc := "(I)Ljava/lang/Object;", sig := { parameters := [.int], returnType := some (.object "java/lang/Object") }, accessFlags := 1, code := some k21c2 }
/-- java/util/ImmutableCollections$List12 -/
def k21 : Class := { plain "java/util/ImmutableCollections$List12" (some 20) with
  accessFlags := 48
  interfaces := #[6]
  cf := some (fileOf pool21 14 #[.nestHost 20] #[{ accessFlags := 0, nameIndex := 5, descriptorIndex := 85, attributes := #[] }, { accessFlags := 1, nameIndex := 51, descriptorIndex := 52, attributes := #[] }, { accessFlags := 1, nameIndex := 90, descriptorIndex := 91, attributes := #[] }] 48 2 #[70] #[{ accessFlags := 18, nameIndex := 17, descriptorIndex := 18, attributes := #[] }, { accessFlags := 18, nameIndex := 26, descriptorIndex := 18, attributes := #[] }])
  fields := #[{ name := "e0", type := (.object "java/lang/Object"), accessFlags := 18, slot := 0, constantValue := 0 }, { name := "e1", type := (.object "java/lang/Object"), accessFlags := 18, slot := 1, constantValue := 0 }]
  methods := #[k21m0, k21m1, k21m2]
  instanceTypes := #[(.object "java/lang/Object"), (.object "java/lang/Object")]
  staticTypes := #[]
  resolved := Array.replicate 125 none
  statics := none }

def pool22 : Array CpInfo := pool [(2, .class_ 4), (1, u "java/lang/Object"), (0, u "<init>"), (0, u "()V"), (35, .class_ 44), (1, u "java/util/Objects"), (0, u "requireNonNull"), (0, u "(Ljava/lang/Object;)Ljava/lang/Object;")] 137

def k22m0 : Method := { name := "<init>", desc := "()V", sig := { parameters := [], returnType := none }, accessFlags := 2, code := none }
def k22c1 : Code := { maxStack := 2, maxLocals := 1, code := jdk_31_method_10_code, exceptionTable := #[], attributes := #[] }
def k22m1 : Method := { name := "requireNonNull", desc := "(Ljava/lang/Object;)Ljava/lang/Object;", sig := { parameters := [(.object "java/lang/Object")], returnType := some (.object "java/lang/Object") }, accessFlags := 9, code := some k22c1 }
/-- java/util/Objects -/
def k22 : Class := { plain "java/util/Objects" (some 0) with
  accessFlags := 49
  interfaces := #[]
  cf := some (fileOf pool22 42 #[] #[{ accessFlags := 2, nameIndex := 5, descriptorIndex := 6, attributes := #[] }, { accessFlags := 9, nameIndex := 45, descriptorIndex := 46, attributes := #[] }] 49 2 #[] #[])
  fields := #[]
  methods := #[k22m0, k22m1]
  instanceTypes := #[]
  staticTypes := #[]
  resolved := Array.replicate 184 none
  statics := none }

def pool23 : Array CpInfo := pool [(2, .class_ 4), (1, u "java/lang/Object"), (0, u "<init>"), (0, u "()V"), (3, .class_ 11), (0, u "java/util/ImmutableCollections$List12"), (0, .class_ 13), (0, u "java/util/ImmutableCollections$ListN"), (3, u "Z"), (29, .class_ 49), (1, u "java/util/ImmutableCollections"), (0, u "$assertionsDisabled"), (5, u "[Ljava/lang/Object;"), (5, u "EMPTY_LIST"), (0, u "Ljava/util/ImmutableCollections$ListN;"), (8, u "EMPTY_LIST_NULLS"), (22, u "SALT32L"), (0, u "J"), (2, u "REVERSE"), (6, u "archivedObjects"), (2, u "EMPTY"), (0, u "Ljava/lang/Object;"), (0, .class_ 112), (0, u "java/util/ImmutableCollections$SetN"), (5, u "EMPTY_SET"), (0, u "Ljava/util/ImmutableCollections$SetN;"), (0, .class_ 121), (0, u "java/util/ImmutableCollections$MapN"), (3, u "EMPTY_MAP"), (0, u "Ljava/util/ImmutableCollections$MapN;"), (4, u "EXPAND_FACTOR"), (0, u "I"), (36, .class_ 170), (0, u "java/util/ImmutableCollections$MapN$MapNIterator"), (0, .class_ 172), (0, u "java/util/ImmutableCollections$MapN$1"), (0, .class_ 174), (0, u "java/util/ImmutableCollections$Map1"), (0, .class_ 176), (0, u "java/util/ImmutableCollections$AbstractImmutableMap"), (0, .class_ 178), (0, u "java/util/ImmutableCollections$SetN$SetNIterator"), (0, .class_ 180), (0, u "java/util/ImmutableCollections$Set12"), (0, .class_ 182), (0, u "java/util/ImmutableCollections$Set12$1"), (0, .class_ 184), (0, u "java/util/ImmutableCollections$AbstractImmutableSet"), (0, .class_ 186), (0, u "java/util/ImmutableCollections$SubList"), (0, .class_ 188), (0, u "java/util/ImmutableCollections$ListItr"), (0, .class_ 190), (0, u "java/util/ImmutableCollections$AbstractImmutableList"), (0, .class_ 192), (0, u "java/util/ImmutableCollections$AbstractImmutableCollection"), (0, .class_ 194), (0, u "java/util/ImmutableCollections$Access"), (0, .class_ 196), (0, u "java/util/ImmutableCollections$Access$1")] 16

def k23m0 : Method := { name := "<init>", desc := "()V", sig := { parameters := [], returnType := none }, accessFlags := 2, code := none }
/-- java/util/ImmutableCollections -/
def k23 : Class := { plain "java/util/ImmutableCollections" (some 0) with
  accessFlags := 32
  interfaces := #[]
  cf := some (fileOf pool23 47 #[.nestMembers #[120, 169, 171, 173, 175, 111, 177, 179, 181, 183, 12, 10, 185, 187, 189, 191, 193, 195]] #[{ accessFlags := 2, nameIndex := 5, descriptorIndex := 6, attributes := #[] }] 32 2 #[] #[{ accessFlags := 26, nameIndex := 95, descriptorIndex := 96, attributes := #[] }, { accessFlags := 26, nameIndex := 99, descriptorIndex := 17, attributes := #[] }, { accessFlags := 10, nameIndex := 106, descriptorIndex := 56, attributes := #[] }, { accessFlags := 26, nameIndex := 109, descriptorIndex := 110, attributes := #[] }, { accessFlags := 24, nameIndex := 62, descriptorIndex := 63, attributes := #[] }, { accessFlags := 24, nameIndex := 72, descriptorIndex := 63, attributes := #[] }, { accessFlags := 24, nameIndex := 118, descriptorIndex := 119, attributes := #[] }, { accessFlags := 24, nameIndex := 125, descriptorIndex := 126, attributes := #[] }, { accessFlags := 24, nameIndex := 131, descriptorIndex := 132, attributes := #[] }, { accessFlags := 4120, nameIndex := 50, descriptorIndex := 17, attributes := #[] }])
  fields := #[{ name := "SALT32L", type := .long, accessFlags := 26, slot := 0, constantValue := 0 }, { name := "REVERSE", type := .boolean, accessFlags := 26, slot := 1, constantValue := 0 }, { name := "archivedObjects", type := (.array (.object "java/lang/Object")), accessFlags := 10, slot := 2, constantValue := 0 }, { name := "EMPTY", type := (.object "java/lang/Object"), accessFlags := 26, slot := 3, constantValue := 0 }, { name := "EMPTY_LIST", type := (.object "java/util/ImmutableCollections$ListN"), accessFlags := 24, slot := 4, constantValue := 0 }, { name := "EMPTY_LIST_NULLS", type := (.object "java/util/ImmutableCollections$ListN"), accessFlags := 24, slot := 5, constantValue := 0 }, { name := "EMPTY_SET", type := (.object "java/util/ImmutableCollections$SetN"), accessFlags := 24, slot := 6, constantValue := 0 }, { name := "EMPTY_MAP", type := (.object "java/util/ImmutableCollections$MapN"), accessFlags := 24, slot := 7, constantValue := 0 }, { name := "EXPAND_FACTOR", type := .int, accessFlags := 24, slot := 8, constantValue := 0 }, { name := "$assertionsDisabled", type := .boolean, accessFlags := 4120, slot := 9, constantValue := 0 }]
  methods := #[k23m0]
  instanceTypes := #[]
  staticTypes := #[.long, .boolean, (.array (.object "java/lang/Object")), (.object "java/lang/Object"), (.object "java/util/ImmutableCollections$ListN"), (.object "java/util/ImmutableCollections$ListN"), (.object "java/util/ImmutableCollections$SetN"), (.object "java/util/ImmutableCollections$MapN"), .int, .boolean]
  resolved := Array.replicate 213 none
  statics := some 1 }

def pool24 : Array CpInfo := pool [(2, .class_ 4), (1, u "java/util/ImmutableCollections$AbstractImmutableList"), (3, .class_ 10), (1, u "java/util/ImmutableCollections$ListN"), (0, u "elements"), (0, u "[Ljava/lang/Object;"), (2, u "allowNulls"), (0, u "Z"), (42, .class_ 60), (0, u "java/io/Serializable"), (53, .class_ 115), (0, u "java/util/ImmutableCollections")] 3

/-- java/util/ImmutableCollections$ListN -/
def k24 : Class := { plain "java/util/ImmutableCollections$ListN" (some 20) with
  accessFlags := 48
  interfaces := #[6]
  cf := some (fileOf pool24 8 #[.nestHost 114] #[] 48 2 #[59] #[{ accessFlags := 18, nameIndex := 11, descriptorIndex := 12, attributes := #[] }, { accessFlags := 18, nameIndex := 15, descriptorIndex := 16, attributes := #[] }])
  fields := #[{ name := "elements", type := (.array (.object "java/lang/Object")), accessFlags := 18, slot := 0, constantValue := 0 }, { name := "allowNulls", type := .boolean, accessFlags := 18, slot := 1, constantValue := 0 }]
  methods := #[]
  instanceTypes := #[(.array (.object "java/lang/Object")), .boolean]
  staticTypes := #[]
  resolved := Array.replicate 119 none
  statics := none }

def pool25 : Array CpInfo := pool [(1, u "java/lang/Cloneable"), (0, .class_ 1), (0, u "java/lang/Object"), (0, .class_ 3)] 3

/-- java/lang/Cloneable -/
def k25 : Class := { plain "java/lang/Cloneable" (some 0) with
  accessFlags := 1537
  interfaces := #[]
  cf := some (fileOf pool25 2 #[] #[] 1537 4 #[] #[])
  fields := #[]
  methods := #[]
  instanceTypes := #[]
  staticTypes := #[]
  resolved := Array.replicate 8 none
  statics := none }

/-- the primitive byte -/
def k26 : Class := { plain "byte" none with kind := .primitive 'B', accessFlags := 0x411 }
/-- [B -/
def k27 : Class := { plain "[B" (some 0) with kind := .array 26 .byte, interfaces := #[25, 6], accessFlags := 1041 }

/-- the primitive int -/
def k28 : Class := { plain "int" none with kind := .primitive 'I', accessFlags := 0x411 }
/-- [I -/
def k29 : Class := { plain "[I" (some 0) with kind := .array 28 .int, interfaces := #[25, 6], accessFlags := 1041 }

/-- [Ljava/lang/Integer; -/
def k30 : Class := { plain "[Ljava/lang/Integer;" (some 0) with kind := .array 11 (.object "java/lang/Integer"), interfaces := #[25, 6], accessFlags := 1041 }

def heap : Heap := #[{ cls := 12, slots := #[.int 0, .int 127, .ref 2, .null, .int 0], vm := .statics 12 },
  { cls := 23, slots := #[.long 0, .int 0, .null, .ref 259, .ref 260, .null, .null, .null, .int 0, .int 1], vm := .statics 23 },
  { cls := 30, slots := #[.ref 3, .ref 4, .ref 5, .ref 6, .ref 7, .ref 8, .ref 9, .ref 10, .ref 11, .ref 12, .ref 13, .ref 14, .ref 15, .ref 16, .ref 17, .ref 18, .ref 19, .ref 20, .ref 21, .ref 22, .ref 23, .ref 24, .ref 25, .ref 26, .ref 27, .ref 28, .ref 29, .ref 30, .ref 31, .ref 32, .ref 33, .ref 34, .ref 35, .ref 36, .ref 37, .ref 38, .ref 39, .ref 40, .ref 41, .ref 42, .ref 43, .ref 44, .ref 45, .ref 46, .ref 47, .ref 48, .ref 49, .ref 50, .ref 51, .ref 52, .ref 53, .ref 54, .ref 55, .ref 56, .ref 57, .ref 58, .ref 59, .ref 60, .ref 61, .ref 62, .ref 63, .ref 64, .ref 65, .ref 66, .ref 67, .ref 68, .ref 69, .ref 70, .ref 71, .ref 72, .ref 73, .ref 74, .ref 75, .ref 76, .ref 77, .ref 78, .ref 79, .ref 80, .ref 81, .ref 82, .ref 83, .ref 84, .ref 85, .ref 86, .ref 87, .ref 88, .ref 89, .ref 90, .ref 91, .ref 92, .ref 93, .ref 94, .ref 95, .ref 96, .ref 97, .ref 98, .ref 99, .ref 100, .ref 101, .ref 102, .ref 103, .ref 104, .ref 105, .ref 106, .ref 107, .ref 108, .ref 109, .ref 110, .ref 111, .ref 112, .ref 113, .ref 114, .ref 115, .ref 116, .ref 117, .ref 118, .ref 119, .ref 120, .ref 121, .ref 122, .ref 123, .ref 124, .ref 125, .ref 126, .ref 127, .ref 128, .ref 129, .ref 130, .ref 131, .ref 132, .ref 133, .ref 134, .ref 135, .ref 136, .ref 137, .ref 138, .ref 139, .ref 140, .ref 141, .ref 142, .ref 143, .ref 144, .ref 145, .ref 146, .ref 147, .ref 148, .ref 149, .ref 150, .ref 151, .ref 152, .ref 153, .ref 154, .ref 155, .ref 156, .ref 157, .ref 158, .ref 159, .ref 160, .ref 161, .ref 162, .ref 163, .ref 164, .ref 165, .ref 166, .ref 167, .ref 168, .ref 169, .ref 170, .ref 171, .ref 172, .ref 173, .ref 174, .ref 175, .ref 176, .ref 177, .ref 178, .ref 179, .ref 180, .ref 181, .ref 182, .ref 183, .ref 184, .ref 185, .ref 186, .ref 187, .ref 188, .ref 189, .ref 190, .ref 191, .ref 192, .ref 193, .ref 194, .ref 195, .ref 196, .ref 197, .ref 198, .ref 199, .ref 200, .ref 201, .ref 202, .ref 203, .ref 204, .ref 205, .ref 206, .ref 207, .ref 208, .ref 209, .ref 210, .ref 211, .ref 212, .ref 213, .ref 214, .ref 215, .ref 216, .ref 217, .ref 218, .ref 219, .ref 220, .ref 221, .ref 222, .ref 223, .ref 224, .ref 225, .ref 226, .ref 227, .ref 228, .ref 229, .ref 230, .ref 231, .ref 232, .ref 233, .ref 234, .ref 235, .ref 236, .ref 237, .ref 238, .ref 239, .ref 240, .ref 241, .ref 242, .ref 243, .ref 244, .ref 245, .ref 246, .ref 247, .ref 248, .ref 249, .ref 250, .ref 251, .ref 252, .ref 253, .ref 254, .ref 255, .ref 256, .ref 257, .ref 258], vm := .none },
  { cls := 11, slots := #[.int (-128)], vm := .none },
  { cls := 11, slots := #[.int (-127)], vm := .none },
  { cls := 11, slots := #[.int (-126)], vm := .none },
  { cls := 11, slots := #[.int (-125)], vm := .none },
  { cls := 11, slots := #[.int (-124)], vm := .none },
  { cls := 11, slots := #[.int (-123)], vm := .none },
  { cls := 11, slots := #[.int (-122)], vm := .none },
  { cls := 11, slots := #[.int (-121)], vm := .none },
  { cls := 11, slots := #[.int (-120)], vm := .none },
  { cls := 11, slots := #[.int (-119)], vm := .none },
  { cls := 11, slots := #[.int (-118)], vm := .none },
  { cls := 11, slots := #[.int (-117)], vm := .none },
  { cls := 11, slots := #[.int (-116)], vm := .none },
  { cls := 11, slots := #[.int (-115)], vm := .none },
  { cls := 11, slots := #[.int (-114)], vm := .none },
  { cls := 11, slots := #[.int (-113)], vm := .none },
  { cls := 11, slots := #[.int (-112)], vm := .none },
  { cls := 11, slots := #[.int (-111)], vm := .none },
  { cls := 11, slots := #[.int (-110)], vm := .none },
  { cls := 11, slots := #[.int (-109)], vm := .none },
  { cls := 11, slots := #[.int (-108)], vm := .none },
  { cls := 11, slots := #[.int (-107)], vm := .none },
  { cls := 11, slots := #[.int (-106)], vm := .none },
  { cls := 11, slots := #[.int (-105)], vm := .none },
  { cls := 11, slots := #[.int (-104)], vm := .none },
  { cls := 11, slots := #[.int (-103)], vm := .none },
  { cls := 11, slots := #[.int (-102)], vm := .none },
  { cls := 11, slots := #[.int (-101)], vm := .none },
  { cls := 11, slots := #[.int (-100)], vm := .none },
  { cls := 11, slots := #[.int (-99)], vm := .none },
  { cls := 11, slots := #[.int (-98)], vm := .none },
  { cls := 11, slots := #[.int (-97)], vm := .none },
  { cls := 11, slots := #[.int (-96)], vm := .none },
  { cls := 11, slots := #[.int (-95)], vm := .none },
  { cls := 11, slots := #[.int (-94)], vm := .none },
  { cls := 11, slots := #[.int (-93)], vm := .none },
  { cls := 11, slots := #[.int (-92)], vm := .none },
  { cls := 11, slots := #[.int (-91)], vm := .none },
  { cls := 11, slots := #[.int (-90)], vm := .none },
  { cls := 11, slots := #[.int (-89)], vm := .none },
  { cls := 11, slots := #[.int (-88)], vm := .none },
  { cls := 11, slots := #[.int (-87)], vm := .none },
  { cls := 11, slots := #[.int (-86)], vm := .none },
  { cls := 11, slots := #[.int (-85)], vm := .none },
  { cls := 11, slots := #[.int (-84)], vm := .none },
  { cls := 11, slots := #[.int (-83)], vm := .none },
  { cls := 11, slots := #[.int (-82)], vm := .none },
  { cls := 11, slots := #[.int (-81)], vm := .none },
  { cls := 11, slots := #[.int (-80)], vm := .none },
  { cls := 11, slots := #[.int (-79)], vm := .none },
  { cls := 11, slots := #[.int (-78)], vm := .none },
  { cls := 11, slots := #[.int (-77)], vm := .none },
  { cls := 11, slots := #[.int (-76)], vm := .none },
  { cls := 11, slots := #[.int (-75)], vm := .none },
  { cls := 11, slots := #[.int (-74)], vm := .none },
  { cls := 11, slots := #[.int (-73)], vm := .none },
  { cls := 11, slots := #[.int (-72)], vm := .none },
  { cls := 11, slots := #[.int (-71)], vm := .none },
  { cls := 11, slots := #[.int (-70)], vm := .none },
  { cls := 11, slots := #[.int (-69)], vm := .none },
  { cls := 11, slots := #[.int (-68)], vm := .none },
  { cls := 11, slots := #[.int (-67)], vm := .none },
  { cls := 11, slots := #[.int (-66)], vm := .none },
  { cls := 11, slots := #[.int (-65)], vm := .none },
  { cls := 11, slots := #[.int (-64)], vm := .none },
  { cls := 11, slots := #[.int (-63)], vm := .none },
  { cls := 11, slots := #[.int (-62)], vm := .none },
  { cls := 11, slots := #[.int (-61)], vm := .none },
  { cls := 11, slots := #[.int (-60)], vm := .none },
  { cls := 11, slots := #[.int (-59)], vm := .none },
  { cls := 11, slots := #[.int (-58)], vm := .none },
  { cls := 11, slots := #[.int (-57)], vm := .none },
  { cls := 11, slots := #[.int (-56)], vm := .none },
  { cls := 11, slots := #[.int (-55)], vm := .none },
  { cls := 11, slots := #[.int (-54)], vm := .none },
  { cls := 11, slots := #[.int (-53)], vm := .none },
  { cls := 11, slots := #[.int (-52)], vm := .none },
  { cls := 11, slots := #[.int (-51)], vm := .none },
  { cls := 11, slots := #[.int (-50)], vm := .none },
  { cls := 11, slots := #[.int (-49)], vm := .none },
  { cls := 11, slots := #[.int (-48)], vm := .none },
  { cls := 11, slots := #[.int (-47)], vm := .none },
  { cls := 11, slots := #[.int (-46)], vm := .none },
  { cls := 11, slots := #[.int (-45)], vm := .none },
  { cls := 11, slots := #[.int (-44)], vm := .none },
  { cls := 11, slots := #[.int (-43)], vm := .none },
  { cls := 11, slots := #[.int (-42)], vm := .none },
  { cls := 11, slots := #[.int (-41)], vm := .none },
  { cls := 11, slots := #[.int (-40)], vm := .none },
  { cls := 11, slots := #[.int (-39)], vm := .none },
  { cls := 11, slots := #[.int (-38)], vm := .none },
  { cls := 11, slots := #[.int (-37)], vm := .none },
  { cls := 11, slots := #[.int (-36)], vm := .none },
  { cls := 11, slots := #[.int (-35)], vm := .none },
  { cls := 11, slots := #[.int (-34)], vm := .none },
  { cls := 11, slots := #[.int (-33)], vm := .none },
  { cls := 11, slots := #[.int (-32)], vm := .none },
  { cls := 11, slots := #[.int (-31)], vm := .none },
  { cls := 11, slots := #[.int (-30)], vm := .none },
  { cls := 11, slots := #[.int (-29)], vm := .none },
  { cls := 11, slots := #[.int (-28)], vm := .none },
  { cls := 11, slots := #[.int (-27)], vm := .none },
  { cls := 11, slots := #[.int (-26)], vm := .none },
  { cls := 11, slots := #[.int (-25)], vm := .none },
  { cls := 11, slots := #[.int (-24)], vm := .none },
  { cls := 11, slots := #[.int (-23)], vm := .none },
  { cls := 11, slots := #[.int (-22)], vm := .none },
  { cls := 11, slots := #[.int (-21)], vm := .none },
  { cls := 11, slots := #[.int (-20)], vm := .none },
  { cls := 11, slots := #[.int (-19)], vm := .none },
  { cls := 11, slots := #[.int (-18)], vm := .none },
  { cls := 11, slots := #[.int (-17)], vm := .none },
  { cls := 11, slots := #[.int (-16)], vm := .none },
  { cls := 11, slots := #[.int (-15)], vm := .none },
  { cls := 11, slots := #[.int (-14)], vm := .none },
  { cls := 11, slots := #[.int (-13)], vm := .none },
  { cls := 11, slots := #[.int (-12)], vm := .none },
  { cls := 11, slots := #[.int (-11)], vm := .none },
  { cls := 11, slots := #[.int (-10)], vm := .none },
  { cls := 11, slots := #[.int (-9)], vm := .none },
  { cls := 11, slots := #[.int (-8)], vm := .none },
  { cls := 11, slots := #[.int (-7)], vm := .none },
  { cls := 11, slots := #[.int (-6)], vm := .none },
  { cls := 11, slots := #[.int (-5)], vm := .none },
  { cls := 11, slots := #[.int (-4)], vm := .none },
  { cls := 11, slots := #[.int (-3)], vm := .none },
  { cls := 11, slots := #[.int (-2)], vm := .none },
  { cls := 11, slots := #[.int (-1)], vm := .none },
  { cls := 11, slots := #[.int 0], vm := .none },
  { cls := 11, slots := #[.int 1], vm := .none },
  { cls := 11, slots := #[.int 2], vm := .none },
  { cls := 11, slots := #[.int 3], vm := .none },
  { cls := 11, slots := #[.int 4], vm := .none },
  { cls := 11, slots := #[.int 5], vm := .none },
  { cls := 11, slots := #[.int 6], vm := .none },
  { cls := 11, slots := #[.int 7], vm := .none },
  { cls := 11, slots := #[.int 8], vm := .none },
  { cls := 11, slots := #[.int 9], vm := .none },
  { cls := 11, slots := #[.int 10], vm := .none },
  { cls := 11, slots := #[.int 11], vm := .none },
  { cls := 11, slots := #[.int 12], vm := .none },
  { cls := 11, slots := #[.int 13], vm := .none },
  { cls := 11, slots := #[.int 14], vm := .none },
  { cls := 11, slots := #[.int 15], vm := .none },
  { cls := 11, slots := #[.int 16], vm := .none },
  { cls := 11, slots := #[.int 17], vm := .none },
  { cls := 11, slots := #[.int 18], vm := .none },
  { cls := 11, slots := #[.int 19], vm := .none },
  { cls := 11, slots := #[.int 20], vm := .none },
  { cls := 11, slots := #[.int 21], vm := .none },
  { cls := 11, slots := #[.int 22], vm := .none },
  { cls := 11, slots := #[.int 23], vm := .none },
  { cls := 11, slots := #[.int 24], vm := .none },
  { cls := 11, slots := #[.int 25], vm := .none },
  { cls := 11, slots := #[.int 26], vm := .none },
  { cls := 11, slots := #[.int 27], vm := .none },
  { cls := 11, slots := #[.int 28], vm := .none },
  { cls := 11, slots := #[.int 29], vm := .none },
  { cls := 11, slots := #[.int 30], vm := .none },
  { cls := 11, slots := #[.int 31], vm := .none },
  { cls := 11, slots := #[.int 32], vm := .none },
  { cls := 11, slots := #[.int 33], vm := .none },
  { cls := 11, slots := #[.int 34], vm := .none },
  { cls := 11, slots := #[.int 35], vm := .none },
  { cls := 11, slots := #[.int 36], vm := .none },
  { cls := 11, slots := #[.int 37], vm := .none },
  { cls := 11, slots := #[.int 38], vm := .none },
  { cls := 11, slots := #[.int 39], vm := .none },
  { cls := 11, slots := #[.int 40], vm := .none },
  { cls := 11, slots := #[.int 41], vm := .none },
  { cls := 11, slots := #[.int 42], vm := .none },
  { cls := 11, slots := #[.int 43], vm := .none },
  { cls := 11, slots := #[.int 44], vm := .none },
  { cls := 11, slots := #[.int 45], vm := .none },
  { cls := 11, slots := #[.int 46], vm := .none },
  { cls := 11, slots := #[.int 47], vm := .none },
  { cls := 11, slots := #[.int 48], vm := .none },
  { cls := 11, slots := #[.int 49], vm := .none },
  { cls := 11, slots := #[.int 50], vm := .none },
  { cls := 11, slots := #[.int 51], vm := .none },
  { cls := 11, slots := #[.int 52], vm := .none },
  { cls := 11, slots := #[.int 53], vm := .none },
  { cls := 11, slots := #[.int 54], vm := .none },
  { cls := 11, slots := #[.int 55], vm := .none },
  { cls := 11, slots := #[.int 56], vm := .none },
  { cls := 11, slots := #[.int 57], vm := .none },
  { cls := 11, slots := #[.int 58], vm := .none },
  { cls := 11, slots := #[.int 59], vm := .none },
  { cls := 11, slots := #[.int 60], vm := .none },
  { cls := 11, slots := #[.int 61], vm := .none },
  { cls := 11, slots := #[.int 62], vm := .none },
  { cls := 11, slots := #[.int 63], vm := .none },
  { cls := 11, slots := #[.int 64], vm := .none },
  { cls := 11, slots := #[.int 65], vm := .none },
  { cls := 11, slots := #[.int 66], vm := .none },
  { cls := 11, slots := #[.int 67], vm := .none },
  { cls := 11, slots := #[.int 68], vm := .none },
  { cls := 11, slots := #[.int 69], vm := .none },
  { cls := 11, slots := #[.int 70], vm := .none },
  { cls := 11, slots := #[.int 71], vm := .none },
  { cls := 11, slots := #[.int 72], vm := .none },
  { cls := 11, slots := #[.int 73], vm := .none },
  { cls := 11, slots := #[.int 74], vm := .none },
  { cls := 11, slots := #[.int 75], vm := .none },
  { cls := 11, slots := #[.int 76], vm := .none },
  { cls := 11, slots := #[.int 77], vm := .none },
  { cls := 11, slots := #[.int 78], vm := .none },
  { cls := 11, slots := #[.int 79], vm := .none },
  { cls := 11, slots := #[.int 80], vm := .none },
  { cls := 11, slots := #[.int 81], vm := .none },
  { cls := 11, slots := #[.int 82], vm := .none },
  { cls := 11, slots := #[.int 83], vm := .none },
  { cls := 11, slots := #[.int 84], vm := .none },
  { cls := 11, slots := #[.int 85], vm := .none },
  { cls := 11, slots := #[.int 86], vm := .none },
  { cls := 11, slots := #[.int 87], vm := .none },
  { cls := 11, slots := #[.int 88], vm := .none },
  { cls := 11, slots := #[.int 89], vm := .none },
  { cls := 11, slots := #[.int 90], vm := .none },
  { cls := 11, slots := #[.int 91], vm := .none },
  { cls := 11, slots := #[.int 92], vm := .none },
  { cls := 11, slots := #[.int 93], vm := .none },
  { cls := 11, slots := #[.int 94], vm := .none },
  { cls := 11, slots := #[.int 95], vm := .none },
  { cls := 11, slots := #[.int 96], vm := .none },
  { cls := 11, slots := #[.int 97], vm := .none },
  { cls := 11, slots := #[.int 98], vm := .none },
  { cls := 11, slots := #[.int 99], vm := .none },
  { cls := 11, slots := #[.int 100], vm := .none },
  { cls := 11, slots := #[.int 101], vm := .none },
  { cls := 11, slots := #[.int 102], vm := .none },
  { cls := 11, slots := #[.int 103], vm := .none },
  { cls := 11, slots := #[.int 104], vm := .none },
  { cls := 11, slots := #[.int 105], vm := .none },
  { cls := 11, slots := #[.int 106], vm := .none },
  { cls := 11, slots := #[.int 107], vm := .none },
  { cls := 11, slots := #[.int 108], vm := .none },
  { cls := 11, slots := #[.int 109], vm := .none },
  { cls := 11, slots := #[.int 110], vm := .none },
  { cls := 11, slots := #[.int 111], vm := .none },
  { cls := 11, slots := #[.int 112], vm := .none },
  { cls := 11, slots := #[.int 113], vm := .none },
  { cls := 11, slots := #[.int 114], vm := .none },
  { cls := 11, slots := #[.int 115], vm := .none },
  { cls := 11, slots := #[.int 116], vm := .none },
  { cls := 11, slots := #[.int 117], vm := .none },
  { cls := 11, slots := #[.int 118], vm := .none },
  { cls := 11, slots := #[.int 119], vm := .none },
  { cls := 11, slots := #[.int 120], vm := .none },
  { cls := 11, slots := #[.int 121], vm := .none },
  { cls := 11, slots := #[.int 122], vm := .none },
  { cls := 11, slots := #[.int 123], vm := .none },
  { cls := 11, slots := #[.int 124], vm := .none },
  { cls := 11, slots := #[.int 125], vm := .none },
  { cls := 11, slots := #[.int 126], vm := .none },
  { cls := 11, slots := #[.int 127], vm := .none },
  { cls := 0, slots := #[], vm := .none },
  { cls := 24, slots := #[.null, .int 0], vm := .none }]
def classes : Array Class := #[k0, k1, k2, k3, k4, k5, k6, k7, k8, k9, k10, k11, k12, k13, k14, k15, k16, k17, k18, k19, k20, k21, k22, k23, k24, k25, k26, k27, k28, k29, k30]
def interned : List (Array UInt16 × Addr) := []
def slotsUsed : Nat := 529
def theMethod : MethodId := ⟨1, 1⟩
def args0 : Array Value := #[.int 5, .int 7, .long 3, .long 9, .int 300]
def aboutOver (below : List Frame) : State where
  vm := { classes := classes, interned := interned.toArray }
  heap := heap
  slotsUsed := slotsUsed
  threads := #[{ frames := .invoking theMethod args0 :: below }]
def below0 : List Frame := [.native { method := ⟨0, 0⟩, args := #[] }]
def about1 : State := aboutOver below0
def p0 : Program := .bare "" "" ""
def e0 : Env := launch0.env 0 0 0
theorem w_frames : about1.frames = Frame.invoking theMethod args0 :: below0 := rfl
set_option maxRecDepth 65536 in
theorem w_args : argsFit about1.vm theMethod args0 = true := by decide +kernel
set_option maxRecDepth 65536 in
theorem w_heap : heapFits about1 = true := by decide +kernel
set_option maxRecDepth 65536 in
theorem w_runnable : about1.curStatus? = some .runnable := by decide +kernel
set_option maxRecDepth 65536 in
theorem w_alone : about1.alone = true := by decide +kernel
set_option maxRecDepth 65536 in
theorem w_named : about1.methodNamed? x = some theMethod := by decide +kernel
set_option maxRecDepth 65536 in
theorem w_hears : about1.hears theMethod below0 = true := by decide +kernel
set_option maxRecDepth 65536 in
theorem w_ripe : about1.ripe theMethod args0 below0 = true := by decide +kernel
theorem w_running : about1.status = .running := rfl
set_option maxRecDepth 65536 in
theorem w_room : about1.hasRoom e0.platform room_1 = true :=
  launch0.hasRoom_least _ room_1 (by decide +kernel) (by decide +kernel) (by decide +kernel) (by decide +kernel) (by decide +kernel) (by decide +kernel)
theorem allAtoms_all (ts : List Jvm.Cond) (a : Array Jvm.Value) (st : Jvm.State) : (allAtoms ts).before a st = ts.all (fun c => c.before a st) := by
  induction ts with
  | nil => rfl
  | cons c t ih =>
    show (Jvm.Cond.and c (allAtoms t)).before a st = _
    rw [Jvm.Cond.before_and, ih, List.all_cons]
def words1 : List Jvm.Cond := Jvm.Cond.code x code maxLocals ret :: tables_1
/-- a 'code' word, met by the world's own term for the bytes: nothing is compared byte by byte -/
theorem code_word {y : MethodName} {bytes : ByteArray} {mx : Nat} {rt : Option FieldType} {a : Array Value} {s : State} {m : MethodId} {meth : Method} {c : Code} (h1 : s.methodNamed? y = some m) (h2 : s.vm.method? m = some meth) (h3 : meth.code = some c) (h4 : c.code = bytes)
    (h5 : (c.maxLocals == mx && c.exceptionTable.isEmpty && decide (c.maxStack ≤ mostOperands) && decide (meth.sig.returnType = rt) && !meth.locks && decide (parseMethodDescriptor y.desc = some meth.sig)) = true) : (Jvm.Cond.code y bytes mx rt).before a s = true := by
  simp only [Bool.and_eq_true, beq_iff_eq, Bool.not_eq_true', decide_eq_true_eq] at h5
  obtain ⟨⟨⟨⟨⟨g1, g2⟩, g3⟩, g4⟩, g5⟩, g6⟩ := h5
  simp [Cond.before, Cond.holds, Cond.value, h1, h2, h3, h4, g1, g2, g3, g4, g5, g6]
def isCode : Jvm.Cond → Bool
  | .code _ _ _ _ => true
  | _ => false
theorem all_split {L : List Jvm.Cond} {P : Jvm.Cond → Bool} (h1 : L.all (fun c => isCode c || P c) = true) (h2 : ∀ c ∈ L.filter isCode, P c = true) : L.all P = true := by
  refine List.all_eq_true.mpr fun c hc => ?_
  have h := List.all_eq_true.mp h1 c hc
  rcases Bool.eq_false_or_eq_true (isCode c) with hi | hi
  · exact h2 c (List.mem_filter.mpr ⟨hc, hi⟩)
  · simpa [hi] using h
set_option maxRecDepth 65536 in
theorem w_c0 : (Jvm.Cond.code x code maxLocals ret).before args0 about1 = true := code_word (m := ⟨1, 1⟩) (meth := k1m1) (c := k1c1) (by decide +kernel) rfl rfl rfl (by decide +kernel)
set_option maxRecDepth 65536 in
theorem w_c1 : (Jvm.Cond.code ({ cls := "java/lang/Math", name := "max", desc := "(JJ)J" } : Jvm.MethodName) jdk_29_method_66_code (4 : Nat) (Option.some Jvm.ClassFile.FieldType.long)).before args0 about1 = true := code_word (m := ⟨2, 1⟩) (meth := k2m1) (c := k2c1) (by decide +kernel) rfl rfl rfl (by decide +kernel)
set_option maxRecDepth 65536 in
theorem w_c2 : (Jvm.Cond.code ({ cls := "com/example/early_clock/earlyclock/Definition$Delay", name := "<init>", desc := "(IIJJI)V" } : Jvm.MethodName) prog_3_method_1_code (8 : Nat) (Option.none : Option Jvm.ClassFile.FieldType)).before args0 about1 = true := code_word (m := ⟨5, 0⟩) (meth := k5m0) (c := k5c0) (by decide +kernel) rfl rfl rfl (by decide +kernel)
set_option maxRecDepth 65536 in
theorem w_c3 : (Jvm.Cond.code ({ cls := "java/lang/Record", name := "<init>", desc := "()V" } : Jvm.MethodName) jdk_30_method_1_code (1 : Nat) (Option.none : Option Jvm.ClassFile.FieldType)).before args0 about1 = true := code_word (m := ⟨3, 0⟩) (meth := k3m0) (c := k3c0) (by decide +kernel) rfl rfl rfl (by decide +kernel)
set_option maxRecDepth 65536 in
theorem w_c4 : (Jvm.Cond.code ({ cls := "java/lang/Object", name := "<init>", desc := "()V" } : Jvm.MethodName) object_method_1_code (1 : Nat) (Option.none : Option Jvm.ClassFile.FieldType)).before args0 about1 = true := code_word (m := ⟨0, 0⟩) (meth := k0m0) (c := k0c0) (by decide +kernel) rfl rfl rfl (by decide +kernel)
set_option maxRecDepth 65536 in
theorem w_c5 : (Jvm.Cond.code ({ cls := "com/example/early_clock/earlyclock/Definition$Delay", name := "arguments", desc := "()Ljava/util/List;" } : Jvm.MethodName) prog_3_method_2_code (1 : Nat) (Option.some (Jvm.ClassFile.FieldType.object "java/util/List"))).before args0 about1 = true := code_word (m := ⟨5, 1⟩) (meth := k5m1) (c := k5c1) (by decide +kernel) rfl rfl rfl (by decide +kernel)
set_option maxRecDepth 65536 in
theorem w_c6 : (Jvm.Cond.code ({ cls := "java/lang/Integer", name := "valueOf", desc := "(I)Ljava/lang/Integer;" } : Jvm.MethodName) jdk_33_method_22_code (1 : Nat) (Option.some (Jvm.ClassFile.FieldType.object "java/lang/Integer"))).before args0 about1 = true := code_word (m := ⟨11, 0⟩) (meth := k11m0) (c := k11c0) (by decide +kernel) rfl rfl rfl (by decide +kernel)
set_option maxRecDepth 65536 in
theorem w_c7 : (Jvm.Cond.code ({ cls := "java/util/List", name := "of", desc := "(Ljava/lang/Object;Ljava/lang/Object;)Ljava/util/List;" } : Jvm.MethodName) jdk_40_method_38_code (2 : Nat) (Option.some (Jvm.ClassFile.FieldType.object "java/util/List"))).before args0 about1 = true := code_word (m := ⟨16, 2⟩) (meth := k16m2) (c := k16c2) (by decide +kernel) rfl rfl rfl (by decide +kernel)
set_option maxRecDepth 65536 in
theorem w_c8 : (Jvm.Cond.code ({ cls := "java/util/ImmutableCollections$List12", name := "<init>", desc := "(Ljava/lang/Object;Ljava/lang/Object;)V" } : Jvm.MethodName) jdk_44_method_2_code (3 : Nat) (Option.none : Option Jvm.ClassFile.FieldType)).before args0 about1 = true := code_word (m := ⟨21, 0⟩) (meth := k21m0) (c := k21c0) (by decide +kernel) rfl rfl rfl (by decide +kernel)
set_option maxRecDepth 65536 in
theorem w_c9 : (Jvm.Cond.code ({ cls := "java/util/ImmutableCollections$AbstractImmutableList", name := "<init>", desc := "()V" } : Jvm.MethodName) jdk_46_method_1_code (1 : Nat) (Option.none : Option Jvm.ClassFile.FieldType)).before args0 about1 = true := code_word (m := ⟨20, 0⟩) (meth := k20m0) (c := k20c0) (by decide +kernel) rfl rfl rfl (by decide +kernel)
set_option maxRecDepth 65536 in
theorem w_c10 : (Jvm.Cond.code ({ cls := "java/util/ImmutableCollections$AbstractImmutableCollection", name := "<init>", desc := "()V" } : Jvm.MethodName) jdk_47_method_1_code (1 : Nat) (Option.none : Option Jvm.ClassFile.FieldType)).before args0 about1 = true := code_word (m := ⟨18, 0⟩) (meth := k18m0) (c := k18c0) (by decide +kernel) rfl rfl rfl (by decide +kernel)
set_option maxRecDepth 65536 in
theorem w_c11 : (Jvm.Cond.code ({ cls := "java/util/AbstractCollection", name := "<init>", desc := "()V" } : Jvm.MethodName) jdk_22_method_1_code (1 : Nat) (Option.none : Option Jvm.ClassFile.FieldType)).before args0 about1 = true := code_word (m := ⟨17, 0⟩) (meth := k17m0) (c := k17c0) (by decide +kernel) rfl rfl rfl (by decide +kernel)
set_option maxRecDepth 65536 in
theorem w_c12 : (Jvm.Cond.code ({ cls := "java/util/Objects", name := "requireNonNull", desc := "(Ljava/lang/Object;)Ljava/lang/Object;" } : Jvm.MethodName) jdk_31_method_10_code (1 : Nat) (Option.some (Jvm.ClassFile.FieldType.object "java/lang/Object"))).before args0 about1 = true := code_word (m := ⟨22, 1⟩) (meth := k22m1) (c := k22c1) (by decide +kernel) rfl rfl rfl (by decide +kernel)
set_option maxRecDepth 65536 in
theorem w_c13 : (Jvm.Cond.code ({ cls := "java/util/ImmutableCollections$List12", name := "size", desc := "()I" } : Jvm.MethodName) jdk_44_method_3_code (1 : Nat) (Option.some Jvm.ClassFile.FieldType.int)).before args0 about1 = true := code_word (m := ⟨21, 1⟩) (meth := k21m1) (c := k21c1) (by decide +kernel) rfl rfl rfl (by decide +kernel)
set_option maxRecDepth 65536 in
theorem w_c14 : (Jvm.Cond.code ({ cls := "java/util/ImmutableCollections$List12", name := "get", desc := "(I)Ljava/lang/Object;" } : Jvm.MethodName) jdk_44_method_5_code (2 : Nat) (Option.some (Jvm.ClassFile.FieldType.object "java/lang/Object"))).before args0 about1 = true := code_word (m := ⟨21, 2⟩) (meth := k21m2) (c := k21c2) (by decide +kernel) rfl rfl rfl (by decide +kernel)
set_option maxRecDepth 65536 in
theorem w_c15 : (Jvm.Cond.code ({ cls := "java/lang/Integer", name := "intValue", desc := "()I" } : Jvm.MethodName) jdk_33_method_27_code (1 : Nat) (Option.some Jvm.ClassFile.FieldType.int)).before args0 about1 = true := code_word (m := ⟨11, 2⟩) (meth := k11m2) (c := k11c2) (by decide +kernel) rfl rfl rfl (by decide +kernel)
set_option maxRecDepth 65536 in
theorem w_c16 : (Jvm.Cond.code ({ cls := "java/lang/Integer", name := "<init>", desc := "(I)V" } : Jvm.MethodName) jdk_33_method_23_code (2 : Nat) (Option.none : Option Jvm.ClassFile.FieldType)).before args0 about1 = true := code_word (m := ⟨11, 1⟩) (meth := k11m1) (c := k11c1) (by decide +kernel) rfl rfl rfl (by decide +kernel)
set_option maxRecDepth 65536 in
theorem w_c17 : (Jvm.Cond.code ({ cls := "java/lang/Number", name := "<init>", desc := "()V" } : Jvm.MethodName) jdk_18_method_1_code (1 : Nat) (Option.none : Option Jvm.ClassFile.FieldType)).before args0 about1 = true := code_word (m := ⟨7, 0⟩) (meth := k7m0) (c := k7c0) (by decide +kernel) rfl rfl rfl (by decide +kernel)
def codes1 : List Jvm.Cond := [Jvm.Cond.code x code maxLocals ret, Jvm.Cond.code ({ cls := "java/lang/Math", name := "max", desc := "(JJ)J" } : Jvm.MethodName) jdk_29_method_66_code (4 : Nat) (Option.some Jvm.ClassFile.FieldType.long), Jvm.Cond.code ({ cls := "com/example/early_clock/earlyclock/Definition$Delay", name := "<init>", desc := "(IIJJI)V" } : Jvm.MethodName) prog_3_method_1_code (8 : Nat) (Option.none : Option Jvm.ClassFile.FieldType), Jvm.Cond.code ({ cls := "java/lang/Record", name := "<init>", desc := "()V" } : Jvm.MethodName) jdk_30_method_1_code (1 : Nat) (Option.none : Option Jvm.ClassFile.FieldType), Jvm.Cond.code ({ cls := "java/lang/Object", name := "<init>", desc := "()V" } : Jvm.MethodName) object_method_1_code (1 : Nat) (Option.none : Option Jvm.ClassFile.FieldType), Jvm.Cond.code ({ cls := "com/example/early_clock/earlyclock/Definition$Delay", name := "arguments", desc := "()Ljava/util/List;" } : Jvm.MethodName) prog_3_method_2_code (1 : Nat) (Option.some (Jvm.ClassFile.FieldType.object "java/util/List")), Jvm.Cond.code ({ cls := "java/lang/Integer", name := "valueOf", desc := "(I)Ljava/lang/Integer;" } : Jvm.MethodName) jdk_33_method_22_code (1 : Nat) (Option.some (Jvm.ClassFile.FieldType.object "java/lang/Integer")), Jvm.Cond.code ({ cls := "java/util/List", name := "of", desc := "(Ljava/lang/Object;Ljava/lang/Object;)Ljava/util/List;" } : Jvm.MethodName) jdk_40_method_38_code (2 : Nat) (Option.some (Jvm.ClassFile.FieldType.object "java/util/List")), Jvm.Cond.code ({ cls := "java/util/ImmutableCollections$List12", name := "<init>", desc := "(Ljava/lang/Object;Ljava/lang/Object;)V" } : Jvm.MethodName) jdk_44_method_2_code (3 : Nat) (Option.none : Option Jvm.ClassFile.FieldType), Jvm.Cond.code ({ cls := "java/util/ImmutableCollections$AbstractImmutableList", name := "<init>", desc := "()V" } : Jvm.MethodName) jdk_46_method_1_code (1 : Nat) (Option.none : Option Jvm.ClassFile.FieldType), Jvm.Cond.code ({ cls := "java/util/ImmutableCollections$AbstractImmutableCollection", name := "<init>", desc := "()V" } : Jvm.MethodName) jdk_47_method_1_code (1 : Nat) (Option.none : Option Jvm.ClassFile.FieldType), Jvm.Cond.code ({ cls := "java/util/AbstractCollection", name := "<init>", desc := "()V" } : Jvm.MethodName) jdk_22_method_1_code (1 : Nat) (Option.none : Option Jvm.ClassFile.FieldType), Jvm.Cond.code ({ cls := "java/util/Objects", name := "requireNonNull", desc := "(Ljava/lang/Object;)Ljava/lang/Object;" } : Jvm.MethodName) jdk_31_method_10_code (1 : Nat) (Option.some (Jvm.ClassFile.FieldType.object "java/lang/Object")), Jvm.Cond.code ({ cls := "java/util/ImmutableCollections$List12", name := "size", desc := "()I" } : Jvm.MethodName) jdk_44_method_3_code (1 : Nat) (Option.some Jvm.ClassFile.FieldType.int), Jvm.Cond.code ({ cls := "java/util/ImmutableCollections$List12", name := "get", desc := "(I)Ljava/lang/Object;" } : Jvm.MethodName) jdk_44_method_5_code (2 : Nat) (Option.some (Jvm.ClassFile.FieldType.object "java/lang/Object")), Jvm.Cond.code ({ cls := "java/lang/Integer", name := "intValue", desc := "()I" } : Jvm.MethodName) jdk_33_method_27_code (1 : Nat) (Option.some Jvm.ClassFile.FieldType.int), Jvm.Cond.code ({ cls := "java/lang/Integer", name := "<init>", desc := "(I)V" } : Jvm.MethodName) jdk_33_method_23_code (2 : Nat) (Option.none : Option Jvm.ClassFile.FieldType), Jvm.Cond.code ({ cls := "java/lang/Number", name := "<init>", desc := "()V" } : Jvm.MethodName) jdk_18_method_1_code (1 : Nat) (Option.none : Option Jvm.ClassFile.FieldType)]
set_option maxRecDepth 65536 in
theorem codes_eq : words1.filter isCode = codes1 := rfl
theorem w_codes : ∀ c ∈ words1.filter isCode, c.before args0 about1 = true := by
  rw [codes_eq]
  intro c hc
  simp only [codes1, List.mem_cons, List.not_mem_nil, or_false] at hc
  rcases hc with rfl | rfl | rfl | rfl | rfl | rfl | rfl | rfl | rfl | rfl | rfl | rfl | rfl | rfl | rfl | rfl | rfl | rfl
  · exact w_c0
  · exact w_c1
  · exact w_c2
  · exact w_c3
  · exact w_c4
  · exact w_c5
  · exact w_c6
  · exact w_c7
  · exact w_c8
  · exact w_c9
  · exact w_c10
  · exact w_c11
  · exact w_c12
  · exact w_c13
  · exact w_c14
  · exact w_c15
  · exact w_c16
  · exact w_c17
set_option maxRecDepth 65536 in
theorem w_t1 : (words1.take 24).all (fun c => isCode c || c.before args0 about1) = true := by decide +kernel
set_option maxRecDepth 65536 in
theorem w_t2 : ((words1.drop 24).take 24).all (fun c => isCode c || c.before args0 about1) = true := by decide +kernel
set_option maxRecDepth 65536 in
theorem w_t3 : (((words1.drop 24).drop 24).take 24).all (fun c => isCode c || c.before args0 about1) = true := by decide +kernel
set_option maxRecDepth 65536 in
theorem w_t4 : ((((words1.drop 24).drop 24).drop 24).take 24).all (fun c => isCode c || c.before args0 about1) = true := by decide +kernel
set_option maxRecDepth 65536 in
theorem w_t5 : ((((words1.drop 24).drop 24).drop 24).drop 24).all (fun c => isCode c || c.before args0 about1) = true := by decide +kernel
theorem w_tables : (allAtoms (Jvm.Cond.code x code maxLocals ret :: tables_1)).before args0 about1 = true := by
  rw [allAtoms_all]
  show words1.all (fun c => c.before args0 about1) = true
  refine all_split ?_ w_codes
  rw [← List.take_append_drop 24 words1, List.all_append, w_t1, ← List.take_append_drop 24 (words1.drop 24), List.all_append, w_t2, ← List.take_append_drop 24 ((words1.drop 24).drop 24), List.all_append, w_t3, ← List.take_append_drop 24 (((words1.drop 24).drop 24).drop 24), List.all_append, w_t4, w_t5]
  rfl
set_option maxRecDepth 65536 in
theorem w_rest : rest_1_c.before args0 about1 = true := by decide +kernel
set_option maxRecDepth 65536 in
theorem w_case : (Jvm.Cond.and given_1 narrow_1).before args0 about1 = true := by decide +kernel
theorem w_applies : (headSpec (Jvm.Cond.code x code maxLocals ret :: tables_1) room_1).applies x e0.platform about1 = true :=
  (Spec.applies_iff w_frames).mpr ⟨w_running, w_runnable, w_alone, w_named, w_hears, w_ripe, w_room, w_tables⟩
theorem atStart : AtStart classFile x code maxLocals ret World_1 tables_1 room_1 Calls_1 rest_1 Pre_1 launch0 p0 e0 about1 theMethod args0 below0 :=
  ⟨lists_1, trivial, launch0.admits_env _ _ _, launch0.least_env, fairChoices_fair.cas, fairChoices_fair.clock, w_frames, w_args, w_heap, w_applies, trivial, w_rest, w_case⟩
end start1
theorem witness_1 : WitnessClaimed_1 := ⟨start1.p0, start1.e0, start1.about1, start1.theMethod, start1.args0, start1.below0, start1.atStart⟩
end Jvm.Pilot.@@N@@
