import JvmDerived
import JvmDerived.Pilot.@@N@@Statement
import JvmDerived.Pilot.@@N@@Code
set_option linter.unusedVariables false
set_option linter.unusedSimpArgs false
namespace Jvm.Pilot.@@N@@
open Jvm Jvm.ClassFile Sem Op Lib Jvm.Free Jvm.Stand Jvm.LawKit Jvm.RoadKit Bundle Jvm.Pilot.@@N@@.Jvm.D
section OwnKit
variable {p : Program} {l : Launch} {e : Env} {R : Room} {s : State} {m : MethodId} {args : Array Value} {below : List Frame} {meth : Method} {c : Code} {T : State} {cells slots cells' slots' : Nat} {Z : State} {a0 : Array Value} {h h' : Heap} {n0 : Nat} {Q : Option Value → Heap → Prop} {own nm : String} {bytes : ByteArray} {maxL : Nat} {ret : Option FieldType} {pc pc' pt : Nat} {Ls : Array Slot} {stk : List Value}

/-- what stays true all through a body's walk -/
def Ctx (p : Program) (s : State) (m : MethodId) (meth : Method) (c : Code) (Z : State) (own nm : String) (bytes : ByteArray) (maxL : Nat) (ret : Option FieldType) : Prop :=
  (p.tables.exec = Jvm.exec ∧ Z.Warmed39 s.vm) ∧ (c.code = bytes ∧ c.maxLocals = maxL) ∧ (s.vm.findClass own = some m.cls ∧ meth.name = nm) ∧ (meth.sig.returnType = ret ∧ meth.locks = false)
theorem Ctx.hx (K : Ctx p s m meth c Z own nm bytes maxL ret) : p.tables.exec = Jvm.exec := K.1.1
theorem Ctx.hZ (K : Ctx p s m meth c Z own nm bytes maxL ret) : Z.Warmed39 s.vm := K.1.2
theorem Ctx.by' (K : Ctx p s m meth c Z own nm bytes maxL ret) : c.code = bytes := K.2.1.1
theorem Ctx.ml (K : Ctx p s m meth c Z own nm bytes maxL ret) : c.maxLocals = maxL := K.2.1.2
theorem Ctx.own' (K : Ctx p s m meth c Z own nm bytes maxL ret) : s.vm.findClass own = some m.cls := K.2.2.1.1
theorem Ctx.nm' (K : Ctx p s m meth c Z own nm bytes maxL ret) : meth.name = nm := K.2.2.1.2
theorem Ctx.ret' (K : Ctx p s m meth c Z own nm bytes maxL ret) : meth.sig.returnType = ret := K.2.2.2.1
theorem Ctx.locks (K : Ctx p s m meth c Z own nm bytes maxL ret) : meth.locks = false := K.2.2.2.2

/-- where the walk stands; what it has written lies at or above n0 -/
def St (p : Program) (l : Launch) (e : Env) (R : Room) (s : State) (m : MethodId) (args : Array Value) (below : List Frame) (meth : Method) (c : Code) (n0 : Nat) (T : State) (cells slots : Nat) : Prop :=
  ∃ locs, Stand p l e R s m args below meth c T locs cells slots ∧ Fr n0 locs
theorem St.mono (X : St p l e R s m args below meth c n0 T cells slots) (hc : cells ≤ cells') (hs : slots ≤ slots') : St p l e R s m args below meth c n0 T cells' slots' := by
  obtain ⟨locs, X, N⟩ := X
  exact ⟨locs, { X with same := X.same.mono hc hs }, N⟩

/-- from the state st the body returns, and what it leaves is as Q says -/
def Go (p : Program) (e : Env) (below : List Frame) (s : State) (R : Room) (n0 : Nat) (Q : Option Value → Heap → Prop) (st : State) : Prop :=
  ∃ s₂ o, Steps p.tables e below st s₂ ∧ s₂.status = .running ∧ Ended s₂ below o ∧ ∃ v L, o = .returned v ∧ (Q v s₂.heap ∧ Fr n0 L) ∧ FrameEnd s o s₂ L R.cells R.slots
theorem go_by {st st' : State} (h : ∀ t, Steps p.tables e below st' t → Steps p.tables e below st t) (k : Go p e below s R n0 Q st') : Go p e below s R n0 Q st := by
  obtain ⟨s₂, o, h1, h2⟩ := k
  exact ⟨s₂, o, h _ h1, h2⟩
theorem own_cut {α : Sort _} {P : α → Prop} {S : α → State} {st : State} (h1 : (∀ b, P b → Go p e below s R n0 Q (S b)) → Go p e below s R n0 Q st) (h2 : ∀ b, P b → Go p e below s R n0 Q (S b)) : Go p e below s R n0 Q st := h1 h2
theorem go_mono {Q' : Option Value → Heap → Prop} {st : State} (k : Go p e below s R n0 Q st) (h : ∀ v u, Q v u → Q' v u) : Go p e below s R n0 Q' st := by
  obtain ⟨s₂, o, h1, h2, h3, v, L, h4, h5, h6⟩ := k
  exact ⟨s₂, o, h1, h2, h3, v, L, h4, ⟨h _ _ h5.1, h5.2⟩, h6⟩

/-- a body's contract at the arguments as' and the heap h0 -/
def Con (l : Launch) (Z : State) (n0 : Nat) (y : MethodName) (bytes : ByteArray) (maxL : Nat) (ret : Option FieldType) (rm : Room) (as' : Array Value) (h0 : Heap) (Q : Option Value → Heap → Prop) : Prop :=
  ∀ ws : List Jvm.Cond, MetFree l y (head1 (Jvm.Cond.code y bytes maxL ret :: ws) rm) (fun a U => a = as' ∧ Z.Warmed39 U.vm ∧ U.heap = h0) (fun _ _ _ _ _ => True) (fun _ U o U' => ∃ v L, o = .returned v ∧ (Q v U'.heap ∧ Fr n0 L) ∧ FrameEnd U o U' L rm.cells rm.slots)
theorem con_of {y : MethodName} {rm : Room} {as' : Array Value} {h0 : Heap} (hx : plainFor y = true)
    (body : ∀ p e s m below meth c T, Ctx p s m meth c Z y.cls y.name bytes maxL ret → St p l e rm s m as' below meth c n0 T 0 0 → T.heap = h0 → Go p e below s rm n0 Q (T.setTop (entryFrame m as' maxL))) :
    Con l Z n0 y bytes maxL ret rm as' h0 Q := by
  intro ws
  refine MetFree.of_bodySF hx hisR ?_
  intro p e s m args below meth c s₁ Bd hml0 hP hK
  obtain ⟨hargs, hZ, hh⟩ := hP
  have X0 := Stand.of_body Bd
  have hnm := (name_of_methodNamed Bd.named Bd.method).1
  rw [hargs] at X0 ⊢
  obtain ⟨s₂, o, h1, h2, h3, v, L, h4, h5, h6⟩ := body p e s m below meth c s₁ ⟨⟨Bd.exec, hZ⟩, ⟨Bd.bytes, hml0⟩, ⟨findClass_of_methodNamed Bd.named, hnm⟩, ⟨Bd.returns, BodyLoose.notSynchronized Bd⟩⟩ ⟨[], X0, Fr.nil n0⟩ (by rw [← hh, Bd.state]; rfl)
  exact ⟨s₂, o, h1, h2, h3, v, L, h4, h5, h6⟩
theorem con_mono {y : MethodName} {rm : Room} {as' : Array Value} {h0 : Heap} {Q' : Option Value → Heap → Prop} (C : Con l Z n0 y bytes maxL ret rm as' h0 Q) (h : ∀ v u, Q v u → Q' v u) : Con l Z n0 y bytes maxL ret rm as' h0 Q' := by
  intro ws p e ha hc hk s m args below hf happ hP hK
  obtain ⟨n, o, h1, h2, h3, v, L, h4, h5, h6⟩ := C ws p e ha hc hk s m args below hf happ hP hK
  exact ⟨n, o, h1, h2, h3, v, L, h4, ⟨h _ _ h5.1, h5.2⟩, h6⟩
theorem go_entry {as' : Array Value} {g : JFrame} (q : entryFrame m as' maxL = g) (k : Go p e below s R n0 Q (T.setTop g)) : Go p e below s R n0 Q (T.setTop (entryFrame m as' maxL)) := by rw [q]; exact k
theorem wd (hw : ∀ d ∈ tables_1, d.before a0 Z = true) (i : Nat) {d : Jvm.Cond} (q : tables_1[i]? = some d) : d.before a0 Z = true := hw d (List.mem_of_getElem? q)

theorem go_iloadN (K : Ctx p s m meth c Z own nm bytes maxL ret) (X : St p l e R s m args below meth c n0 T cells slots) {k0 : Fin 4} {v : Int32} (hd : decode bytes pc = .ok (.iload_n k0, 1)) (hl : Ls[k0.val]? = some (.val (.int v))) (hp : pc + 1 = pc')
    (k : Go p e below s R n0 Q (T.setTop (mkF m pc' Ls (.int v :: stk)))) : Go p e below s R n0 Q (T.setTop (mkF m pc Ls (stk))) := by
  subst hp; obtain ⟨locs, X, N⟩ := X
  exact go_by (fun t k => XS.iloadN X.here K.hx rfl (hb K.by' hd) hl k) k

theorem go_iload (K : Ctx p s m meth c Z own nm bytes maxL ret) (X : St p l e R s m args below meth c n0 T cells slots) {k0 : Nat} {v : Int32} (hd : decode bytes pc = .ok (.iload k0, 2)) (hl : Ls[k0]? = some (.val (.int v))) (hp : pc + 2 = pc')
    (k : Go p e below s R n0 Q (T.setTop (mkF m pc' Ls (.int v :: stk)))) : Go p e below s R n0 Q (T.setTop (mkF m pc Ls (stk))) := by
  subst hp; obtain ⟨locs, X, N⟩ := X
  exact go_by (fun t k => XS.iload X.here K.hx rfl (hb K.by' hd) hl k) k

theorem go_lloadN (K : Ctx p s m meth c Z own nm bytes maxL ret) (X : St p l e R s m args below meth c n0 T cells slots) {k0 : Fin 4} {v : Int64} (hd : decode bytes pc = .ok (.lload_n k0, 1)) (hl : Ls[k0.val]? = some (.val (.long v))) (hp : pc + 1 = pc')
    (k : Go p e below s R n0 Q (T.setTop (mkF m pc' Ls (.long v :: stk)))) : Go p e below s R n0 Q (T.setTop (mkF m pc Ls (stk))) := by
  subst hp; obtain ⟨locs, X, N⟩ := X
  exact go_by (fun t k => XS.lloadN X.here K.hx rfl (hb K.by' hd) hl k) k

theorem go_lload (K : Ctx p s m meth c Z own nm bytes maxL ret) (X : St p l e R s m args below meth c n0 T cells slots) {k0 : Nat} {v : Int64} (hd : decode bytes pc = .ok (.lload k0, 2)) (hl : Ls[k0]? = some (.val (.long v))) (hp : pc + 2 = pc')
    (k : Go p e below s R n0 Q (T.setTop (mkF m pc' Ls (.long v :: stk)))) : Go p e below s R n0 Q (T.setTop (mkF m pc Ls (stk))) := by
  subst hp; obtain ⟨locs, X, N⟩ := X
  exact go_by (fun t k => XS.lload X.here K.hx rfl (hb K.by' hd) hl k) k

theorem go_aloadN (K : Ctx p s m meth c Z own nm bytes maxL ret) (X : St p l e R s m args below meth c n0 T cells slots) {k0 : Fin 4} {v : Value} (hd : decode bytes pc = .ok (.aload_n k0, 1)) (hl : Ls[k0.val]? = some (.val v)) (hv : v.isRef = true) (hp : pc + 1 = pc')
    (k : Go p e below s R n0 Q (T.setTop (mkF m pc' Ls (v :: stk)))) : Go p e below s R n0 Q (T.setTop (mkF m pc Ls (stk))) := by
  subst hp; obtain ⟨locs, X, N⟩ := X
  exact go_by (fun t k => XS.aloadN X.here K.hx rfl (hb K.by' hd) hl hv k) k

theorem go_aload (K : Ctx p s m meth c Z own nm bytes maxL ret) (X : St p l e R s m args below meth c n0 T cells slots) {k0 : Nat} {v : Value} (hd : decode bytes pc = .ok (.aload k0, 2)) (hl : Ls[k0]? = some (.val v)) (hv : v.isRef = true) (hp : pc + 2 = pc')
    (k : Go p e below s R n0 Q (T.setTop (mkF m pc' Ls (v :: stk)))) : Go p e below s R n0 Q (T.setTop (mkF m pc Ls (stk))) := by
  subst hp; obtain ⟨locs, X, N⟩ := X
  exact go_by (fun t k => XS.aload X.here K.hx rfl (hb K.by' hd) hl hv k) k

theorem go_iconst (K : Ctx p s m meth c Z own nm bytes maxL ret) (X : St p l e R s m args below meth c n0 T cells slots) {i : Int} (v : Int32) (hd : decode bytes pc = .ok (.iconst i, 1)) (hv : Int32.ofInt i = v) (hp : pc + 1 = pc')
    (k : Go p e below s R n0 Q (T.setTop (mkF m pc' Ls (.int v :: stk)))) : Go p e below s R n0 Q (T.setTop (mkF m pc Ls (stk))) := by
  subst hp; obtain ⟨locs, X, N⟩ := X
  exact go_by (fun t k => XT.iconstV X.here K.hx rfl v (hb K.by' hd) hv k) k

theorem go_bipush (K : Ctx p s m meth c Z own nm bytes maxL ret) (X : St p l e R s m args below meth c n0 T cells slots) {i : Int} (v : Int32) (hd : decode bytes pc = .ok (.bipush i, 2)) (hv : (Int8.ofInt i).toInt32 = v) (hp : pc + 2 = pc')
    (k : Go p e below s R n0 Q (T.setTop (mkF m pc' Ls (.int v :: stk)))) : Go p e below s R n0 Q (T.setTop (mkF m pc Ls (stk))) := by
  subst hp; obtain ⟨locs, X, N⟩ := X
  exact go_by (fun t k => XT.bipushV X.here K.hx rfl v (hb K.by' hd) hv k) k

theorem go_sipush (K : Ctx p s m meth c Z own nm bytes maxL ret) (X : St p l e R s m args below meth c n0 T cells slots) {i : Int} (v : Int32) (hd : decode bytes pc = .ok (.sipush i, 3)) (hv : (Int16.ofInt i).toInt32 = v) (hp : pc + 3 = pc')
    (k : Go p e below s R n0 Q (T.setTop (mkF m pc' Ls (.int v :: stk)))) : Go p e below s R n0 Q (T.setTop (mkF m pc Ls (stk))) := by
  subst hp; obtain ⟨locs, X, N⟩ := X
  exact go_by (fun t k => XT.sipushV X.here K.hx rfl v (hb K.by' hd) hv k) k

theorem go_lconst (K : Ctx p s m meth c Z own nm bytes maxL ret) (X : St p l e R s m args below meth c n0 T cells slots) {i : Fin 2} (v : Int64) (hd : decode bytes pc = .ok (.lconst i, 1)) (hv : Int64.ofNat i = v) (hp : pc + 1 = pc')
    (k : Go p e below s R n0 Q (T.setTop (mkF m pc' Ls (.long v :: stk)))) : Go p e below s R n0 Q (T.setTop (mkF m pc Ls (stk))) := by
  subst hp; obtain ⟨locs, X, N⟩ := X
  exact go_by (fun t k => XT.lconstV X.here K.hx rfl v (hb K.by' hd) hv k) k

theorem go_null (K : Ctx p s m meth c Z own nm bytes maxL ret) (X : St p l e R s m args below meth c n0 T cells slots)  (hd : decode bytes pc = .ok (.aconst_null, 1)) (hp : pc + 1 = pc')
    (k : Go p e below s R n0 Q (T.setTop (mkF m pc' Ls (.null :: stk)))) : Go p e below s R n0 Q (T.setTop (mkF m pc Ls (stk))) := by
  subst hp; obtain ⟨locs, X, N⟩ := X
  exact go_by (fun t k => XS.aconstNull X.here K.hx rfl (hb K.by' hd) k) k

theorem go_ldcI (K : Ctx p s m meth c Z own nm bytes maxL ret) (X : St p l e R s m args below meth c n0 T cells slots) {index : Nat} {v : Int32} (w : (Cond.constant own index v).before a0 Z = true) (hd : decode bytes pc = .ok (.ldc index, 2)) (hp : pc + 2 = pc')
    (k : Go p e below s R n0 Q (T.setTop (mkF m pc' Ls (.int v :: stk)))) : Go p e below s R n0 Q (T.setTop (mkF m pc Ls (stk))) := by
  subst hp; obtain ⟨locs, X, N⟩ := X
  exact go_by (fun t k => X.ldcI K.hx K.own' (mvT K.hZ w) rfl (hb K.by' hd) k) k

theorem go_ldcWI (K : Ctx p s m meth c Z own nm bytes maxL ret) (X : St p l e R s m args below meth c n0 T cells slots) {index : Nat} {v : Int32} (w : (Cond.constant own index v).before a0 Z = true) (hd : decode bytes pc = .ok (.ldc_w index, 3)) (hp : pc + 3 = pc')
    (k : Go p e below s R n0 Q (T.setTop (mkF m pc' Ls (.int v :: stk)))) : Go p e below s R n0 Q (T.setTop (mkF m pc Ls (stk))) := by
  subst hp; obtain ⟨locs, X, N⟩ := X
  exact go_by (fun t k => X.ldcWI K.hx K.own' (mvT K.hZ w) rfl (hb K.by' hd) k) k

theorem go_ldc2J (K : Ctx p s m meth c Z own nm bytes maxL ret) (X : St p l e R s m args below meth c n0 T cells slots) {index : Nat} {v : Int64} (w : (Cond.constantLong own index v).before a0 Z = true) (hd : decode bytes pc = .ok (.ldc2_w index, 3)) (hp : pc + 3 = pc')
    (k : Go p e below s R n0 Q (T.setTop (mkF m pc' Ls (.long v :: stk)))) : Go p e below s R n0 Q (T.setTop (mkF m pc Ls (stk))) := by
  subst hp; obtain ⟨locs, X, N⟩ := X
  exact go_by (fun t k => X.ldc2J K.hx K.own' (mvT K.hZ w) rfl (hb K.by' hd) k) k

theorem go_iadd (K : Ctx p s m meth c Z own nm bytes maxL ret) (X : St p l e R s m args below meth c n0 T cells slots) {x y : Int32} (hd : decode bytes pc = .ok (.iadd, 1)) (hp : pc + 1 = pc')
    (k : Go p e below s R n0 Q (T.setTop (mkF m pc' Ls (.int (x + y) :: stk)))) : Go p e below s R n0 Q (T.setTop (mkF m pc Ls (.int y :: .int x :: stk))) := by
  subst hp; obtain ⟨locs, X, N⟩ := X
  exact go_by (fun t k => XS.iadd X.here K.hx rfl (hb K.by' hd) rfl k) k

theorem go_isub (K : Ctx p s m meth c Z own nm bytes maxL ret) (X : St p l e R s m args below meth c n0 T cells slots) {x y : Int32} (hd : decode bytes pc = .ok (.isub, 1)) (hp : pc + 1 = pc')
    (k : Go p e below s R n0 Q (T.setTop (mkF m pc' Ls (.int (x - y) :: stk)))) : Go p e below s R n0 Q (T.setTop (mkF m pc Ls (.int y :: .int x :: stk))) := by
  subst hp; obtain ⟨locs, X, N⟩ := X
  exact go_by (fun t k => XS.isub X.here K.hx rfl (hb K.by' hd) rfl k) k

theorem go_imul (K : Ctx p s m meth c Z own nm bytes maxL ret) (X : St p l e R s m args below meth c n0 T cells slots) {x y : Int32} (hd : decode bytes pc = .ok (.imul, 1)) (hp : pc + 1 = pc')
    (k : Go p e below s R n0 Q (T.setTop (mkF m pc' Ls (.int (x * y) :: stk)))) : Go p e below s R n0 Q (T.setTop (mkF m pc Ls (.int y :: .int x :: stk))) := by
  subst hp; obtain ⟨locs, X, N⟩ := X
  exact go_by (fun t k => XS.imul X.here K.hx rfl (hb K.by' hd) rfl k) k

theorem go_iand (K : Ctx p s m meth c Z own nm bytes maxL ret) (X : St p l e R s m args below meth c n0 T cells slots) {x y : Int32} (hd : decode bytes pc = .ok (.iand, 1)) (hp : pc + 1 = pc')
    (k : Go p e below s R n0 Q (T.setTop (mkF m pc' Ls (.int (x &&& y) :: stk)))) : Go p e below s R n0 Q (T.setTop (mkF m pc Ls (.int y :: .int x :: stk))) := by
  subst hp; obtain ⟨locs, X, N⟩ := X
  exact go_by (fun t k => XS.iand X.here K.hx rfl (hb K.by' hd) rfl k) k

theorem go_ior (K : Ctx p s m meth c Z own nm bytes maxL ret) (X : St p l e R s m args below meth c n0 T cells slots) {x y : Int32} (hd : decode bytes pc = .ok (.ior, 1)) (hp : pc + 1 = pc')
    (k : Go p e below s R n0 Q (T.setTop (mkF m pc' Ls (.int (x ||| y) :: stk)))) : Go p e below s R n0 Q (T.setTop (mkF m pc Ls (.int y :: .int x :: stk))) := by
  subst hp; obtain ⟨locs, X, N⟩ := X
  exact go_by (fun t k => XS.ior X.here K.hx rfl (hb K.by' hd) rfl k) k

theorem go_ixor (K : Ctx p s m meth c Z own nm bytes maxL ret) (X : St p l e R s m args below meth c n0 T cells slots) {x y : Int32} (hd : decode bytes pc = .ok (.ixor, 1)) (hp : pc + 1 = pc')
    (k : Go p e below s R n0 Q (T.setTop (mkF m pc' Ls (.int (x ^^^ y) :: stk)))) : Go p e below s R n0 Q (T.setTop (mkF m pc Ls (.int y :: .int x :: stk))) := by
  subst hp; obtain ⟨locs, X, N⟩ := X
  exact go_by (fun t k => XS.ixor X.here K.hx rfl (hb K.by' hd) rfl k) k

theorem go_ishl (K : Ctx p s m meth c Z own nm bytes maxL ret) (X : St p l e R s m args below meth c n0 T cells slots) {x y : Int32} (hd : decode bytes pc = .ok (.ishl, 1)) (hp : pc + 1 = pc')
    (k : Go p e below s R n0 Q (T.setTop (mkF m pc' Ls (.int (x <<< (y &&& 31)) :: stk)))) : Go p e below s R n0 Q (T.setTop (mkF m pc Ls (.int y :: .int x :: stk))) := by
  subst hp; obtain ⟨locs, X, N⟩ := X
  exact go_by (fun t k => XS.ishl X.here K.hx rfl (hb K.by' hd) rfl k) k

theorem go_ishr (K : Ctx p s m meth c Z own nm bytes maxL ret) (X : St p l e R s m args below meth c n0 T cells slots) {x y : Int32} (hd : decode bytes pc = .ok (.ishr, 1)) (hp : pc + 1 = pc')
    (k : Go p e below s R n0 Q (T.setTop (mkF m pc' Ls (.int (x >>> (y &&& 31)) :: stk)))) : Go p e below s R n0 Q (T.setTop (mkF m pc Ls (.int y :: .int x :: stk))) := by
  subst hp; obtain ⟨locs, X, N⟩ := X
  exact go_by (fun t k => XS.ishr X.here K.hx rfl (hb K.by' hd) rfl k) k

theorem go_iushr (K : Ctx p s m meth c Z own nm bytes maxL ret) (X : St p l e R s m args below meth c n0 T cells slots) {x y : Int32} (hd : decode bytes pc = .ok (.iushr, 1)) (hp : pc + 1 = pc')
    (k : Go p e below s R n0 Q (T.setTop (mkF m pc' Ls (.int ((x.toUInt32 >>> (y &&& 31).toUInt32).toInt32) :: stk)))) : Go p e below s R n0 Q (T.setTop (mkF m pc Ls (.int y :: .int x :: stk))) := by
  subst hp; obtain ⟨locs, X, N⟩ := X
  exact go_by (fun t k => XS.iushr X.here K.hx rfl (hb K.by' hd) rfl k) k

theorem go_ladd (K : Ctx p s m meth c Z own nm bytes maxL ret) (X : St p l e R s m args below meth c n0 T cells slots) {x y : Int64} (hd : decode bytes pc = .ok (.ladd, 1)) (hp : pc + 1 = pc')
    (k : Go p e below s R n0 Q (T.setTop (mkF m pc' Ls (.long (x + y) :: stk)))) : Go p e below s R n0 Q (T.setTop (mkF m pc Ls (.long y :: .long x :: stk))) := by
  subst hp; obtain ⟨locs, X, N⟩ := X
  exact go_by (fun t k => XS.ladd X.here K.hx rfl (hb K.by' hd) rfl k) k

theorem go_lsub (K : Ctx p s m meth c Z own nm bytes maxL ret) (X : St p l e R s m args below meth c n0 T cells slots) {x y : Int64} (hd : decode bytes pc = .ok (.lsub, 1)) (hp : pc + 1 = pc')
    (k : Go p e below s R n0 Q (T.setTop (mkF m pc' Ls (.long (x - y) :: stk)))) : Go p e below s R n0 Q (T.setTop (mkF m pc Ls (.long y :: .long x :: stk))) := by
  subst hp; obtain ⟨locs, X, N⟩ := X
  exact go_by (fun t k => XS.lsub X.here K.hx rfl (hb K.by' hd) rfl k) k

theorem go_lmul (K : Ctx p s m meth c Z own nm bytes maxL ret) (X : St p l e R s m args below meth c n0 T cells slots) {x y : Int64} (hd : decode bytes pc = .ok (.lmul, 1)) (hp : pc + 1 = pc')
    (k : Go p e below s R n0 Q (T.setTop (mkF m pc' Ls (.long (x * y) :: stk)))) : Go p e below s R n0 Q (T.setTop (mkF m pc Ls (.long y :: .long x :: stk))) := by
  subst hp; obtain ⟨locs, X, N⟩ := X
  exact go_by (fun t k => XS.lmul X.here K.hx rfl (hb K.by' hd) rfl k) k

theorem go_land (K : Ctx p s m meth c Z own nm bytes maxL ret) (X : St p l e R s m args below meth c n0 T cells slots) {x y : Int64} (hd : decode bytes pc = .ok (.land, 1)) (hp : pc + 1 = pc')
    (k : Go p e below s R n0 Q (T.setTop (mkF m pc' Ls (.long (x &&& y) :: stk)))) : Go p e below s R n0 Q (T.setTop (mkF m pc Ls (.long y :: .long x :: stk))) := by
  subst hp; obtain ⟨locs, X, N⟩ := X
  exact go_by (fun t k => XS.land X.here K.hx rfl (hb K.by' hd) rfl k) k

theorem go_lor (K : Ctx p s m meth c Z own nm bytes maxL ret) (X : St p l e R s m args below meth c n0 T cells slots) {x y : Int64} (hd : decode bytes pc = .ok (.lor, 1)) (hp : pc + 1 = pc')
    (k : Go p e below s R n0 Q (T.setTop (mkF m pc' Ls (.long (x ||| y) :: stk)))) : Go p e below s R n0 Q (T.setTop (mkF m pc Ls (.long y :: .long x :: stk))) := by
  subst hp; obtain ⟨locs, X, N⟩ := X
  exact go_by (fun t k => XS.lor X.here K.hx rfl (hb K.by' hd) rfl k) k

theorem go_lxor (K : Ctx p s m meth c Z own nm bytes maxL ret) (X : St p l e R s m args below meth c n0 T cells slots) {x y : Int64} (hd : decode bytes pc = .ok (.lxor, 1)) (hp : pc + 1 = pc')
    (k : Go p e below s R n0 Q (T.setTop (mkF m pc' Ls (.long (x ^^^ y) :: stk)))) : Go p e below s R n0 Q (T.setTop (mkF m pc Ls (.long y :: .long x :: stk))) := by
  subst hp; obtain ⟨locs, X, N⟩ := X
  exact go_by (fun t k => XS.lxor X.here K.hx rfl (hb K.by' hd) rfl k) k

theorem go_lshl (K : Ctx p s m meth c Z own nm bytes maxL ret) (X : St p l e R s m args below meth c n0 T cells slots) {x : Int64} {y : Int32} (hd : decode bytes pc = .ok (.lshl, 1)) (hp : pc + 1 = pc')
    (k : Go p e below s R n0 Q (T.setTop (mkF m pc' Ls (.long (x <<< (y &&& 0x3f).toInt64) :: stk)))) : Go p e below s R n0 Q (T.setTop (mkF m pc Ls (.int y :: .long x :: stk))) := by
  subst hp; obtain ⟨locs, X, N⟩ := X
  exact go_by (fun t k => XS.lshl X.here K.hx rfl (hb K.by' hd) rfl k) k

theorem go_lshr (K : Ctx p s m meth c Z own nm bytes maxL ret) (X : St p l e R s m args below meth c n0 T cells slots) {x : Int64} {y : Int32} (hd : decode bytes pc = .ok (.lshr, 1)) (hp : pc + 1 = pc')
    (k : Go p e below s R n0 Q (T.setTop (mkF m pc' Ls (.long (x >>> (y &&& 0x3f).toInt64) :: stk)))) : Go p e below s R n0 Q (T.setTop (mkF m pc Ls (.int y :: .long x :: stk))) := by
  subst hp; obtain ⟨locs, X, N⟩ := X
  exact go_by (fun t k => XS.lshr X.here K.hx rfl (hb K.by' hd) rfl k) k

theorem go_lushr (K : Ctx p s m meth c Z own nm bytes maxL ret) (X : St p l e R s m args below meth c n0 T cells slots) {x : Int64} {y : Int32} (hd : decode bytes pc = .ok (.lushr, 1)) (hp : pc + 1 = pc')
    (k : Go p e below s R n0 Q (T.setTop (mkF m pc' Ls (.long ((x.toUInt64 >>> (y &&& 0x3f).toInt64.toUInt64).toInt64) :: stk)))) : Go p e below s R n0 Q (T.setTop (mkF m pc Ls (.int y :: .long x :: stk))) := by
  subst hp; obtain ⟨locs, X, N⟩ := X
  exact go_by (fun t k => XS.lushr X.here K.hx rfl (hb K.by' hd) rfl k) k

theorem go_idiv (K : Ctx p s m meth c Z own nm bytes maxL ret) (X : St p l e R s m args below meth c n0 T cells slots) {x y : Int32} (hd : decode bytes pc = .ok (.idiv, 1)) (hy : y ≠ 0) (hp : pc + 1 = pc')
    (k : Go p e below s R n0 Q (T.setTop (mkF m pc' Ls (.int (x / y) :: stk)))) : Go p e below s R n0 Q (T.setTop (mkF m pc Ls (.int y :: .int x :: stk))) := by
  subst hp; obtain ⟨locs, X, N⟩ := X
  exact go_by (fun t k => XS.idiv X.here K.hx rfl (hb K.by' hd) rfl hy k) k

theorem go_irem (K : Ctx p s m meth c Z own nm bytes maxL ret) (X : St p l e R s m args below meth c n0 T cells slots) {x y : Int32} (hd : decode bytes pc = .ok (.irem, 1)) (hy : y ≠ 0) (hp : pc + 1 = pc')
    (k : Go p e below s R n0 Q (T.setTop (mkF m pc' Ls (.int (x % y) :: stk)))) : Go p e below s R n0 Q (T.setTop (mkF m pc Ls (.int y :: .int x :: stk))) := by
  subst hp; obtain ⟨locs, X, N⟩ := X
  exact go_by (fun t k => iremM X K.hx rfl (hb K.by' hd) rfl hy k) k

theorem go_ldiv (K : Ctx p s m meth c Z own nm bytes maxL ret) (X : St p l e R s m args below meth c n0 T cells slots) {x y : Int64} (hd : decode bytes pc = .ok (.ldiv, 1)) (hy : y ≠ 0) (hp : pc + 1 = pc')
    (k : Go p e below s R n0 Q (T.setTop (mkF m pc' Ls (.long (x / y) :: stk)))) : Go p e below s R n0 Q (T.setTop (mkF m pc Ls (.long y :: .long x :: stk))) := by
  subst hp; obtain ⟨locs, X, N⟩ := X
  exact go_by (fun t k => XS.ldiv X.here K.hx rfl (hb K.by' hd) rfl hy k) k

theorem go_lrem (K : Ctx p s m meth c Z own nm bytes maxL ret) (X : St p l e R s m args below meth c n0 T cells slots) {x y : Int64} (hd : decode bytes pc = .ok (.lrem, 1)) (hy : y ≠ 0) (hp : pc + 1 = pc')
    (k : Go p e below s R n0 Q (T.setTop (mkF m pc' Ls (.long (x - (x / y) * y) :: stk)))) : Go p e below s R n0 Q (T.setTop (mkF m pc Ls (.long y :: .long x :: stk))) := by
  subst hp; obtain ⟨locs, X, N⟩ := X
  exact go_by (fun t k => XS.lrem X.here K.hx rfl (hb K.by' hd) rfl hy k) k

theorem go_ineg (K : Ctx p s m meth c Z own nm bytes maxL ret) (X : St p l e R s m args below meth c n0 T cells slots) {x : Int32} (hd : decode bytes pc = .ok (.ineg, 1)) (hp : pc + 1 = pc')
    (k : Go p e below s R n0 Q (T.setTop (mkF m pc' Ls (.int (-x) :: stk)))) : Go p e below s R n0 Q (T.setTop (mkF m pc Ls (.int x :: stk))) := by
  subst hp; obtain ⟨locs, X, N⟩ := X
  exact go_by (fun t k => XS.ineg X.here K.hx rfl (hb K.by' hd) rfl k) k

theorem go_lneg (K : Ctx p s m meth c Z own nm bytes maxL ret) (X : St p l e R s m args below meth c n0 T cells slots) {x : Int64} (hd : decode bytes pc = .ok (.lneg, 1)) (hp : pc + 1 = pc')
    (k : Go p e below s R n0 Q (T.setTop (mkF m pc' Ls (.long (-x) :: stk)))) : Go p e below s R n0 Q (T.setTop (mkF m pc Ls (.long x :: stk))) := by
  subst hp; obtain ⟨locs, X, N⟩ := X
  exact go_by (fun t k => XS.lneg X.here K.hx rfl (hb K.by' hd) rfl k) k

theorem go_i2b (K : Ctx p s m meth c Z own nm bytes maxL ret) (X : St p l e R s m args below meth c n0 T cells slots) {x : Int32} (hd : decode bytes pc = .ok (.i2b, 1)) (hp : pc + 1 = pc')
    (k : Go p e below s R n0 Q (T.setTop (mkF m pc' Ls (.int (x.toInt8.toInt32) :: stk)))) : Go p e below s R n0 Q (T.setTop (mkF m pc Ls (.int x :: stk))) := by
  subst hp; obtain ⟨locs, X, N⟩ := X
  exact go_by (fun t k => XS.i2b X.here K.hx rfl (hb K.by' hd) rfl k) k

theorem go_i2c (K : Ctx p s m meth c Z own nm bytes maxL ret) (X : St p l e R s m args below meth c n0 T cells slots) {x : Int32} (hd : decode bytes pc = .ok (.i2c, 1)) (hp : pc + 1 = pc')
    (k : Go p e below s R n0 Q (T.setTop (mkF m pc' Ls (.int (x.toUInt32.toUInt16.toUInt32.toInt32) :: stk)))) : Go p e below s R n0 Q (T.setTop (mkF m pc Ls (.int x :: stk))) := by
  subst hp; obtain ⟨locs, X, N⟩ := X
  exact go_by (fun t k => XS.i2c X.here K.hx rfl (hb K.by' hd) rfl k) k

theorem go_i2s (K : Ctx p s m meth c Z own nm bytes maxL ret) (X : St p l e R s m args below meth c n0 T cells slots) {x : Int32} (hd : decode bytes pc = .ok (.i2s, 1)) (hp : pc + 1 = pc')
    (k : Go p e below s R n0 Q (T.setTop (mkF m pc' Ls (.int (x.toInt16.toInt32) :: stk)))) : Go p e below s R n0 Q (T.setTop (mkF m pc Ls (.int x :: stk))) := by
  subst hp; obtain ⟨locs, X, N⟩ := X
  exact go_by (fun t k => XS.i2s X.here K.hx rfl (hb K.by' hd) rfl k) k

theorem go_i2l (K : Ctx p s m meth c Z own nm bytes maxL ret) (X : St p l e R s m args below meth c n0 T cells slots) {x : Int32} (hd : decode bytes pc = .ok (.i2l, 1)) (hp : pc + 1 = pc')
    (k : Go p e below s R n0 Q (T.setTop (mkF m pc' Ls (.long x.toInt64 :: stk)))) : Go p e below s R n0 Q (T.setTop (mkF m pc Ls (.int x :: stk))) := by
  subst hp; obtain ⟨locs, X, N⟩ := X
  exact go_by (fun t k => XS.i2l X.here K.hx rfl (hb K.by' hd) rfl k) k

theorem go_l2i (K : Ctx p s m meth c Z own nm bytes maxL ret) (X : St p l e R s m args below meth c n0 T cells slots) {x : Int64} (hd : decode bytes pc = .ok (.l2i, 1)) (hp : pc + 1 = pc')
    (k : Go p e below s R n0 Q (T.setTop (mkF m pc' Ls (.int x.toInt32 :: stk)))) : Go p e below s R n0 Q (T.setTop (mkF m pc Ls (.long x :: stk))) := by
  subst hp; obtain ⟨locs, X, N⟩ := X
  exact go_by (fun t k => XS.l2i X.here K.hx rfl (hb K.by' hd) rfl k) k

theorem go_istoreN (K : Ctx p s m meth c Z own nm bytes maxL ret) (X : St p l e R s m args below meth c n0 T cells slots) {k0 : Fin 4} {v : Int32} (Ls' : Array Slot) (hd : decode bytes pc = .ok (.istore_n k0, 1)) (hl : storeLocals Ls k0.val (.int v) = some Ls') (hp : pc + 1 = pc')
    (k : Go p e below s R n0 Q (T.setTop (mkF m pc' Ls' (stk)))) : Go p e below s R n0 Q (T.setTop (mkF m pc Ls (.int v :: stk))) := by
  subst hp; obtain ⟨locs, X, N⟩ := X
  exact go_by (fun t k => XS.istoreN X.here K.hx rfl (hb K.by' hd) rfl hl k) k

theorem go_istore (K : Ctx p s m meth c Z own nm bytes maxL ret) (X : St p l e R s m args below meth c n0 T cells slots) {k0 : Nat} {v : Int32} (Ls' : Array Slot) (hd : decode bytes pc = .ok (.istore k0, 2)) (hl : storeLocals Ls k0 (.int v) = some Ls') (hp : pc + 2 = pc')
    (k : Go p e below s R n0 Q (T.setTop (mkF m pc' Ls' (stk)))) : Go p e below s R n0 Q (T.setTop (mkF m pc Ls (.int v :: stk))) := by
  subst hp; obtain ⟨locs, X, N⟩ := X
  exact go_by (fun t k => XS.istore X.here K.hx rfl (hb K.by' hd) rfl hl k) k

theorem go_lstoreN (K : Ctx p s m meth c Z own nm bytes maxL ret) (X : St p l e R s m args below meth c n0 T cells slots) {k0 : Fin 4} {v : Int64} (Ls' : Array Slot) (hd : decode bytes pc = .ok (.lstore_n k0, 1)) (hl : storeLocals Ls k0.val (.long v) = some Ls') (hp : pc + 1 = pc')
    (k : Go p e below s R n0 Q (T.setTop (mkF m pc' Ls' (stk)))) : Go p e below s R n0 Q (T.setTop (mkF m pc Ls (.long v :: stk))) := by
  subst hp; obtain ⟨locs, X, N⟩ := X
  exact go_by (fun t k => XS.lstoreN X.here K.hx rfl (hb K.by' hd) rfl hl k) k

theorem go_lstore (K : Ctx p s m meth c Z own nm bytes maxL ret) (X : St p l e R s m args below meth c n0 T cells slots) {k0 : Nat} {v : Int64} (Ls' : Array Slot) (hd : decode bytes pc = .ok (.lstore k0, 2)) (hl : storeLocals Ls k0 (.long v) = some Ls') (hp : pc + 2 = pc')
    (k : Go p e below s R n0 Q (T.setTop (mkF m pc' Ls' (stk)))) : Go p e below s R n0 Q (T.setTop (mkF m pc Ls (.long v :: stk))) := by
  subst hp; obtain ⟨locs, X, N⟩ := X
  exact go_by (fun t k => XS.lstore X.here K.hx rfl (hb K.by' hd) rfl hl k) k

theorem go_astoreN (K : Ctx p s m meth c Z own nm bytes maxL ret) (X : St p l e R s m args below meth c n0 T cells slots) {k0 : Fin 4} {v : Value} (Ls' : Array Slot) (hd : decode bytes pc = .ok (.astore_n k0, 1)) (hv : v.isRef = true) (hl : storeLocals Ls k0.val v = some Ls') (hp : pc + 1 = pc')
    (k : Go p e below s R n0 Q (T.setTop (mkF m pc' Ls' (stk)))) : Go p e below s R n0 Q (T.setTop (mkF m pc Ls (v :: stk))) := by
  subst hp; obtain ⟨locs, X, N⟩ := X
  exact go_by (fun t k => XS.astoreN X.here K.hx rfl (hb K.by' hd) rfl hv hl k) k

theorem go_astore (K : Ctx p s m meth c Z own nm bytes maxL ret) (X : St p l e R s m args below meth c n0 T cells slots) {k0 : Nat} {v : Value} (Ls' : Array Slot) (hd : decode bytes pc = .ok (.astore k0, 2)) (hv : v.isRef = true) (hl : storeLocals Ls k0 v = some Ls') (hp : pc + 2 = pc')
    (k : Go p e below s R n0 Q (T.setTop (mkF m pc' Ls' (stk)))) : Go p e below s R n0 Q (T.setTop (mkF m pc Ls (v :: stk))) := by
  subst hp; obtain ⟨locs, X, N⟩ := X
  exact go_by (fun t k => XS.astore X.here K.hx rfl (hb K.by' hd) rfl hv hl k) k

theorem go_iinc (K : Ctx p s m meth c Z own nm bytes maxL ret) (X : St p l e R s m args below meth c n0 T cells slots) {k0 : Nat} {cst : Int} {x : Int32} (v : Int32) (Ls' : Array Slot) (hd : decode bytes pc = .ok (.iinc k0 cst, 3)) (hv : Int32.ofInt cst = v) (hl : Ls[k0]? = some (.val (.int x))) (hl' : storeLocals Ls k0 (.int (x + v)) = some Ls') (hp : pc + 3 = pc')
    (k : Go p e below s R n0 Q (T.setTop (mkF m pc' Ls' (stk)))) : Go p e below s R n0 Q (T.setTop (mkF m pc Ls (stk))) := by
  subst hp; obtain ⟨locs, X, N⟩ := X
  exact go_by (fun t k => XT.iincV X.here K.hx rfl v (hb K.by' hd) hv hl hl' k) k

theorem go_dup (K : Ctx p s m meth c Z own nm bytes maxL ret) (X : St p l e R s m args below meth c n0 T cells slots) {x : Value} (hd : decode bytes pc = .ok (.dup, 1)) (hc : x.category = 1) (hp : pc + 1 = pc')
    (k : Go p e below s R n0 Q (T.setTop (mkF m pc' Ls (x :: x :: stk)))) : Go p e below s R n0 Q (T.setTop (mkF m pc Ls (x :: stk))) := by
  subst hp; obtain ⟨locs, X, N⟩ := X
  exact go_by (fun t k => XS.dup X.here K.hx rfl (hb K.by' hd) rfl hc k) k

theorem go_pop (K : Ctx p s m meth c Z own nm bytes maxL ret) (X : St p l e R s m args below meth c n0 T cells slots) {x : Value} (hd : decode bytes pc = .ok (.pop, 1)) (hc : x.category = 1) (hp : pc + 1 = pc')
    (k : Go p e below s R n0 Q (T.setTop (mkF m pc' Ls (stk)))) : Go p e below s R n0 Q (T.setTop (mkF m pc Ls (x :: stk))) := by
  subst hp; obtain ⟨locs, X, N⟩ := X
  exact go_by (fun t k => XS.pop X.here K.hx rfl (hb K.by' hd) rfl hc k) k

theorem go_dupX1 (K : Ctx p s m meth c Z own nm bytes maxL ret) (X : St p l e R s m args below meth c n0 T cells slots) {x y : Value} (hd : decode bytes pc = .ok (.dup_x1, 1)) (hc : x.category = 1) (hc' : y.category = 1) (hp : pc + 1 = pc')
    (k : Go p e below s R n0 Q (T.setTop (mkF m pc' Ls (x :: y :: x :: stk)))) : Go p e below s R n0 Q (T.setTop (mkF m pc Ls (x :: y :: stk))) := by
  subst hp; obtain ⟨locs, X, N⟩ := X
  exact go_by (fun t k => XS.dupX1 X.here K.hx rfl (hb K.by' hd) rfl hc hc' k) k

theorem go_dup2 (K : Ctx p s m meth c Z own nm bytes maxL ret) (X : St p l e R s m args below meth c n0 T cells slots) {x y : Value} (hd : decode bytes pc = .ok (.dup2, 1)) (hc : x.category = 1) (hc' : y.category = 1) (hp : pc + 1 = pc')
    (k : Go p e below s R n0 Q (T.setTop (mkF m pc' Ls (x :: y :: x :: y :: stk)))) : Go p e below s R n0 Q (T.setTop (mkF m pc Ls (x :: y :: stk))) := by
  subst hp; obtain ⟨locs, X, N⟩ := X
  exact go_by (fun t k => XT.dup2 X.here K.hx rfl (hb K.by' hd) rfl hc hc' k) k

theorem go_dup2L (K : Ctx p s m meth c Z own nm bytes maxL ret) (X : St p l e R s m args below meth c n0 T cells slots) {x : Int64} (hd : decode bytes pc = .ok (.dup2, 1)) (hp : pc + 1 = pc')
    (k : Go p e below s R n0 Q (T.setTop (mkF m pc' Ls (.long x :: .long x :: stk)))) : Go p e below s R n0 Q (T.setTop (mkF m pc Ls (.long x :: stk))) := by
  subst hp; obtain ⟨locs, X, N⟩ := X
  exact go_by (fun t k => XT.dup2L X.here K.hx rfl (hb K.by' hd) rfl k) k

theorem go_goto (K : Ctx p s m meth c Z own nm bytes maxL ret) (X : St p l e R s m args below meth c n0 T cells slots) {o : Int} (hd : decode bytes pc = .ok (.goto o, 3)) (ho : 0 ≤ (pc : Int) + o) (hp : ((pc : Int) + o).toNat = pt)
    (k : Go p e below s R n0 Q (T.setTop (mkF m pt Ls stk))) : Go p e below s R n0 Q (T.setTop (mkF m pc Ls stk)) := by
  obtain ⟨locs, X, N⟩ := X
  exact go_by (fun t k => XS.goto X.here K.hx rfl (pc0 := pc) rfl (hb K.by' hd) ho hp k) k
/-- what a taken branch says, and what one says that isn't -/
def cT : ClassFile.Cond → Int32 → Int32 → Prop
  | .eq, x, y => x = y | .ne, x, y => ¬ x = y | .lt, x, y => x < y | .ge, x, y => ¬ x < y | .gt, x, y => y < x | .le, x, y => ¬ y < x
def cF : ClassFile.Cond → Int32 → Int32 → Prop
  | .eq, x, y => ¬ x = y | .ne, x, y => x = y | .lt, x, y => ¬ x < y | .ge, x, y => x < y | .gt, x, y => ¬ y < x | .le, x, y => y < x
theorem cT_or (cd : ClassFile.Cond) (x y : Int32) : cT cd x y ∨ cF cd x y := by
  cases cd <;> simp only [cT, cF] <;> first | exact Decidable.em _ | exact (Decidable.em _).symm
theorem cT_holds {cd : ClassFile.Cond} {x y : Int32} (q : cT cd x y) : if_icmp.holds cd x y = true := by
  cases cd
  · exact XT.ii_eq_t q
  · exact XT.ii_ne_t q
  · exact XT.ii_lt_t q
  · exact XT.ii_ge_t q
  · exact XT.ii_gt_t q
  · exact XT.ii_le_t q
theorem cF_holds {cd : ClassFile.Cond} {x y : Int32} (q : cF cd x y) : if_icmp.holds cd x y = false := by
  cases cd
  · exact XT.ii_eq_f q
  · exact XT.ii_ne_f q
  · exact XT.ii_lt_f q
  · exact XT.ii_ge_f q
  · exact XT.ii_gt_f q
  · exact XT.ii_le_f q
def lT : ClassFile.Cond → Int64 → Int64 → Prop
  | .eq, x, y => x = y | .ne, x, y => ¬ x = y | .lt, x, y => x < y | .ge, x, y => ¬ x < y | .gt, x, y => y < x | .le, x, y => ¬ y < x
def lF : ClassFile.Cond → Int64 → Int64 → Prop
  | .eq, x, y => ¬ x = y | .ne, x, y => x = y | .lt, x, y => ¬ x < y | .ge, x, y => x < y | .gt, x, y => ¬ y < x | .le, x, y => y < x
theorem lT_or (cd : ClassFile.Cond) (x y : Int64) : lT cd x y ∨ lF cd x y := by
  cases cd <;> simp only [lT, lF] <;> first | exact Decidable.em _ | exact (Decidable.em _).symm
theorem lT_holds {cd : ClassFile.Cond} {x y : Int64} (q : lT cd x y) : ifCond.holds cd (XT.cmpL x y) = true := by
  cases cd
  · exact XT.ll_eq_t q
  · exact XT.ll_ne_t q
  · exact XT.ll_lt_t q
  · exact XT.ll_ge_t q
  · exact XT.ll_gt_t q
  · exact XT.ll_le_t q
theorem lF_holds {cd : ClassFile.Cond} {x y : Int64} (q : lF cd x y) : ifCond.holds cd (XT.cmpL x y) = false := by
  cases cd
  · exact XT.ll_eq_f q
  · exact XT.ll_ne_f q
  · exact XT.ll_lt_f q
  · exact XT.ll_ge_f q
  · exact XT.ll_gt_f q
  · exact XT.ll_le_f q

theorem go_icmpT (K : Ctx p s m meth c Z own nm bytes maxL ret) (X : St p l e R s m args below meth c n0 T cells slots) {cd : ClassFile.Cond} {o : Int} {x y : Int32} (hd : decode bytes pc = .ok (.if_icmp cd o, 3)) (ho : 0 ≤ (pc : Int) + o) (hp : ((pc : Int) + o).toNat = pt) (q : cT cd x y)
    (k : Go p e below s R n0 Q (T.setTop (mkF m pt Ls stk))) : Go p e below s R n0 Q (T.setTop (mkF m pc Ls (.int y :: .int x :: stk))) := by
  obtain ⟨locs, X, N⟩ := X
  exact go_by (fun t k => XS.icmpYes X.here K.hx rfl (pc0 := pc) rfl (hb K.by' hd) rfl (cT_holds q) ho hp k) k
theorem go_icmpF (K : Ctx p s m meth c Z own nm bytes maxL ret) (X : St p l e R s m args below meth c n0 T cells slots) {cd : ClassFile.Cond} {o : Int} {x y : Int32} (hd : decode bytes pc = .ok (.if_icmp cd o, 3)) (hp : pc + 3 = pc') (q : cF cd x y)
    (k : Go p e below s R n0 Q (T.setTop (mkF m pc' Ls stk))) : Go p e below s R n0 Q (T.setTop (mkF m pc Ls (.int y :: .int x :: stk))) := by
  subst hp; obtain ⟨locs, X, N⟩ := X
  exact go_by (fun t k => XS.icmpNo X.here K.hx rfl (hb K.by' hd) rfl (cF_holds q) k) k
theorem go_icmp (K : Ctx p s m meth c Z own nm bytes maxL ret) (X : St p l e R s m args below meth c n0 T cells slots) {cd : ClassFile.Cond} {o : Int} {x y : Int32} (hd : decode bytes pc = .ok (.if_icmp cd o, 3)) (ho : 0 ≤ (pc : Int) + o) (ht : ((pc : Int) + o).toNat = pt) (hp : pc + 3 = pc')
    (k1 : cT cd x y → Go p e below s R n0 Q (T.setTop (mkF m pt Ls stk))) (k2 : cF cd x y → Go p e below s R n0 Q (T.setTop (mkF m pc' Ls stk))) : Go p e below s R n0 Q (T.setTop (mkF m pc Ls (.int y :: .int x :: stk))) :=
  (cT_or cd _ _).elim (fun q => go_icmpT K X hd ho ht q (k1 q)) (fun q => go_icmpF K X hd hp q (k2 q))

theorem go_ifT (K : Ctx p s m meth c Z own nm bytes maxL ret) (X : St p l e R s m args below meth c n0 T cells slots) {cd : ClassFile.Cond} {o : Int} {x : Int32} (hd : decode bytes pc = .ok (.ifCond cd o, 3)) (ho : 0 ≤ (pc : Int) + o) (hp : ((pc : Int) + o).toNat = pt) (q : cT cd x 0)
    (k : Go p e below s R n0 Q (T.setTop (mkF m pt Ls stk))) : Go p e below s R n0 Q (T.setTop (mkF m pc Ls (.int x :: stk))) := by
  obtain ⟨locs, X, N⟩ := X
  exact go_by (fun t k => XS.ifYes X.here K.hx rfl (pc0 := pc) rfl (hb K.by' hd) rfl ((if0 _ _).trans (cT_holds q)) ho hp k) k
theorem go_ifF (K : Ctx p s m meth c Z own nm bytes maxL ret) (X : St p l e R s m args below meth c n0 T cells slots) {cd : ClassFile.Cond} {o : Int} {x : Int32} (hd : decode bytes pc = .ok (.ifCond cd o, 3)) (hp : pc + 3 = pc') (q : cF cd x 0)
    (k : Go p e below s R n0 Q (T.setTop (mkF m pc' Ls stk))) : Go p e below s R n0 Q (T.setTop (mkF m pc Ls (.int x :: stk))) := by
  subst hp; obtain ⟨locs, X, N⟩ := X
  exact go_by (fun t k => XS.ifNo X.here K.hx rfl (hb K.by' hd) rfl ((if0 _ _).trans (cF_holds q)) k) k
theorem go_if (K : Ctx p s m meth c Z own nm bytes maxL ret) (X : St p l e R s m args below meth c n0 T cells slots) {cd : ClassFile.Cond} {o : Int} {x : Int32} (hd : decode bytes pc = .ok (.ifCond cd o, 3)) (ho : 0 ≤ (pc : Int) + o) (ht : ((pc : Int) + o).toNat = pt) (hp : pc + 3 = pc')
    (k1 : cT cd x 0 → Go p e below s R n0 Q (T.setTop (mkF m pt Ls stk))) (k2 : cF cd x 0 → Go p e below s R n0 Q (T.setTop (mkF m pc' Ls stk))) : Go p e below s R n0 Q (T.setTop (mkF m pc Ls (.int x :: stk))) :=
  (cT_or cd _ _).elim (fun q => go_ifT K X hd ho ht q (k1 q)) (fun q => go_ifF K X hd hp q (k2 q))

theorem go_lifT (K : Ctx p s m meth c Z own nm bytes maxL ret) (X : St p l e R s m args below meth c n0 T cells slots) {cd : ClassFile.Cond} {o : Int} {x y : Int64} (hd1 : decode bytes pc = .ok (.lcmp, 1)) (hp : pc + 1 = pc') (hd : decode bytes pc' = .ok (.ifCond cd o, 3)) (ho : 0 ≤ (pc' : Int) + o) (ht : ((pc' : Int) + o).toNat = pt) (q : lT cd x y)
    (k : Go p e below s R n0 Q (T.setTop (mkF m pt Ls stk))) : Go p e below s R n0 Q (T.setTop (mkF m pc Ls (.long y :: .long x :: stk))) := by
  subst hp; obtain ⟨locs, X, N⟩ := X
  exact go_by (fun t k => XT.lcmp X.here K.hx rfl (hb K.by' hd1) rfl (XS.ifYes X.here K.hx rfl (pc0 := pc + 1) rfl (hb K.by' hd) rfl (lT_holds q) ho ht k)) k
theorem go_lifF (K : Ctx p s m meth c Z own nm bytes maxL ret) (X : St p l e R s m args below meth c n0 T cells slots) {cd : ClassFile.Cond} {o : Int} {x y : Int64} {pn : Nat} (hd1 : decode bytes pc = .ok (.lcmp, 1)) (hp : pc + 1 = pc') (hd : decode bytes pc' = .ok (.ifCond cd o, 3)) (hn : pc' + 3 = pn) (q : lF cd x y)
    (k : Go p e below s R n0 Q (T.setTop (mkF m pn Ls stk))) : Go p e below s R n0 Q (T.setTop (mkF m pc Ls (.long y :: .long x :: stk))) := by
  subst hp hn; obtain ⟨locs, X, N⟩ := X
  exact go_by (fun t k => XT.lcmp X.here K.hx rfl (hb K.by' hd1) rfl (XS.ifNo X.here K.hx rfl (hb K.by' hd) rfl (lF_holds q) k)) k
theorem go_lif (K : Ctx p s m meth c Z own nm bytes maxL ret) (X : St p l e R s m args below meth c n0 T cells slots) {cd : ClassFile.Cond} {o : Int} {x y : Int64} {pn : Nat} (hd1 : decode bytes pc = .ok (.lcmp, 1)) (hp : pc + 1 = pc') (hd : decode bytes pc' = .ok (.ifCond cd o, 3)) (ho : 0 ≤ (pc' : Int) + o) (ht : ((pc' : Int) + o).toNat = pt) (hn : pc' + 3 = pn)
    (k1 : lT cd x y → Go p e below s R n0 Q (T.setTop (mkF m pt Ls stk))) (k2 : lF cd x y → Go p e below s R n0 Q (T.setTop (mkF m pn Ls stk))) : Go p e below s R n0 Q (T.setTop (mkF m pc Ls (.long y :: .long x :: stk))) :=
  (lT_or cd _ _).elim (fun q => go_lifT K X hd1 hp hd ho ht q (k1 q)) (fun q => go_lifF K X hd1 hp hd hn q (k2 q))
theorem go_nullT (K : Ctx p s m meth c Z own nm bytes maxL ret) (X : St p l e R s m args below meth c n0 T cells slots) {o : Int} (hd : decode bytes pc = .ok (.ifnull o, 3)) (ho : 0 ≤ (pc : Int) + o) (hp : ((pc : Int) + o).toNat = pt)
    (k : Go p e below s R n0 Q (T.setTop (mkF m pt Ls stk))) : Go p e below s R n0 Q (T.setTop (mkF m pc Ls (.null :: stk))) := by
  obtain ⟨locs, X, N⟩ := X
  exact go_by (fun t k => XS.ifnullYes X.here K.hx rfl (pc0 := pc) rfl (hb K.by' hd) rfl ho hp k) k
theorem go_nullF (K : Ctx p s m meth c Z own nm bytes maxL ret) (X : St p l e R s m args below meth c n0 T cells slots) {o : Int} {a : Addr} (hd : decode bytes pc = .ok (.ifnull o, 3)) (hp : pc + 3 = pc')
    (k : Go p e below s R n0 Q (T.setTop (mkF m pc' Ls stk))) : Go p e below s R n0 Q (T.setTop (mkF m pc Ls (.ref a :: stk))) := by
  subst hp; obtain ⟨locs, X, N⟩ := X
  exact go_by (fun t k => XS.ifnullNo X.here K.hx rfl (hb K.by' hd) rfl k) k
theorem go_nonnullT (K : Ctx p s m meth c Z own nm bytes maxL ret) (X : St p l e R s m args below meth c n0 T cells slots) {o : Int} {a : Addr} (hd : decode bytes pc = .ok (.ifnonnull o, 3)) (ho : 0 ≤ (pc : Int) + o) (hp : ((pc : Int) + o).toNat = pt)
    (k : Go p e below s R n0 Q (T.setTop (mkF m pt Ls stk))) : Go p e below s R n0 Q (T.setTop (mkF m pc Ls (.ref a :: stk))) := by
  obtain ⟨locs, X, N⟩ := X
  exact go_by (fun t k => XS.ifnonnullYes X.here K.hx rfl (pc0 := pc) rfl (hb K.by' hd) rfl ho hp k) k
theorem go_nonnullF (K : Ctx p s m meth c Z own nm bytes maxL ret) (X : St p l e R s m args below meth c n0 T cells slots) {o : Int} (hd : decode bytes pc = .ok (.ifnonnull o, 3)) (hp : pc + 3 = pc')
    (k : Go p e below s R n0 Q (T.setTop (mkF m pc' Ls stk))) : Go p e below s R n0 Q (T.setTop (mkF m pc Ls (.null :: stk))) := by
  subst hp; obtain ⟨locs, X, N⟩ := X
  exact go_by (fun t k => XS.ifnonnullNo X.here K.hx rfl (hb K.by' hd) rfl k) k
theorem go_acmpT (K : Ctx p s m meth c Z own nm bytes maxL ret) (X : St p l e R s m args below meth c n0 T cells slots) {cd : ClassFile.ACond} {o : Int} {x y : Value} (hd : decode bytes pc = .ok (.if_acmp cd o, 3)) (ho : 0 ≤ (pc : Int) + o) (hp : ((pc : Int) + o).toNat = pt) (h1 : x.isRef = true) (h2 : y.isRef = true) (q : XT.acmp cd x y = true)
    (k : Go p e below s R n0 Q (T.setTop (mkF m pt Ls stk))) : Go p e below s R n0 Q (T.setTop (mkF m pc Ls (y :: x :: stk))) := by
  obtain ⟨locs, X, N⟩ := X
  exact go_by (fun t k => XT.acmpYes X.here K.hx rfl (pc0 := pc) rfl (hb K.by' hd) rfl h1 h2 q ho hp k) k
theorem go_acmpF (K : Ctx p s m meth c Z own nm bytes maxL ret) (X : St p l e R s m args below meth c n0 T cells slots) {cd : ClassFile.ACond} {o : Int} {x y : Value} (hd : decode bytes pc = .ok (.if_acmp cd o, 3)) (hp : pc + 3 = pc') (h1 : x.isRef = true) (h2 : y.isRef = true) (q : XT.acmp cd x y = false)
    (k : Go p e below s R n0 Q (T.setTop (mkF m pc' Ls stk))) : Go p e below s R n0 Q (T.setTop (mkF m pc Ls (y :: x :: stk))) := by
  subst hp; obtain ⟨locs, X, N⟩ := X
  exact go_by (fun t k => XT.acmpNo X.here K.hx rfl (hb K.by' hd) rfl h1 h2 q k) k
/-- the return -/
theorem go_retV (K : Ctx p s m meth c Z own nm bytes maxL ret) (X : St p l e R s m args below meth c n0 T cells slots) {w : Value} {t : FieldType} {i : Instr} (hret : ret = some t) (hn : narrow t w = w)
    (hi : (i = .ireturn ∧ (t = .int ∨ t = .boolean ∨ t = .byte ∨ t = .char ∨ t = .short) ∧ ∃ z, w = .int z) ∨ (i = .lreturn ∧ t = .long ∧ ∃ z, w = .long z) ∨ (i = .dreturn ∧ t = .double ∧ ∃ z, w = .double z) ∨ (i = .freturn ∧ t = .float ∧ ∃ z, w = .float z) ∨ (i = .areturn ∧ t.isReference = true ∧ w.isRef = true))
    (hd : decode bytes pc = .ok (i, 1)) (hc : cells ≤ R.cells) (hs : slots ≤ R.slots) (q : Q (some w) T.heap) : Go p e below s R n0 Q (T.setTop (mkF m pc Ls (w :: stk))) := by
  obtain ⟨locs, X, N⟩ := X
  obtain ⟨fs, hr, hrun, hended, hW, hsame⟩ := X.leave (v := some w) (fun h => by rw [K.ret', hret] at h; cases h) K.locks
  exact ⟨_, _, retOut X K.hx (K.ret'.trans hret) hn hi (hb K.by' hd) hr, hrun, hended, _, _, rfl, ⟨q, N⟩, ⟨_, rfl⟩, hW, hsame.mono hc hs⟩
theorem go_retI (K : Ctx p s m meth c Z own nm bytes maxL (some .int)) (X : St p l e R s m args below meth c n0 T cells slots) {z : Int32} (hd : decode bytes pc = .ok (.ireturn, 1)) (hc : cells ≤ R.cells) (hs : slots ≤ R.slots) (q : Q (some (.int z)) T.heap) : Go p e below s R n0 Q (T.setTop (mkF m pc Ls (.int z :: stk))) :=
  go_retV K X rfl rfl (Or.inl ⟨rfl, Or.inl rfl, z, rfl⟩) hd hc hs q
theorem go_retZ (K : Ctx p s m meth c Z own nm bytes maxL (some .boolean)) (X : St p l e R s m args below meth c n0 T cells slots) {z : Int32} (hz : z = 0 ∨ z = 1) (hd : decode bytes pc = .ok (.ireturn, 1)) (hc : cells ≤ R.cells) (hs : slots ≤ R.slots) (q : Q (some (.int z)) T.heap) : Go p e below s R n0 Q (T.setTop (mkF m pc Ls (.int z :: stk))) :=
  go_retV K X rfl (by rcases hz with rfl | rfl <;> rfl) (Or.inl ⟨rfl, Or.inr (Or.inl rfl), z, rfl⟩) hd hc hs q
theorem go_retJ (K : Ctx p s m meth c Z own nm bytes maxL (some .long)) (X : St p l e R s m args below meth c n0 T cells slots) {z : Int64} (hd : decode bytes pc = .ok (.lreturn, 1)) (hc : cells ≤ R.cells) (hs : slots ≤ R.slots) (q : Q (some (.long z)) T.heap) : Go p e below s R n0 Q (T.setTop (mkF m pc Ls (.long z :: stk))) :=
  go_retV K X rfl rfl (Or.inr (Or.inl ⟨rfl, rfl, z, rfl⟩)) hd hc hs q
theorem go_retA (K : Ctx p s m meth c Z own nm bytes maxL (some t)) (X : St p l e R s m args below meth c n0 T cells slots) {w : Value} (ht : t.isReference = true) (hw : w.isRef = true) (hn : narrow t w = w) (hd : decode bytes pc = .ok (.areturn, 1)) (hc : cells ≤ R.cells) (hs : slots ≤ R.slots) (q : Q (some w) T.heap) : Go p e below s R n0 Q (T.setTop (mkF m pc Ls (w :: stk))) :=
  go_retV K X rfl hn (Or.inr (Or.inr (Or.inr (Or.inr ⟨rfl, ht, hw⟩)))) hd hc hs q
theorem go_ret (K : Ctx p s m meth c Z own nm bytes maxL none) (X : St p l e R s m args below meth c n0 T cells slots) (hd : decode bytes pc = .ok (.return_, 1)) (hc : cells ≤ R.cells) (hs : slots ≤ R.slots) (q : Q none T.heap) : Go p e below s R n0 Q (T.setTop (mkF m pc Ls [])) := by
  obtain ⟨locs, X, N⟩ := X
  obtain ⟨fs, hr, hrun, hended, hW, hsame⟩ := X.leave (v := none) (fun _ => rfl) K.locks
  exact ⟨_, _, X.returnOut K.hx K.ret' (hb K.by' hd) hr, hrun, hended, _, _, rfl, ⟨q, N⟩, ⟨_, rfl⟩, hW, hsame.mono hc hs⟩

/-! ## the heap -/
theorem go_getF (K : Ctx p s m meth c Z own nm bytes maxL ret) (X : St p l e R s m args below meth c n0 T cells slots) {R0 O n d host : String} {index : Nat} (w : (Cond.fieldLink own index R0 n d).before a0 Z = true ∨ (Cond.fieldLinkNest own index R0 n d host).before a0 Z = true) (via : Via Z R0 O n d) (eT : T.heap = h) {a : Addr} {v : Value} (F : Fld Z h a O n d v) (hd : decode bytes pc = .ok (.getfield index, 3)) (hp : pc + 3 = pc')
    (k : ∀ T', St p l e R s m args below meth c n0 T' cells slots → T'.heap = h → Go p e below s R n0 Q (T'.setTop (mkF m pc' Ls (v :: stk)))) : Go p e below s R n0 Q (T.setTop (mkF m pc Ls (.ref a :: stk))) := by
  subst hp; obtain ⟨locs, X, N⟩ := X
  obtain ⟨T', X', e', st⟩ := getF X K.hx K.hZ K.own' w via eT F (g := mkF m pc Ls (.ref a :: stk)) rfl rfl (hb K.by' hd)
  exact go_by st (k T' ⟨locs, X', N⟩ e')
theorem go_getS (K : Ctx p s m meth c Z own nm bytes maxL ret) (X : St p l e R s m args below meth c n0 T cells slots) {R0 O n d host : String} {index : Nat} (w : (Cond.fieldLink own index R0 n d).before a0 Z = true ∨ (Cond.fieldLinkNest own index R0 n d host).before a0 Z = true) (via : Via Z R0 O n d) (eT : T.heap = h) {v : Value} (F : Sta Z h O n d v) (hd : decode bytes pc = .ok (.getstatic index, 3)) (hp : pc + 3 = pc')
    (k : ∀ T', St p l e R s m args below meth c n0 T' cells slots → T'.heap = h → Go p e below s R n0 Q (T'.setTop (mkF m pc' Ls (v :: stk)))) : Go p e below s R n0 Q (T.setTop (mkF m pc Ls stk)) := by
  subst hp; obtain ⟨locs, X, N⟩ := X
  obtain ⟨T', X', e', st⟩ := getS2 X K.hx K.hZ K.own' w via eT F (g := mkF m pc Ls stk) rfl (hb K.by' hd)
  exact go_by st (k T' ⟨locs, X', N⟩ e')
theorem go_putF (K : Ctx p s m meth c Z own nm bytes maxL ret) (X : St p l e R s m args below meth c n0 T cells slots) {R0 O n d host C : String} {index kk : Nat} {ty : FieldType} (w : (Cond.fieldLink own index R0 n d).before a0 Z = true ∨ (Cond.fieldLinkNest own index R0 n d host).before a0 Z = true) (via : Via Z R0 O n d) (eT : T.heap = h) {a : Addr} {v old : Value} (F : Fld Z h a O n d old) (E : Exa Z h a C)
    (L : (Cond.lays C O n d).before a0 Z = true ∨ ((Cond.laysFinal C O n d).before a0 Z = true ∧ own = O ∧ nm = "<init>")) (wi : (Cond.instantiable C kk).before a0 Z = true) (hty : parseFieldDescriptor d = some ty) (hn : narrow ty v = v) (hf : fits ty v = true) (ge : n0 ≤ a) (hd : decode bytes pc = .ok (.putfield index, 3)) (hp : pc + 3 = pc')
    (k : ∀ T' h', St p l e R s m args below meth c n0 T' cells slots → T'.heap = h' → Wr h h' a (Jvm.RoadKit.slotOf Z O n d) v → Go p e below s R n0 Q (T'.setTop (mkF m pc' Ls stk))) : Go p e below s R n0 Q (T.setTop (mkF m pc Ls (v :: .ref a :: stk))) := by
  subst hp; obtain ⟨locs, X, N⟩ := X
  obtain ⟨T', h', X', e', W', st⟩ := putF X K.hx K.hZ K.own' w via eT F E (L.imp id fun q => ⟨q.1, q.2.1, K.nm'.trans q.2.2⟩) wi hty hn hf (g := mkF m pc Ls (v :: .ref a :: stk)) rfl rfl (hb K.by' hd)
  exact go_by st (k T' h' ⟨_, X', Fr.snoc X' N ge⟩ e' W')
theorem go_new (K : Ctx p s m meth c Z own nm bytes maxL ret) (X : St p l e R s m args below meth c n0 T cells slots) {C : String} {index n : Nat} (w : (Cond.classLink own index C).before a0 Z = true) (wi : (Cond.instantiable C n).before a0 Z = true) (wz : (Cond.initialized C).before a0 Z = true) (eT : T.heap = h) (hd : decode bytes pc = .ok (.new index, 3)) (hp : pc + 3 = pc') (hc' : cells + 1 = cells') (hs' : slots + n = slots') (hc : cells' ≤ R.cells) (hs : slots' ≤ R.slots)
    (k : ∀ T' h' a, a = h.size → St p l e R s m args below meth c n0 T' cells' slots' → T'.heap = h' → Ext h h' → Exa Z h' a C → (∀ {O nm d : String} {ty : FieldType}, Laid Z a0 C O nm d → parseFieldDescriptor d = some ty → Fld Z h' a O nm d (defaultValue ty)) → Go p e below s R n0 Q (T'.setTop (mkF m pc' Ls (.ref a :: stk)))) : Go p e below s R n0 Q (T.setTop (mkF m pc Ls stk)) := by
  subst hp hc' hs'; obtain ⟨locs, X, N⟩ := X
  obtain ⟨T', h', X', e', E', A', D', -, st⟩ := newO X K.hx K.hZ K.own' w wi wz eT (g := mkF m pc Ls stk) rfl (hb K.by' hd) hc hs
  exact go_by st (k T' h' _ rfl ⟨_, X', N⟩ e' E' A' D')
theorem go_initO (K : Ctx p s m meth c Z own nm bytes maxL ret) (X : St p l e R s m args below meth c n0 T cells slots) {idx : Nat} {a : Addr} (w1 : (Cond.methodLink own idx Lib.objectInit).before a0 Z = true) (w2 : (Cond.instanceMethod Lib.objectInit).before a0 Z = true) (w3 : (Cond.code Lib.objectInit ⟨#[0xb1]⟩ 1 none).before a0 Z = true) (eT : T.heap = h) (hsize : Ls.size = maxL) (hd : decode bytes pc = .ok (.invokespecial idx, 3)) (hp : pc + 3 = pc')
    (hf : 1 ≤ R.frames) {W : Nat} (hW : (stk.map fun v => v.category).sum ≤ W) (hl : W + 12 ≤ R.locals)
    (k : ∀ T', St p l e R s m args below meth c n0 T' cells slots → T'.heap = h → Go p e below s R n0 Q (T'.setTop (mkF m pc' Ls stk))) : Go p e below s R n0 Q (T.setTop (mkF m pc Ls (.ref a :: stk))) := by
  subst hp; obtain ⟨locs, X, N⟩ := X
  obtain ⟨T', X', e', st⟩ := initO X K.hx K.hZ K.own' w1 w2 w3 eT (g := mkF m pc Ls (.ref a :: stk)) rfl (by rw [K.ml]; exact hsize) rfl (hb K.by' hd) hf (W := W) (by show 2 * 0 + _ ≤ _; omega) hl
  exact go_by st (k T' ⟨_, X', N⟩ e')
theorem go_cast (K : Ctx p s m meth c Z own nm bytes maxL ret) (X : St p l e R s m args below meth c n0 T cells slots) {C : String} {index : Nat} (w : (Cond.classLink own index C).before a0 Z = true) (eT : T.heap = h) {a : Addr} (F : Ins Z h a C true) (hd : decode bytes pc = .ok (.checkcast index, 3)) (hp : pc + 3 = pc')
    (k : ∀ T', St p l e R s m args below meth c n0 T' cells slots → T'.heap = h → Go p e below s R n0 Q (T'.setTop (mkF m pc' Ls (.ref a :: stk)))) : Go p e below s R n0 Q (T.setTop (mkF m pc Ls (.ref a :: stk))) := by
  subst hp; obtain ⟨locs, X, N⟩ := X
  obtain ⟨T', X', e', st⟩ := castY X K.hx K.hZ K.own' w eT F (g := mkF m pc Ls (.ref a :: stk)) rfl rfl (hb K.by' hd)
  exact go_by st (k T' ⟨_, X', N⟩ e')
theorem go_instY (K : Ctx p s m meth c Z own nm bytes maxL ret) (X : St p l e R s m args below meth c n0 T cells slots) {C : String} {index : Nat} (w : (Cond.classLink own index C).before a0 Z = true) (eT : T.heap = h) {a : Addr} (F : Ins Z h a C true) (hd : decode bytes pc = .ok (.instanceof index, 3)) (hp : pc + 3 = pc')
    (k : ∀ T', St p l e R s m args below meth c n0 T' cells slots → T'.heap = h → Go p e below s R n0 Q (T'.setTop (mkF m pc' Ls (.int 1 :: stk)))) : Go p e below s R n0 Q (T.setTop (mkF m pc Ls (.ref a :: stk))) := by
  subst hp; obtain ⟨locs, X, N⟩ := X
  obtain ⟨T', X', e', st⟩ := instY X K.hx K.hZ K.own' w eT F (g := mkF m pc Ls (.ref a :: stk)) rfl rfl (hb K.by' hd)
  exact go_by st (k T' ⟨_, X', N⟩ e')
theorem go_instN (K : Ctx p s m meth c Z own nm bytes maxL ret) (X : St p l e R s m args below meth c n0 T cells slots) {C C' : String} {index : Nat} (w : (Cond.classLink own index C).before a0 Z = true) (eT : T.heap = h) {a : Addr} (E : Exa Z h a C') (F : ∃ c t, Z.vm.findClass C' = some c ∧ Z.vm.findClass C = some t ∧ Z.vm.assignable c t = false) (hd : decode bytes pc = .ok (.instanceof index, 3)) (hp : pc + 3 = pc')
    (k : ∀ T', St p l e R s m args below meth c n0 T' cells slots → T'.heap = h → Go p e below s R n0 Q (T'.setTop (mkF m pc' Ls (.int 0 :: stk)))) : Go p e below s R n0 Q (T.setTop (mkF m pc Ls (.ref a :: stk))) := by
  subst hp; obtain ⟨locs, X, N⟩ := X
  obtain ⟨T', X', e', st⟩ := instNo X K.hx K.hZ K.own' w eT E F (g := mkF m pc Ls (.ref a :: stk)) rfl rfl (hb K.by' hd)
  exact go_by st (k T' ⟨_, X', N⟩ e')

/-! ## arrays -/
/-- at a lies an array of ty that holds just vs -/
def AV (Z : State) (h : Heap) (a : Addr) (ty : FieldType) (vs : List Value) : Prop := ∃ cl : Cell, Arr Z h a cl ty ∧ cl.slots = vs.toArray ∧ vs.length < 2 ^ 31
theorem AV.lt {a : Addr} {ty : FieldType} {vs : List Value} (F : AV Z h a ty vs) : a < h.size := by obtain ⟨cl, A, -⟩ := F; exact A.lt
theorem AV.keep {a : Addr} {ty : FieldType} {vs : List Value} {ws : List Addr} (F : AV Z h a ty vs) (K : Keep h h' ws) (q : a ∉ ws) : AV Z h' a ty vs := by
  obtain ⟨cl, A, r⟩ := F; exact ⟨cl, ⟨K.2.1 _ _ A.1 q, A.2⟩, r⟩
theorem AV.ext {a : Addr} {ty : FieldType} {vs : List Value} (F : AV Z h a ty vs) (E : Ext h h') : AV Z h' a ty vs := by
  obtain ⟨cl, A, r⟩ := F; exact ⟨cl, A.ext E, r⟩
theorem AV.len {a : Addr} {ty : FieldType} {vs : List Value} (F : AV Z h a ty vs) : vs.length < 2 ^ 31 := by obtain ⟨cl, -, -, r⟩ := F; exact r
theorem idx_nat {j : Int32} {i : Nat} (hj : j.toInt = (i : Int)) : j.toNatClampNeg = i ∧ ¬ j < 0 := by
  have h1 : j.toNatClampNeg = j.toInt.toNat := rfl
  have h2 : ¬ j < 0 := by rw [XT.negI32]; omega
  exact ⟨by rw [h1, hj]; rfl, h2⟩
theorem AV.in {a : Addr} {ty : FieldType} {vs : List Value} {cl : Cell} {j : Int32} {i : Nat} (hs : cl.slots = vs.toArray) (hj : j.toInt = (i : Int)) (hi : i < vs.length) : ¬ (j < 0 ∨ cl.slots.size ≤ j.toNatClampNeg) := by
  obtain ⟨h1, h2⟩ := idx_nat hj
  rintro (q | q)
  · exact h2 q
  · rw [h1, hs] at q
    simp at q
    omega
theorem AV.get {vs : List Value} {cl : Cell} {j : Int32} {i : Nat} {v : Value} (hs : cl.slots = vs.toArray) (hj : j.toInt = (i : Int)) (hv : vs[i]? = some v) : cl.slots[j.toNatClampNeg]? = some v := by
  rw [(idx_nat hj).1, hs]; simpa using hv
theorem AV.set {a : Addr} {ty : FieldType} {vs : List Value} {cl : Cell} {i : Nat} {v : Value} (A : Arr Z h a cl ty) (hs : cl.slots = vs.toArray) (hl : vs.length < 2 ^ 31) (W : Wr h h' a i v) : AV Z h' a ty (vs.set i v) := by
  refine ⟨_, A.same W, ?_, by simpa using hl⟩
  show cl.slots.setIfInBounds i v = _
  rw [hs]; simp
theorem lt_of_get {vs : List Value} {i : Nat} {v : Value} (hv : vs[i]? = some v) : i < vs.length := (List.getElem?_eq_some_iff.mp hv).1

theorem go_iaload (K : Ctx p s m meth c Z own nm bytes maxL ret) (X : St p l e R s m args below meth c n0 T cells slots) (eT : T.heap = h) {a : Addr} {vs : List Value} {j : Int32} {i : Nat} {v : Value} (F : AV Z h a .int vs) (hj : j.toInt = (i : Int)) (hv : vs[i]? = some v) (hd : decode bytes pc = .ok (.iaload, 1)) (hp : pc + 1 = pc')
    (k : Go p e below s R n0 Q (T.setTop (mkF m pc' Ls (v :: stk)))) : Go p e below s R n0 Q (T.setTop (mkF m pc Ls (.int j :: .ref a :: stk))) := by
  subst hp; obtain ⟨locs, X, N⟩ := X; obtain ⟨cl, A, hs, hl⟩ := F
  exact go_by (fun t k => X.iaload K.hx (by rw [eT]; exact A.1) (State.isArrayOf_alike K.hZ.alike A.2.1) A.2.2 (AV.in (a := a) (ty := .int) hs hj (lt_of_get hv)) (AV.get hs hj hv) (g := mkF m pc Ls (.int j :: .ref a :: stk)) rfl rfl (hb K.by' hd) t k) k

theorem go_laload (K : Ctx p s m meth c Z own nm bytes maxL ret) (X : St p l e R s m args below meth c n0 T cells slots) (eT : T.heap = h) {a : Addr} {vs : List Value} {j : Int32} {i : Nat} {v : Value} (F : AV Z h a .long vs) (hj : j.toInt = (i : Int)) (hv : vs[i]? = some v) (hd : decode bytes pc = .ok (.laload, 1)) (hp : pc + 1 = pc')
    (k : Go p e below s R n0 Q (T.setTop (mkF m pc' Ls (v :: stk)))) : Go p e below s R n0 Q (T.setTop (mkF m pc Ls (.int j :: .ref a :: stk))) := by
  subst hp; obtain ⟨locs, X, N⟩ := X; obtain ⟨cl, A, hs, hl⟩ := F
  exact go_by (fun t k => X.laload K.hx (by rw [eT]; exact A.1) (State.isArrayOf_alike K.hZ.alike A.2.1) A.2.2 (AV.in (a := a) (ty := .long) hs hj (lt_of_get hv)) (AV.get hs hj hv) (g := mkF m pc Ls (.int j :: .ref a :: stk)) rfl rfl (hb K.by' hd) t k) k

theorem go_caload (K : Ctx p s m meth c Z own nm bytes maxL ret) (X : St p l e R s m args below meth c n0 T cells slots) (eT : T.heap = h) {a : Addr} {vs : List Value} {j : Int32} {i : Nat} {v : Value} (F : AV Z h a .char vs) (hj : j.toInt = (i : Int)) (hv : vs[i]? = some v) (hd : decode bytes pc = .ok (.caload, 1)) (hp : pc + 1 = pc')
    (k : Go p e below s R n0 Q (T.setTop (mkF m pc' Ls (v :: stk)))) : Go p e below s R n0 Q (T.setTop (mkF m pc Ls (.int j :: .ref a :: stk))) := by
  subst hp; obtain ⟨locs, X, N⟩ := X; obtain ⟨cl, A, hs, hl⟩ := F
  exact go_by (fun t k => X.caload K.hx (by rw [eT]; exact A.1) (State.isArrayOf_alike K.hZ.alike A.2.1) A.2.2 (AV.in (a := a) (ty := .char) hs hj (lt_of_get hv)) (AV.get hs hj hv) (g := mkF m pc Ls (.int j :: .ref a :: stk)) rfl rfl (hb K.by' hd) t k) k

theorem go_baloadB (K : Ctx p s m meth c Z own nm bytes maxL ret) (X : St p l e R s m args below meth c n0 T cells slots) (eT : T.heap = h) {a : Addr} {vs : List Value} {j : Int32} {i : Nat} {v : Value} (F : AV Z h a .byte vs) (hj : j.toInt = (i : Int)) (hv : vs[i]? = some v) (hd : decode bytes pc = .ok (.baload, 1)) (hp : pc + 1 = pc')
    (k : Go p e below s R n0 Q (T.setTop (mkF m pc' Ls (v :: stk)))) : Go p e below s R n0 Q (T.setTop (mkF m pc Ls (.int j :: .ref a :: stk))) := by
  subst hp; obtain ⟨locs, X, N⟩ := X; obtain ⟨cl, A, hs, hl⟩ := F
  exact go_by (fun t k => X.baloadBytes K.hx (by rw [eT]; exact A.1) (State.isArrayOf_alike K.hZ.alike A.2.1) A.2.2 (AV.in (a := a) (ty := .byte) hs hj (lt_of_get hv)) (AV.get hs hj hv) (g := mkF m pc Ls (.int j :: .ref a :: stk)) rfl rfl (hb K.by' hd) t k) k

theorem go_baloadZ (K : Ctx p s m meth c Z own nm bytes maxL ret) (X : St p l e R s m args below meth c n0 T cells slots) (eT : T.heap = h) {a : Addr} {vs : List Value} {j : Int32} {i : Nat} {v : Value} (F : AV Z h a .boolean vs) (hj : j.toInt = (i : Int)) (hv : vs[i]? = some v) (hd : decode bytes pc = .ok (.baload, 1)) (hp : pc + 1 = pc')
    (k : Go p e below s R n0 Q (T.setTop (mkF m pc' Ls (v :: stk)))) : Go p e below s R n0 Q (T.setTop (mkF m pc Ls (.int j :: .ref a :: stk))) := by
  subst hp; obtain ⟨locs, X, N⟩ := X; obtain ⟨cl, A, hs, hl⟩ := F
  exact go_by (fun t k => X.baloadBooleans K.hx (by rw [eT]; exact A.1) (State.isArrayOf_alike K.hZ.alike A.2.1) A.2.2 (AV.in (a := a) (ty := .boolean) hs hj (lt_of_get hv)) (AV.get hs hj hv) (g := mkF m pc Ls (.int j :: .ref a :: stk)) rfl rfl (hb K.by' hd) t k) k

theorem go_aaload (K : Ctx p s m meth c Z own nm bytes maxL ret) (X : St p l e R s m args below meth c n0 T cells slots) (eT : T.heap = h) {a : Addr} {ty : FieldType} {vs : List Value} {j : Int32} {i : Nat} {v : Value} (F : AV Z h a ty vs) (hj : j.toInt = (i : Int)) (hv : vs[i]? = some v) (hty : ty.isReference = true) (hd : decode bytes pc = .ok (.aaload, 1)) (hp : pc + 1 = pc')
    (k : Go p e below s R n0 Q (T.setTop (mkF m pc' Ls (v :: stk)))) : Go p e below s R n0 Q (T.setTop (mkF m pc Ls (.int j :: .ref a :: stk))) := by
  subst hp; obtain ⟨locs, X, N⟩ := X; obtain ⟨cl, A, hs, hl⟩ := F
  exact go_by (fun t k => X.aaload K.hx (by rw [eT]; exact A.1) (State.isArrayOf_alike K.hZ.alike A.2.1) hty A.2.2 (AV.in (a := a) (ty := ty) hs hj (lt_of_get hv)) (AV.get hs hj hv) (g := mkF m pc Ls (.int j :: .ref a :: stk)) rfl rfl (hb K.by' hd) t k) k
theorem go_arraylength (K : Ctx p s m meth c Z own nm bytes maxL ret) (X : St p l e R s m args below meth c n0 T cells slots) (eT : T.heap = h) {a : Addr} {ty : FieldType} {vs : List Value} {z : Int32} (F : AV Z h a ty vs) (hz : vs.length.toInt32 = z) (hd : decode bytes pc = .ok (.arraylength, 1)) (hp : pc + 1 = pc')
    (k : Go p e below s R n0 Q (T.setTop (mkF m pc' Ls (.int z :: stk)))) : Go p e below s R n0 Q (T.setTop (mkF m pc Ls (.ref a :: stk))) := by
  subst hp hz; obtain ⟨locs, X, N⟩ := X; obtain ⟨cl, A, hs, hl⟩ := F
  refine go_by (fun t k => X.arraylength K.hx (by rw [eT]; exact A.1) (State.isArrayOf_alike K.hZ.alike A.2.1) (g := mkF m pc Ls (.ref a :: stk)) rfl rfl (hb K.by' hd) t ?_) k
  rw [show cl.slots.size = vs.length by rw [hs]; simp]; exact k

theorem go_iastore (K : Ctx p s m meth c Z own nm bytes maxL ret) (X : St p l e R s m args below meth c n0 T cells slots) (eT : T.heap = h) {a : Addr} {vs : List Value} {j : Int32} {x : Int32} {i : Nat} (F : AV Z h a .int vs) (hj : j.toInt = (i : Int)) (hi : i < vs.length) (ge : n0 ≤ a) (hd : decode bytes pc = .ok (.iastore, 1)) (hp : pc + 1 = pc')
    (k : ∀ T' h', St p l e R s m args below meth c n0 T' cells slots → T'.heap = h' → Wr h h' a i (.int x) → AV Z h' a .int (vs.set i (.int x)) → Go p e below s R n0 Q (T'.setTop (mkF m pc' Ls stk))) : Go p e below s R n0 Q (T.setTop (mkF m pc Ls (.int x :: .int j :: .ref a :: stk))) := by
  subst hp; obtain ⟨locs, X, N⟩ := X; obtain ⟨cl, A, hs, hl⟩ := F
  obtain ⟨T', h', X', e', W', st⟩ := stI X K.hx K.hZ eT A (AV.in (a := a) (ty := .int) hs hj hi) (g := mkF m pc Ls (.int x :: .int j :: .ref a :: stk)) rfl rfl (hb K.by' hd)
  have W2 := W'; rw [(idx_nat hj).1] at W2
  exact go_by st (k T' h' ⟨_, X', Fr.snoc X' N ge⟩ e' W2 (AV.set A hs hl W2))

theorem go_lastore (K : Ctx p s m meth c Z own nm bytes maxL ret) (X : St p l e R s m args below meth c n0 T cells slots) (eT : T.heap = h) {a : Addr} {vs : List Value} {j : Int32} {x : Int64} {i : Nat} (F : AV Z h a .long vs) (hj : j.toInt = (i : Int)) (hi : i < vs.length) (ge : n0 ≤ a) (hd : decode bytes pc = .ok (.lastore, 1)) (hp : pc + 1 = pc')
    (k : ∀ T' h', St p l e R s m args below meth c n0 T' cells slots → T'.heap = h' → Wr h h' a i (.long x) → AV Z h' a .long (vs.set i (.long x)) → Go p e below s R n0 Q (T'.setTop (mkF m pc' Ls stk))) : Go p e below s R n0 Q (T.setTop (mkF m pc Ls (.long x :: .int j :: .ref a :: stk))) := by
  subst hp; obtain ⟨locs, X, N⟩ := X; obtain ⟨cl, A, hs, hl⟩ := F
  obtain ⟨T', h', X', e', W', st⟩ := stJ X K.hx K.hZ eT A (AV.in (a := a) (ty := .long) hs hj hi) (g := mkF m pc Ls (.long x :: .int j :: .ref a :: stk)) rfl rfl (hb K.by' hd)
  have W2 := W'; rw [(idx_nat hj).1] at W2
  exact go_by st (k T' h' ⟨_, X', Fr.snoc X' N ge⟩ e' W2 (AV.set A hs hl W2))

theorem go_bastoreB (K : Ctx p s m meth c Z own nm bytes maxL ret) (X : St p l e R s m args below meth c n0 T cells slots) (eT : T.heap = h) {a : Addr} {vs : List Value} {j x : Int32} {i : Nat} (F : AV Z h a .byte vs) (hj : j.toInt = (i : Int)) (hi : i < vs.length) (hx' : nar .byte x = x) (ge : n0 ≤ a) (hd : decode bytes pc = .ok (.bastore, 1)) (hp : pc + 1 = pc')
    (k : ∀ T' h', St p l e R s m args below meth c n0 T' cells slots → T'.heap = h' → Wr h h' a i (.int x) → AV Z h' a .byte (vs.set i (.int x)) → Go p e below s R n0 Q (T'.setTop (mkF m pc' Ls stk))) : Go p e below s R n0 Q (T.setTop (mkF m pc Ls (.int x :: .int j :: .ref a :: stk))) := by
  subst hp; obtain ⟨locs, X, N⟩ := X; obtain ⟨cl, A, hs, hl⟩ := F
  obtain ⟨T', h', X', e', W', st⟩ := stB X K.hx K.hZ eT A (AV.in (a := a) (ty := .byte) hs hj hi) (g := mkF m pc Ls (.int x :: .int j :: .ref a :: stk)) rfl rfl (hb K.by' hd)
  have W2 := W'; rw [(idx_nat hj).1, hx'] at W2
  exact go_by st (k T' h' ⟨_, X', Fr.snoc X' N ge⟩ e' W2 (AV.set A hs hl W2))

theorem go_bastoreZ (K : Ctx p s m meth c Z own nm bytes maxL ret) (X : St p l e R s m args below meth c n0 T cells slots) (eT : T.heap = h) {a : Addr} {vs : List Value} {j x : Int32} {i : Nat} (F : AV Z h a .boolean vs) (hj : j.toInt = (i : Int)) (hi : i < vs.length) (hx' : nar .boolean x = x) (ge : n0 ≤ a) (hd : decode bytes pc = .ok (.bastore, 1)) (hp : pc + 1 = pc')
    (k : ∀ T' h', St p l e R s m args below meth c n0 T' cells slots → T'.heap = h' → Wr h h' a i (.int x) → AV Z h' a .boolean (vs.set i (.int x)) → Go p e below s R n0 Q (T'.setTop (mkF m pc' Ls stk))) : Go p e below s R n0 Q (T.setTop (mkF m pc Ls (.int x :: .int j :: .ref a :: stk))) := by
  subst hp; obtain ⟨locs, X, N⟩ := X; obtain ⟨cl, A, hs, hl⟩ := F
  obtain ⟨T', h', X', e', W', st⟩ := stZ X K.hx K.hZ eT A (AV.in (a := a) (ty := .boolean) hs hj hi) (g := mkF m pc Ls (.int x :: .int j :: .ref a :: stk)) rfl rfl (hb K.by' hd)
  have W2 := W'; rw [(idx_nat hj).1, hx'] at W2
  exact go_by st (k T' h' ⟨_, X', Fr.snoc X' N ge⟩ e' W2 (AV.set A hs hl W2))

theorem go_castore (K : Ctx p s m meth c Z own nm bytes maxL ret) (X : St p l e R s m args below meth c n0 T cells slots) (eT : T.heap = h) {a : Addr} {vs : List Value} {j x : Int32} {i : Nat} (F : AV Z h a .char vs) (hj : j.toInt = (i : Int)) (hi : i < vs.length) (hx' : nar .char x = x) (ge : n0 ≤ a) (hd : decode bytes pc = .ok (.castore, 1)) (hp : pc + 1 = pc')
    (k : ∀ T' h', St p l e R s m args below meth c n0 T' cells slots → T'.heap = h' → Wr h h' a i (.int x) → AV Z h' a .char (vs.set i (.int x)) → Go p e below s R n0 Q (T'.setTop (mkF m pc' Ls stk))) : Go p e below s R n0 Q (T.setTop (mkF m pc Ls (.int x :: .int j :: .ref a :: stk))) := by
  subst hp; obtain ⟨locs, X, N⟩ := X; obtain ⟨cl, A, hs, hl⟩ := F
  obtain ⟨T', h', X', e', W', st⟩ := stC X K.hx K.hZ eT A (AV.in (a := a) (ty := .char) hs hj hi) (g := mkF m pc Ls (.int x :: .int j :: .ref a :: stk)) rfl rfl (hb K.by' hd)
  have W2 := W'; rw [(idx_nat hj).1, hx'] at W2
  exact go_by st (k T' h' ⟨_, X', Fr.snoc X' N ge⟩ e' W2 (AV.set A hs hl W2))

theorem go_aastore (K : Ctx p s m meth c Z own nm bytes maxL ret) (X : St p l e R s m args below meth c n0 T cells slots) (eT : T.heap = h) {a : Addr} {ty : FieldType} {vs : List Value} {j : Int32} {v : Value} {i : Nat} (F : AV Z h a ty vs) (hj : j.toInt = (i : Int)) (hi : i < vs.length) (hty : ty.isReference = true) (S : Sto Z h a v) (ge : n0 ≤ a) (hd : decode bytes pc = .ok (.aastore, 1)) (hp : pc + 1 = pc')
    (k : ∀ T' h', St p l e R s m args below meth c n0 T' cells slots → T'.heap = h' → Wr h h' a i v → AV Z h' a ty (vs.set i v) → Go p e below s R n0 Q (T'.setTop (mkF m pc' Ls stk))) : Go p e below s R n0 Q (T.setTop (mkF m pc Ls (v :: .int j :: .ref a :: stk))) := by
  subst hp; obtain ⟨locs, X, N⟩ := X; obtain ⟨cl, A, hs, hl⟩ := F
  obtain ⟨T', h', X', e', W', st⟩ := stR X K.hx K.hZ eT A (AV.in (a := a) (ty := ty) hs hj hi) hty S (g := mkF m pc Ls (v :: .int j :: .ref a :: stk)) rfl rfl (hb K.by' hd)
  have W2 := W'; rw [(idx_nat hj).1] at W2
  exact go_by st (k T' h' ⟨_, X', Fr.snoc X' N ge⟩ e' W2 (AV.set A hs hl W2))
theorem go_newarray (K : Ctx p s m meth c Z own nm bytes maxL ret) (X : St p l e R s m args below meth c n0 T cells slots) {aty : ArrayType} (w : (Cond.arrayClass (newarray.typeOf aty)).before a0 Z = true) (eT : T.heap = h) {j : Int32} {i cap : Nat} (hd : decode bytes pc = .ok (.newarray aty, 2)) (hj : j.toInt = (i : Int)) (hcap : i ≤ cap) (hb' : cap * 8 ≤ 536870912) (hp : pc + 2 = pc') (hc' : cells + 1 = cells') (hs' : slots + cap = slots') (hc : cells' ≤ R.cells) (hs : slots' ≤ R.slots)
    (k : ∀ T' h' a, a = h.size → St p l e R s m args below meth c n0 T' cells' slots' → T'.heap = h' → Ext h h' → AV Z h' a (newarray.typeOf aty) (List.replicate i (defaultValue (newarray.typeOf aty))) → Go p e below s R n0 Q (T'.setTop (mkF m pc' Ls (.ref a :: stk)))) : Go p e below s R n0 Q (T.setTop (mkF m pc Ls (.int j :: stk))) := by
  subst hp hc' hs'; obtain ⟨locs, X, N⟩ := X
  obtain ⟨h1, h2⟩ := idx_nat hj
  obtain ⟨T', h', cA, X', e', E', A', st⟩ := newP X K.hx K.hZ w eT (g := mkF m pc Ls (.int j :: stk)) rfl (hb K.by' hd) rfl h2 (cap := cap) (by rw [h1]; exact hcap) hb' hc hs
  refine go_by st (k T' h' _ rfl ⟨_, X', N⟩ e' E' ⟨_, A', ?_, ?_⟩)
  · show Array.replicate _ _ = _
    rw [h1]; simp
  · have := j.toInt_lt; rw [hj] at this; simp; omega

theorem nat32 {n : Nat} (h : n < 2 ^ 31) : n.toInt32.toNatClampNeg = n ∧ ¬ n.toInt32 < 0 := idx_nat (len_toInt h)
theorem AV.toArv {a : Addr} {ty : FieldType} {vs : List Value} (F : AV Z h a ty vs) (hf : ∀ v ∈ vs, fits ty v = true) (dv : Value) : ∃ k, Arv Z h a k ty vs.length.toInt32 vs dv := by
  obtain ⟨cl, A, hs, hl⟩ := F
  have hz : cl.slots.size = vs.length := by rw [hs]; simp
  refine ⟨cl.cls, cl, A, rfl, by rw [hz, (nat32 hl).1], (nat32 hl).2, fun i hi => ?_, fun i hi => ?_⟩
  · rw [hz] at hi
    rw [hs]; simp [List.getD, hi]
  · rw [hz] at hi
    have : vs.getD i dv = vs[i] := by simp [List.getD, hi]
    rw [this]; exact hf _ (List.getElem_mem hi)
theorem Arv.toAV {a : Addr} {k : ClassId} {ty : FieldType} {z : Int32} {vs : List Value} {dv : Value} (F : Arv Z h a k ty z vs dv) (hl : z.toNatClampNeg = vs.length) : AV Z h a ty vs := by
  obtain ⟨cl, A, -, hs, hn, H, -⟩ := F
  refine ⟨cl, A, ?_, ?_⟩
  · apply Array.ext
    · rw [hs, hl]; simp
    · intro i h1 h2
      have := H i h1
      have h3 : i < vs.length := by rw [hs, hl] at h1; exact h1
      rw [Array.getElem?_eq_getElem h1] at this
      have e := Option.some.inj this
      rw [e]; simp [List.getD, h3]
  · rw [← hl]; exact (back32 hn).2
theorem go_newarrayE (K : Ctx p s m meth c Z own nm bytes maxL ret) (X : St p l e R s m args below meth c n0 T cells slots) {aty : ArrayType} {ad : String} (had : "[" ++ (newarray.typeOf aty).toString = ad) (w : (Cond.arrayClass (newarray.typeOf aty)).before a0 Z = true) (eT : T.heap = h) {j : Int32} {i cap : Nat} (hd : decode bytes pc = .ok (.newarray aty, 2)) (hj : j.toInt = (i : Int)) (hcap : i ≤ cap) (hb' : cap * 8 ≤ 536870912) (hp : pc + 2 = pc') (hc' : cells + 1 = cells') (hs' : slots + cap = slots') (hc : cells' ≤ R.cells) (hs : slots' ≤ R.slots)
    (k : ∀ T' h' a, a = h.size → St p l e R s m args below meth c n0 T' cells' slots' → T'.heap = h' → Ext h h' → AV Z h' a (newarray.typeOf aty) (List.replicate i (defaultValue (newarray.typeOf aty))) → Exa Z h' a ad → Go p e below s R n0 Q (T'.setTop (mkF m pc' Ls (.ref a :: stk)))) : Go p e below s R n0 Q (T.setTop (mkF m pc Ls (.int j :: stk))) := by
  subst hp hc' hs'; obtain ⟨locs, X, N⟩ := X
  obtain ⟨h1, h2⟩ := idx_nat hj
  obtain ⟨T', h', cA, X', e', E', A', x', st⟩ := newPE X K.hx K.hZ w eT (g := mkF m pc Ls (.int j :: stk)) rfl (hb K.by' hd) rfl h2 (cap := cap) (by rw [h1]; exact hcap) hb' hc hs had
  refine go_by st (k T' h' _ rfl ⟨_, X', N⟩ e' E' ⟨_, A', ?_, ?_⟩ x')
  · show Array.replicate _ _ = _
    rw [h1]; simp
  · have := j.toInt_lt; rw [hj] at this; simp; omega
theorem go_clone (K : Ctx p s m meth c Z own nm bytes maxL ret) (X : St p l e R s m args below meth c n0 T cells slots) {ad : String} {index : Nat} (w1 : (Cond.methodLink own index ⟨ad, "clone", "()Ljava/lang/Object;"⟩).before a0 Z = true) (w2 : (Cond.sameMethod ad "java/lang/Object" "clone" "()Ljava/lang/Object;").before a0 Z = true) (w3 : (Cond.native ⟨"java/lang/Object", "clone", "()Ljava/lang/Object;"⟩).before a0 Z = true)
    (w4 : (Cond.instanceMethod ⟨"java/lang/Object", "clone", "()Ljava/lang/Object;"⟩).before a0 Z = true) (w5 : (Cond.selects ad ⟨ad, "clone", "()Ljava/lang/Object;"⟩ ⟨"java/lang/Object", "clone", "()Ljava/lang/Object;"⟩).before a0 Z = true) (w6 : (Cond.castable ad "java/lang/Cloneable").before a0 Z = true)
    (eT : T.heap = h) {a : Addr} {ty : FieldType} {vs : List Value} (F : AV Z h a ty vs) (E : Exa Z h a ad) (hfit : ∀ v ∈ vs, fits ty v = true) (hsize : Ls.size = maxL) (hd : decode bytes pc = .ok (.invokevirtual index, 3)) (hp : pc + 3 = pc')
    (hf : 1 ≤ R.frames) {W cap : Nat} (hW : (stk.map fun v => v.category).sum ≤ W) (hl : W + 14 ≤ R.locals) (hcap : vs.length ≤ cap) (hc' : cells + 1 = cells') (hs' : slots + cap = slots') (hc : cells' ≤ R.cells) (hs : slots' ≤ R.slots)
    (k : ∀ T' h' b, b = h.size → St p l e R s m args below meth c n0 T' cells' slots' → T'.heap = h' → Ext h h' → AV Z h' b ty vs → Exa Z h' b ad → Go p e below s R n0 Q (T'.setTop (mkF m pc' Ls (.ref b :: stk)))) : Go p e below s R n0 Q (T.setTop (mkF m pc Ls (.ref a :: stk))) := by
  subst hp hc' hs'; obtain ⟨locs, X, N⟩ := X
  obtain ⟨kk, V⟩ := F.toArv hfit .null
  have hlen := F.len
  obtain ⟨T', h', X', e', E', V', x', st⟩ := cloneH X K.hx K.hZ K.own' w1 w2 w3 w4 w5 w6 eT (Arv.arh V) E (g := mkF m pc Ls (.ref a :: stk)) rfl (by rw [K.ml]; exact hsize) rfl (hb K.by' hd) hf (W := W) (by show 2 * 0 + _ ≤ _; omega) hl (cap := cap) (by rw [(nat32 hlen).1]; exact hcap) hc hs
  exact go_by st (k T' h' _ rfl ⟨_, X', N⟩ e' E' (Arv.toAV V' (nat32 hlen).1) x')
theorem go_arraycopy (K : Ctx p s m meth c Z own nm bytes maxL ret) (X : St p l e R s m args below meth c n0 T cells slots) {index : Nat} (w1 : (Cond.methodLink own index Jvm.Stand.acN).before a0 Z = true) (w2 : (Cond.native Jvm.Stand.acN).before a0 Z = true) (w3 : (Cond.static Jvm.Stand.acN).before a0 Z = true) (w4 : (Cond.initialized "java/lang/System").before a0 Z = true)
    (eT : T.heap = h) {a b : Addr} {ty : FieldType} {vs vd us : List Value} {sp dp nn : Int32} {i j n : Nat} (F : AV Z h a ty vs) (G : AV Z h b ty vd) (hty : refKind ty = false) (hf1 : ∀ v ∈ vs, fits ty v = true) (hf2 : ∀ v ∈ vd, fits ty v = true) (hi : sp.toInt = (i : Int)) (hj : dp.toInt = (j : Int)) (hn : nn.toInt = (n : Int)) (h4 : i + n ≤ vs.length) (h5 : j + n ≤ vd.length) (hus : us = vd.take j ++ (vs.drop i).take n ++ vd.drop (j + n)) (ge : n0 ≤ b) (hsize : Ls.size = maxL) (hd : decode bytes pc = .ok (.invokestatic index, 3)) (hp : pc + 3 = pc')
    (hf : 1 ≤ R.frames) {W : Nat} (hW : (stk.map fun v => v.category).sum ≤ W) (hlo : W + (nativeFrameWords "java/lang/System" "arraycopy" 5 + 11) ≤ R.locals)
    (k : ∀ T' h', St p l e R s m args below meth c n0 T' cells slots → T'.heap = h' → Keep h h' [b] → AV Z h' b ty us → Go p e below s R n0 Q (T'.setTop (mkF m pc' Ls stk))) : Go p e below s R n0 Q (T.setTop (mkF m pc Ls (.int nn :: .int dp :: .ref b :: .int sp :: .ref a :: stk))) := by
  subst hp; obtain ⟨locs, X, N⟩ := X
  obtain ⟨k1, V1⟩ := F.toArv hf1 .null
  obtain ⟨k2, V2⟩ := G.toArv hf2 .null
  obtain ⟨i1, i2⟩ := idx_nat hi
  obtain ⟨j1, j2⟩ := idx_nat hj
  obtain ⟨n1, n2⟩ := idx_nat hn
  have l1 := (nat32 F.len).1
  have l2 := (nat32 G.len).1
  have e3 : (List.range n).map (fun q => vs.getD (i + q) .null) = (vs.drop i).take n := by
    apply List.ext_getElem
    · simp; omega
    · intro q h6 h7
      have : q < n := by simpa using h6
      have h8 : i + q < vs.length := by omega
      simp [List.getD, h8]
  obtain ⟨T', h', L', X', e', N', KK, V', st⟩ := cpA X K.hx K.hZ K.own' w1 w2 w3 w4 eT V1 V2 (Or.inl ⟨rfl, hty⟩) i2 j2 n2 (by rw [i1, n1, l1]; exact h4) (by rw [j1, n1, l2]; exact h5) rfl (by rw [j1, n1]; exact h5) N ge (g := mkF m pc Ls (.int nn :: .int dp :: .ref b :: .int sp :: .ref a :: stk)) rfl (by rw [K.ml]; exact hsize) rfl (hb K.by' hd) hf (W := W) (by show 2 * 0 + _ ≤ _; omega) hlo
  rw [i1, j1, n1, e3, ← hus] at V'
  have hl : us.length = vd.length := by rw [hus]; simp; omega
  exact go_by st (k T' h' ⟨_, X', N'⟩ e' KK (Arv.toAV V' (by rw [l2, hl])))

/-! ## calls: the callee's contract pays -/
theorem go_static (K : Ctx p s m meth c Z own nm bytes maxL ret) (X : St p l e R s m args below meth c n0 T cells slots) {index : Nat} {y : MethodName} {bytes' : ByteArray} {maxL' : Nat} {ret' : Option FieldType} {rm : Room} {Q' : Option Value → Heap → Prop} {argsL st0 : List Value}
    (w1 : (Cond.methodLink own index y).before a0 Z = true) (w2 : (Cond.static y).before a0 Z = true) (w3 : (Cond.initialized y.cls).before a0 Z = true) (w4 : (Cond.code y bytes' maxL' ret').before a0 Z = true) (hy : y.cls ≠ "java/lang/invoke/MethodHandle" ∧ y.cls ≠ "java/lang/invoke/VarHandle")
    (hlen : ∀ sig, parseMethodDescriptor y.desc = some sig → argsL.length = sig.parameters.length) (eT : T.heap = h) (C : Con l Z n0 y bytes' maxL' ret' rm argsL.toArray h Q') (hst : st0 = argsL.reverse ++ stk) (hsize : Ls.size = maxL) (hd : decode bytes pc = .ok (.invokestatic index, 3)) (hp : pc + 3 = pc')
    (hf : rm.frames + 1 ≤ R.frames) {W : Nat} (hW : (stk.map fun v => v.category).sum ≤ W) (hl : W + (maxL' + 11) + rm.locals ≤ R.locals) (hc' : cells + rm.cells = cells') (hs' : slots + rm.slots = slots') (hc : cells' ≤ R.cells) (hs : slots' ≤ R.slots)
    (k : ∀ T' h' v, St p l e R s m args below meth c n0 T' cells' slots' → T'.heap = h' → Q' v h' → Go p e below s R n0 Q (T'.setTop (mkF m pc' Ls (v.toList ++ stk)))) : Go p e below s R n0 Q (T.setTop (mkF m pc Ls st0)) := by
  subst hp hc' hs' hst; obtain ⟨locs, X, N⟩ := X
  obtain ⟨_, _, ⟨T1, L1, k1, n1⟩, -, X1, ⟨Lc1, hQ1, l1, y1, z1⟩, st1⟩ := Jvm.LawKit.callS X K.hx K.own' (mvT K.hZ w1) (mvT K.hZ w2) (mvT K.hZ w3) (mvT K.hZ w4) hy (backOf (W := W) (Q := fun v u L => Q' v u ∧ Fr n0 L) (C []) K.hZ w4 w3 hf hl) (g := mkF m pc Ls (argsL.reverse ++ stk)) rfl (by rw [K.ml]; exact hsize) (argsL := argsL) (rest := stk) hlen rfl (by show 2 * 0 + _ ≤ _; omega) (hb K.by' hd) (fun _ _ => ⟨rfl, eT, hc, hs⟩)
  dsimp only [Pt.U, Pt.locs, Pt.cells, Pt.slots] at X1 l1 y1 z1 st1 hQ1
  subst l1 y1 z1
  exact go_by st1 (k T1 _ _ ⟨_, X1, Fr.app N hQ1.2⟩ rfl hQ1.1)

theorem go_init (K : Ctx p s m meth c Z own nm bytes maxL ret) (X : St p l e R s m args below meth c n0 T cells slots) {index : Nat} {y : MethodName} {bytes' : ByteArray} {maxL' : Nat} {rm : Room} {Q' : Option Value → Heap → Prop} {a : Addr} {argsL st0 : List Value}
    (w1 : (Cond.methodLink own index y).before a0 Z = true) (w2 : (Cond.instanceMethod y).before a0 Z = true) (w3 : (Cond.initialized y.cls).before a0 Z = true) (w4 : (Cond.code y bytes' maxL' none).before a0 Z = true) (hy : y.cls ≠ "java/lang/invoke/MethodHandle" ∧ y.cls ≠ "java/lang/invoke/VarHandle") (hi : y.name = "<init>")
    (hlen : ∀ sig, parseMethodDescriptor y.desc = some sig → argsL.length = sig.parameters.length) (eT : T.heap = h) (C : Con l Z n0 y bytes' maxL' none rm (.ref a :: argsL).toArray h Q') (hst : st0 = argsL.reverse ++ .ref a :: stk) (hsize : Ls.size = maxL) (hd : decode bytes pc = .ok (.invokespecial index, 3)) (hp : pc + 3 = pc')
    (hf : rm.frames + 1 ≤ R.frames) {W : Nat} (hW : (stk.map fun v => v.category).sum ≤ W) (hl : W + (maxL' + 11) + rm.locals ≤ R.locals) (hc' : cells + rm.cells = cells') (hs' : slots + rm.slots = slots') (hc : cells' ≤ R.cells) (hs : slots' ≤ R.slots)
    (k : ∀ T' h' v, St p l e R s m args below meth c n0 T' cells' slots' → T'.heap = h' → Q' v h' → Go p e below s R n0 Q (T'.setTop (mkF m pc' Ls (v.toList ++ stk)))) : Go p e below s R n0 Q (T.setTop (mkF m pc Ls st0)) := by
  subst hp hc' hs' hst; obtain ⟨locs, X, N⟩ := X
  obtain ⟨_, _, ⟨T1, L1, k1, n1⟩, -, X1, ⟨Lc1, hQ1, l1, y1, z1⟩, st1⟩ := X.specialBack K.hx hi K.own' (mvT K.hZ w1) (mvT K.hZ w2) (mvT K.hZ w4) hy (backOf (W := W) (Q := fun v u L => Q' v u ∧ Fr n0 L) (C []) K.hZ w4 w3 hf hl) (g := mkF m pc Ls (argsL.reverse ++ .ref a :: stk)) rfl (by rw [K.ml]; exact hsize) (Steps.refl _) (a := a) (argsL := argsL) (rest := stk) hlen rfl (by show 2 * 0 + _ ≤ _; omega) (hb K.by' hd) (fun _ _ => ⟨rfl, eT, hc, hs⟩)
  dsimp only [Pt.U, Pt.locs, Pt.cells, Pt.slots] at X1 l1 y1 z1 st1 hQ1
  subst l1 y1 z1
  exact go_by (fun t k => st1.trans k) (k T1 _ _ ⟨_, X1, Fr.app N hQ1.2⟩ rfl hQ1.1)

theorem go_virt (K : Ctx p s m meth c Z own nm bytes maxL ret) (X : St p l e R s m args below meth c n0 T cells slots) {C : String} {index : Nat} {y z : MethodName} {bytes' : ByteArray} {maxL' : Nat} {ret' : Option FieldType} {rm : Room} {Q' : Option Value → Heap → Prop} {a : Addr} {argsL st0 : List Value}
    (w1 : (Cond.methodLink own index y).before a0 Z = true) (w2 : (Cond.declares y).before a0 Z = true) (wn : (Cond.selects y.cls y y).before a0 Z = true) (w3 : (Cond.selects C y z).before a0 Z = true) (w4 : (Cond.instanceMethod z).before a0 Z = true) (w5 : (Cond.code z bytes' maxL' ret').before a0 Z = true) (w6 : (Cond.initialized z.cls).before a0 Z = true) (hy : y.cls ≠ "java/lang/invoke/MethodHandle" ∧ y.cls ≠ "java/lang/invoke/VarHandle")
    (hlen : ∀ sig, parseMethodDescriptor y.desc = some sig → argsL.length = sig.parameters.length) (eT : T.heap = h) (E : Exa Z h a C) (C0 : Con l Z n0 z bytes' maxL' ret' rm (.ref a :: argsL).toArray h Q') (hst : st0 = argsL.reverse ++ .ref a :: stk) (hsize : Ls.size = maxL) (hd : decode bytes pc = .ok (.invokevirtual index, 3)) (hp : pc + 3 = pc')
    (hf : rm.frames + 1 ≤ R.frames) {W : Nat} (hW : (stk.map fun v => v.category).sum ≤ W) (hl : W + (maxL' + 11) + rm.locals ≤ R.locals) (hc' : cells + rm.cells = cells') (hs' : slots + rm.slots = slots') (hc : cells' ≤ R.cells) (hs : slots' ≤ R.slots)
    (k : ∀ T' h' v, St p l e R s m args below meth c n0 T' cells' slots' → T'.heap = h' → Q' v h' → Go p e below s R n0 Q (T'.setTop (mkF m pc' Ls (v.toList ++ stk)))) : Go p e below s R n0 Q (T.setTop (mkF m pc Ls st0)) := by
  subst hp hc' hs' hst; obtain ⟨locs, X, N⟩ := X
  obtain ⟨cq, kq, qa, qb, qc⟩ := isOf K.hZ eT E
  obtain ⟨_, _, ⟨T1, L1, k1, n1⟩, -, X1, ⟨Lc1, hQ1, l1, y1, z1⟩, st1⟩ := X.virtualBack K.hx K.own' (mvT K.hZ w1) (mvT K.hZ w2) (notFace_of_selects (args := #[]) (mvT K.hZ wn)) (mvT K.hZ w3) (mvT K.hZ w4) hy (backOf (W := W) (Q := fun v u L => Q' v u ∧ Fr n0 L) (C0 []) K.hZ w5 w6 hf hl) qa qc (g := mkF m pc Ls (argsL.reverse ++ .ref a :: stk)) rfl (by rw [K.ml]; exact hsize) (Steps.refl _) (argsL := argsL) (rest := stk) hlen rfl (by show 2 * 0 + _ ≤ _; omega) (hb K.by' hd) (fun _ _ => ⟨rfl, eT, hc, hs⟩)
  dsimp only [Pt.U, Pt.locs, Pt.cells, Pt.slots] at X1 l1 y1 z1 st1 hQ1
  subst l1 y1 z1
  exact go_by (fun t k => st1.trans k) (k T1 _ _ ⟨_, X1, Fr.app N hQ1.2⟩ rfl hQ1.1)

theorem go_face (K : Ctx p s m meth c Z own nm bytes maxL ret) (X : St p l e R s m args below meth c n0 T cells slots) {C : String} {index count : Nat} {y z : MethodName} {bytes' : ByteArray} {maxL' : Nat} {ret' : Option FieldType} {rm : Room} {Q' : Option Value → Heap → Prop} {a : Addr} {argsL st0 : List Value}
    (w1 : (Cond.methodLink own index y).before a0 Z = true) (w2 : (Cond.declares y).before a0 Z = true) (w7 : (Cond.interfaceMethod y.cls y.cls y.name y.desc).before a0 Z = true) (w3 : (Cond.selects C y z).before a0 Z = true) (w4 : (Cond.instanceMethod z).before a0 Z = true) (w8 : (Cond.publicMethod z).before a0 Z = true) (w9 : (Cond.unhidden C y.name y.desc).before a0 Z = true) (w10 : (Cond.castable C y.cls).before a0 Z = true) (w5 : (Cond.code z bytes' maxL' ret').before a0 Z = true) (w6 : (Cond.initialized z.cls).before a0 Z = true) (hy : y.cls ≠ "java/lang/invoke/MethodHandle" ∧ y.cls ≠ "java/lang/invoke/VarHandle")
    (hlen : ∀ sig, parseMethodDescriptor y.desc = some sig → argsL.length = sig.parameters.length) (eT : T.heap = h) (E : Exa Z h a C) (C0 : Con l Z n0 z bytes' maxL' ret' rm (.ref a :: argsL).toArray h Q') (hst : st0 = argsL.reverse ++ .ref a :: stk) (hsize : Ls.size = maxL) (hd : decode bytes pc = .ok (.invokeinterface index count, 5)) (hp : pc + 5 = pc')
    (hf : rm.frames + 1 ≤ R.frames) {W : Nat} (hW : (stk.map fun v => v.category).sum ≤ W) (hl : W + (maxL' + 11) + rm.locals ≤ R.locals) (hc' : cells + rm.cells = cells') (hs' : slots + rm.slots = slots') (hc : cells' ≤ R.cells) (hs : slots' ≤ R.slots)
    (k : ∀ T' h' v, St p l e R s m args below meth c n0 T' cells' slots' → T'.heap = h' → Q' v h' → Go p e below s R n0 Q (T'.setTop (mkF m pc' Ls (v.toList ++ stk)))) : Go p e below s R n0 Q (T.setTop (mkF m pc Ls st0)) := by
  subst hp hc' hs' hst; obtain ⟨locs, X, N⟩ := X
  obtain ⟨cq, kq, qa, qb, qc⟩ := isOf K.hZ eT E
  obtain ⟨_, _, ⟨T1, L1, k1, n1⟩, -, X1, ⟨Lc1, hQ1, l1, y1, z1⟩, st1⟩ := X.interfaceBack K.hx K.own' (mvT K.hZ w1) (mvT K.hZ w2) (mvT K.hZ w7 (by simp [Cond.onTables, Cond.keepsFace, Cond.keeps, Cond.steady, Cond.faceAtom, hy.1, hy.2])) (mvT K.hZ w3) (mvT K.hZ w4) (mvT K.hZ w8) (mvT K.hZ w9) (mvT K.hZ w10) hy (backOf (W := W) (Q := fun v u L => Q' v u ∧ Fr n0 L) (C0 []) K.hZ w5 w6 hf hl) qa qb qc (g := mkF m pc Ls (argsL.reverse ++ .ref a :: stk)) rfl (by rw [K.ml]; exact hsize) (Steps.refl _) (argsL := argsL) (rest := stk) hlen rfl (by show 2 * 0 + _ ≤ _; omega) (hb K.by' hd) (fun _ _ => ⟨rfl, eT, hc, hs⟩)
  dsimp only [Pt.U, Pt.locs, Pt.cells, Pt.slots] at X1 l1 y1 z1 st1 hQ1
  subst l1 y1 z1
  exact go_by (fun t k => st1.trans k) (k T1 _ _ ⟨_, X1, Fr.app N hQ1.2⟩ rfl hQ1.1)

end OwnKit

def own_arr (a b c d e : Int64) : List Value := .long a :: .long b :: .long c :: .long d :: .long e :: List.replicate 59 (.long 0)
def own_bytes : Int64 := ((((16 : Int64) + ((64 : Int32).toInt64 * (8 : Int32).toInt64)) + 7) &&& (-8))
theorem own_lt {x y : Int64} (h : x < y) : x.toInt < y.toInt := Int64.lt_iff_toInt_lt.mp h
theorem own_nlt {x y : Int64} (h : ¬ x < y) : y.toInt ≤ x.toInt := by rw [Int64.lt_iff_toInt_lt] at h; omega
def own_idx (q : Int64) : Int32 := if q < 0 then -1 else if q < 5 then q.toInt32 else -1
def own_i (i : Fin 5) : Int32 := Int32.ofNat i.val
def own_w (w0 w1 w2 w3 w4 : Int64) (i : Fin 5) : Int64 := match i with | 0 => w0 | 1 => w1 | 2 => w2 | 3 => w3 | 4 => w4
def own_x (q : Int64) (i : Fin 5) : Int64 := match i with | 0 => q | 1 => q + 1 | 2 => q + 2 | 3 => q + 3 | 4 => q + 4
theorem own_nneg (i : Fin 5) : ¬ own_i i < 0 := by revert i; decide
theorem own_iI (i : Fin 5) : (own_i i).toInt = (i.val : Int) := by revert i; decide
theorem own_el (w0 w1 w2 w3 w4 : Int64) (i : Fin 5) : ([.long w0, .long w1, .long w2, .long w3, .long w4] : List Value)[i.val]? = some (.long (own_w w0 w1 w2 w3 w4 i)) := by
  match i with
  | 0 => rfl | 1 => rfl | 2 => rfl | 3 => rfl | 4 => rfl
theorem own_xsub (q : Int64) (i : Fin 5) : own_idx (own_x q i - q) = own_i i := by
  have e : ∀ k : Int64, q + k - q = k := fun k => by
    apply Int64.toBitVec_inj.mp
    rw [Int64.toBitVec_sub, Int64.toBitVec_add, BitVec.add_comm, BitVec.add_sub_cancel]
  match i with
  | 0 => show own_idx (q - q) = _; have : q - q = 0 := by have := e 0; simpa using this
         rw [this]; decide
  | 1 => show own_idx (q + 1 - q) = _; rw [e]; decide
  | 2 => show own_idx (q + 2 - q) = _; rw [e]; decide
  | 3 => show own_idx (q + 3 - q) = _; rw [e]; decide
  | 4 => show own_idx (q + 4 - q) = _; rw [e]; decide
theorem own_xinj (q : Int64) {i j : Fin 5} (h : own_x q i = own_x q j) : i = j := by
  have := congrArg (fun z => own_idx (z - q)) h
  simp only [own_xsub] at this
  clear h; revert this; revert i j; decide
theorem own_mask (a b c d e : Fin 5) (h : [a, b, c, d, e].Nodup) : ((((1 : Int32) <<< (own_i a &&& 31)) ||| ((1 : Int32) <<< (own_i b &&& 31))) ||| ((1 : Int32) <<< (own_i c &&& 31)) ||| ((1 : Int32) <<< (own_i d &&& 31)) ||| ((1 : Int32) <<< (own_i e &&& 31))) = 31 := by
  revert a b c d e; decide +kernel
theorem own_end (w0 w1 w2 w3 w4 q : Int64) {o1 o2 o3 o4 o5 : Int64 × Int64} (hp : List.Perm [o1, o2, o3, o4, o5] [(w4, q + 4), (w3, q + 3), (w2, q + 2), (w1, q + 1), (w0, q)])
    (l1 : o1.1.toInt ≤ o2.1.toInt) (l2 : o2.1.toInt ≤ o3.1.toInt) (l3 : o3.1.toInt ≤ o4.1.toInt) (l4 : o4.1.toInt ≤ o5.1.toInt) :
    ∃ i1 i2 i3 i4 i5 : Fin 5, [i1, i2, i3, i4, i5].Nodup ∧ own_idx (o1.2 - q) = own_i i1 ∧ own_idx (o2.2 - q) = own_i i2 ∧ own_idx (o3.2 - q) = own_i i3 ∧ own_idx (o4.2 - q) = own_i i4 ∧ own_idx (o5.2 - q) = own_i i5 ∧
      ¬ own_w w0 w1 w2 w3 w4 i2 < own_w w0 w1 w2 w3 w4 i1 ∧ ¬ own_w w0 w1 w2 w3 w4 i3 < own_w w0 w1 w2 w3 w4 i2 ∧ ¬ own_w w0 w1 w2 w3 w4 i4 < own_w w0 w1 w2 w3 w4 i3 ∧ ¬ own_w w0 w1 w2 w3 w4 i5 < own_w w0 w1 w2 w3 w4 i4 := by
  let f : Fin 5 → Int64 × Int64 := fun i => (own_w w0 w1 w2 w3 w4 i, own_x q i)
  have hf : [(w4, q + 4), (w3, q + 3), (w2, q + 2), (w1, q + 1), (w0, q)] = ([4, 3, 2, 1, 0] : List (Fin 5)).map f := rfl
  rw [hf] at hp
  have fi : ∀ {i j : Fin 5}, f i = f j → i = j := fun h => own_xinj q (Prod.mk.inj h).2
  have hm : ∀ o ∈ [o1, o2, o3, o4, o5], ∃ i, o = f i := fun o ho => by
    obtain ⟨i, -, e⟩ := List.mem_map.mp (hp.mem_iff.mp ho)
    exact ⟨i, e.symm⟩
  obtain ⟨i1, e1⟩ := hm o1 (by simp)
  obtain ⟨i2, e2⟩ := hm o2 (by simp)
  obtain ⟨i3, e3⟩ := hm o3 (by simp)
  obtain ⟨i4, e4⟩ := hm o4 (by simp)
  obtain ⟨i5, e5⟩ := hm o5 (by simp)
  subst e1 e2 e3 e4 e5
  have hnd : (([4, 3, 2, 1, 0] : List (Fin 5)).map f).Nodup := by
    refine List.Pairwise.map f (fun a b hab => ?_) (show ([4, 3, 2, 1, 0] : List (Fin 5)).Nodup by decide)
    exact fun h => hab (fi h)
  have hnd2 : ([i1, i2, i3, i4, i5].map f).Nodup := (hp.nodup_iff).mpr hnd
  have nl : ∀ {x y : Int64}, x.toInt ≤ y.toInt → ¬ y < x := fun h g => by have := own_lt g; omega
  refine ⟨i1, i2, i3, i4, i5, ?_, own_xsub q i1, own_xsub q i2, own_xsub q i3, own_xsub q i4, own_xsub q i5, nl l1, nl l2, nl l3, nl l4⟩
  exact List.Pairwise.of_map f (fun a b hab h => hab (congrArg f h)) hnd2

theorem d4_0 : decode prog_86_method_2_code 0 = .ok (.ldc2_w 9, 3) := by decide +kernel
theorem d4_3 : decode prog_86_method_2_code 3 = .ok (.iload_n 0, 1) := by decide +kernel
theorem d4_4 : decode prog_86_method_2_code 4 = .ok (.i2l, 1) := by decide +kernel
theorem d4_5 : decode prog_86_method_2_code 5 = .ok (.iload_n 1, 1) := by decide +kernel
theorem d4_6 : decode prog_86_method_2_code 6 = .ok (.i2l, 1) := by decide +kernel
theorem d4_7 : decode prog_86_method_2_code 7 = .ok (.lmul, 1) := by decide +kernel
theorem d4_8 : decode prog_86_method_2_code 8 = .ok (.ladd, 1) := by decide +kernel
theorem d4_9 : decode prog_86_method_2_code 9 = .ok (.ldc2_w 11, 3) := by decide +kernel
theorem d4_12 : decode prog_86_method_2_code 12 = .ok (.ladd, 1) := by decide +kernel
theorem d4_13 : decode prog_86_method_2_code 13 = .ok (.ldc2_w 13, 3) := by decide +kernel
theorem d4_16 : decode prog_86_method_2_code 16 = .ok (.land, 1) := by decide +kernel
theorem d4_17 : decode prog_86_method_2_code 17 = .ok (.lstore_n 2, 1) := by decide +kernel
theorem d4_18 : decode prog_86_method_2_code 18 = .ok (.lload_n 2, 1) := by decide +kernel
theorem d4_19 : decode prog_86_method_2_code 19 = .ok (.ldc2_w 15, 3) := by decide +kernel
theorem d4_22 : decode prog_86_method_2_code 22 = .ok (.lcmp, 1) := by decide +kernel
theorem d4_23 : decode prog_86_method_2_code 23 = .ok (.ifCond .le 19, 3) := by decide +kernel
theorem d4_42 : decode prog_86_method_2_code 42 = .ok (.lload_n 2, 1) := by decide +kernel
theorem d4_43 : decode prog_86_method_2_code 43 = .ok (.lreturn, 1) := by decide +kernel
theorem pn_com_example_plumbline_plumbline_model_HeapBytes : plainName "com/example/plumbline/plumbline/model/HeapBytes" = true := by first | (simp [plainName, overriddenIn]; done) | decide +kernel
theorem ef_rmOfA (m : MethodId)  : entryFrame m #[(.int (64 : Int32)), (.int (8 : Int32))] 4 = mkF m 0 #[.val (.int (64 : Int32)), .val (.int (8 : Int32)), .unset, .unset] [] := by first | (simp [entryFrame, mkF, argsToLocals, Value.category]; done) | rfl
def Q_rmOfA (Z : State) (n0 : Nat)  (h0 : Heap) (v : Option Value) (h : Heap) : Prop := v = some (.long own_bytes) ∧ h = h0
abbrev R_rmOfA : Room := { frames := 0, cells := 0, slots := 0, locals := 0 }
set_option maxRecDepth 65536 in
set_option maxHeartbeats 40000000 in
theorem rmOfA {l : Launch} {Z : State} {n0 : Nat} {a0 : Array Value} (hw : ∀ d ∈ tables_1, d.before a0 Z = true)  (h0 : Heap) :
    Con l Z n0 (⟨"com/example/plumbline/plumbline/model/HeapBytes", "ofArray", "(II)J"⟩ : MethodName) prog_86_method_2_code 4 (some .long) R_rmOfA #[(.int (64 : Int32)), (.int (8 : Int32))] h0 (Q_rmOfA Z n0  h0) := by
  refine con_of (plainFor_of_name pn_com_example_plumbline_plumbline_model_HeapBytes) ?_
  intro p e s m below meth c T0 K X0 e0
  replace K : Ctx p s m meth c Z "com/example/plumbline/plumbline/model/HeapBytes" "ofArray" prog_86_method_2_code 4 (some .long) := K
  refine go_entry (ef_rmOfA m ) ?_
  refine go_ldc2J K X0 (wd hw 22 rfl) d4_0 rfl ?_
  refine go_iloadN K X0 d4_3 rfl rfl ?_
  refine go_i2l K X0 d4_4 rfl ?_
  refine go_iloadN K X0 d4_5 rfl rfl ?_
  refine go_i2l K X0 d4_6 rfl ?_
  refine go_lmul K X0 d4_7 rfl ?_
  refine go_ladd K X0 d4_8 rfl ?_
  refine go_ldc2J K X0 (wd hw 23 rfl) d4_9 rfl ?_
  refine go_ladd K X0 d4_12 rfl ?_
  refine go_ldc2J K X0 (wd hw 24 rfl) d4_13 rfl ?_
  refine go_land K X0 d4_16 rfl ?_
  refine go_lstoreN K X0 #[.val (.int (64 : Int32)), .val (.int (8 : Int32)), .val (.long ((((16 : Int64) + (((64 : Int32).toInt64) * ((8 : Int32).toInt64))) + (7 : Int64)) &&& (-8 : Int64))), .second] d4_17 rfl rfl ?_
  refine go_lloadN K X0 d4_18 rfl rfl ?_
  refine go_ldc2J K X0 (wd hw 25 rfl) d4_19 rfl ?_
  refine go_lifT K X0 d4_22 rfl d4_23 (by decide) rfl (by decide : ¬ (524288 : Int64) < ((((16 : Int64) + (((64 : Int32).toInt64) * ((8 : Int32).toInt64))) + (7 : Int64)) &&& (-8 : Int64))) ?_
  refine go_lloadN K X0 d4_42 rfl rfl ?_
  refine go_retJ K X0 d4_43 (by decide) (by decide) ?_
  rw [e0]
  exact ⟨(by unfold own_bytes; rfl), rfl⟩
theorem d3_0 : decode prog_61_method_6_code 0 = .ok (.ldc2_w 34, 3) := by decide +kernel
theorem d3_3 : decode prog_61_method_6_code 3 = .ok (.iload_n 0, 1) := by decide +kernel
theorem d3_4 : decode prog_61_method_6_code 4 = .ok (.bipush 8, 2) := by decide +kernel
theorem d3_6 : decode prog_61_method_6_code 6 = .ok (.invokestatic 38, 3) := by decide +kernel
theorem pd_0 : parseMethodDescriptor "(II)J" = some ⟨[.int, .int], some .long⟩ := by decide +kernel
theorem d3_9 : decode prog_61_method_6_code 9 = .ok (.lmul, 1) := by decide +kernel
theorem d3_10 : decode prog_61_method_6_code 10 = .ok (.lreturn, 1) := by decide +kernel
theorem pn_com_example_plumbline_plumbline_align_WeightHeap : plainName "com/example/plumbline/plumbline/align/WeightHeap" = true := by first | (simp [plainName, overriddenIn]; done) | decide +kernel
theorem ef_rmAB (m : MethodId)  : entryFrame m #[(.int (64 : Int32))] 1 = mkF m 0 #[.val (.int (64 : Int32))] [] := by first | (simp [entryFrame, mkF, argsToLocals, Value.category]; done) | rfl
def Q_rmAB (Z : State) (n0 : Nat)  (h0 : Heap) (v : Option Value) (h : Heap) : Prop := v = some (.long ((2 : Int64) * own_bytes)) ∧ h = h0
abbrev R_rmAB : Room := { frames := 1, cells := 0, slots := 0, locals := 17 }
set_option maxRecDepth 65536 in
set_option maxHeartbeats 40000000 in
theorem rmAB {l : Launch} {Z : State} {n0 : Nat} {a0 : Array Value} (hw : ∀ d ∈ tables_1, d.before a0 Z = true)  (h0 : Heap) :
    Con l Z n0 (⟨"com/example/plumbline/plumbline/align/WeightHeap", "arrayBytes", "(I)J"⟩ : MethodName) prog_61_method_6_code 1 (some .long) R_rmAB #[(.int (64 : Int32))] h0 (Q_rmAB Z n0  h0) := by
  refine con_of (plainFor_of_name pn_com_example_plumbline_plumbline_align_WeightHeap) ?_
  intro p e s m below meth c T0 K X0 e0
  replace K : Ctx p s m meth c Z "com/example/plumbline/plumbline/align/WeightHeap" "arrayBytes" prog_61_method_6_code 1 (some .long) := K
  refine go_entry (ef_rmAB m ) ?_
  refine go_ldc2J K X0 (wd hw 17 rfl) d3_0 rfl ?_
  refine go_iloadN K X0 d3_3 rfl rfl ?_
  refine go_bipush K X0 (8 : Int32) d3_4 rfl rfl ?_
  refine go_static K X0 (argsL := [(.int (64 : Int32)), (.int (8 : Int32))]) (stk := [(.long (2 : Int64))]) (wd hw 18 rfl) (wd hw 19 rfl) (wd hw 20 rfl) (wd hw 21 rfl) (by decide) (lenOf pd_0 rfl) e0 (rmOfA hw  h0 ) rfl rfl d3_6 rfl (by decide) (W := 2) (Nat.le_of_eq rfl) (by decide) (cells' := 0) (slots' := 0) rfl rfl (by decide) (by decide) ?_
  rintro T1 h1 _ X1 e1 ⟨rfl, qe1⟩
  show Go _ _ _ _ _ _ _ (T1.setTop (mkF m 9 #[.val (.int (64 : Int32))] [(.long own_bytes), (.long (2 : Int64))]))
  replace e1 := e1.trans qe1
  refine go_lmul K X1 d3_9 rfl ?_
  refine go_retJ K X1 d3_10 (by decide) (by decide) ?_
  rw [e1]
  exact ⟨rfl, rfl⟩
theorem d1_0 : decode prog_61_method_1_code 0 = .ok (.aload_n 0, 1) := by decide +kernel
theorem d1_1 : decode prog_61_method_1_code 1 = .ok (.invokespecial 1, 3) := by decide +kernel
theorem d1_4 : decode prog_61_method_1_code 4 = .ok (.aload_n 0, 1) := by decide +kernel
theorem d1_5 : decode prog_61_method_1_code 5 = .ok (.bipush 64, 2) := by decide +kernel
theorem d1_7 : decode prog_61_method_1_code 7 = .ok (.newarray .long, 2) := by decide +kernel
theorem d1_9 : decode prog_61_method_1_code 9 = .ok (.putfield 7, 3) := by decide +kernel
theorem d1_12 : decode prog_61_method_1_code 12 = .ok (.aload_n 0, 1) := by decide +kernel
theorem d1_13 : decode prog_61_method_1_code 13 = .ok (.bipush 64, 2) := by decide +kernel
theorem d1_15 : decode prog_61_method_1_code 15 = .ok (.newarray .long, 2) := by decide +kernel
theorem d1_17 : decode prog_61_method_1_code 17 = .ok (.putfield 13, 3) := by decide +kernel
theorem d1_20 : decode prog_61_method_1_code 20 = .ok (.aload_n 0, 1) := by decide +kernel
theorem d1_21 : decode prog_61_method_1_code 21 = .ok (.aload_n 0, 1) := by decide +kernel
theorem d1_22 : decode prog_61_method_1_code 22 = .ok (.getfield 13, 3) := by decide +kernel
theorem d1_25 : decode prog_61_method_1_code 25 = .ok (.arraylength, 1) := by decide +kernel
theorem d1_26 : decode prog_61_method_1_code 26 = .ok (.invokestatic 16, 3) := by decide +kernel
theorem pd_1 : parseMethodDescriptor "(I)J" = some ⟨[.int], some .long⟩ := by decide +kernel
theorem d1_29 : decode prog_61_method_1_code 29 = .ok (.putfield 20, 3) := by decide +kernel
theorem d1_32 : decode prog_61_method_1_code 32 = .ok (.return_, 1) := by decide +kernel
theorem ef_rmInit (m : MethodId) (a1 : Addr) : entryFrame m #[(.ref a1)] 1 = mkF m 0 #[.val (.ref a1)] [] := by first | (simp [entryFrame, mkF, argsToLocals, Value.category]; done) | rfl
def Q_rmInit (Z : State) (n0 : Nat) (a1 : Addr) (u0 : Value) (u1 : Value) (u2 : Value) (h0 : Heap) (v : Option Value) (h : Heap) : Prop := ∃ wa : Addr, ∃ ia : Addr, v = none ∧ Keep h0 h [a1] ∧ h0.size ≤ wa ∧ h0.size ≤ ia ∧ Exa Z h a1 "com/example/plumbline/plumbline/align/WeightHeap" ∧ Fld Z h a1 "com/example/plumbline/plumbline/align/WeightHeap" "weights" "[J" (.ref wa) ∧ Fld Z h a1 "com/example/plumbline/plumbline/align/WeightHeap" "items" "[J" (.ref ia) ∧ Fld Z h a1 "com/example/plumbline/plumbline/align/WeightHeap" "size" "I" (.int (0 : Int32)) ∧ AV Z h wa .long (own_arr (0 : Int64) (0 : Int64) (0 : Int64) (0 : Int64) (0 : Int64)) ∧ AV Z h ia .long (own_arr (0 : Int64) (0 : Int64) (0 : Int64) (0 : Int64) (0 : Int64)) ∧ (wa ≠ ia)
abbrev R_rmInit : Room := { frames := 2, cells := 2, slots := 128, locals := 30 }
set_option maxRecDepth 65536 in
set_option maxHeartbeats 40000000 in
theorem rmInit {l : Launch} {Z : State} {n0 : Nat} {a0 : Array Value} (hw : ∀ d ∈ tables_1, d.before a0 Z = true) (a1 : Addr) (u0 : Value) (u1 : Value) (u2 : Value) (h0 : Heap) (H0 : n0 ≤ h0.size) (H1 : n0 ≤ a1) (H2 : Exa Z h0 a1 "com/example/plumbline/plumbline/align/WeightHeap") (H3 : Fld Z h0 a1 "com/example/plumbline/plumbline/align/WeightHeap" "weights" "[J" u0) (H4 : Fld Z h0 a1 "com/example/plumbline/plumbline/align/WeightHeap" "items" "[J" u1) (H5 : Fld Z h0 a1 "com/example/plumbline/plumbline/align/WeightHeap" "bytes" "J" u2) (H6 : Fld Z h0 a1 "com/example/plumbline/plumbline/align/WeightHeap" "size" "I" (.int (0 : Int32))) :
    Con l Z n0 (⟨"com/example/plumbline/plumbline/align/WeightHeap", "<init>", "()V"⟩ : MethodName) prog_61_method_1_code 1 none R_rmInit #[(.ref a1)] h0 (Q_rmInit Z n0 a1 u0 u1 u2 h0) := by
  refine con_of (plainFor_of_name pn_com_example_plumbline_plumbline_align_WeightHeap) ?_
  intro p e s m below meth c T0 K X0 e0
  replace K : Ctx p s m meth c Z "com/example/plumbline/plumbline/align/WeightHeap" "<init>" prog_61_method_1_code 1 none := K
  refine go_entry (ef_rmInit m a1) ?_
  refine go_aloadN K X0 d1_0 rfl rfl rfl ?_
  refine go_initO K X0 (wd hw 7 rfl) (wd hw 8 rfl) (wd hw 9 rfl) e0 rfl d1_1 rfl (by decide) (W := 0) (Nat.le_of_eq rfl) (by decide) ?_
  intro T2 X2 e2
  refine go_aloadN K X2 d1_4 rfl rfl rfl ?_
  refine go_bipush K X2 (64 : Int32) d1_5 rfl rfl ?_
  refine go_newarray K X2 (wd hw 0 rfl) e2 d1_7 (i := 64) (cap := 64) rfl (by decide) (by decide) rfl (cells' := 1) (slots' := 64) rfl rfl (by decide) (by decide) ?_
  intro T3 h3 b3 g3 X3 e3 E3 A3
  have ga4 : n0 ≤ b3 := Nat.le_trans H0 (Nat.le_of_eq g3.symm)
  have gb5 : h0.size ≤ b3 := Nat.le_trans (Keep.refl h0 [a1]).1 (Nat.le_of_eq g3.symm)
  have kp6 : Keep h0 h3 [a1] := (Keep.refl h0 [a1]).trans (Keep.ext (Keep.refl _ []) E3) all0
  have f7 : AV Z h3 b3 .long (List.replicate 64 (.long (0 : Int64))) := A3
  have f8 : Exa Z h3 a1 "com/example/plumbline/plumbline/align/WeightHeap" := (H2.keep (Keep.ext (Keep.refl _ []) E3))
  have f9 : Fld Z h3 a1 "com/example/plumbline/plumbline/align/WeightHeap" "weights" "[J" u0 := (H3.keep (Keep.ext (Keep.refl _ []) E3) nin0)
  refine go_putF K X3 (host := "") (Or.inl (wd hw 10 rfl)) Via.refl e3 f9 f8 (Or.inl (wd hw 11 rfl)) (wd hw 2 rfl) (ty := (.array .long)) (by decide) rfl rfl H1 d1_9 rfl ?_
  intro T10 h10 X10 e10 W10
  have kp11 : Keep h0 h10 [a1] := kp6.trans (Keep.of_wr W10) (allS (Or.inl (List.mem_of_getElem? (i := 0) rfl)) all0)
  have f12 : Fld Z h10 a1 "com/example/plumbline/plumbline/align/WeightHeap" "weights" "[J" (.ref b3) := f9.same W10
  refine go_aloadN K X10 d1_12 rfl rfl rfl ?_
  refine go_bipush K X10 (64 : Int32) d1_13 rfl rfl ?_
  refine go_newarray K X10 (wd hw 0 rfl) e10 d1_15 (i := 64) (cap := 64) rfl (by decide) (by decide) rfl (cells' := 2) (slots' := 128) rfl rfl (by decide) (by decide) ?_
  intro T13 h13 b13 g13 X13 e13 E13 A13
  have ga14 : n0 ≤ b13 := Nat.le_trans (Nat.le_trans (Nat.le_trans H0 (Keep.ext (Keep.refl _ []) E3).1) (Keep.of_wr W10).1) (Nat.le_of_eq g13.symm)
  have gb15 : h0.size ≤ b13 := Nat.le_trans kp11.1 (Nat.le_of_eq g13.symm)
  have kp16 : Keep h0 h13 [a1] := kp11.trans (Keep.ext (Keep.refl _ []) E13) all0
  have f17 : AV Z h13 b13 .long (List.replicate 64 (.long (0 : Int64))) := A13
  have f18 : Exa Z h13 a1 "com/example/plumbline/plumbline/align/WeightHeap" := ((f8.keep (Keep.of_wr W10)).keep (Keep.ext (Keep.refl _ []) E13))
  have f19 : Fld Z h13 a1 "com/example/plumbline/plumbline/align/WeightHeap" "items" "[J" u1 := (((H4.keep (Keep.ext (Keep.refl _ []) E3) nin0).other W10 (Or.inr (slot_ne (Or.inl (wd hw 13 rfl)) (Or.inl (wd hw 11 rfl)) (by decide) (t := (.array .long)) (t' := (.array .long)) (by decide) (by decide)))).keep (Keep.ext (Keep.refl _ []) E13) nin0)
  refine go_putF K X13 (host := "") (Or.inl (wd hw 12 rfl)) Via.refl e13 f19 f18 (Or.inl (wd hw 13 rfl)) (wd hw 2 rfl) (ty := (.array .long)) (by decide) rfl rfl H1 d1_17 rfl ?_
  intro T20 h20 X20 e20 W20
  have kp21 : Keep h0 h20 [a1] := kp16.trans (Keep.of_wr W20) (allS (Or.inl (List.mem_of_getElem? (i := 0) rfl)) all0)
  have f22 : Fld Z h20 a1 "com/example/plumbline/plumbline/align/WeightHeap" "items" "[J" (.ref b13) := f19.same W20
  refine go_aloadN K X20 d1_20 rfl rfl rfl ?_
  refine go_aloadN K X20 d1_21 rfl rfl rfl ?_
  refine go_getF K X20 (host := "") (Or.inl (wd hw 12 rfl)) Via.refl e20 f22 d1_22 rfl ?_
  intro T23 X23 e23
  have f24 : AV Z h20 b13 .long (List.replicate 64 (.long (0 : Int64))) := (f17.keep (Keep.of_wr W20) (ninS (Ne.symm (Nat.ne_of_lt (Nat.lt_of_lt_of_le (Nat.lt_of_lt_of_le (Nat.lt_of_lt_of_le H2.lt (Keep.ext (Keep.refl _ []) E3).1) (Keep.of_wr W10).1) (Nat.le_of_eq g13.symm)))) nin0))
  refine go_arraylength K X23 e23 f24 (z := (64 : Int32)) rfl d1_25 rfl ?_
  refine go_static K X23 (argsL := [(.int (64 : Int32))]) (stk := [(.ref a1)]) (wd hw 14 rfl) (wd hw 15 rfl) (wd hw 3 rfl) (wd hw 16 rfl) (by decide) (lenOf pd_1 rfl) e23 (rmAB hw  h20 ) rfl rfl d1_26 rfl (by decide) (W := 1) (Nat.le_of_eq rfl) (by decide) (cells' := 2) (slots' := 128) rfl rfl (by decide) (by decide) ?_
  rintro T25 h25 _ X25 e25 ⟨rfl, qe25⟩
  show Go _ _ _ _ _ _ _ (T25.setTop (mkF m 29 #[.val (.ref a1)] [(.long ((2 : Int64) * own_bytes)), (.ref a1)]))
  replace e25 := e25.trans qe25
  have f26 : Exa Z h20 a1 "com/example/plumbline/plumbline/align/WeightHeap" := (f18.keep (Keep.of_wr W20))
  have f27 : Fld Z h20 a1 "com/example/plumbline/plumbline/align/WeightHeap" "bytes" "J" u2 := ((((H5.keep (Keep.ext (Keep.refl _ []) E3) nin0).other W10 (Or.inr (slot_ne (Or.inl (wd hw 27 rfl)) (Or.inl (wd hw 11 rfl)) (by decide) (t := .long) (t' := (.array .long)) (by decide) (by decide)))).keep (Keep.ext (Keep.refl _ []) E13) nin0).other W20 (Or.inr (slot_ne (Or.inl (wd hw 27 rfl)) (Or.inl (wd hw 13 rfl)) (by decide) (t := .long) (t' := (.array .long)) (by decide) (by decide))))
  refine go_putF K X25 (host := "") (Or.inl (wd hw 26 rfl)) Via.refl e25 f27 f26 (Or.inl (wd hw 27 rfl)) (wd hw 2 rfl) (ty := .long) (by decide) rfl rfl H1 d1_29 rfl ?_
  intro T28 h28 X28 e28 W28
  have kp29 : Keep h0 h28 [a1] := kp21.trans (Keep.of_wr W28) (allS (Or.inl (List.mem_of_getElem? (i := 0) rfl)) all0)
  have f30 : Fld Z h28 a1 "com/example/plumbline/plumbline/align/WeightHeap" "bytes" "J" (.long ((2 : Int64) * own_bytes)) := f27.same W28
  have f31 : AV Z h28 b3 .long (List.replicate 64 (.long (0 : Int64))) := ((((f7.keep (Keep.of_wr W10) (ninS (Ne.symm (Nat.ne_of_lt (Nat.lt_of_lt_of_le H2.lt (Nat.le_of_eq g3.symm)))) nin0)).keep (Keep.ext (Keep.refl _ []) E13) nin0).keep (Keep.of_wr W20) (ninS (Ne.symm (Nat.ne_of_lt (Nat.lt_of_lt_of_le H2.lt (Nat.le_of_eq g3.symm)))) nin0)).keep (Keep.of_wr W28) (ninS (Ne.symm (Nat.ne_of_lt (Nat.lt_of_lt_of_le H2.lt (Nat.le_of_eq g3.symm)))) nin0))
  have zb3 : AV Z h28 b3 .long (own_arr (0 : Int64) (0 : Int64) (0 : Int64) (0 : Int64) (0 : Int64)) := f31
  have f32 : AV Z h28 b13 .long (List.replicate 64 (.long (0 : Int64))) := (f24.keep (Keep.of_wr W28) (ninS (Ne.symm (Nat.ne_of_lt (Nat.lt_of_lt_of_le (Nat.lt_of_lt_of_le (Nat.lt_of_lt_of_le H2.lt (Keep.ext (Keep.refl _ []) E3).1) (Keep.of_wr W10).1) (Nat.le_of_eq g13.symm)))) nin0))
  have zb13 : AV Z h28 b13 .long (own_arr (0 : Int64) (0 : Int64) (0 : Int64) (0 : Int64) (0 : Int64)) := f32
  refine go_ret K X28 d1_32 (by decide) (by decide) ?_
  have f33 : Exa Z h28 a1 "com/example/plumbline/plumbline/align/WeightHeap" := (f26.keep (Keep.of_wr W28))
  have f34 : Fld Z h28 a1 "com/example/plumbline/plumbline/align/WeightHeap" "weights" "[J" (.ref b3) := (((f12.keep (Keep.ext (Keep.refl _ []) E13) nin0).other W20 (Or.inr (slot_ne (Or.inl (wd hw 11 rfl)) (Or.inl (wd hw 13 rfl)) (by decide) (t := (.array .long)) (t' := (.array .long)) (by decide) (by decide)))).other W28 (Or.inr (slot_ne (Or.inl (wd hw 11 rfl)) (Or.inl (wd hw 27 rfl)) (by decide) (t := (.array .long)) (t' := .long) (by decide) (by decide))))
  have f35 : Fld Z h28 a1 "com/example/plumbline/plumbline/align/WeightHeap" "items" "[J" (.ref b13) := (f22.other W28 (Or.inr (slot_ne (Or.inl (wd hw 13 rfl)) (Or.inl (wd hw 27 rfl)) (by decide) (t := (.array .long)) (t' := .long) (by decide) (by decide))))
  have f36 : Fld Z h28 a1 "com/example/plumbline/plumbline/align/WeightHeap" "size" "I" (.int (0 : Int32)) := (((((H6.keep (Keep.ext (Keep.refl _ []) E3) nin0).other W10 (Or.inr (slot_ne (Or.inl (wd hw 34 rfl)) (Or.inl (wd hw 11 rfl)) (by decide) (t := .int) (t' := (.array .long)) (by decide) (by decide)))).keep (Keep.ext (Keep.refl _ []) E13) nin0).other W20 (Or.inr (slot_ne (Or.inl (wd hw 34 rfl)) (Or.inl (wd hw 13 rfl)) (by decide) (t := .int) (t' := (.array .long)) (by decide) (by decide)))).other W28 (Or.inr (slot_ne (Or.inl (wd hw 34 rfl)) (Or.inl (wd hw 27 rfl)) (by decide) (t := .int) (t' := .long) (by decide) (by decide))))
  rw [e28]
  exact ⟨b3, b13, rfl, kp29, gb5, gb15, f33, f34, f35, f36, zb3, zb13, (Nat.ne_of_lt (Nat.lt_of_lt_of_le (Nat.lt_of_lt_of_le f7.lt (Keep.of_wr W10).1) (Nat.le_of_eq g13.symm)))⟩
theorem d5_0 : decode prog_61_method_5_code 0 = .ok (.aload_n 0, 1) := by decide +kernel
theorem d5_1 : decode prog_61_method_5_code 1 = .ok (.getfield 24, 3) := by decide +kernel
theorem d5_4 : decode prog_61_method_5_code 4 = .ok (.aload_n 0, 1) := by decide +kernel
theorem d5_5 : decode prog_61_method_5_code 5 = .ok (.getfield 13, 3) := by decide +kernel
theorem d5_8 : decode prog_61_method_5_code 8 = .ok (.arraylength, 1) := by decide +kernel
theorem d5_9 : decode prog_61_method_5_code 9 = .ok (.if_icmp .ne 49, 3) := by decide +kernel
theorem d5_58 : decode prog_61_method_5_code 58 = .ok (.aload_n 0, 1) := by decide +kernel
theorem d5_59 : decode prog_61_method_5_code 59 = .ok (.dup, 1) := by decide +kernel
theorem d5_60 : decode prog_61_method_5_code 60 = .ok (.getfield 24, 3) := by decide +kernel
theorem d5_63 : decode prog_61_method_5_code 63 = .ok (.dup_x1, 1) := by decide +kernel
theorem d5_64 : decode prog_61_method_5_code 64 = .ok (.iconst 1, 1) := by decide +kernel
theorem d5_65 : decode prog_61_method_5_code 65 = .ok (.iadd, 1) := by decide +kernel
theorem d5_66 : decode prog_61_method_5_code 66 = .ok (.putfield 24, 3) := by decide +kernel
theorem d5_69 : decode prog_61_method_5_code 69 = .ok (.istore 5, 2) := by decide +kernel
theorem d5_71 : decode prog_61_method_5_code 71 = .ok (.iload 5, 2) := by decide +kernel
theorem d5_73 : decode prog_61_method_5_code 73 = .ok (.ifCond .le 62, 3) := by decide +kernel
theorem d5_135 : decode prog_61_method_5_code 135 = .ok (.aload_n 0, 1) := by decide +kernel
theorem d5_136 : decode prog_61_method_5_code 136 = .ok (.getfield 7, 3) := by decide +kernel
theorem d5_139 : decode prog_61_method_5_code 139 = .ok (.iload 5, 2) := by decide +kernel
theorem d5_141 : decode prog_61_method_5_code 141 = .ok (.lload_n 1, 1) := by decide +kernel
theorem d5_142 : decode prog_61_method_5_code 142 = .ok (.lastore, 1) := by decide +kernel
theorem d5_143 : decode prog_61_method_5_code 143 = .ok (.aload_n 0, 1) := by decide +kernel
theorem d5_144 : decode prog_61_method_5_code 144 = .ok (.getfield 13, 3) := by decide +kernel
theorem d5_147 : decode prog_61_method_5_code 147 = .ok (.iload 5, 2) := by decide +kernel
theorem d5_149 : decode prog_61_method_5_code 149 = .ok (.lload_n 3, 1) := by decide +kernel
theorem d5_150 : decode prog_61_method_5_code 150 = .ok (.lastore, 1) := by decide +kernel
theorem d5_151 : decode prog_61_method_5_code 151 = .ok (.return_, 1) := by decide +kernel
theorem ef_rmAdd0 (m : MethodId) (a1 : Addr) (q2 : Int64) (q3 : Int64) : entryFrame m #[(.ref a1), (.long q2), (.long q3)] 7 = mkF m 0 #[.val (.ref a1), .val (.long q2), .second, .val (.long q3), .second, .unset, .unset] [] := by first | (simp [entryFrame, mkF, argsToLocals, Value.category]; done) | rfl
def Q_rmAdd0 (Z : State) (n0 : Nat) (a1 : Addr) (q2 : Int64) (q3 : Int64) (wa : Addr) (ia : Addr) (w0 : Int64) (w1 : Int64) (w2 : Int64) (w3 : Int64) (w4 : Int64) (x0 : Int64) (x1 : Int64) (x2 : Int64) (x3 : Int64) (x4 : Int64) (h0 : Heap) (v : Option Value) (h : Heap) : Prop := ∃ d0 : Int64, ∃ d1 : Int64, ∃ d2 : Int64, ∃ d3 : Int64, ∃ d4 : Int64, ∃ e0 : Int64, ∃ e1 : Int64, ∃ e2 : Int64, ∃ e3 : Int64, ∃ e4 : Int64, v = none ∧ Keep h0 h [a1, wa, ia] ∧ Exa Z h a1 "com/example/plumbline/plumbline/align/WeightHeap" ∧ Fld Z h a1 "com/example/plumbline/plumbline/align/WeightHeap" "weights" "[J" (.ref wa) ∧ Fld Z h a1 "com/example/plumbline/plumbline/align/WeightHeap" "items" "[J" (.ref ia) ∧ Fld Z h a1 "com/example/plumbline/plumbline/align/WeightHeap" "size" "I" (.int (1 : Int32)) ∧ AV Z h wa .long (own_arr d0 d1 d2 d3 d4) ∧ AV Z h ia .long (own_arr e0 e1 e2 e3 e4) ∧ (True) ∧ (List.Perm [(d0, e0)] [(q2, q3)])
abbrev R_rmAdd0 : Room := { frames := 0, cells := 0, slots := 0, locals := 0 }
set_option maxRecDepth 65536 in
set_option maxHeartbeats 40000000 in
theorem rmAdd0 {l : Launch} {Z : State} {n0 : Nat} {a0 : Array Value} (hw : ∀ d ∈ tables_1, d.before a0 Z = true) (a1 : Addr) (q2 : Int64) (q3 : Int64) (wa : Addr) (ia : Addr) (w0 : Int64) (w1 : Int64) (w2 : Int64) (w3 : Int64) (w4 : Int64) (x0 : Int64) (x1 : Int64) (x2 : Int64) (x3 : Int64) (x4 : Int64) (h0 : Heap) (H0 : n0 ≤ h0.size) (H1 : n0 ≤ a1) (H2 : n0 ≤ wa) (H3 : n0 ≤ ia) (H4 : Exa Z h0 a1 "com/example/plumbline/plumbline/align/WeightHeap") (H5 : Fld Z h0 a1 "com/example/plumbline/plumbline/align/WeightHeap" "weights" "[J" (.ref wa)) (H6 : Fld Z h0 a1 "com/example/plumbline/plumbline/align/WeightHeap" "items" "[J" (.ref ia)) (H7 : Fld Z h0 a1 "com/example/plumbline/plumbline/align/WeightHeap" "size" "I" (.int (0 : Int32))) (H8 : AV Z h0 wa .long (own_arr w0 w1 w2 w3 w4)) (H9 : AV Z h0 ia .long (own_arr x0 x1 x2 x3 x4)) (H10 : wa ≠ ia) (H11 : a1 ≠ wa) (H12 : a1 ≠ ia) (H13 : True) :
    Con l Z n0 (⟨"com/example/plumbline/plumbline/align/WeightHeap", "add", "(JJ)V"⟩ : MethodName) prog_61_method_5_code 7 none R_rmAdd0 #[(.ref a1), (.long q2), (.long q3)] h0 (Q_rmAdd0 Z n0 a1 q2 q3 wa ia w0 w1 w2 w3 w4 x0 x1 x2 x3 x4 h0) := by
  refine con_of (plainFor_of_name pn_com_example_plumbline_plumbline_align_WeightHeap) ?_
  intro p e s m below meth c T0 K X0 e0
  replace K : Ctx p s m meth c Z "com/example/plumbline/plumbline/align/WeightHeap" "add" prog_61_method_5_code 7 none := K
  refine go_entry (ef_rmAdd0 m a1 q2 q3) ?_
  refine go_aloadN K X0 d5_0 rfl rfl rfl ?_
  refine go_getF K X0 (host := "") (Or.inl (wd hw 33 rfl)) Via.refl e0 H7 d5_1 rfl ?_
  intro T37 X37 e37
  refine go_aloadN K X37 d5_4 rfl rfl rfl ?_
  refine go_getF K X37 (host := "") (Or.inl (wd hw 12 rfl)) Via.refl e37 H6 d5_5 rfl ?_
  intro T38 X38 e38
  refine go_arraylength K X38 e38 H9 (z := (64 : Int32)) rfl d5_8 rfl ?_
  refine go_icmpT K X38 d5_9 (by decide) rfl (by decide : ¬ (0 : Int32) = (64 : Int32)) ?_
  refine go_aloadN K X38 d5_58 rfl rfl rfl ?_
  refine go_dup K X38 d5_59 rfl rfl ?_
  refine go_getF K X38 (host := "") (Or.inl (wd hw 33 rfl)) Via.refl e38 H7 d5_60 rfl ?_
  intro T39 X39 e39
  refine go_dupX1 K X39 d5_63 rfl rfl rfl ?_
  refine go_iconst K X39 (1 : Int32) d5_64 rfl rfl ?_
  refine go_iadd K X39 d5_65 rfl ?_
  rw [show ((0 : Int32) + (1 : Int32)) = (1 : Int32) from by decide]
  refine go_putF K X39 (host := "") (Or.inl (wd hw 33 rfl)) Via.refl e39 H7 H4 (Or.inl (wd hw 34 rfl)) (wd hw 2 rfl) (ty := .int) (by decide) rfl rfl H1 d5_66 rfl ?_
  intro T40 h40 X40 e40 W40
  have kp41 : Keep h0 h40 [a1, wa, ia] := (Keep.refl h0 [a1, wa, ia]).trans (Keep.of_wr W40) (allS (Or.inl (List.mem_of_getElem? (i := 0) rfl)) all0)
  have f42 : Fld Z h40 a1 "com/example/plumbline/plumbline/align/WeightHeap" "size" "I" (.int (1 : Int32)) := H7.same W40
  refine go_istore K X40 #[.val (.ref a1), .val (.long q2), .second, .val (.long q3), .second, .val (.int (0 : Int32)), .unset] d5_69 rfl rfl ?_
  refine go_iload K X40 d5_71 rfl rfl ?_
  refine go_ifT K X40 d5_73 (by decide) rfl (by decide : ¬ (0 : Int32) < (0 : Int32)) ?_
  refine go_aloadN K X40 d5_135 rfl rfl rfl ?_
  have f43 : Fld Z h40 a1 "com/example/plumbline/plumbline/align/WeightHeap" "weights" "[J" (.ref wa) := (H5.other W40 (Or.inr (slot_ne (Or.inl (wd hw 11 rfl)) (Or.inl (wd hw 34 rfl)) (by decide) (t := (.array .long)) (t' := .int) (by decide) (by decide))))
  refine go_getF K X40 (host := "") (Or.inl (wd hw 10 rfl)) Via.refl e40 f43 d5_136 rfl ?_
  intro T44 X44 e44
  refine go_iload K X44 d5_139 rfl rfl ?_
  refine go_lloadN K X44 d5_141 rfl rfl ?_
  have f45 : AV Z h40 wa .long (own_arr w0 w1 w2 w3 w4) := (H8.keep (Keep.of_wr W40) (ninS (Ne.symm H11) nin0))
  refine go_lastore K X44 e44 f45 (i := 0) rfl (Nat.le_of_ble_eq_true rfl) H2 d5_142 rfl ?_
  intro T46 h46 X46 e46 W46 A46
  have kp47 : Keep h0 h46 [a1, wa, ia] := kp41.trans (Keep.of_wr W46) (allS (Or.inl (List.mem_of_getElem? (i := 1) rfl)) all0)
  have f48 : AV Z h46 wa .long (own_arr q2 w1 w2 w3 w4) := A46
  refine go_aloadN K X46 d5_143 rfl rfl rfl ?_
  have f49 : Fld Z h46 a1 "com/example/plumbline/plumbline/align/WeightHeap" "items" "[J" (.ref ia) := ((H6.other W40 (Or.inr (slot_ne (Or.inl (wd hw 13 rfl)) (Or.inl (wd hw 34 rfl)) (by decide) (t := (.array .long)) (t' := .int) (by decide) (by decide)))).keep (Keep.of_wr W46) (ninS H11 nin0))
  refine go_getF K X46 (host := "") (Or.inl (wd hw 12 rfl)) Via.refl e46 f49 d5_144 rfl ?_
  intro T50 X50 e50
  refine go_iload K X50 d5_147 rfl rfl ?_
  refine go_lloadN K X50 d5_149 rfl rfl ?_
  have f51 : AV Z h46 ia .long (own_arr x0 x1 x2 x3 x4) := ((H9.keep (Keep.of_wr W40) (ninS (Ne.symm H12) nin0)).keep (Keep.of_wr W46) (ninS (Ne.symm H10) nin0))
  refine go_lastore K X50 e50 f51 (i := 0) rfl (Nat.le_of_ble_eq_true rfl) H3 d5_150 rfl ?_
  intro T52 h52 X52 e52 W52 A52
  have kp53 : Keep h0 h52 [a1, wa, ia] := kp47.trans (Keep.of_wr W52) (allS (Or.inl (List.mem_of_getElem? (i := 2) rfl)) all0)
  have f54 : AV Z h52 ia .long (own_arr q3 x1 x2 x3 x4) := A52
  refine go_ret K X52 d5_151 (by decide) (by decide) ?_
  have f55 : Exa Z h52 a1 "com/example/plumbline/plumbline/align/WeightHeap" := (((H4.keep (Keep.of_wr W40)).keep (Keep.of_wr W46)).keep (Keep.of_wr W52))
  have f56 : Fld Z h52 a1 "com/example/plumbline/plumbline/align/WeightHeap" "weights" "[J" (.ref wa) := ((f43.keep (Keep.of_wr W46) (ninS H11 nin0)).keep (Keep.of_wr W52) (ninS H12 nin0))
  have f57 : Fld Z h52 a1 "com/example/plumbline/plumbline/align/WeightHeap" "items" "[J" (.ref ia) := (f49.keep (Keep.of_wr W52) (ninS H12 nin0))
  have f58 : Fld Z h52 a1 "com/example/plumbline/plumbline/align/WeightHeap" "size" "I" (.int (1 : Int32)) := ((f42.keep (Keep.of_wr W46) (ninS H11 nin0)).keep (Keep.of_wr W52) (ninS H12 nin0))
  have f59 : AV Z h52 wa .long (own_arr q2 w1 w2 w3 w4) := (f48.keep (Keep.of_wr W52) (ninS H10 nin0))
  rw [e52]
  exact ⟨q2, w1, w2, w3, w4, q3, x1, x2, x3, x4, rfl, kp53, f55, f56, f57, f58, f59, f54, trivial, (List.Perm.cons _ (List.Perm.refl _))⟩
theorem d5_76 : decode prog_61_method_5_code 76 = .ok (.lload_n 1, 1) := by decide +kernel
theorem d5_77 : decode prog_61_method_5_code 77 = .ok (.aload_n 0, 1) := by decide +kernel
theorem d5_78 : decode prog_61_method_5_code 78 = .ok (.getfield 7, 3) := by decide +kernel
theorem d5_81 : decode prog_61_method_5_code 81 = .ok (.iload 5, 2) := by decide +kernel
theorem d5_83 : decode prog_61_method_5_code 83 = .ok (.iconst 1, 1) := by decide +kernel
theorem d5_84 : decode prog_61_method_5_code 84 = .ok (.isub, 1) := by decide +kernel
theorem d5_85 : decode prog_61_method_5_code 85 = .ok (.iconst 2, 1) := by decide +kernel
theorem d5_86 : decode prog_61_method_5_code 86 = .ok (.idiv, 1) := by decide +kernel
theorem d5_87 : decode prog_61_method_5_code 87 = .ok (.laload, 1) := by decide +kernel
theorem d5_88 : decode prog_61_method_5_code 88 = .ok (.lcmp, 1) := by decide +kernel
theorem d5_89 : decode prog_61_method_5_code 89 = .ok (.ifCond .ge 46, 3) := by decide +kernel
theorem d5_92 : decode prog_61_method_5_code 92 = .ok (.iload 5, 2) := by decide +kernel
theorem d5_94 : decode prog_61_method_5_code 94 = .ok (.iconst 1, 1) := by decide +kernel
theorem d5_95 : decode prog_61_method_5_code 95 = .ok (.isub, 1) := by decide +kernel
theorem d5_96 : decode prog_61_method_5_code 96 = .ok (.iconst 2, 1) := by decide +kernel
theorem d5_97 : decode prog_61_method_5_code 97 = .ok (.idiv, 1) := by decide +kernel
theorem d5_98 : decode prog_61_method_5_code 98 = .ok (.istore 6, 2) := by decide +kernel
theorem d5_100 : decode prog_61_method_5_code 100 = .ok (.aload_n 0, 1) := by decide +kernel
theorem d5_101 : decode prog_61_method_5_code 101 = .ok (.getfield 7, 3) := by decide +kernel
theorem d5_104 : decode prog_61_method_5_code 104 = .ok (.iload 5, 2) := by decide +kernel
theorem d5_106 : decode prog_61_method_5_code 106 = .ok (.aload_n 0, 1) := by decide +kernel
theorem d5_107 : decode prog_61_method_5_code 107 = .ok (.getfield 7, 3) := by decide +kernel
theorem d5_110 : decode prog_61_method_5_code 110 = .ok (.iload 6, 2) := by decide +kernel
theorem d5_112 : decode prog_61_method_5_code 112 = .ok (.laload, 1) := by decide +kernel
theorem d5_113 : decode prog_61_method_5_code 113 = .ok (.lastore, 1) := by decide +kernel
theorem d5_114 : decode prog_61_method_5_code 114 = .ok (.aload_n 0, 1) := by decide +kernel
theorem d5_115 : decode prog_61_method_5_code 115 = .ok (.getfield 13, 3) := by decide +kernel
theorem d5_118 : decode prog_61_method_5_code 118 = .ok (.iload 5, 2) := by decide +kernel
theorem d5_120 : decode prog_61_method_5_code 120 = .ok (.aload_n 0, 1) := by decide +kernel
theorem d5_121 : decode prog_61_method_5_code 121 = .ok (.getfield 13, 3) := by decide +kernel
theorem d5_124 : decode prog_61_method_5_code 124 = .ok (.iload 6, 2) := by decide +kernel
theorem d5_126 : decode prog_61_method_5_code 126 = .ok (.laload, 1) := by decide +kernel
theorem d5_127 : decode prog_61_method_5_code 127 = .ok (.lastore, 1) := by decide +kernel
theorem d5_128 : decode prog_61_method_5_code 128 = .ok (.iload 6, 2) := by decide +kernel
theorem d5_130 : decode prog_61_method_5_code 130 = .ok (.istore 5, 2) := by decide +kernel
theorem d5_132 : decode prog_61_method_5_code 132 = .ok (.goto (-61), 3) := by decide +kernel
theorem ef_rmAdd1 (m : MethodId) (a1 : Addr) (q2 : Int64) (q3 : Int64) : entryFrame m #[(.ref a1), (.long q2), (.long q3)] 7 = mkF m 0 #[.val (.ref a1), .val (.long q2), .second, .val (.long q3), .second, .unset, .unset] [] := by first | (simp [entryFrame, mkF, argsToLocals, Value.category]; done) | rfl
def Q_rmAdd1 (Z : State) (n0 : Nat) (a1 : Addr) (q2 : Int64) (q3 : Int64) (wa : Addr) (ia : Addr) (w0 : Int64) (w1 : Int64) (w2 : Int64) (w3 : Int64) (w4 : Int64) (x0 : Int64) (x1 : Int64) (x2 : Int64) (x3 : Int64) (x4 : Int64) (h0 : Heap) (v : Option Value) (h : Heap) : Prop := ∃ d0 : Int64, ∃ d1 : Int64, ∃ d2 : Int64, ∃ d3 : Int64, ∃ d4 : Int64, ∃ e0 : Int64, ∃ e1 : Int64, ∃ e2 : Int64, ∃ e3 : Int64, ∃ e4 : Int64, v = none ∧ Keep h0 h [a1, wa, ia] ∧ Exa Z h a1 "com/example/plumbline/plumbline/align/WeightHeap" ∧ Fld Z h a1 "com/example/plumbline/plumbline/align/WeightHeap" "weights" "[J" (.ref wa) ∧ Fld Z h a1 "com/example/plumbline/plumbline/align/WeightHeap" "items" "[J" (.ref ia) ∧ Fld Z h a1 "com/example/plumbline/plumbline/align/WeightHeap" "size" "I" (.int (2 : Int32)) ∧ AV Z h wa .long (own_arr d0 d1 d2 d3 d4) ∧ AV Z h ia .long (own_arr e0 e1 e2 e3 e4) ∧ ((d0).toInt ≤ (d1).toInt) ∧ (List.Perm [(d0, e0), (d1, e1)] [(q2, q3), (w0, x0)])
abbrev R_rmAdd1 : Room := { frames := 0, cells := 0, slots := 0, locals := 0 }
set_option maxRecDepth 65536 in
set_option maxHeartbeats 40000000 in
theorem rmAdd1 {l : Launch} {Z : State} {n0 : Nat} {a0 : Array Value} (hw : ∀ d ∈ tables_1, d.before a0 Z = true) (a1 : Addr) (q2 : Int64) (q3 : Int64) (wa : Addr) (ia : Addr) (w0 : Int64) (w1 : Int64) (w2 : Int64) (w3 : Int64) (w4 : Int64) (x0 : Int64) (x1 : Int64) (x2 : Int64) (x3 : Int64) (x4 : Int64) (h0 : Heap) (H0 : n0 ≤ h0.size) (H1 : n0 ≤ a1) (H2 : n0 ≤ wa) (H3 : n0 ≤ ia) (H4 : Exa Z h0 a1 "com/example/plumbline/plumbline/align/WeightHeap") (H5 : Fld Z h0 a1 "com/example/plumbline/plumbline/align/WeightHeap" "weights" "[J" (.ref wa)) (H6 : Fld Z h0 a1 "com/example/plumbline/plumbline/align/WeightHeap" "items" "[J" (.ref ia)) (H7 : Fld Z h0 a1 "com/example/plumbline/plumbline/align/WeightHeap" "size" "I" (.int (1 : Int32))) (H8 : AV Z h0 wa .long (own_arr w0 w1 w2 w3 w4)) (H9 : AV Z h0 ia .long (own_arr x0 x1 x2 x3 x4)) (H10 : wa ≠ ia) (H11 : a1 ≠ wa) (H12 : a1 ≠ ia) (H13 : True) :
    Con l Z n0 (⟨"com/example/plumbline/plumbline/align/WeightHeap", "add", "(JJ)V"⟩ : MethodName) prog_61_method_5_code 7 none R_rmAdd1 #[(.ref a1), (.long q2), (.long q3)] h0 (Q_rmAdd1 Z n0 a1 q2 q3 wa ia w0 w1 w2 w3 w4 x0 x1 x2 x3 x4 h0) := by
  refine con_of (plainFor_of_name pn_com_example_plumbline_plumbline_align_WeightHeap) ?_
  intro p e s m below meth c T0 K X0 e0
  replace K : Ctx p s m meth c Z "com/example/plumbline/plumbline/align/WeightHeap" "add" prog_61_method_5_code 7 none := K
  refine go_entry (ef_rmAdd1 m a1 q2 q3) ?_
  refine go_aloadN K X0 d5_0 rfl rfl rfl ?_
  refine go_getF K X0 (host := "") (Or.inl (wd hw 33 rfl)) Via.refl e0 H7 d5_1 rfl ?_
  intro T60 X60 e60
  refine go_aloadN K X60 d5_4 rfl rfl rfl ?_
  refine go_getF K X60 (host := "") (Or.inl (wd hw 12 rfl)) Via.refl e60 H6 d5_5 rfl ?_
  intro T61 X61 e61
  refine go_arraylength K X61 e61 H9 (z := (64 : Int32)) rfl d5_8 rfl ?_
  refine go_icmpT K X61 d5_9 (by decide) rfl (by decide : ¬ (1 : Int32) = (64 : Int32)) ?_
  refine go_aloadN K X61 d5_58 rfl rfl rfl ?_
  refine go_dup K X61 d5_59 rfl rfl ?_
  refine go_getF K X61 (host := "") (Or.inl (wd hw 33 rfl)) Via.refl e61 H7 d5_60 rfl ?_
  intro T62 X62 e62
  refine go_dupX1 K X62 d5_63 rfl rfl rfl ?_
  refine go_iconst K X62 (1 : Int32) d5_64 rfl rfl ?_
  refine go_iadd K X62 d5_65 rfl ?_
  rw [show ((1 : Int32) + (1 : Int32)) = (2 : Int32) from by decide]
  refine go_putF K X62 (host := "") (Or.inl (wd hw 33 rfl)) Via.refl e62 H7 H4 (Or.inl (wd hw 34 rfl)) (wd hw 2 rfl) (ty := .int) (by decide) rfl rfl H1 d5_66 rfl ?_
  intro T63 h63 X63 e63 W63
  have kp64 : Keep h0 h63 [a1, wa, ia] := (Keep.refl h0 [a1, wa, ia]).trans (Keep.of_wr W63) (allS (Or.inl (List.mem_of_getElem? (i := 0) rfl)) all0)
  have f65 : Fld Z h63 a1 "com/example/plumbline/plumbline/align/WeightHeap" "size" "I" (.int (2 : Int32)) := H7.same W63
  refine go_istore K X63 #[.val (.ref a1), .val (.long q2), .second, .val (.long q3), .second, .val (.int (1 : Int32)), .unset] d5_69 rfl rfl ?_
  refine go_iload K X63 d5_71 rfl rfl ?_
  refine go_ifF K X63 d5_73 rfl (by decide : (0 : Int32) < (1 : Int32)) ?_
  refine go_lloadN K X63 d5_76 rfl rfl ?_
  refine go_aloadN K X63 d5_77 rfl rfl rfl ?_
  have f66 : Fld Z h63 a1 "com/example/plumbline/plumbline/align/WeightHeap" "weights" "[J" (.ref wa) := (H5.other W63 (Or.inr (slot_ne (Or.inl (wd hw 11 rfl)) (Or.inl (wd hw 34 rfl)) (by decide) (t := (.array .long)) (t' := .int) (by decide) (by decide))))
  refine go_getF K X63 (host := "") (Or.inl (wd hw 10 rfl)) Via.refl e63 f66 d5_78 rfl ?_
  intro T67 X67 e67
  refine go_iload K X67 d5_81 rfl rfl ?_
  refine go_iconst K X67 (1 : Int32) d5_83 rfl rfl ?_
  refine go_isub K X67 d5_84 rfl ?_
  rw [show ((1 : Int32) - (1 : Int32)) = (0 : Int32) from by decide]
  refine go_iconst K X67 (2 : Int32) d5_85 rfl rfl ?_
  refine go_idiv K X67 d5_86 (by decide) rfl ?_
  rw [show ((0 : Int32) / (2 : Int32)) = (0 : Int32) from by decide]
  have f68 : AV Z h63 wa .long (own_arr w0 w1 w2 w3 w4) := (H8.keep (Keep.of_wr W63) (ninS (Ne.symm H11) nin0))
  refine go_laload K X67 e67 f68 (i := 0) rfl rfl d5_87 rfl ?_
  refine go_lif K X67 d5_88 rfl d5_89 (by decide) rfl rfl ?_ ?_
  · intro (hc69 : ¬ q2 < w0)
    refine go_aloadN K X67 d5_135 rfl rfl rfl ?_
    refine go_getF K X67 (host := "") (Or.inl (wd hw 10 rfl)) Via.refl e67 f66 d5_136 rfl ?_
    intro T70 X70 e70
    refine go_iload K X70 d5_139 rfl rfl ?_
    refine go_lloadN K X70 d5_141 rfl rfl ?_
    refine go_lastore K X70 e70 f68 (i := 1) rfl (Nat.le_of_ble_eq_true rfl) H2 d5_142 rfl ?_
    intro T71 h71 X71 e71 W71 A71
    have kp72 : Keep h0 h71 [a1, wa, ia] := kp64.trans (Keep.of_wr W71) (allS (Or.inl (List.mem_of_getElem? (i := 1) rfl)) all0)
    have f73 : AV Z h71 wa .long (own_arr w0 q2 w2 w3 w4) := A71
    refine go_aloadN K X71 d5_143 rfl rfl rfl ?_
    have f74 : Fld Z h71 a1 "com/example/plumbline/plumbline/align/WeightHeap" "items" "[J" (.ref ia) := ((H6.other W63 (Or.inr (slot_ne (Or.inl (wd hw 13 rfl)) (Or.inl (wd hw 34 rfl)) (by decide) (t := (.array .long)) (t' := .int) (by decide) (by decide)))).keep (Keep.of_wr W71) (ninS H11 nin0))
    refine go_getF K X71 (host := "") (Or.inl (wd hw 12 rfl)) Via.refl e71 f74 d5_144 rfl ?_
    intro T75 X75 e75
    refine go_iload K X75 d5_147 rfl rfl ?_
    refine go_lloadN K X75 d5_149 rfl rfl ?_
    have f76 : AV Z h71 ia .long (own_arr x0 x1 x2 x3 x4) := ((H9.keep (Keep.of_wr W63) (ninS (Ne.symm H12) nin0)).keep (Keep.of_wr W71) (ninS (Ne.symm H10) nin0))
    refine go_lastore K X75 e75 f76 (i := 1) rfl (Nat.le_of_ble_eq_true rfl) H3 d5_150 rfl ?_
    intro T77 h77 X77 e77 W77 A77
    have kp78 : Keep h0 h77 [a1, wa, ia] := kp72.trans (Keep.of_wr W77) (allS (Or.inl (List.mem_of_getElem? (i := 2) rfl)) all0)
    have f79 : AV Z h77 ia .long (own_arr x0 q3 x2 x3 x4) := A77
    refine go_ret K X77 d5_151 (by decide) (by decide) ?_
    have f80 : Exa Z h77 a1 "com/example/plumbline/plumbline/align/WeightHeap" := (((H4.keep (Keep.of_wr W63)).keep (Keep.of_wr W71)).keep (Keep.of_wr W77))
    have f81 : Fld Z h77 a1 "com/example/plumbline/plumbline/align/WeightHeap" "weights" "[J" (.ref wa) := ((f66.keep (Keep.of_wr W71) (ninS H11 nin0)).keep (Keep.of_wr W77) (ninS H12 nin0))
    have f82 : Fld Z h77 a1 "com/example/plumbline/plumbline/align/WeightHeap" "items" "[J" (.ref ia) := (f74.keep (Keep.of_wr W77) (ninS H12 nin0))
    have f83 : Fld Z h77 a1 "com/example/plumbline/plumbline/align/WeightHeap" "size" "I" (.int (2 : Int32)) := ((f65.keep (Keep.of_wr W71) (ninS H11 nin0)).keep (Keep.of_wr W77) (ninS H12 nin0))
    have f84 : AV Z h77 wa .long (own_arr w0 q2 w2 w3 w4) := (f73.keep (Keep.of_wr W77) (ninS H10 nin0))
    rw [e77]
    exact ⟨w0, q2, w2, w3, w4, x0, q3, x2, x3, x4, rfl, kp78, f80, f81, f82, f83, f84, f79, (by have hp := H13; have g0 := own_nlt hc69; omega), ((List.perm_middle (l₁ := [(w0, x0)]) (a := (q2, q3)) (l₂ := [])).trans (List.Perm.cons _ (List.Perm.cons _ (List.Perm.refl _))))⟩
  · intro (hc69 : q2 < w0)
    refine go_iload K X67 d5_92 rfl rfl ?_
    refine go_iconst K X67 (1 : Int32) d5_94 rfl rfl ?_
    refine go_isub K X67 d5_95 rfl ?_
    rw [show ((1 : Int32) - (1 : Int32)) = (0 : Int32) from by decide]
    refine go_iconst K X67 (2 : Int32) d5_96 rfl rfl ?_
    refine go_idiv K X67 d5_97 (by decide) rfl ?_
    rw [show ((0 : Int32) / (2 : Int32)) = (0 : Int32) from by decide]
    refine go_istore K X67 #[.val (.ref a1), .val (.long q2), .second, .val (.long q3), .second, .val (.int (1 : Int32)), .val (.int (0 : Int32))] d5_98 rfl rfl ?_
    refine go_aloadN K X67 d5_100 rfl rfl rfl ?_
    refine go_getF K X67 (host := "") (Or.inl (wd hw 10 rfl)) Via.refl e67 f66 d5_101 rfl ?_
    intro T85 X85 e85
    refine go_iload K X85 d5_104 rfl rfl ?_
    refine go_aloadN K X85 d5_106 rfl rfl rfl ?_
    refine go_getF K X85 (host := "") (Or.inl (wd hw 10 rfl)) Via.refl e85 f66 d5_107 rfl ?_
    intro T86 X86 e86
    refine go_iload K X86 d5_110 rfl rfl ?_
    refine go_laload K X86 e86 f68 (i := 0) rfl rfl d5_112 rfl ?_
    refine go_lastore K X86 e86 f68 (i := 1) rfl (Nat.le_of_ble_eq_true rfl) H2 d5_113 rfl ?_
    intro T87 h87 X87 e87 W87 A87
    have kp88 : Keep h0 h87 [a1, wa, ia] := kp64.trans (Keep.of_wr W87) (allS (Or.inl (List.mem_of_getElem? (i := 1) rfl)) all0)
    have f89 : AV Z h87 wa .long (own_arr w0 w0 w2 w3 w4) := A87
    refine go_aloadN K X87 d5_114 rfl rfl rfl ?_
    have f90 : Fld Z h87 a1 "com/example/plumbline/plumbline/align/WeightHeap" "items" "[J" (.ref ia) := ((H6.other W63 (Or.inr (slot_ne (Or.inl (wd hw 13 rfl)) (Or.inl (wd hw 34 rfl)) (by decide) (t := (.array .long)) (t' := .int) (by decide) (by decide)))).keep (Keep.of_wr W87) (ninS H11 nin0))
    refine go_getF K X87 (host := "") (Or.inl (wd hw 12 rfl)) Via.refl e87 f90 d5_115 rfl ?_
    intro T91 X91 e91
    refine go_iload K X91 d5_118 rfl rfl ?_
    refine go_aloadN K X91 d5_120 rfl rfl rfl ?_
    refine go_getF K X91 (host := "") (Or.inl (wd hw 12 rfl)) Via.refl e91 f90 d5_121 rfl ?_
    intro T92 X92 e92
    refine go_iload K X92 d5_124 rfl rfl ?_
    have f93 : AV Z h87 ia .long (own_arr x0 x1 x2 x3 x4) := ((H9.keep (Keep.of_wr W63) (ninS (Ne.symm H12) nin0)).keep (Keep.of_wr W87) (ninS (Ne.symm H10) nin0))
    refine go_laload K X92 e92 f93 (i := 0) rfl rfl d5_126 rfl ?_
    refine go_lastore K X92 e92 f93 (i := 1) rfl (Nat.le_of_ble_eq_true rfl) H3 d5_127 rfl ?_
    intro T94 h94 X94 e94 W94 A94
    have kp95 : Keep h0 h94 [a1, wa, ia] := kp88.trans (Keep.of_wr W94) (allS (Or.inl (List.mem_of_getElem? (i := 2) rfl)) all0)
    have f96 : AV Z h94 ia .long (own_arr x0 x0 x2 x3 x4) := A94
    refine go_iload K X94 d5_128 rfl rfl ?_
    refine go_istore K X94 #[.val (.ref a1), .val (.long q2), .second, .val (.long q3), .second, .val (.int (0 : Int32)), .val (.int (0 : Int32))] d5_130 rfl rfl ?_
    refine go_goto K X94 d5_132 (by decide) rfl ?_
    refine go_iload K X94 d5_71 rfl rfl ?_
    refine go_ifT K X94 d5_73 (by decide) rfl (by decide : ¬ (0 : Int32) < (0 : Int32)) ?_
    refine go_aloadN K X94 d5_135 rfl rfl rfl ?_
    have f97 : Fld Z h94 a1 "com/example/plumbline/plumbline/align/WeightHeap" "weights" "[J" (.ref wa) := ((f66.keep (Keep.of_wr W87) (ninS H11 nin0)).keep (Keep.of_wr W94) (ninS H12 nin0))
    refine go_getF K X94 (host := "") (Or.inl (wd hw 10 rfl)) Via.refl e94 f97 d5_136 rfl ?_
    intro T98 X98 e98
    refine go_iload K X98 d5_139 rfl rfl ?_
    refine go_lloadN K X98 d5_141 rfl rfl ?_
    have f99 : AV Z h94 wa .long (own_arr w0 w0 w2 w3 w4) := (f89.keep (Keep.of_wr W94) (ninS H10 nin0))
    refine go_lastore K X98 e98 f99 (i := 0) rfl (Nat.le_of_ble_eq_true rfl) H2 d5_142 rfl ?_
    intro T100 h100 X100 e100 W100 A100
    have kp101 : Keep h0 h100 [a1, wa, ia] := kp95.trans (Keep.of_wr W100) (allS (Or.inl (List.mem_of_getElem? (i := 1) rfl)) all0)
    have f102 : AV Z h100 wa .long (own_arr q2 w0 w2 w3 w4) := A100
    refine go_aloadN K X100 d5_143 rfl rfl rfl ?_
    have f103 : Fld Z h100 a1 "com/example/plumbline/plumbline/align/WeightHeap" "items" "[J" (.ref ia) := ((f90.keep (Keep.of_wr W94) (ninS H12 nin0)).keep (Keep.of_wr W100) (ninS H11 nin0))
    refine go_getF K X100 (host := "") (Or.inl (wd hw 12 rfl)) Via.refl e100 f103 d5_144 rfl ?_
    intro T104 X104 e104
    refine go_iload K X104 d5_147 rfl rfl ?_
    refine go_lloadN K X104 d5_149 rfl rfl ?_
    have f105 : AV Z h100 ia .long (own_arr x0 x0 x2 x3 x4) := (f96.keep (Keep.of_wr W100) (ninS (Ne.symm H10) nin0))
    refine go_lastore K X104 e104 f105 (i := 0) rfl (Nat.le_of_ble_eq_true rfl) H3 d5_150 rfl ?_
    intro T106 h106 X106 e106 W106 A106
    have kp107 : Keep h0 h106 [a1, wa, ia] := kp101.trans (Keep.of_wr W106) (allS (Or.inl (List.mem_of_getElem? (i := 2) rfl)) all0)
    have f108 : AV Z h106 ia .long (own_arr q3 x0 x2 x3 x4) := A106
    refine go_ret K X106 d5_151 (by decide) (by decide) ?_
    have f109 : Exa Z h106 a1 "com/example/plumbline/plumbline/align/WeightHeap" := (((((H4.keep (Keep.of_wr W63)).keep (Keep.of_wr W87)).keep (Keep.of_wr W94)).keep (Keep.of_wr W100)).keep (Keep.of_wr W106))
    have f110 : Fld Z h106 a1 "com/example/plumbline/plumbline/align/WeightHeap" "weights" "[J" (.ref wa) := ((f97.keep (Keep.of_wr W100) (ninS H11 nin0)).keep (Keep.of_wr W106) (ninS H12 nin0))
    have f111 : Fld Z h106 a1 "com/example/plumbline/plumbline/align/WeightHeap" "items" "[J" (.ref ia) := (f103.keep (Keep.of_wr W106) (ninS H12 nin0))
    have f112 : Fld Z h106 a1 "com/example/plumbline/plumbline/align/WeightHeap" "size" "I" (.int (2 : Int32)) := ((((f65.keep (Keep.of_wr W87) (ninS H11 nin0)).keep (Keep.of_wr W94) (ninS H12 nin0)).keep (Keep.of_wr W100) (ninS H11 nin0)).keep (Keep.of_wr W106) (ninS H12 nin0))
    have f113 : AV Z h106 wa .long (own_arr q2 w0 w2 w3 w4) := (f102.keep (Keep.of_wr W106) (ninS H10 nin0))
    rw [e106]
    exact ⟨q2, w0, w2, w3, w4, q3, x0, x2, x3, x4, rfl, kp107, f109, f110, f111, f112, f113, f108, (by have hp := H13; have g0 := own_lt hc69; omega), (List.Perm.cons _ (List.Perm.cons _ (List.Perm.refl _)))⟩
theorem ef_rmAdd2 (m : MethodId) (a1 : Addr) (q2 : Int64) (q3 : Int64) : entryFrame m #[(.ref a1), (.long q2), (.long q3)] 7 = mkF m 0 #[.val (.ref a1), .val (.long q2), .second, .val (.long q3), .second, .unset, .unset] [] := by first | (simp [entryFrame, mkF, argsToLocals, Value.category]; done) | rfl
def Q_rmAdd2 (Z : State) (n0 : Nat) (a1 : Addr) (q2 : Int64) (q3 : Int64) (wa : Addr) (ia : Addr) (w0 : Int64) (w1 : Int64) (w2 : Int64) (w3 : Int64) (w4 : Int64) (x0 : Int64) (x1 : Int64) (x2 : Int64) (x3 : Int64) (x4 : Int64) (h0 : Heap) (v : Option Value) (h : Heap) : Prop := ∃ d0 : Int64, ∃ d1 : Int64, ∃ d2 : Int64, ∃ d3 : Int64, ∃ d4 : Int64, ∃ e0 : Int64, ∃ e1 : Int64, ∃ e2 : Int64, ∃ e3 : Int64, ∃ e4 : Int64, v = none ∧ Keep h0 h [a1, wa, ia] ∧ Exa Z h a1 "com/example/plumbline/plumbline/align/WeightHeap" ∧ Fld Z h a1 "com/example/plumbline/plumbline/align/WeightHeap" "weights" "[J" (.ref wa) ∧ Fld Z h a1 "com/example/plumbline/plumbline/align/WeightHeap" "items" "[J" (.ref ia) ∧ Fld Z h a1 "com/example/plumbline/plumbline/align/WeightHeap" "size" "I" (.int (3 : Int32)) ∧ AV Z h wa .long (own_arr d0 d1 d2 d3 d4) ∧ AV Z h ia .long (own_arr e0 e1 e2 e3 e4) ∧ ((d0).toInt ≤ (d1).toInt ∧ (d0).toInt ≤ (d2).toInt) ∧ (List.Perm [(d0, e0), (d1, e1), (d2, e2)] [(q2, q3), (w0, x0), (w1, x1)])
abbrev R_rmAdd2 : Room := { frames := 0, cells := 0, slots := 0, locals := 0 }
set_option maxRecDepth 65536 in
set_option maxHeartbeats 40000000 in
theorem rmAdd2 {l : Launch} {Z : State} {n0 : Nat} {a0 : Array Value} (hw : ∀ d ∈ tables_1, d.before a0 Z = true) (a1 : Addr) (q2 : Int64) (q3 : Int64) (wa : Addr) (ia : Addr) (w0 : Int64) (w1 : Int64) (w2 : Int64) (w3 : Int64) (w4 : Int64) (x0 : Int64) (x1 : Int64) (x2 : Int64) (x3 : Int64) (x4 : Int64) (h0 : Heap) (H0 : n0 ≤ h0.size) (H1 : n0 ≤ a1) (H2 : n0 ≤ wa) (H3 : n0 ≤ ia) (H4 : Exa Z h0 a1 "com/example/plumbline/plumbline/align/WeightHeap") (H5 : Fld Z h0 a1 "com/example/plumbline/plumbline/align/WeightHeap" "weights" "[J" (.ref wa)) (H6 : Fld Z h0 a1 "com/example/plumbline/plumbline/align/WeightHeap" "items" "[J" (.ref ia)) (H7 : Fld Z h0 a1 "com/example/plumbline/plumbline/align/WeightHeap" "size" "I" (.int (2 : Int32))) (H8 : AV Z h0 wa .long (own_arr w0 w1 w2 w3 w4)) (H9 : AV Z h0 ia .long (own_arr x0 x1 x2 x3 x4)) (H10 : wa ≠ ia) (H11 : a1 ≠ wa) (H12 : a1 ≠ ia) (H13 : (w0).toInt ≤ (w1).toInt) :
    Con l Z n0 (⟨"com/example/plumbline/plumbline/align/WeightHeap", "add", "(JJ)V"⟩ : MethodName) prog_61_method_5_code 7 none R_rmAdd2 #[(.ref a1), (.long q2), (.long q3)] h0 (Q_rmAdd2 Z n0 a1 q2 q3 wa ia w0 w1 w2 w3 w4 x0 x1 x2 x3 x4 h0) := by
  refine con_of (plainFor_of_name pn_com_example_plumbline_plumbline_align_WeightHeap) ?_
  intro p e s m below meth c T0 K X0 e0
  replace K : Ctx p s m meth c Z "com/example/plumbline/plumbline/align/WeightHeap" "add" prog_61_method_5_code 7 none := K
  refine go_entry (ef_rmAdd2 m a1 q2 q3) ?_
  refine go_aloadN K X0 d5_0 rfl rfl rfl ?_
  refine go_getF K X0 (host := "") (Or.inl (wd hw 33 rfl)) Via.refl e0 H7 d5_1 rfl ?_
  intro T114 X114 e114
  refine go_aloadN K X114 d5_4 rfl rfl rfl ?_
  refine go_getF K X114 (host := "") (Or.inl (wd hw 12 rfl)) Via.refl e114 H6 d5_5 rfl ?_
  intro T115 X115 e115
  refine go_arraylength K X115 e115 H9 (z := (64 : Int32)) rfl d5_8 rfl ?_
  refine go_icmpT K X115 d5_9 (by decide) rfl (by decide : ¬ (2 : Int32) = (64 : Int32)) ?_
  refine go_aloadN K X115 d5_58 rfl rfl rfl ?_
  refine go_dup K X115 d5_59 rfl rfl ?_
  refine go_getF K X115 (host := "") (Or.inl (wd hw 33 rfl)) Via.refl e115 H7 d5_60 rfl ?_
  intro T116 X116 e116
  refine go_dupX1 K X116 d5_63 rfl rfl rfl ?_
  refine go_iconst K X116 (1 : Int32) d5_64 rfl rfl ?_
  refine go_iadd K X116 d5_65 rfl ?_
  rw [show ((2 : Int32) + (1 : Int32)) = (3 : Int32) from by decide]
  refine go_putF K X116 (host := "") (Or.inl (wd hw 33 rfl)) Via.refl e116 H7 H4 (Or.inl (wd hw 34 rfl)) (wd hw 2 rfl) (ty := .int) (by decide) rfl rfl H1 d5_66 rfl ?_
  intro T117 h117 X117 e117 W117
  have kp118 : Keep h0 h117 [a1, wa, ia] := (Keep.refl h0 [a1, wa, ia]).trans (Keep.of_wr W117) (allS (Or.inl (List.mem_of_getElem? (i := 0) rfl)) all0)
  have f119 : Fld Z h117 a1 "com/example/plumbline/plumbline/align/WeightHeap" "size" "I" (.int (3 : Int32)) := H7.same W117
  refine go_istore K X117 #[.val (.ref a1), .val (.long q2), .second, .val (.long q3), .second, .val (.int (2 : Int32)), .unset] d5_69 rfl rfl ?_
  refine go_iload K X117 d5_71 rfl rfl ?_
  refine go_ifF K X117 d5_73 rfl (by decide : (0 : Int32) < (2 : Int32)) ?_
  refine go_lloadN K X117 d5_76 rfl rfl ?_
  refine go_aloadN K X117 d5_77 rfl rfl rfl ?_
  have f120 : Fld Z h117 a1 "com/example/plumbline/plumbline/align/WeightHeap" "weights" "[J" (.ref wa) := (H5.other W117 (Or.inr (slot_ne (Or.inl (wd hw 11 rfl)) (Or.inl (wd hw 34 rfl)) (by decide) (t := (.array .long)) (t' := .int) (by decide) (by decide))))
  refine go_getF K X117 (host := "") (Or.inl (wd hw 10 rfl)) Via.refl e117 f120 d5_78 rfl ?_
  intro T121 X121 e121
  refine go_iload K X121 d5_81 rfl rfl ?_
  refine go_iconst K X121 (1 : Int32) d5_83 rfl rfl ?_
  refine go_isub K X121 d5_84 rfl ?_
  rw [show ((2 : Int32) - (1 : Int32)) = (1 : Int32) from by decide]
  refine go_iconst K X121 (2 : Int32) d5_85 rfl rfl ?_
  refine go_idiv K X121 d5_86 (by decide) rfl ?_
  rw [show ((1 : Int32) / (2 : Int32)) = (0 : Int32) from by decide]
  have f122 : AV Z h117 wa .long (own_arr w0 w1 w2 w3 w4) := (H8.keep (Keep.of_wr W117) (ninS (Ne.symm H11) nin0))
  refine go_laload K X121 e121 f122 (i := 0) rfl rfl d5_87 rfl ?_
  refine go_lif K X121 d5_88 rfl d5_89 (by decide) rfl rfl ?_ ?_
  · intro (hc123 : ¬ q2 < w0)
    refine go_aloadN K X121 d5_135 rfl rfl rfl ?_
    refine go_getF K X121 (host := "") (Or.inl (wd hw 10 rfl)) Via.refl e121 f120 d5_136 rfl ?_
    intro T124 X124 e124
    refine go_iload K X124 d5_139 rfl rfl ?_
    refine go_lloadN K X124 d5_141 rfl rfl ?_
    refine go_lastore K X124 e124 f122 (i := 2) rfl (Nat.le_of_ble_eq_true rfl) H2 d5_142 rfl ?_
    intro T125 h125 X125 e125 W125 A125
    have kp126 : Keep h0 h125 [a1, wa, ia] := kp118.trans (Keep.of_wr W125) (allS (Or.inl (List.mem_of_getElem? (i := 1) rfl)) all0)
    have f127 : AV Z h125 wa .long (own_arr w0 w1 q2 w3 w4) := A125
    refine go_aloadN K X125 d5_143 rfl rfl rfl ?_
    have f128 : Fld Z h125 a1 "com/example/plumbline/plumbline/align/WeightHeap" "items" "[J" (.ref ia) := ((H6.other W117 (Or.inr (slot_ne (Or.inl (wd hw 13 rfl)) (Or.inl (wd hw 34 rfl)) (by decide) (t := (.array .long)) (t' := .int) (by decide) (by decide)))).keep (Keep.of_wr W125) (ninS H11 nin0))
    refine go_getF K X125 (host := "") (Or.inl (wd hw 12 rfl)) Via.refl e125 f128 d5_144 rfl ?_
    intro T129 X129 e129
    refine go_iload K X129 d5_147 rfl rfl ?_
    refine go_lloadN K X129 d5_149 rfl rfl ?_
    have f130 : AV Z h125 ia .long (own_arr x0 x1 x2 x3 x4) := ((H9.keep (Keep.of_wr W117) (ninS (Ne.symm H12) nin0)).keep (Keep.of_wr W125) (ninS (Ne.symm H10) nin0))
    refine go_lastore K X129 e129 f130 (i := 2) rfl (Nat.le_of_ble_eq_true rfl) H3 d5_150 rfl ?_
    intro T131 h131 X131 e131 W131 A131
    have kp132 : Keep h0 h131 [a1, wa, ia] := kp126.trans (Keep.of_wr W131) (allS (Or.inl (List.mem_of_getElem? (i := 2) rfl)) all0)
    have f133 : AV Z h131 ia .long (own_arr x0 x1 q3 x3 x4) := A131
    refine go_ret K X131 d5_151 (by decide) (by decide) ?_
    have f134 : Exa Z h131 a1 "com/example/plumbline/plumbline/align/WeightHeap" := (((H4.keep (Keep.of_wr W117)).keep (Keep.of_wr W125)).keep (Keep.of_wr W131))
    have f135 : Fld Z h131 a1 "com/example/plumbline/plumbline/align/WeightHeap" "weights" "[J" (.ref wa) := ((f120.keep (Keep.of_wr W125) (ninS H11 nin0)).keep (Keep.of_wr W131) (ninS H12 nin0))
    have f136 : Fld Z h131 a1 "com/example/plumbline/plumbline/align/WeightHeap" "items" "[J" (.ref ia) := (f128.keep (Keep.of_wr W131) (ninS H12 nin0))
    have f137 : Fld Z h131 a1 "com/example/plumbline/plumbline/align/WeightHeap" "size" "I" (.int (3 : Int32)) := ((f119.keep (Keep.of_wr W125) (ninS H11 nin0)).keep (Keep.of_wr W131) (ninS H12 nin0))
    have f138 : AV Z h131 wa .long (own_arr w0 w1 q2 w3 w4) := (f127.keep (Keep.of_wr W131) (ninS H10 nin0))
    rw [e131]
    exact ⟨w0, w1, q2, w3, w4, x0, x1, q3, x3, x4, rfl, kp132, f134, f135, f136, f137, f138, f133, (by have hp := H13; have g0 := own_nlt hc123; omega), ((List.perm_middle (l₁ := [(w0, x0), (w1, x1)]) (a := (q2, q3)) (l₂ := [])).trans (List.Perm.cons _ (List.Perm.cons _ (List.Perm.cons _ (List.Perm.refl _)))))⟩
  · intro (hc123 : q2 < w0)
    refine go_iload K X121 d5_92 rfl rfl ?_
    refine go_iconst K X121 (1 : Int32) d5_94 rfl rfl ?_
    refine go_isub K X121 d5_95 rfl ?_
    rw [show ((2 : Int32) - (1 : Int32)) = (1 : Int32) from by decide]
    refine go_iconst K X121 (2 : Int32) d5_96 rfl rfl ?_
    refine go_idiv K X121 d5_97 (by decide) rfl ?_
    rw [show ((1 : Int32) / (2 : Int32)) = (0 : Int32) from by decide]
    refine go_istore K X121 #[.val (.ref a1), .val (.long q2), .second, .val (.long q3), .second, .val (.int (2 : Int32)), .val (.int (0 : Int32))] d5_98 rfl rfl ?_
    refine go_aloadN K X121 d5_100 rfl rfl rfl ?_
    refine go_getF K X121 (host := "") (Or.inl (wd hw 10 rfl)) Via.refl e121 f120 d5_101 rfl ?_
    intro T139 X139 e139
    refine go_iload K X139 d5_104 rfl rfl ?_
    refine go_aloadN K X139 d5_106 rfl rfl rfl ?_
    refine go_getF K X139 (host := "") (Or.inl (wd hw 10 rfl)) Via.refl e139 f120 d5_107 rfl ?_
    intro T140 X140 e140
    refine go_iload K X140 d5_110 rfl rfl ?_
    refine go_laload K X140 e140 f122 (i := 0) rfl rfl d5_112 rfl ?_
    refine go_lastore K X140 e140 f122 (i := 2) rfl (Nat.le_of_ble_eq_true rfl) H2 d5_113 rfl ?_
    intro T141 h141 X141 e141 W141 A141
    have kp142 : Keep h0 h141 [a1, wa, ia] := kp118.trans (Keep.of_wr W141) (allS (Or.inl (List.mem_of_getElem? (i := 1) rfl)) all0)
    have f143 : AV Z h141 wa .long (own_arr w0 w1 w0 w3 w4) := A141
    refine go_aloadN K X141 d5_114 rfl rfl rfl ?_
    have f144 : Fld Z h141 a1 "com/example/plumbline/plumbline/align/WeightHeap" "items" "[J" (.ref ia) := ((H6.other W117 (Or.inr (slot_ne (Or.inl (wd hw 13 rfl)) (Or.inl (wd hw 34 rfl)) (by decide) (t := (.array .long)) (t' := .int) (by decide) (by decide)))).keep (Keep.of_wr W141) (ninS H11 nin0))
    refine go_getF K X141 (host := "") (Or.inl (wd hw 12 rfl)) Via.refl e141 f144 d5_115 rfl ?_
    intro T145 X145 e145
    refine go_iload K X145 d5_118 rfl rfl ?_
    refine go_aloadN K X145 d5_120 rfl rfl rfl ?_
    refine go_getF K X145 (host := "") (Or.inl (wd hw 12 rfl)) Via.refl e145 f144 d5_121 rfl ?_
    intro T146 X146 e146
    refine go_iload K X146 d5_124 rfl rfl ?_
    have f147 : AV Z h141 ia .long (own_arr x0 x1 x2 x3 x4) := ((H9.keep (Keep.of_wr W117) (ninS (Ne.symm H12) nin0)).keep (Keep.of_wr W141) (ninS (Ne.symm H10) nin0))
    refine go_laload K X146 e146 f147 (i := 0) rfl rfl d5_126 rfl ?_
    refine go_lastore K X146 e146 f147 (i := 2) rfl (Nat.le_of_ble_eq_true rfl) H3 d5_127 rfl ?_
    intro T148 h148 X148 e148 W148 A148
    have kp149 : Keep h0 h148 [a1, wa, ia] := kp142.trans (Keep.of_wr W148) (allS (Or.inl (List.mem_of_getElem? (i := 2) rfl)) all0)
    have f150 : AV Z h148 ia .long (own_arr x0 x1 x0 x3 x4) := A148
    refine go_iload K X148 d5_128 rfl rfl ?_
    refine go_istore K X148 #[.val (.ref a1), .val (.long q2), .second, .val (.long q3), .second, .val (.int (0 : Int32)), .val (.int (0 : Int32))] d5_130 rfl rfl ?_
    refine go_goto K X148 d5_132 (by decide) rfl ?_
    refine go_iload K X148 d5_71 rfl rfl ?_
    refine go_ifT K X148 d5_73 (by decide) rfl (by decide : ¬ (0 : Int32) < (0 : Int32)) ?_
    refine go_aloadN K X148 d5_135 rfl rfl rfl ?_
    have f151 : Fld Z h148 a1 "com/example/plumbline/plumbline/align/WeightHeap" "weights" "[J" (.ref wa) := ((f120.keep (Keep.of_wr W141) (ninS H11 nin0)).keep (Keep.of_wr W148) (ninS H12 nin0))
    refine go_getF K X148 (host := "") (Or.inl (wd hw 10 rfl)) Via.refl e148 f151 d5_136 rfl ?_
    intro T152 X152 e152
    refine go_iload K X152 d5_139 rfl rfl ?_
    refine go_lloadN K X152 d5_141 rfl rfl ?_
    have f153 : AV Z h148 wa .long (own_arr w0 w1 w0 w3 w4) := (f143.keep (Keep.of_wr W148) (ninS H10 nin0))
    refine go_lastore K X152 e152 f153 (i := 0) rfl (Nat.le_of_ble_eq_true rfl) H2 d5_142 rfl ?_
    intro T154 h154 X154 e154 W154 A154
    have kp155 : Keep h0 h154 [a1, wa, ia] := kp149.trans (Keep.of_wr W154) (allS (Or.inl (List.mem_of_getElem? (i := 1) rfl)) all0)
    have f156 : AV Z h154 wa .long (own_arr q2 w1 w0 w3 w4) := A154
    refine go_aloadN K X154 d5_143 rfl rfl rfl ?_
    have f157 : Fld Z h154 a1 "com/example/plumbline/plumbline/align/WeightHeap" "items" "[J" (.ref ia) := ((f144.keep (Keep.of_wr W148) (ninS H12 nin0)).keep (Keep.of_wr W154) (ninS H11 nin0))
    refine go_getF K X154 (host := "") (Or.inl (wd hw 12 rfl)) Via.refl e154 f157 d5_144 rfl ?_
    intro T158 X158 e158
    refine go_iload K X158 d5_147 rfl rfl ?_
    refine go_lloadN K X158 d5_149 rfl rfl ?_
    have f159 : AV Z h154 ia .long (own_arr x0 x1 x0 x3 x4) := (f150.keep (Keep.of_wr W154) (ninS (Ne.symm H10) nin0))
    refine go_lastore K X158 e158 f159 (i := 0) rfl (Nat.le_of_ble_eq_true rfl) H3 d5_150 rfl ?_
    intro T160 h160 X160 e160 W160 A160
    have kp161 : Keep h0 h160 [a1, wa, ia] := kp155.trans (Keep.of_wr W160) (allS (Or.inl (List.mem_of_getElem? (i := 2) rfl)) all0)
    have f162 : AV Z h160 ia .long (own_arr q3 x1 x0 x3 x4) := A160
    refine go_ret K X160 d5_151 (by decide) (by decide) ?_
    have f163 : Exa Z h160 a1 "com/example/plumbline/plumbline/align/WeightHeap" := (((((H4.keep (Keep.of_wr W117)).keep (Keep.of_wr W141)).keep (Keep.of_wr W148)).keep (Keep.of_wr W154)).keep (Keep.of_wr W160))
    have f164 : Fld Z h160 a1 "com/example/plumbline/plumbline/align/WeightHeap" "weights" "[J" (.ref wa) := ((f151.keep (Keep.of_wr W154) (ninS H11 nin0)).keep (Keep.of_wr W160) (ninS H12 nin0))
    have f165 : Fld Z h160 a1 "com/example/plumbline/plumbline/align/WeightHeap" "items" "[J" (.ref ia) := (f157.keep (Keep.of_wr W160) (ninS H12 nin0))
    have f166 : Fld Z h160 a1 "com/example/plumbline/plumbline/align/WeightHeap" "size" "I" (.int (3 : Int32)) := ((((f119.keep (Keep.of_wr W141) (ninS H11 nin0)).keep (Keep.of_wr W148) (ninS H12 nin0)).keep (Keep.of_wr W154) (ninS H11 nin0)).keep (Keep.of_wr W160) (ninS H12 nin0))
    have f167 : AV Z h160 wa .long (own_arr q2 w1 w0 w3 w4) := (f156.keep (Keep.of_wr W160) (ninS H10 nin0))
    rw [e160]
    exact ⟨q2, w1, w0, w3, w4, q3, x1, x0, x3, x4, rfl, kp161, f163, f164, f165, f166, f167, f162, (by have hp := H13; have g0 := own_lt hc123; omega), (List.Perm.cons _ ((List.perm_middle (l₁ := [(w1, x1)]) (a := (w0, x0)) (l₂ := [])).trans (List.Perm.cons _ (List.Perm.cons _ (List.Perm.refl _)))))⟩
theorem ef_rmAdd3 (m : MethodId) (a1 : Addr) (q2 : Int64) (q3 : Int64) : entryFrame m #[(.ref a1), (.long q2), (.long q3)] 7 = mkF m 0 #[.val (.ref a1), .val (.long q2), .second, .val (.long q3), .second, .unset, .unset] [] := by first | (simp [entryFrame, mkF, argsToLocals, Value.category]; done) | rfl
def Q_rmAdd3 (Z : State) (n0 : Nat) (a1 : Addr) (q2 : Int64) (q3 : Int64) (wa : Addr) (ia : Addr) (w0 : Int64) (w1 : Int64) (w2 : Int64) (w3 : Int64) (w4 : Int64) (x0 : Int64) (x1 : Int64) (x2 : Int64) (x3 : Int64) (x4 : Int64) (h0 : Heap) (v : Option Value) (h : Heap) : Prop := ∃ d0 : Int64, ∃ d1 : Int64, ∃ d2 : Int64, ∃ d3 : Int64, ∃ d4 : Int64, ∃ e0 : Int64, ∃ e1 : Int64, ∃ e2 : Int64, ∃ e3 : Int64, ∃ e4 : Int64, v = none ∧ Keep h0 h [a1, wa, ia] ∧ Exa Z h a1 "com/example/plumbline/plumbline/align/WeightHeap" ∧ Fld Z h a1 "com/example/plumbline/plumbline/align/WeightHeap" "weights" "[J" (.ref wa) ∧ Fld Z h a1 "com/example/plumbline/plumbline/align/WeightHeap" "items" "[J" (.ref ia) ∧ Fld Z h a1 "com/example/plumbline/plumbline/align/WeightHeap" "size" "I" (.int (4 : Int32)) ∧ AV Z h wa .long (own_arr d0 d1 d2 d3 d4) ∧ AV Z h ia .long (own_arr e0 e1 e2 e3 e4) ∧ ((d0).toInt ≤ (d1).toInt ∧ (d0).toInt ≤ (d2).toInt ∧ (d1).toInt ≤ (d3).toInt) ∧ (List.Perm [(d0, e0), (d1, e1), (d2, e2), (d3, e3)] [(q2, q3), (w0, x0), (w1, x1), (w2, x2)])
abbrev R_rmAdd3 : Room := { frames := 0, cells := 0, slots := 0, locals := 0 }
set_option maxRecDepth 65536 in
set_option maxHeartbeats 40000000 in
theorem rmAdd3 {l : Launch} {Z : State} {n0 : Nat} {a0 : Array Value} (hw : ∀ d ∈ tables_1, d.before a0 Z = true) (a1 : Addr) (q2 : Int64) (q3 : Int64) (wa : Addr) (ia : Addr) (w0 : Int64) (w1 : Int64) (w2 : Int64) (w3 : Int64) (w4 : Int64) (x0 : Int64) (x1 : Int64) (x2 : Int64) (x3 : Int64) (x4 : Int64) (h0 : Heap) (H0 : n0 ≤ h0.size) (H1 : n0 ≤ a1) (H2 : n0 ≤ wa) (H3 : n0 ≤ ia) (H4 : Exa Z h0 a1 "com/example/plumbline/plumbline/align/WeightHeap") (H5 : Fld Z h0 a1 "com/example/plumbline/plumbline/align/WeightHeap" "weights" "[J" (.ref wa)) (H6 : Fld Z h0 a1 "com/example/plumbline/plumbline/align/WeightHeap" "items" "[J" (.ref ia)) (H7 : Fld Z h0 a1 "com/example/plumbline/plumbline/align/WeightHeap" "size" "I" (.int (3 : Int32))) (H8 : AV Z h0 wa .long (own_arr w0 w1 w2 w3 w4)) (H9 : AV Z h0 ia .long (own_arr x0 x1 x2 x3 x4)) (H10 : wa ≠ ia) (H11 : a1 ≠ wa) (H12 : a1 ≠ ia) (H13 : (w0).toInt ≤ (w1).toInt ∧ (w0).toInt ≤ (w2).toInt) :
    Con l Z n0 (⟨"com/example/plumbline/plumbline/align/WeightHeap", "add", "(JJ)V"⟩ : MethodName) prog_61_method_5_code 7 none R_rmAdd3 #[(.ref a1), (.long q2), (.long q3)] h0 (Q_rmAdd3 Z n0 a1 q2 q3 wa ia w0 w1 w2 w3 w4 x0 x1 x2 x3 x4 h0) := by
  refine con_of (plainFor_of_name pn_com_example_plumbline_plumbline_align_WeightHeap) ?_
  intro p e s m below meth c T0 K X0 e0
  replace K : Ctx p s m meth c Z "com/example/plumbline/plumbline/align/WeightHeap" "add" prog_61_method_5_code 7 none := K
  refine go_entry (ef_rmAdd3 m a1 q2 q3) ?_
  refine go_aloadN K X0 d5_0 rfl rfl rfl ?_
  refine go_getF K X0 (host := "") (Or.inl (wd hw 33 rfl)) Via.refl e0 H7 d5_1 rfl ?_
  intro T168 X168 e168
  refine go_aloadN K X168 d5_4 rfl rfl rfl ?_
  refine go_getF K X168 (host := "") (Or.inl (wd hw 12 rfl)) Via.refl e168 H6 d5_5 rfl ?_
  intro T169 X169 e169
  refine go_arraylength K X169 e169 H9 (z := (64 : Int32)) rfl d5_8 rfl ?_
  refine go_icmpT K X169 d5_9 (by decide) rfl (by decide : ¬ (3 : Int32) = (64 : Int32)) ?_
  refine go_aloadN K X169 d5_58 rfl rfl rfl ?_
  refine go_dup K X169 d5_59 rfl rfl ?_
  refine go_getF K X169 (host := "") (Or.inl (wd hw 33 rfl)) Via.refl e169 H7 d5_60 rfl ?_
  intro T170 X170 e170
  refine go_dupX1 K X170 d5_63 rfl rfl rfl ?_
  refine go_iconst K X170 (1 : Int32) d5_64 rfl rfl ?_
  refine go_iadd K X170 d5_65 rfl ?_
  rw [show ((3 : Int32) + (1 : Int32)) = (4 : Int32) from by decide]
  refine go_putF K X170 (host := "") (Or.inl (wd hw 33 rfl)) Via.refl e170 H7 H4 (Or.inl (wd hw 34 rfl)) (wd hw 2 rfl) (ty := .int) (by decide) rfl rfl H1 d5_66 rfl ?_
  intro T171 h171 X171 e171 W171
  have kp172 : Keep h0 h171 [a1, wa, ia] := (Keep.refl h0 [a1, wa, ia]).trans (Keep.of_wr W171) (allS (Or.inl (List.mem_of_getElem? (i := 0) rfl)) all0)
  have f173 : Fld Z h171 a1 "com/example/plumbline/plumbline/align/WeightHeap" "size" "I" (.int (4 : Int32)) := H7.same W171
  refine go_istore K X171 #[.val (.ref a1), .val (.long q2), .second, .val (.long q3), .second, .val (.int (3 : Int32)), .unset] d5_69 rfl rfl ?_
  refine go_iload K X171 d5_71 rfl rfl ?_
  refine go_ifF K X171 d5_73 rfl (by decide : (0 : Int32) < (3 : Int32)) ?_
  refine go_lloadN K X171 d5_76 rfl rfl ?_
  refine go_aloadN K X171 d5_77 rfl rfl rfl ?_
  have f174 : Fld Z h171 a1 "com/example/plumbline/plumbline/align/WeightHeap" "weights" "[J" (.ref wa) := (H5.other W171 (Or.inr (slot_ne (Or.inl (wd hw 11 rfl)) (Or.inl (wd hw 34 rfl)) (by decide) (t := (.array .long)) (t' := .int) (by decide) (by decide))))
  refine go_getF K X171 (host := "") (Or.inl (wd hw 10 rfl)) Via.refl e171 f174 d5_78 rfl ?_
  intro T175 X175 e175
  refine go_iload K X175 d5_81 rfl rfl ?_
  refine go_iconst K X175 (1 : Int32) d5_83 rfl rfl ?_
  refine go_isub K X175 d5_84 rfl ?_
  rw [show ((3 : Int32) - (1 : Int32)) = (2 : Int32) from by decide]
  refine go_iconst K X175 (2 : Int32) d5_85 rfl rfl ?_
  refine go_idiv K X175 d5_86 (by decide) rfl ?_
  rw [show ((2 : Int32) / (2 : Int32)) = (1 : Int32) from by decide]
  have f176 : AV Z h171 wa .long (own_arr w0 w1 w2 w3 w4) := (H8.keep (Keep.of_wr W171) (ninS (Ne.symm H11) nin0))
  refine go_laload K X175 e175 f176 (i := 1) rfl rfl d5_87 rfl ?_
  refine go_lif K X175 d5_88 rfl d5_89 (by decide) rfl rfl ?_ ?_
  · intro (hc177 : ¬ q2 < w1)
    refine go_aloadN K X175 d5_135 rfl rfl rfl ?_
    refine go_getF K X175 (host := "") (Or.inl (wd hw 10 rfl)) Via.refl e175 f174 d5_136 rfl ?_
    intro T178 X178 e178
    refine go_iload K X178 d5_139 rfl rfl ?_
    refine go_lloadN K X178 d5_141 rfl rfl ?_
    refine go_lastore K X178 e178 f176 (i := 3) rfl (Nat.le_of_ble_eq_true rfl) H2 d5_142 rfl ?_
    intro T179 h179 X179 e179 W179 A179
    have kp180 : Keep h0 h179 [a1, wa, ia] := kp172.trans (Keep.of_wr W179) (allS (Or.inl (List.mem_of_getElem? (i := 1) rfl)) all0)
    have f181 : AV Z h179 wa .long (own_arr w0 w1 w2 q2 w4) := A179
    refine go_aloadN K X179 d5_143 rfl rfl rfl ?_
    have f182 : Fld Z h179 a1 "com/example/plumbline/plumbline/align/WeightHeap" "items" "[J" (.ref ia) := ((H6.other W171 (Or.inr (slot_ne (Or.inl (wd hw 13 rfl)) (Or.inl (wd hw 34 rfl)) (by decide) (t := (.array .long)) (t' := .int) (by decide) (by decide)))).keep (Keep.of_wr W179) (ninS H11 nin0))
    refine go_getF K X179 (host := "") (Or.inl (wd hw 12 rfl)) Via.refl e179 f182 d5_144 rfl ?_
    intro T183 X183 e183
    refine go_iload K X183 d5_147 rfl rfl ?_
    refine go_lloadN K X183 d5_149 rfl rfl ?_
    have f184 : AV Z h179 ia .long (own_arr x0 x1 x2 x3 x4) := ((H9.keep (Keep.of_wr W171) (ninS (Ne.symm H12) nin0)).keep (Keep.of_wr W179) (ninS (Ne.symm H10) nin0))
    refine go_lastore K X183 e183 f184 (i := 3) rfl (Nat.le_of_ble_eq_true rfl) H3 d5_150 rfl ?_
    intro T185 h185 X185 e185 W185 A185
    have kp186 : Keep h0 h185 [a1, wa, ia] := kp180.trans (Keep.of_wr W185) (allS (Or.inl (List.mem_of_getElem? (i := 2) rfl)) all0)
    have f187 : AV Z h185 ia .long (own_arr x0 x1 x2 q3 x4) := A185
    refine go_ret K X185 d5_151 (by decide) (by decide) ?_
    have f188 : Exa Z h185 a1 "com/example/plumbline/plumbline/align/WeightHeap" := (((H4.keep (Keep.of_wr W171)).keep (Keep.of_wr W179)).keep (Keep.of_wr W185))
    have f189 : Fld Z h185 a1 "com/example/plumbline/plumbline/align/WeightHeap" "weights" "[J" (.ref wa) := ((f174.keep (Keep.of_wr W179) (ninS H11 nin0)).keep (Keep.of_wr W185) (ninS H12 nin0))
    have f190 : Fld Z h185 a1 "com/example/plumbline/plumbline/align/WeightHeap" "items" "[J" (.ref ia) := (f182.keep (Keep.of_wr W185) (ninS H12 nin0))
    have f191 : Fld Z h185 a1 "com/example/plumbline/plumbline/align/WeightHeap" "size" "I" (.int (4 : Int32)) := ((f173.keep (Keep.of_wr W179) (ninS H11 nin0)).keep (Keep.of_wr W185) (ninS H12 nin0))
    have f192 : AV Z h185 wa .long (own_arr w0 w1 w2 q2 w4) := (f181.keep (Keep.of_wr W185) (ninS H10 nin0))
    rw [e185]
    exact ⟨w0, w1, w2, q2, w4, x0, x1, x2, q3, x4, rfl, kp186, f188, f189, f190, f191, f192, f187, (by have hp := H13; have g0 := own_nlt hc177; omega), ((List.perm_middle (l₁ := [(w0, x0), (w1, x1), (w2, x2)]) (a := (q2, q3)) (l₂ := [])).trans (List.Perm.cons _ (List.Perm.cons _ (List.Perm.cons _ (List.Perm.cons _ (List.Perm.refl _))))))⟩
  · intro (hc177 : q2 < w1)
    refine go_iload K X175 d5_92 rfl rfl ?_
    refine go_iconst K X175 (1 : Int32) d5_94 rfl rfl ?_
    refine go_isub K X175 d5_95 rfl ?_
    rw [show ((3 : Int32) - (1 : Int32)) = (2 : Int32) from by decide]
    refine go_iconst K X175 (2 : Int32) d5_96 rfl rfl ?_
    refine go_idiv K X175 d5_97 (by decide) rfl ?_
    rw [show ((2 : Int32) / (2 : Int32)) = (1 : Int32) from by decide]
    refine go_istore K X175 #[.val (.ref a1), .val (.long q2), .second, .val (.long q3), .second, .val (.int (3 : Int32)), .val (.int (1 : Int32))] d5_98 rfl rfl ?_
    refine go_aloadN K X175 d5_100 rfl rfl rfl ?_
    refine go_getF K X175 (host := "") (Or.inl (wd hw 10 rfl)) Via.refl e175 f174 d5_101 rfl ?_
    intro T193 X193 e193
    refine go_iload K X193 d5_104 rfl rfl ?_
    refine go_aloadN K X193 d5_106 rfl rfl rfl ?_
    refine go_getF K X193 (host := "") (Or.inl (wd hw 10 rfl)) Via.refl e193 f174 d5_107 rfl ?_
    intro T194 X194 e194
    refine go_iload K X194 d5_110 rfl rfl ?_
    refine go_laload K X194 e194 f176 (i := 1) rfl rfl d5_112 rfl ?_
    refine go_lastore K X194 e194 f176 (i := 3) rfl (Nat.le_of_ble_eq_true rfl) H2 d5_113 rfl ?_
    intro T195 h195 X195 e195 W195 A195
    have kp196 : Keep h0 h195 [a1, wa, ia] := kp172.trans (Keep.of_wr W195) (allS (Or.inl (List.mem_of_getElem? (i := 1) rfl)) all0)
    have f197 : AV Z h195 wa .long (own_arr w0 w1 w2 w1 w4) := A195
    refine go_aloadN K X195 d5_114 rfl rfl rfl ?_
    have f198 : Fld Z h195 a1 "com/example/plumbline/plumbline/align/WeightHeap" "items" "[J" (.ref ia) := ((H6.other W171 (Or.inr (slot_ne (Or.inl (wd hw 13 rfl)) (Or.inl (wd hw 34 rfl)) (by decide) (t := (.array .long)) (t' := .int) (by decide) (by decide)))).keep (Keep.of_wr W195) (ninS H11 nin0))
    refine go_getF K X195 (host := "") (Or.inl (wd hw 12 rfl)) Via.refl e195 f198 d5_115 rfl ?_
    intro T199 X199 e199
    refine go_iload K X199 d5_118 rfl rfl ?_
    refine go_aloadN K X199 d5_120 rfl rfl rfl ?_
    refine go_getF K X199 (host := "") (Or.inl (wd hw 12 rfl)) Via.refl e199 f198 d5_121 rfl ?_
    intro T200 X200 e200
    refine go_iload K X200 d5_124 rfl rfl ?_
    have f201 : AV Z h195 ia .long (own_arr x0 x1 x2 x3 x4) := ((H9.keep (Keep.of_wr W171) (ninS (Ne.symm H12) nin0)).keep (Keep.of_wr W195) (ninS (Ne.symm H10) nin0))
    refine go_laload K X200 e200 f201 (i := 1) rfl rfl d5_126 rfl ?_
    refine go_lastore K X200 e200 f201 (i := 3) rfl (Nat.le_of_ble_eq_true rfl) H3 d5_127 rfl ?_
    intro T202 h202 X202 e202 W202 A202
    have kp203 : Keep h0 h202 [a1, wa, ia] := kp196.trans (Keep.of_wr W202) (allS (Or.inl (List.mem_of_getElem? (i := 2) rfl)) all0)
    have f204 : AV Z h202 ia .long (own_arr x0 x1 x2 x1 x4) := A202
    refine go_iload K X202 d5_128 rfl rfl ?_
    refine go_istore K X202 #[.val (.ref a1), .val (.long q2), .second, .val (.long q3), .second, .val (.int (1 : Int32)), .val (.int (1 : Int32))] d5_130 rfl rfl ?_
    refine go_goto K X202 d5_132 (by decide) rfl ?_
    refine go_iload K X202 d5_71 rfl rfl ?_
    refine go_ifF K X202 d5_73 rfl (by decide : (0 : Int32) < (1 : Int32)) ?_
    refine go_lloadN K X202 d5_76 rfl rfl ?_
    refine go_aloadN K X202 d5_77 rfl rfl rfl ?_
    have f205 : Fld Z h202 a1 "com/example/plumbline/plumbline/align/WeightHeap" "weights" "[J" (.ref wa) := ((f174.keep (Keep.of_wr W195) (ninS H11 nin0)).keep (Keep.of_wr W202) (ninS H12 nin0))
    refine go_getF K X202 (host := "") (Or.inl (wd hw 10 rfl)) Via.refl e202 f205 d5_78 rfl ?_
    intro T206 X206 e206
    refine go_iload K X206 d5_81 rfl rfl ?_
    refine go_iconst K X206 (1 : Int32) d5_83 rfl rfl ?_
    refine go_isub K X206 d5_84 rfl ?_
    rw [show ((1 : Int32) - (1 : Int32)) = (0 : Int32) from by decide]
    refine go_iconst K X206 (2 : Int32) d5_85 rfl rfl ?_
    refine go_idiv K X206 d5_86 (by decide) rfl ?_
    rw [show ((0 : Int32) / (2 : Int32)) = (0 : Int32) from by decide]
    have f207 : AV Z h202 wa .long (own_arr w0 w1 w2 w1 w4) := (f197.keep (Keep.of_wr W202) (ninS H10 nin0))
    refine go_laload K X206 e206 f207 (i := 0) rfl rfl d5_87 rfl ?_
    refine go_lif K X206 d5_88 rfl d5_89 (by decide) rfl rfl ?_ ?_
    · intro (hc208 : ¬ q2 < w0)
      refine go_aloadN K X206 d5_135 rfl rfl rfl ?_
      refine go_getF K X206 (host := "") (Or.inl (wd hw 10 rfl)) Via.refl e206 f205 d5_136 rfl ?_
      intro T209 X209 e209
      refine go_iload K X209 d5_139 rfl rfl ?_
      refine go_lloadN K X209 d5_141 rfl rfl ?_
      refine go_lastore K X209 e209 f207 (i := 1) rfl (Nat.le_of_ble_eq_true rfl) H2 d5_142 rfl ?_
      intro T210 h210 X210 e210 W210 A210
      have kp211 : Keep h0 h210 [a1, wa, ia] := kp203.trans (Keep.of_wr W210) (allS (Or.inl (List.mem_of_getElem? (i := 1) rfl)) all0)
      have f212 : AV Z h210 wa .long (own_arr w0 q2 w2 w1 w4) := A210
      refine go_aloadN K X210 d5_143 rfl rfl rfl ?_
      have f213 : Fld Z h210 a1 "com/example/plumbline/plumbline/align/WeightHeap" "items" "[J" (.ref ia) := ((f198.keep (Keep.of_wr W202) (ninS H12 nin0)).keep (Keep.of_wr W210) (ninS H11 nin0))
      refine go_getF K X210 (host := "") (Or.inl (wd hw 12 rfl)) Via.refl e210 f213 d5_144 rfl ?_
      intro T214 X214 e214
      refine go_iload K X214 d5_147 rfl rfl ?_
      refine go_lloadN K X214 d5_149 rfl rfl ?_
      have f215 : AV Z h210 ia .long (own_arr x0 x1 x2 x1 x4) := (f204.keep (Keep.of_wr W210) (ninS (Ne.symm H10) nin0))
      refine go_lastore K X214 e214 f215 (i := 1) rfl (Nat.le_of_ble_eq_true rfl) H3 d5_150 rfl ?_
      intro T216 h216 X216 e216 W216 A216
      have kp217 : Keep h0 h216 [a1, wa, ia] := kp211.trans (Keep.of_wr W216) (allS (Or.inl (List.mem_of_getElem? (i := 2) rfl)) all0)
      have f218 : AV Z h216 ia .long (own_arr x0 q3 x2 x1 x4) := A216
      refine go_ret K X216 d5_151 (by decide) (by decide) ?_
      have f219 : Exa Z h216 a1 "com/example/plumbline/plumbline/align/WeightHeap" := (((((H4.keep (Keep.of_wr W171)).keep (Keep.of_wr W195)).keep (Keep.of_wr W202)).keep (Keep.of_wr W210)).keep (Keep.of_wr W216))
      have f220 : Fld Z h216 a1 "com/example/plumbline/plumbline/align/WeightHeap" "weights" "[J" (.ref wa) := ((f205.keep (Keep.of_wr W210) (ninS H11 nin0)).keep (Keep.of_wr W216) (ninS H12 nin0))
      have f221 : Fld Z h216 a1 "com/example/plumbline/plumbline/align/WeightHeap" "items" "[J" (.ref ia) := (f213.keep (Keep.of_wr W216) (ninS H12 nin0))
      have f222 : Fld Z h216 a1 "com/example/plumbline/plumbline/align/WeightHeap" "size" "I" (.int (4 : Int32)) := ((((f173.keep (Keep.of_wr W195) (ninS H11 nin0)).keep (Keep.of_wr W202) (ninS H12 nin0)).keep (Keep.of_wr W210) (ninS H11 nin0)).keep (Keep.of_wr W216) (ninS H12 nin0))
      have f223 : AV Z h216 wa .long (own_arr w0 q2 w2 w1 w4) := (f212.keep (Keep.of_wr W216) (ninS H10 nin0))
      rw [e216]
      exact ⟨w0, q2, w2, w1, w4, x0, q3, x2, x1, x4, rfl, kp217, f219, f220, f221, f222, f223, f218, (by have hp := H13; have g0 := own_lt hc177; have g1 := own_nlt hc208; omega), ((List.perm_middle (l₁ := [(w0, x0)]) (a := (q2, q3)) (l₂ := [(w2, x2), (w1, x1)])).trans (List.Perm.cons _ (List.Perm.cons _ ((List.perm_middle (l₁ := [(w2, x2)]) (a := (w1, x1)) (l₂ := [])).trans (List.Perm.cons _ (List.Perm.cons _ (List.Perm.refl _)))))))⟩
    · intro (hc208 : q2 < w0)
      refine go_iload K X206 d5_92 rfl rfl ?_
      refine go_iconst K X206 (1 : Int32) d5_94 rfl rfl ?_
      refine go_isub K X206 d5_95 rfl ?_
      rw [show ((1 : Int32) - (1 : Int32)) = (0 : Int32) from by decide]
      refine go_iconst K X206 (2 : Int32) d5_96 rfl rfl ?_
      refine go_idiv K X206 d5_97 (by decide) rfl ?_
      rw [show ((0 : Int32) / (2 : Int32)) = (0 : Int32) from by decide]
      refine go_istore K X206 #[.val (.ref a1), .val (.long q2), .second, .val (.long q3), .second, .val (.int (1 : Int32)), .val (.int (0 : Int32))] d5_98 rfl rfl ?_
      refine go_aloadN K X206 d5_100 rfl rfl rfl ?_
      refine go_getF K X206 (host := "") (Or.inl (wd hw 10 rfl)) Via.refl e206 f205 d5_101 rfl ?_
      intro T224 X224 e224
      refine go_iload K X224 d5_104 rfl rfl ?_
      refine go_aloadN K X224 d5_106 rfl rfl rfl ?_
      refine go_getF K X224 (host := "") (Or.inl (wd hw 10 rfl)) Via.refl e224 f205 d5_107 rfl ?_
      intro T225 X225 e225
      refine go_iload K X225 d5_110 rfl rfl ?_
      refine go_laload K X225 e225 f207 (i := 0) rfl rfl d5_112 rfl ?_
      refine go_lastore K X225 e225 f207 (i := 1) rfl (Nat.le_of_ble_eq_true rfl) H2 d5_113 rfl ?_
      intro T226 h226 X226 e226 W226 A226
      have kp227 : Keep h0 h226 [a1, wa, ia] := kp203.trans (Keep.of_wr W226) (allS (Or.inl (List.mem_of_getElem? (i := 1) rfl)) all0)
      have f228 : AV Z h226 wa .long (own_arr w0 w0 w2 w1 w4) := A226
      refine go_aloadN K X226 d5_114 rfl rfl rfl ?_
      have f229 : Fld Z h226 a1 "com/example/plumbline/plumbline/align/WeightHeap" "items" "[J" (.ref ia) := ((f198.keep (Keep.of_wr W202) (ninS H12 nin0)).keep (Keep.of_wr W226) (ninS H11 nin0))
      refine go_getF K X226 (host := "") (Or.inl (wd hw 12 rfl)) Via.refl e226 f229 d5_115 rfl ?_
      intro T230 X230 e230
      refine go_iload K X230 d5_118 rfl rfl ?_
      refine go_aloadN K X230 d5_120 rfl rfl rfl ?_
      refine go_getF K X230 (host := "") (Or.inl (wd hw 12 rfl)) Via.refl e230 f229 d5_121 rfl ?_
      intro T231 X231 e231
      refine go_iload K X231 d5_124 rfl rfl ?_
      have f232 : AV Z h226 ia .long (own_arr x0 x1 x2 x1 x4) := (f204.keep (Keep.of_wr W226) (ninS (Ne.symm H10) nin0))
      refine go_laload K X231 e231 f232 (i := 0) rfl rfl d5_126 rfl ?_
      refine go_lastore K X231 e231 f232 (i := 1) rfl (Nat.le_of_ble_eq_true rfl) H3 d5_127 rfl ?_
      intro T233 h233 X233 e233 W233 A233
      have kp234 : Keep h0 h233 [a1, wa, ia] := kp227.trans (Keep.of_wr W233) (allS (Or.inl (List.mem_of_getElem? (i := 2) rfl)) all0)
      have f235 : AV Z h233 ia .long (own_arr x0 x0 x2 x1 x4) := A233
      refine go_iload K X233 d5_128 rfl rfl ?_
      refine go_istore K X233 #[.val (.ref a1), .val (.long q2), .second, .val (.long q3), .second, .val (.int (0 : Int32)), .val (.int (0 : Int32))] d5_130 rfl rfl ?_
      refine go_goto K X233 d5_132 (by decide) rfl ?_
      refine go_iload K X233 d5_71 rfl rfl ?_
      refine go_ifT K X233 d5_73 (by decide) rfl (by decide : ¬ (0 : Int32) < (0 : Int32)) ?_
      refine go_aloadN K X233 d5_135 rfl rfl rfl ?_
      have f236 : Fld Z h233 a1 "com/example/plumbline/plumbline/align/WeightHeap" "weights" "[J" (.ref wa) := ((f205.keep (Keep.of_wr W226) (ninS H11 nin0)).keep (Keep.of_wr W233) (ninS H12 nin0))
      refine go_getF K X233 (host := "") (Or.inl (wd hw 10 rfl)) Via.refl e233 f236 d5_136 rfl ?_
      intro T237 X237 e237
      refine go_iload K X237 d5_139 rfl rfl ?_
      refine go_lloadN K X237 d5_141 rfl rfl ?_
      have f238 : AV Z h233 wa .long (own_arr w0 w0 w2 w1 w4) := (f228.keep (Keep.of_wr W233) (ninS H10 nin0))
      refine go_lastore K X237 e237 f238 (i := 0) rfl (Nat.le_of_ble_eq_true rfl) H2 d5_142 rfl ?_
      intro T239 h239 X239 e239 W239 A239
      have kp240 : Keep h0 h239 [a1, wa, ia] := kp234.trans (Keep.of_wr W239) (allS (Or.inl (List.mem_of_getElem? (i := 1) rfl)) all0)
      have f241 : AV Z h239 wa .long (own_arr q2 w0 w2 w1 w4) := A239
      refine go_aloadN K X239 d5_143 rfl rfl rfl ?_
      have f242 : Fld Z h239 a1 "com/example/plumbline/plumbline/align/WeightHeap" "items" "[J" (.ref ia) := ((f229.keep (Keep.of_wr W233) (ninS H12 nin0)).keep (Keep.of_wr W239) (ninS H11 nin0))
      refine go_getF K X239 (host := "") (Or.inl (wd hw 12 rfl)) Via.refl e239 f242 d5_144 rfl ?_
      intro T243 X243 e243
      refine go_iload K X243 d5_147 rfl rfl ?_
      refine go_lloadN K X243 d5_149 rfl rfl ?_
      have f244 : AV Z h239 ia .long (own_arr x0 x0 x2 x1 x4) := (f235.keep (Keep.of_wr W239) (ninS (Ne.symm H10) nin0))
      refine go_lastore K X243 e243 f244 (i := 0) rfl (Nat.le_of_ble_eq_true rfl) H3 d5_150 rfl ?_
      intro T245 h245 X245 e245 W245 A245
      have kp246 : Keep h0 h245 [a1, wa, ia] := kp240.trans (Keep.of_wr W245) (allS (Or.inl (List.mem_of_getElem? (i := 2) rfl)) all0)
      have f247 : AV Z h245 ia .long (own_arr q3 x0 x2 x1 x4) := A245
      refine go_ret K X245 d5_151 (by decide) (by decide) ?_
      have f248 : Exa Z h245 a1 "com/example/plumbline/plumbline/align/WeightHeap" := (((((((H4.keep (Keep.of_wr W171)).keep (Keep.of_wr W195)).keep (Keep.of_wr W202)).keep (Keep.of_wr W226)).keep (Keep.of_wr W233)).keep (Keep.of_wr W239)).keep (Keep.of_wr W245))
      have f249 : Fld Z h245 a1 "com/example/plumbline/plumbline/align/WeightHeap" "weights" "[J" (.ref wa) := ((f236.keep (Keep.of_wr W239) (ninS H11 nin0)).keep (Keep.of_wr W245) (ninS H12 nin0))
      have f250 : Fld Z h245 a1 "com/example/plumbline/plumbline/align/WeightHeap" "items" "[J" (.ref ia) := (f242.keep (Keep.of_wr W245) (ninS H12 nin0))
      have f251 : Fld Z h245 a1 "com/example/plumbline/plumbline/align/WeightHeap" "size" "I" (.int (4 : Int32)) := ((((((f173.keep (Keep.of_wr W195) (ninS H11 nin0)).keep (Keep.of_wr W202) (ninS H12 nin0)).keep (Keep.of_wr W226) (ninS H11 nin0)).keep (Keep.of_wr W233) (ninS H12 nin0)).keep (Keep.of_wr W239) (ninS H11 nin0)).keep (Keep.of_wr W245) (ninS H12 nin0))
      have f252 : AV Z h245 wa .long (own_arr q2 w0 w2 w1 w4) := (f241.keep (Keep.of_wr W245) (ninS H10 nin0))
      rw [e245]
      exact ⟨q2, w0, w2, w1, w4, q3, x0, x2, x1, x4, rfl, kp246, f248, f249, f250, f251, f252, f247, (by have hp := H13; have g0 := own_lt hc177; have g1 := own_lt hc208; omega), (List.Perm.cons _ (List.Perm.cons _ ((List.perm_middle (l₁ := [(w2, x2)]) (a := (w1, x1)) (l₂ := [])).trans (List.Perm.cons _ (List.Perm.cons _ (List.Perm.refl _))))))⟩
theorem ef_rmAdd4 (m : MethodId) (a1 : Addr) (q2 : Int64) (q3 : Int64) : entryFrame m #[(.ref a1), (.long q2), (.long q3)] 7 = mkF m 0 #[.val (.ref a1), .val (.long q2), .second, .val (.long q3), .second, .unset, .unset] [] := by first | (simp [entryFrame, mkF, argsToLocals, Value.category]; done) | rfl
def Q_rmAdd4 (Z : State) (n0 : Nat) (a1 : Addr) (q2 : Int64) (q3 : Int64) (wa : Addr) (ia : Addr) (w0 : Int64) (w1 : Int64) (w2 : Int64) (w3 : Int64) (w4 : Int64) (x0 : Int64) (x1 : Int64) (x2 : Int64) (x3 : Int64) (x4 : Int64) (h0 : Heap) (v : Option Value) (h : Heap) : Prop := ∃ d0 : Int64, ∃ d1 : Int64, ∃ d2 : Int64, ∃ d3 : Int64, ∃ d4 : Int64, ∃ e0 : Int64, ∃ e1 : Int64, ∃ e2 : Int64, ∃ e3 : Int64, ∃ e4 : Int64, v = none ∧ Keep h0 h [a1, wa, ia] ∧ Exa Z h a1 "com/example/plumbline/plumbline/align/WeightHeap" ∧ Fld Z h a1 "com/example/plumbline/plumbline/align/WeightHeap" "weights" "[J" (.ref wa) ∧ Fld Z h a1 "com/example/plumbline/plumbline/align/WeightHeap" "items" "[J" (.ref ia) ∧ Fld Z h a1 "com/example/plumbline/plumbline/align/WeightHeap" "size" "I" (.int (5 : Int32)) ∧ AV Z h wa .long (own_arr d0 d1 d2 d3 d4) ∧ AV Z h ia .long (own_arr e0 e1 e2 e3 e4) ∧ ((d0).toInt ≤ (d1).toInt ∧ (d0).toInt ≤ (d2).toInt ∧ (d1).toInt ≤ (d3).toInt ∧ (d1).toInt ≤ (d4).toInt) ∧ (List.Perm [(d0, e0), (d1, e1), (d2, e2), (d3, e3), (d4, e4)] [(q2, q3), (w0, x0), (w1, x1), (w2, x2), (w3, x3)])
abbrev R_rmAdd4 : Room := { frames := 0, cells := 0, slots := 0, locals := 0 }
set_option maxRecDepth 65536 in
set_option maxHeartbeats 40000000 in
theorem rmAdd4 {l : Launch} {Z : State} {n0 : Nat} {a0 : Array Value} (hw : ∀ d ∈ tables_1, d.before a0 Z = true) (a1 : Addr) (q2 : Int64) (q3 : Int64) (wa : Addr) (ia : Addr) (w0 : Int64) (w1 : Int64) (w2 : Int64) (w3 : Int64) (w4 : Int64) (x0 : Int64) (x1 : Int64) (x2 : Int64) (x3 : Int64) (x4 : Int64) (h0 : Heap) (H0 : n0 ≤ h0.size) (H1 : n0 ≤ a1) (H2 : n0 ≤ wa) (H3 : n0 ≤ ia) (H4 : Exa Z h0 a1 "com/example/plumbline/plumbline/align/WeightHeap") (H5 : Fld Z h0 a1 "com/example/plumbline/plumbline/align/WeightHeap" "weights" "[J" (.ref wa)) (H6 : Fld Z h0 a1 "com/example/plumbline/plumbline/align/WeightHeap" "items" "[J" (.ref ia)) (H7 : Fld Z h0 a1 "com/example/plumbline/plumbline/align/WeightHeap" "size" "I" (.int (4 : Int32))) (H8 : AV Z h0 wa .long (own_arr w0 w1 w2 w3 w4)) (H9 : AV Z h0 ia .long (own_arr x0 x1 x2 x3 x4)) (H10 : wa ≠ ia) (H11 : a1 ≠ wa) (H12 : a1 ≠ ia) (H13 : (w0).toInt ≤ (w1).toInt ∧ (w0).toInt ≤ (w2).toInt ∧ (w1).toInt ≤ (w3).toInt) :
    Con l Z n0 (⟨"com/example/plumbline/plumbline/align/WeightHeap", "add", "(JJ)V"⟩ : MethodName) prog_61_method_5_code 7 none R_rmAdd4 #[(.ref a1), (.long q2), (.long q3)] h0 (Q_rmAdd4 Z n0 a1 q2 q3 wa ia w0 w1 w2 w3 w4 x0 x1 x2 x3 x4 h0) := by
  refine con_of (plainFor_of_name pn_com_example_plumbline_plumbline_align_WeightHeap) ?_
  intro p e s m below meth c T0 K X0 e0
  replace K : Ctx p s m meth c Z "com/example/plumbline/plumbline/align/WeightHeap" "add" prog_61_method_5_code 7 none := K
  refine go_entry (ef_rmAdd4 m a1 q2 q3) ?_
  refine go_aloadN K X0 d5_0 rfl rfl rfl ?_
  refine go_getF K X0 (host := "") (Or.inl (wd hw 33 rfl)) Via.refl e0 H7 d5_1 rfl ?_
  intro T253 X253 e253
  refine go_aloadN K X253 d5_4 rfl rfl rfl ?_
  refine go_getF K X253 (host := "") (Or.inl (wd hw 12 rfl)) Via.refl e253 H6 d5_5 rfl ?_
  intro T254 X254 e254
  refine go_arraylength K X254 e254 H9 (z := (64 : Int32)) rfl d5_8 rfl ?_
  refine go_icmpT K X254 d5_9 (by decide) rfl (by decide : ¬ (4 : Int32) = (64 : Int32)) ?_
  refine go_aloadN K X254 d5_58 rfl rfl rfl ?_
  refine go_dup K X254 d5_59 rfl rfl ?_
  refine go_getF K X254 (host := "") (Or.inl (wd hw 33 rfl)) Via.refl e254 H7 d5_60 rfl ?_
  intro T255 X255 e255
  refine go_dupX1 K X255 d5_63 rfl rfl rfl ?_
  refine go_iconst K X255 (1 : Int32) d5_64 rfl rfl ?_
  refine go_iadd K X255 d5_65 rfl ?_
  rw [show ((4 : Int32) + (1 : Int32)) = (5 : Int32) from by decide]
  refine go_putF K X255 (host := "") (Or.inl (wd hw 33 rfl)) Via.refl e255 H7 H4 (Or.inl (wd hw 34 rfl)) (wd hw 2 rfl) (ty := .int) (by decide) rfl rfl H1 d5_66 rfl ?_
  intro T256 h256 X256 e256 W256
  have kp257 : Keep h0 h256 [a1, wa, ia] := (Keep.refl h0 [a1, wa, ia]).trans (Keep.of_wr W256) (allS (Or.inl (List.mem_of_getElem? (i := 0) rfl)) all0)
  have f258 : Fld Z h256 a1 "com/example/plumbline/plumbline/align/WeightHeap" "size" "I" (.int (5 : Int32)) := H7.same W256
  refine go_istore K X256 #[.val (.ref a1), .val (.long q2), .second, .val (.long q3), .second, .val (.int (4 : Int32)), .unset] d5_69 rfl rfl ?_
  refine go_iload K X256 d5_71 rfl rfl ?_
  refine go_ifF K X256 d5_73 rfl (by decide : (0 : Int32) < (4 : Int32)) ?_
  refine go_lloadN K X256 d5_76 rfl rfl ?_
  refine go_aloadN K X256 d5_77 rfl rfl rfl ?_
  have f259 : Fld Z h256 a1 "com/example/plumbline/plumbline/align/WeightHeap" "weights" "[J" (.ref wa) := (H5.other W256 (Or.inr (slot_ne (Or.inl (wd hw 11 rfl)) (Or.inl (wd hw 34 rfl)) (by decide) (t := (.array .long)) (t' := .int) (by decide) (by decide))))
  refine go_getF K X256 (host := "") (Or.inl (wd hw 10 rfl)) Via.refl e256 f259 d5_78 rfl ?_
  intro T260 X260 e260
  refine go_iload K X260 d5_81 rfl rfl ?_
  refine go_iconst K X260 (1 : Int32) d5_83 rfl rfl ?_
  refine go_isub K X260 d5_84 rfl ?_
  rw [show ((4 : Int32) - (1 : Int32)) = (3 : Int32) from by decide]
  refine go_iconst K X260 (2 : Int32) d5_85 rfl rfl ?_
  refine go_idiv K X260 d5_86 (by decide) rfl ?_
  rw [show ((3 : Int32) / (2 : Int32)) = (1 : Int32) from by decide]
  have f261 : AV Z h256 wa .long (own_arr w0 w1 w2 w3 w4) := (H8.keep (Keep.of_wr W256) (ninS (Ne.symm H11) nin0))
  refine go_laload K X260 e260 f261 (i := 1) rfl rfl d5_87 rfl ?_
  refine go_lif K X260 d5_88 rfl d5_89 (by decide) rfl rfl ?_ ?_
  · intro (hc262 : ¬ q2 < w1)
    refine go_aloadN K X260 d5_135 rfl rfl rfl ?_
    refine go_getF K X260 (host := "") (Or.inl (wd hw 10 rfl)) Via.refl e260 f259 d5_136 rfl ?_
    intro T263 X263 e263
    refine go_iload K X263 d5_139 rfl rfl ?_
    refine go_lloadN K X263 d5_141 rfl rfl ?_
    refine go_lastore K X263 e263 f261 (i := 4) rfl (Nat.le_of_ble_eq_true rfl) H2 d5_142 rfl ?_
    intro T264 h264 X264 e264 W264 A264
    have kp265 : Keep h0 h264 [a1, wa, ia] := kp257.trans (Keep.of_wr W264) (allS (Or.inl (List.mem_of_getElem? (i := 1) rfl)) all0)
    have f266 : AV Z h264 wa .long (own_arr w0 w1 w2 w3 q2) := A264
    refine go_aloadN K X264 d5_143 rfl rfl rfl ?_
    have f267 : Fld Z h264 a1 "com/example/plumbline/plumbline/align/WeightHeap" "items" "[J" (.ref ia) := ((H6.other W256 (Or.inr (slot_ne (Or.inl (wd hw 13 rfl)) (Or.inl (wd hw 34 rfl)) (by decide) (t := (.array .long)) (t' := .int) (by decide) (by decide)))).keep (Keep.of_wr W264) (ninS H11 nin0))
    refine go_getF K X264 (host := "") (Or.inl (wd hw 12 rfl)) Via.refl e264 f267 d5_144 rfl ?_
    intro T268 X268 e268
    refine go_iload K X268 d5_147 rfl rfl ?_
    refine go_lloadN K X268 d5_149 rfl rfl ?_
    have f269 : AV Z h264 ia .long (own_arr x0 x1 x2 x3 x4) := ((H9.keep (Keep.of_wr W256) (ninS (Ne.symm H12) nin0)).keep (Keep.of_wr W264) (ninS (Ne.symm H10) nin0))
    refine go_lastore K X268 e268 f269 (i := 4) rfl (Nat.le_of_ble_eq_true rfl) H3 d5_150 rfl ?_
    intro T270 h270 X270 e270 W270 A270
    have kp271 : Keep h0 h270 [a1, wa, ia] := kp265.trans (Keep.of_wr W270) (allS (Or.inl (List.mem_of_getElem? (i := 2) rfl)) all0)
    have f272 : AV Z h270 ia .long (own_arr x0 x1 x2 x3 q3) := A270
    refine go_ret K X270 d5_151 (by decide) (by decide) ?_
    have f273 : Exa Z h270 a1 "com/example/plumbline/plumbline/align/WeightHeap" := (((H4.keep (Keep.of_wr W256)).keep (Keep.of_wr W264)).keep (Keep.of_wr W270))
    have f274 : Fld Z h270 a1 "com/example/plumbline/plumbline/align/WeightHeap" "weights" "[J" (.ref wa) := ((f259.keep (Keep.of_wr W264) (ninS H11 nin0)).keep (Keep.of_wr W270) (ninS H12 nin0))
    have f275 : Fld Z h270 a1 "com/example/plumbline/plumbline/align/WeightHeap" "items" "[J" (.ref ia) := (f267.keep (Keep.of_wr W270) (ninS H12 nin0))
    have f276 : Fld Z h270 a1 "com/example/plumbline/plumbline/align/WeightHeap" "size" "I" (.int (5 : Int32)) := ((f258.keep (Keep.of_wr W264) (ninS H11 nin0)).keep (Keep.of_wr W270) (ninS H12 nin0))
    have f277 : AV Z h270 wa .long (own_arr w0 w1 w2 w3 q2) := (f266.keep (Keep.of_wr W270) (ninS H10 nin0))
    rw [e270]
    exact ⟨w0, w1, w2, w3, q2, x0, x1, x2, x3, q3, rfl, kp271, f273, f274, f275, f276, f277, f272, (by have hp := H13; have g0 := own_nlt hc262; omega), ((List.perm_middle (l₁ := [(w0, x0), (w1, x1), (w2, x2), (w3, x3)]) (a := (q2, q3)) (l₂ := [])).trans (List.Perm.cons _ (List.Perm.cons _ (List.Perm.cons _ (List.Perm.cons _ (List.Perm.cons _ (List.Perm.refl _)))))))⟩
  · intro (hc262 : q2 < w1)
    refine go_iload K X260 d5_92 rfl rfl ?_
    refine go_iconst K X260 (1 : Int32) d5_94 rfl rfl ?_
    refine go_isub K X260 d5_95 rfl ?_
    rw [show ((4 : Int32) - (1 : Int32)) = (3 : Int32) from by decide]
    refine go_iconst K X260 (2 : Int32) d5_96 rfl rfl ?_
    refine go_idiv K X260 d5_97 (by decide) rfl ?_
    rw [show ((3 : Int32) / (2 : Int32)) = (1 : Int32) from by decide]
    refine go_istore K X260 #[.val (.ref a1), .val (.long q2), .second, .val (.long q3), .second, .val (.int (4 : Int32)), .val (.int (1 : Int32))] d5_98 rfl rfl ?_
    refine go_aloadN K X260 d5_100 rfl rfl rfl ?_
    refine go_getF K X260 (host := "") (Or.inl (wd hw 10 rfl)) Via.refl e260 f259 d5_101 rfl ?_
    intro T278 X278 e278
    refine go_iload K X278 d5_104 rfl rfl ?_
    refine go_aloadN K X278 d5_106 rfl rfl rfl ?_
    refine go_getF K X278 (host := "") (Or.inl (wd hw 10 rfl)) Via.refl e278 f259 d5_107 rfl ?_
    intro T279 X279 e279
    refine go_iload K X279 d5_110 rfl rfl ?_
    refine go_laload K X279 e279 f261 (i := 1) rfl rfl d5_112 rfl ?_
    refine go_lastore K X279 e279 f261 (i := 4) rfl (Nat.le_of_ble_eq_true rfl) H2 d5_113 rfl ?_
    intro T280 h280 X280 e280 W280 A280
    have kp281 : Keep h0 h280 [a1, wa, ia] := kp257.trans (Keep.of_wr W280) (allS (Or.inl (List.mem_of_getElem? (i := 1) rfl)) all0)
    have f282 : AV Z h280 wa .long (own_arr w0 w1 w2 w3 w1) := A280
    refine go_aloadN K X280 d5_114 rfl rfl rfl ?_
    have f283 : Fld Z h280 a1 "com/example/plumbline/plumbline/align/WeightHeap" "items" "[J" (.ref ia) := ((H6.other W256 (Or.inr (slot_ne (Or.inl (wd hw 13 rfl)) (Or.inl (wd hw 34 rfl)) (by decide) (t := (.array .long)) (t' := .int) (by decide) (by decide)))).keep (Keep.of_wr W280) (ninS H11 nin0))
    refine go_getF K X280 (host := "") (Or.inl (wd hw 12 rfl)) Via.refl e280 f283 d5_115 rfl ?_
    intro T284 X284 e284
    refine go_iload K X284 d5_118 rfl rfl ?_
    refine go_aloadN K X284 d5_120 rfl rfl rfl ?_
    refine go_getF K X284 (host := "") (Or.inl (wd hw 12 rfl)) Via.refl e284 f283 d5_121 rfl ?_
    intro T285 X285 e285
    refine go_iload K X285 d5_124 rfl rfl ?_
    have f286 : AV Z h280 ia .long (own_arr x0 x1 x2 x3 x4) := ((H9.keep (Keep.of_wr W256) (ninS (Ne.symm H12) nin0)).keep (Keep.of_wr W280) (ninS (Ne.symm H10) nin0))
    refine go_laload K X285 e285 f286 (i := 1) rfl rfl d5_126 rfl ?_
    refine go_lastore K X285 e285 f286 (i := 4) rfl (Nat.le_of_ble_eq_true rfl) H3 d5_127 rfl ?_
    intro T287 h287 X287 e287 W287 A287
    have kp288 : Keep h0 h287 [a1, wa, ia] := kp281.trans (Keep.of_wr W287) (allS (Or.inl (List.mem_of_getElem? (i := 2) rfl)) all0)
    have f289 : AV Z h287 ia .long (own_arr x0 x1 x2 x3 x1) := A287
    refine go_iload K X287 d5_128 rfl rfl ?_
    refine go_istore K X287 #[.val (.ref a1), .val (.long q2), .second, .val (.long q3), .second, .val (.int (1 : Int32)), .val (.int (1 : Int32))] d5_130 rfl rfl ?_
    refine go_goto K X287 d5_132 (by decide) rfl ?_
    refine go_iload K X287 d5_71 rfl rfl ?_
    refine go_ifF K X287 d5_73 rfl (by decide : (0 : Int32) < (1 : Int32)) ?_
    refine go_lloadN K X287 d5_76 rfl rfl ?_
    refine go_aloadN K X287 d5_77 rfl rfl rfl ?_
    have f290 : Fld Z h287 a1 "com/example/plumbline/plumbline/align/WeightHeap" "weights" "[J" (.ref wa) := ((f259.keep (Keep.of_wr W280) (ninS H11 nin0)).keep (Keep.of_wr W287) (ninS H12 nin0))
    refine go_getF K X287 (host := "") (Or.inl (wd hw 10 rfl)) Via.refl e287 f290 d5_78 rfl ?_
    intro T291 X291 e291
    refine go_iload K X291 d5_81 rfl rfl ?_
    refine go_iconst K X291 (1 : Int32) d5_83 rfl rfl ?_
    refine go_isub K X291 d5_84 rfl ?_
    rw [show ((1 : Int32) - (1 : Int32)) = (0 : Int32) from by decide]
    refine go_iconst K X291 (2 : Int32) d5_85 rfl rfl ?_
    refine go_idiv K X291 d5_86 (by decide) rfl ?_
    rw [show ((0 : Int32) / (2 : Int32)) = (0 : Int32) from by decide]
    have f292 : AV Z h287 wa .long (own_arr w0 w1 w2 w3 w1) := (f282.keep (Keep.of_wr W287) (ninS H10 nin0))
    refine go_laload K X291 e291 f292 (i := 0) rfl rfl d5_87 rfl ?_
    refine go_lif K X291 d5_88 rfl d5_89 (by decide) rfl rfl ?_ ?_
    · intro (hc293 : ¬ q2 < w0)
      refine go_aloadN K X291 d5_135 rfl rfl rfl ?_
      refine go_getF K X291 (host := "") (Or.inl (wd hw 10 rfl)) Via.refl e291 f290 d5_136 rfl ?_
      intro T294 X294 e294
      refine go_iload K X294 d5_139 rfl rfl ?_
      refine go_lloadN K X294 d5_141 rfl rfl ?_
      refine go_lastore K X294 e294 f292 (i := 1) rfl (Nat.le_of_ble_eq_true rfl) H2 d5_142 rfl ?_
      intro T295 h295 X295 e295 W295 A295
      have kp296 : Keep h0 h295 [a1, wa, ia] := kp288.trans (Keep.of_wr W295) (allS (Or.inl (List.mem_of_getElem? (i := 1) rfl)) all0)
      have f297 : AV Z h295 wa .long (own_arr w0 q2 w2 w3 w1) := A295
      refine go_aloadN K X295 d5_143 rfl rfl rfl ?_
      have f298 : Fld Z h295 a1 "com/example/plumbline/plumbline/align/WeightHeap" "items" "[J" (.ref ia) := ((f283.keep (Keep.of_wr W287) (ninS H12 nin0)).keep (Keep.of_wr W295) (ninS H11 nin0))
      refine go_getF K X295 (host := "") (Or.inl (wd hw 12 rfl)) Via.refl e295 f298 d5_144 rfl ?_
      intro T299 X299 e299
      refine go_iload K X299 d5_147 rfl rfl ?_
      refine go_lloadN K X299 d5_149 rfl rfl ?_
      have f300 : AV Z h295 ia .long (own_arr x0 x1 x2 x3 x1) := (f289.keep (Keep.of_wr W295) (ninS (Ne.symm H10) nin0))
      refine go_lastore K X299 e299 f300 (i := 1) rfl (Nat.le_of_ble_eq_true rfl) H3 d5_150 rfl ?_
      intro T301 h301 X301 e301 W301 A301
      have kp302 : Keep h0 h301 [a1, wa, ia] := kp296.trans (Keep.of_wr W301) (allS (Or.inl (List.mem_of_getElem? (i := 2) rfl)) all0)
      have f303 : AV Z h301 ia .long (own_arr x0 q3 x2 x3 x1) := A301
      refine go_ret K X301 d5_151 (by decide) (by decide) ?_
      have f304 : Exa Z h301 a1 "com/example/plumbline/plumbline/align/WeightHeap" := (((((H4.keep (Keep.of_wr W256)).keep (Keep.of_wr W280)).keep (Keep.of_wr W287)).keep (Keep.of_wr W295)).keep (Keep.of_wr W301))
      have f305 : Fld Z h301 a1 "com/example/plumbline/plumbline/align/WeightHeap" "weights" "[J" (.ref wa) := ((f290.keep (Keep.of_wr W295) (ninS H11 nin0)).keep (Keep.of_wr W301) (ninS H12 nin0))
      have f306 : Fld Z h301 a1 "com/example/plumbline/plumbline/align/WeightHeap" "items" "[J" (.ref ia) := (f298.keep (Keep.of_wr W301) (ninS H12 nin0))
      have f307 : Fld Z h301 a1 "com/example/plumbline/plumbline/align/WeightHeap" "size" "I" (.int (5 : Int32)) := ((((f258.keep (Keep.of_wr W280) (ninS H11 nin0)).keep (Keep.of_wr W287) (ninS H12 nin0)).keep (Keep.of_wr W295) (ninS H11 nin0)).keep (Keep.of_wr W301) (ninS H12 nin0))
      have f308 : AV Z h301 wa .long (own_arr w0 q2 w2 w3 w1) := (f297.keep (Keep.of_wr W301) (ninS H10 nin0))
      rw [e301]
      exact ⟨w0, q2, w2, w3, w1, x0, q3, x2, x3, x1, rfl, kp302, f304, f305, f306, f307, f308, f303, (by have hp := H13; have g0 := own_lt hc262; have g1 := own_nlt hc293; omega), ((List.perm_middle (l₁ := [(w0, x0)]) (a := (q2, q3)) (l₂ := [(w2, x2), (w3, x3), (w1, x1)])).trans (List.Perm.cons _ (List.Perm.cons _ ((List.perm_middle (l₁ := [(w2, x2), (w3, x3)]) (a := (w1, x1)) (l₂ := [])).trans (List.Perm.cons _ (List.Perm.cons _ (List.Perm.cons _ (List.Perm.refl _))))))))⟩
    · intro (hc293 : q2 < w0)
      refine go_iload K X291 d5_92 rfl rfl ?_
      refine go_iconst K X291 (1 : Int32) d5_94 rfl rfl ?_
      refine go_isub K X291 d5_95 rfl ?_
      rw [show ((1 : Int32) - (1 : Int32)) = (0 : Int32) from by decide]
      refine go_iconst K X291 (2 : Int32) d5_96 rfl rfl ?_
      refine go_idiv K X291 d5_97 (by decide) rfl ?_
      rw [show ((0 : Int32) / (2 : Int32)) = (0 : Int32) from by decide]
      refine go_istore K X291 #[.val (.ref a1), .val (.long q2), .second, .val (.long q3), .second, .val (.int (1 : Int32)), .val (.int (0 : Int32))] d5_98 rfl rfl ?_
      refine go_aloadN K X291 d5_100 rfl rfl rfl ?_
      refine go_getF K X291 (host := "") (Or.inl (wd hw 10 rfl)) Via.refl e291 f290 d5_101 rfl ?_
      intro T309 X309 e309
      refine go_iload K X309 d5_104 rfl rfl ?_
      refine go_aloadN K X309 d5_106 rfl rfl rfl ?_
      refine go_getF K X309 (host := "") (Or.inl (wd hw 10 rfl)) Via.refl e309 f290 d5_107 rfl ?_
      intro T310 X310 e310
      refine go_iload K X310 d5_110 rfl rfl ?_
      refine go_laload K X310 e310 f292 (i := 0) rfl rfl d5_112 rfl ?_
      refine go_lastore K X310 e310 f292 (i := 1) rfl (Nat.le_of_ble_eq_true rfl) H2 d5_113 rfl ?_
      intro T311 h311 X311 e311 W311 A311
      have kp312 : Keep h0 h311 [a1, wa, ia] := kp288.trans (Keep.of_wr W311) (allS (Or.inl (List.mem_of_getElem? (i := 1) rfl)) all0)
      have f313 : AV Z h311 wa .long (own_arr w0 w0 w2 w3 w1) := A311
      refine go_aloadN K X311 d5_114 rfl rfl rfl ?_
      have f314 : Fld Z h311 a1 "com/example/plumbline/plumbline/align/WeightHeap" "items" "[J" (.ref ia) := ((f283.keep (Keep.of_wr W287) (ninS H12 nin0)).keep (Keep.of_wr W311) (ninS H11 nin0))
      refine go_getF K X311 (host := "") (Or.inl (wd hw 12 rfl)) Via.refl e311 f314 d5_115 rfl ?_
      intro T315 X315 e315
      refine go_iload K X315 d5_118 rfl rfl ?_
      refine go_aloadN K X315 d5_120 rfl rfl rfl ?_
      refine go_getF K X315 (host := "") (Or.inl (wd hw 12 rfl)) Via.refl e315 f314 d5_121 rfl ?_
      intro T316 X316 e316
      refine go_iload K X316 d5_124 rfl rfl ?_
      have f317 : AV Z h311 ia .long (own_arr x0 x1 x2 x3 x1) := (f289.keep (Keep.of_wr W311) (ninS (Ne.symm H10) nin0))
      refine go_laload K X316 e316 f317 (i := 0) rfl rfl d5_126 rfl ?_
      refine go_lastore K X316 e316 f317 (i := 1) rfl (Nat.le_of_ble_eq_true rfl) H3 d5_127 rfl ?_
      intro T318 h318 X318 e318 W318 A318
      have kp319 : Keep h0 h318 [a1, wa, ia] := kp312.trans (Keep.of_wr W318) (allS (Or.inl (List.mem_of_getElem? (i := 2) rfl)) all0)
      have f320 : AV Z h318 ia .long (own_arr x0 x0 x2 x3 x1) := A318
      refine go_iload K X318 d5_128 rfl rfl ?_
      refine go_istore K X318 #[.val (.ref a1), .val (.long q2), .second, .val (.long q3), .second, .val (.int (0 : Int32)), .val (.int (0 : Int32))] d5_130 rfl rfl ?_
      refine go_goto K X318 d5_132 (by decide) rfl ?_
      refine go_iload K X318 d5_71 rfl rfl ?_
      refine go_ifT K X318 d5_73 (by decide) rfl (by decide : ¬ (0 : Int32) < (0 : Int32)) ?_
      refine go_aloadN K X318 d5_135 rfl rfl rfl ?_
      have f321 : Fld Z h318 a1 "com/example/plumbline/plumbline/align/WeightHeap" "weights" "[J" (.ref wa) := ((f290.keep (Keep.of_wr W311) (ninS H11 nin0)).keep (Keep.of_wr W318) (ninS H12 nin0))
      refine go_getF K X318 (host := "") (Or.inl (wd hw 10 rfl)) Via.refl e318 f321 d5_136 rfl ?_
      intro T322 X322 e322
      refine go_iload K X322 d5_139 rfl rfl ?_
      refine go_lloadN K X322 d5_141 rfl rfl ?_
      have f323 : AV Z h318 wa .long (own_arr w0 w0 w2 w3 w1) := (f313.keep (Keep.of_wr W318) (ninS H10 nin0))
      refine go_lastore K X322 e322 f323 (i := 0) rfl (Nat.le_of_ble_eq_true rfl) H2 d5_142 rfl ?_
      intro T324 h324 X324 e324 W324 A324
      have kp325 : Keep h0 h324 [a1, wa, ia] := kp319.trans (Keep.of_wr W324) (allS (Or.inl (List.mem_of_getElem? (i := 1) rfl)) all0)
      have f326 : AV Z h324 wa .long (own_arr q2 w0 w2 w3 w1) := A324
      refine go_aloadN K X324 d5_143 rfl rfl rfl ?_
      have f327 : Fld Z h324 a1 "com/example/plumbline/plumbline/align/WeightHeap" "items" "[J" (.ref ia) := ((f314.keep (Keep.of_wr W318) (ninS H12 nin0)).keep (Keep.of_wr W324) (ninS H11 nin0))
      refine go_getF K X324 (host := "") (Or.inl (wd hw 12 rfl)) Via.refl e324 f327 d5_144 rfl ?_
      intro T328 X328 e328
      refine go_iload K X328 d5_147 rfl rfl ?_
      refine go_lloadN K X328 d5_149 rfl rfl ?_
      have f329 : AV Z h324 ia .long (own_arr x0 x0 x2 x3 x1) := (f320.keep (Keep.of_wr W324) (ninS (Ne.symm H10) nin0))
      refine go_lastore K X328 e328 f329 (i := 0) rfl (Nat.le_of_ble_eq_true rfl) H3 d5_150 rfl ?_
      intro T330 h330 X330 e330 W330 A330
      have kp331 : Keep h0 h330 [a1, wa, ia] := kp325.trans (Keep.of_wr W330) (allS (Or.inl (List.mem_of_getElem? (i := 2) rfl)) all0)
      have f332 : AV Z h330 ia .long (own_arr q3 x0 x2 x3 x1) := A330
      refine go_ret K X330 d5_151 (by decide) (by decide) ?_
      have f333 : Exa Z h330 a1 "com/example/plumbline/plumbline/align/WeightHeap" := (((((((H4.keep (Keep.of_wr W256)).keep (Keep.of_wr W280)).keep (Keep.of_wr W287)).keep (Keep.of_wr W311)).keep (Keep.of_wr W318)).keep (Keep.of_wr W324)).keep (Keep.of_wr W330))
      have f334 : Fld Z h330 a1 "com/example/plumbline/plumbline/align/WeightHeap" "weights" "[J" (.ref wa) := ((f321.keep (Keep.of_wr W324) (ninS H11 nin0)).keep (Keep.of_wr W330) (ninS H12 nin0))
      have f335 : Fld Z h330 a1 "com/example/plumbline/plumbline/align/WeightHeap" "items" "[J" (.ref ia) := (f327.keep (Keep.of_wr W330) (ninS H12 nin0))
      have f336 : Fld Z h330 a1 "com/example/plumbline/plumbline/align/WeightHeap" "size" "I" (.int (5 : Int32)) := ((((((f258.keep (Keep.of_wr W280) (ninS H11 nin0)).keep (Keep.of_wr W287) (ninS H12 nin0)).keep (Keep.of_wr W311) (ninS H11 nin0)).keep (Keep.of_wr W318) (ninS H12 nin0)).keep (Keep.of_wr W324) (ninS H11 nin0)).keep (Keep.of_wr W330) (ninS H12 nin0))
      have f337 : AV Z h330 wa .long (own_arr q2 w0 w2 w3 w1) := (f326.keep (Keep.of_wr W330) (ninS H10 nin0))
      rw [e330]
      exact ⟨q2, w0, w2, w3, w1, q3, x0, x2, x3, x1, rfl, kp331, f333, f334, f335, f336, f337, f332, (by have hp := H13; have g0 := own_lt hc262; have g1 := own_lt hc293; omega), (List.Perm.cons _ (List.Perm.cons _ ((List.perm_middle (l₁ := [(w2, x2), (w3, x3)]) (a := (w1, x1)) (l₂ := [])).trans (List.Perm.cons _ (List.Perm.cons _ (List.Perm.cons _ (List.Perm.refl _)))))))⟩
theorem d6_0 : decode prog_61_method_7_code 0 = .ok (.aload_n 0, 1) := by decide +kernel
theorem d6_1 : decode prog_61_method_7_code 1 = .ok (.getfield 13, 3) := by decide +kernel
theorem d6_4 : decode prog_61_method_7_code 4 = .ok (.iconst 0, 1) := by decide +kernel
theorem d6_5 : decode prog_61_method_7_code 5 = .ok (.laload, 1) := by decide +kernel
theorem d6_6 : decode prog_61_method_7_code 6 = .ok (.lstore_n 1, 1) := by decide +kernel
theorem d6_7 : decode prog_61_method_7_code 7 = .ok (.aload_n 0, 1) := by decide +kernel
theorem d6_8 : decode prog_61_method_7_code 8 = .ok (.dup, 1) := by decide +kernel
theorem d6_9 : decode prog_61_method_7_code 9 = .ok (.getfield 24, 3) := by decide +kernel
theorem d6_12 : decode prog_61_method_7_code 12 = .ok (.iconst 1, 1) := by decide +kernel
theorem d6_13 : decode prog_61_method_7_code 13 = .ok (.isub, 1) := by decide +kernel
theorem d6_14 : decode prog_61_method_7_code 14 = .ok (.putfield 24, 3) := by decide +kernel
theorem d6_17 : decode prog_61_method_7_code 17 = .ok (.aload_n 0, 1) := by decide +kernel
theorem d6_18 : decode prog_61_method_7_code 18 = .ok (.getfield 7, 3) := by decide +kernel
theorem d6_21 : decode prog_61_method_7_code 21 = .ok (.aload_n 0, 1) := by decide +kernel
theorem d6_22 : decode prog_61_method_7_code 22 = .ok (.getfield 24, 3) := by decide +kernel
theorem d6_25 : decode prog_61_method_7_code 25 = .ok (.laload, 1) := by decide +kernel
theorem d6_26 : decode prog_61_method_7_code 26 = .ok (.lstore_n 3, 1) := by decide +kernel
theorem d6_27 : decode prog_61_method_7_code 27 = .ok (.aload_n 0, 1) := by decide +kernel
theorem d6_28 : decode prog_61_method_7_code 28 = .ok (.getfield 13, 3) := by decide +kernel
theorem d6_31 : decode prog_61_method_7_code 31 = .ok (.aload_n 0, 1) := by decide +kernel
theorem d6_32 : decode prog_61_method_7_code 32 = .ok (.getfield 24, 3) := by decide +kernel
theorem d6_35 : decode prog_61_method_7_code 35 = .ok (.laload, 1) := by decide +kernel
theorem d6_36 : decode prog_61_method_7_code 36 = .ok (.lstore 5, 2) := by decide +kernel
theorem d6_38 : decode prog_61_method_7_code 38 = .ok (.iconst 0, 1) := by decide +kernel
theorem d6_39 : decode prog_61_method_7_code 39 = .ok (.istore 7, 2) := by decide +kernel
theorem d6_41 : decode prog_61_method_7_code 41 = .ok (.iconst 2, 1) := by decide +kernel
theorem d6_42 : decode prog_61_method_7_code 42 = .ok (.iload 7, 2) := by decide +kernel
theorem d6_44 : decode prog_61_method_7_code 44 = .ok (.imul, 1) := by decide +kernel
theorem d6_45 : decode prog_61_method_7_code 45 = .ok (.iconst 1, 1) := by decide +kernel
theorem d6_46 : decode prog_61_method_7_code 46 = .ok (.iadd, 1) := by decide +kernel
theorem d6_47 : decode prog_61_method_7_code 47 = .ok (.aload_n 0, 1) := by decide +kernel
theorem d6_48 : decode prog_61_method_7_code 48 = .ok (.getfield 24, 3) := by decide +kernel
theorem d6_51 : decode prog_61_method_7_code 51 = .ok (.if_icmp .ge 95, 3) := by decide +kernel
theorem d6_54 : decode prog_61_method_7_code 54 = .ok (.iconst 2, 1) := by decide +kernel
theorem d6_55 : decode prog_61_method_7_code 55 = .ok (.iload 7, 2) := by decide +kernel
theorem d6_57 : decode prog_61_method_7_code 57 = .ok (.imul, 1) := by decide +kernel
theorem d6_58 : decode prog_61_method_7_code 58 = .ok (.iconst 1, 1) := by decide +kernel
theorem d6_59 : decode prog_61_method_7_code 59 = .ok (.iadd, 1) := by decide +kernel
theorem d6_60 : decode prog_61_method_7_code 60 = .ok (.istore 8, 2) := by decide +kernel
theorem d6_62 : decode prog_61_method_7_code 62 = .ok (.iload 8, 2) := by decide +kernel
theorem d6_64 : decode prog_61_method_7_code 64 = .ok (.iconst 1, 1) := by decide +kernel
theorem d6_65 : decode prog_61_method_7_code 65 = .ok (.iadd, 1) := by decide +kernel
theorem d6_66 : decode prog_61_method_7_code 66 = .ok (.aload_n 0, 1) := by decide +kernel
theorem d6_67 : decode prog_61_method_7_code 67 = .ok (.getfield 24, 3) := by decide +kernel
theorem d6_70 : decode prog_61_method_7_code 70 = .ok (.if_icmp .ge 26, 3) := by decide +kernel
theorem d6_73 : decode prog_61_method_7_code 73 = .ok (.aload_n 0, 1) := by decide +kernel
theorem d6_74 : decode prog_61_method_7_code 74 = .ok (.getfield 7, 3) := by decide +kernel
theorem d6_77 : decode prog_61_method_7_code 77 = .ok (.iload 8, 2) := by decide +kernel
theorem d6_79 : decode prog_61_method_7_code 79 = .ok (.iconst 1, 1) := by decide +kernel
theorem d6_80 : decode prog_61_method_7_code 80 = .ok (.iadd, 1) := by decide +kernel
theorem d6_81 : decode prog_61_method_7_code 81 = .ok (.laload, 1) := by decide +kernel
theorem d6_82 : decode prog_61_method_7_code 82 = .ok (.aload_n 0, 1) := by decide +kernel
theorem d6_83 : decode prog_61_method_7_code 83 = .ok (.getfield 7, 3) := by decide +kernel
theorem d6_86 : decode prog_61_method_7_code 86 = .ok (.iload 8, 2) := by decide +kernel
theorem d6_88 : decode prog_61_method_7_code 88 = .ok (.laload, 1) := by decide +kernel
theorem d6_89 : decode prog_61_method_7_code 89 = .ok (.lcmp, 1) := by decide +kernel
theorem d6_90 : decode prog_61_method_7_code 90 = .ok (.ifCond .ge 6, 3) := by decide +kernel
theorem d6_96 : decode prog_61_method_7_code 96 = .ok (.aload_n 0, 1) := by decide +kernel
theorem d6_97 : decode prog_61_method_7_code 97 = .ok (.getfield 7, 3) := by decide +kernel
theorem d6_100 : decode prog_61_method_7_code 100 = .ok (.iload 8, 2) := by decide +kernel
theorem d6_102 : decode prog_61_method_7_code 102 = .ok (.laload, 1) := by decide +kernel
theorem d6_103 : decode prog_61_method_7_code 103 = .ok (.lload_n 3, 1) := by decide +kernel
theorem d6_104 : decode prog_61_method_7_code 104 = .ok (.lcmp, 1) := by decide +kernel
theorem d6_105 : decode prog_61_method_7_code 105 = .ok (.ifCond .lt 6, 3) := by decide +kernel
theorem d6_111 : decode prog_61_method_7_code 111 = .ok (.aload_n 0, 1) := by decide +kernel
theorem d6_112 : decode prog_61_method_7_code 112 = .ok (.getfield 7, 3) := by decide +kernel
theorem d6_115 : decode prog_61_method_7_code 115 = .ok (.iload 7, 2) := by decide +kernel
theorem d6_117 : decode prog_61_method_7_code 117 = .ok (.aload_n 0, 1) := by decide +kernel
theorem d6_118 : decode prog_61_method_7_code 118 = .ok (.getfield 7, 3) := by decide +kernel
theorem d6_121 : decode prog_61_method_7_code 121 = .ok (.iload 8, 2) := by decide +kernel
theorem d6_123 : decode prog_61_method_7_code 123 = .ok (.laload, 1) := by decide +kernel
theorem d6_124 : decode prog_61_method_7_code 124 = .ok (.lastore, 1) := by decide +kernel
theorem d6_125 : decode prog_61_method_7_code 125 = .ok (.aload_n 0, 1) := by decide +kernel
theorem d6_126 : decode prog_61_method_7_code 126 = .ok (.getfield 13, 3) := by decide +kernel
theorem d6_129 : decode prog_61_method_7_code 129 = .ok (.iload 7, 2) := by decide +kernel
theorem d6_131 : decode prog_61_method_7_code 131 = .ok (.aload_n 0, 1) := by decide +kernel
theorem d6_132 : decode prog_61_method_7_code 132 = .ok (.getfield 13, 3) := by decide +kernel
theorem d6_135 : decode prog_61_method_7_code 135 = .ok (.iload 8, 2) := by decide +kernel
theorem d6_137 : decode prog_61_method_7_code 137 = .ok (.laload, 1) := by decide +kernel
theorem d6_138 : decode prog_61_method_7_code 138 = .ok (.lastore, 1) := by decide +kernel
theorem d6_139 : decode prog_61_method_7_code 139 = .ok (.iload 8, 2) := by decide +kernel
theorem d6_141 : decode prog_61_method_7_code 141 = .ok (.istore 7, 2) := by decide +kernel
theorem d6_143 : decode prog_61_method_7_code 143 = .ok (.goto (-102), 3) := by decide +kernel
theorem d6_146 : decode prog_61_method_7_code 146 = .ok (.aload_n 0, 1) := by decide +kernel
theorem d6_147 : decode prog_61_method_7_code 147 = .ok (.getfield 7, 3) := by decide +kernel
theorem d6_150 : decode prog_61_method_7_code 150 = .ok (.iload 7, 2) := by decide +kernel
theorem d6_152 : decode prog_61_method_7_code 152 = .ok (.lload_n 3, 1) := by decide +kernel
theorem d6_153 : decode prog_61_method_7_code 153 = .ok (.lastore, 1) := by decide +kernel
theorem d6_154 : decode prog_61_method_7_code 154 = .ok (.aload_n 0, 1) := by decide +kernel
theorem d6_155 : decode prog_61_method_7_code 155 = .ok (.getfield 13, 3) := by decide +kernel
theorem d6_158 : decode prog_61_method_7_code 158 = .ok (.iload 7, 2) := by decide +kernel
theorem d6_160 : decode prog_61_method_7_code 160 = .ok (.lload 5, 2) := by decide +kernel
theorem d6_162 : decode prog_61_method_7_code 162 = .ok (.lastore, 1) := by decide +kernel
theorem d6_163 : decode prog_61_method_7_code 163 = .ok (.lload_n 1, 1) := by decide +kernel
theorem d6_164 : decode prog_61_method_7_code 164 = .ok (.lreturn, 1) := by decide +kernel
theorem d6_108 : decode prog_61_method_7_code 108 = .ok (.goto 38, 3) := by decide +kernel
theorem d6_93 : decode prog_61_method_7_code 93 = .ok (.iinc 8 1, 3) := by decide +kernel
theorem ef_rmPoll5 (m : MethodId) (a1 : Addr) : entryFrame m #[(.ref a1)] 9 = mkF m 0 #[.val (.ref a1), .unset, .unset, .unset, .unset, .unset, .unset, .unset, .unset] [] := by first | (simp [entryFrame, mkF, argsToLocals, Value.category]; done) | rfl
def Q_rmPoll5 (Z : State) (n0 : Nat) (a1 : Addr) (wa : Addr) (ia : Addr) (w0 : Int64) (w1 : Int64) (w2 : Int64) (w3 : Int64) (w4 : Int64) (x0 : Int64) (x1 : Int64) (x2 : Int64) (x3 : Int64) (x4 : Int64) (h0 : Heap) (v : Option Value) (h : Heap) : Prop := ∃ d0 : Int64, ∃ d1 : Int64, ∃ d2 : Int64, ∃ d3 : Int64, ∃ d4 : Int64, ∃ e0 : Int64, ∃ e1 : Int64, ∃ e2 : Int64, ∃ e3 : Int64, ∃ e4 : Int64, v = some (.long x0) ∧ Keep h0 h [a1, wa, ia] ∧ Exa Z h a1 "com/example/plumbline/plumbline/align/WeightHeap" ∧ Fld Z h a1 "com/example/plumbline/plumbline/align/WeightHeap" "weights" "[J" (.ref wa) ∧ Fld Z h a1 "com/example/plumbline/plumbline/align/WeightHeap" "items" "[J" (.ref ia) ∧ Fld Z h a1 "com/example/plumbline/plumbline/align/WeightHeap" "size" "I" (.int (4 : Int32)) ∧ AV Z h wa .long (own_arr d0 d1 d2 d3 d4) ∧ AV Z h ia .long (own_arr e0 e1 e2 e3 e4) ∧ ((d0).toInt ≤ (d1).toInt ∧ (d0).toInt ≤ (d2).toInt ∧ (d1).toInt ≤ (d3).toInt) ∧ (List.Perm [(w0, x0), (d0, e0), (d1, e1), (d2, e2), (d3, e3)] [(w0, x0), (w1, x1), (w2, x2), (w3, x3), (w4, x4)]) ∧ ((w0).toInt ≤ (d0).toInt)
abbrev R_rmPoll5 : Room := { frames := 0, cells := 0, slots := 0, locals := 0 }
set_option maxRecDepth 65536 in
set_option maxHeartbeats 40000000 in
theorem rmPoll5 {l : Launch} {Z : State} {n0 : Nat} {a0 : Array Value} (hw : ∀ d ∈ tables_1, d.before a0 Z = true) (a1 : Addr) (wa : Addr) (ia : Addr) (w0 : Int64) (w1 : Int64) (w2 : Int64) (w3 : Int64) (w4 : Int64) (x0 : Int64) (x1 : Int64) (x2 : Int64) (x3 : Int64) (x4 : Int64) (h0 : Heap) (H0 : n0 ≤ h0.size) (H1 : n0 ≤ a1) (H2 : n0 ≤ wa) (H3 : n0 ≤ ia) (H4 : Exa Z h0 a1 "com/example/plumbline/plumbline/align/WeightHeap") (H5 : Fld Z h0 a1 "com/example/plumbline/plumbline/align/WeightHeap" "weights" "[J" (.ref wa)) (H6 : Fld Z h0 a1 "com/example/plumbline/plumbline/align/WeightHeap" "items" "[J" (.ref ia)) (H7 : Fld Z h0 a1 "com/example/plumbline/plumbline/align/WeightHeap" "size" "I" (.int (5 : Int32))) (H8 : AV Z h0 wa .long (own_arr w0 w1 w2 w3 w4)) (H9 : AV Z h0 ia .long (own_arr x0 x1 x2 x3 x4)) (H10 : wa ≠ ia) (H11 : a1 ≠ wa) (H12 : a1 ≠ ia) (H13 : (w0).toInt ≤ (w1).toInt ∧ (w0).toInt ≤ (w2).toInt ∧ (w1).toInt ≤ (w3).toInt ∧ (w1).toInt ≤ (w4).toInt) :
    Con l Z n0 (⟨"com/example/plumbline/plumbline/align/WeightHeap", "pollFirst", "()J"⟩ : MethodName) prog_61_method_7_code 9 (some .long) R_rmPoll5 #[(.ref a1)] h0 (Q_rmPoll5 Z n0 a1 wa ia w0 w1 w2 w3 w4 x0 x1 x2 x3 x4 h0) := by
  refine con_of (plainFor_of_name pn_com_example_plumbline_plumbline_align_WeightHeap) ?_
  intro p e s m below meth c T0 K X0 e0
  replace K : Ctx p s m meth c Z "com/example/plumbline/plumbline/align/WeightHeap" "pollFirst" prog_61_method_7_code 9 (some .long) := K
  refine go_entry (ef_rmPoll5 m a1) ?_
  refine go_aloadN K X0 d6_0 rfl rfl rfl ?_
  refine go_getF K X0 (host := "") (Or.inl (wd hw 12 rfl)) Via.refl e0 H6 d6_1 rfl ?_
  intro T338 X338 e338
  refine go_iconst K X338 (0 : Int32) d6_4 rfl rfl ?_
  refine go_laload K X338 e338 H9 (i := 0) rfl rfl d6_5 rfl ?_
  refine go_lstoreN K X338 #[.val (.ref a1), .val (.long x0), .second, .unset, .unset, .unset, .unset, .unset, .unset] d6_6 rfl rfl ?_
  refine go_aloadN K X338 d6_7 rfl rfl rfl ?_
  refine go_dup K X338 d6_8 rfl rfl ?_
  refine go_getF K X338 (host := "") (Or.inl (wd hw 33 rfl)) Via.refl e338 H7 d6_9 rfl ?_
  intro T339 X339 e339
  refine go_iconst K X339 (1 : Int32) d6_12 rfl rfl ?_
  refine go_isub K X339 d6_13 rfl ?_
  rw [show ((5 : Int32) - (1 : Int32)) = (4 : Int32) from by decide]
  refine go_putF K X339 (host := "") (Or.inl (wd hw 33 rfl)) Via.refl e339 H7 H4 (Or.inl (wd hw 34 rfl)) (wd hw 2 rfl) (ty := .int) (by decide) rfl rfl H1 d6_14 rfl ?_
  intro T340 h340 X340 e340 W340
  have kp341 : Keep h0 h340 [a1, wa, ia] := (Keep.refl h0 [a1, wa, ia]).trans (Keep.of_wr W340) (allS (Or.inl (List.mem_of_getElem? (i := 0) rfl)) all0)
  have f342 : Fld Z h340 a1 "com/example/plumbline/plumbline/align/WeightHeap" "size" "I" (.int (4 : Int32)) := H7.same W340
  refine go_aloadN K X340 d6_17 rfl rfl rfl ?_
  have f343 : Fld Z h340 a1 "com/example/plumbline/plumbline/align/WeightHeap" "weights" "[J" (.ref wa) := (H5.other W340 (Or.inr (slot_ne (Or.inl (wd hw 11 rfl)) (Or.inl (wd hw 34 rfl)) (by decide) (t := (.array .long)) (t' := .int) (by decide) (by decide))))
  refine go_getF K X340 (host := "") (Or.inl (wd hw 10 rfl)) Via.refl e340 f343 d6_18 rfl ?_
  intro T344 X344 e344
  refine go_aloadN K X344 d6_21 rfl rfl rfl ?_
  refine go_getF K X344 (host := "") (Or.inl (wd hw 33 rfl)) Via.refl e344 f342 d6_22 rfl ?_
  intro T345 X345 e345
  have f346 : AV Z h340 wa .long (own_arr w0 w1 w2 w3 w4) := (H8.keep (Keep.of_wr W340) (ninS (Ne.symm H11) nin0))
  refine go_laload K X345 e345 f346 (i := 4) rfl rfl d6_25 rfl ?_
  refine go_lstoreN K X345 #[.val (.ref a1), .val (.long x0), .second, .val (.long w4), .second, .unset, .unset, .unset, .unset] d6_26 rfl rfl ?_
  refine go_aloadN K X345 d6_27 rfl rfl rfl ?_
  have f347 : Fld Z h340 a1 "com/example/plumbline/plumbline/align/WeightHeap" "items" "[J" (.ref ia) := (H6.other W340 (Or.inr (slot_ne (Or.inl (wd hw 13 rfl)) (Or.inl (wd hw 34 rfl)) (by decide) (t := (.array .long)) (t' := .int) (by decide) (by decide))))
  refine go_getF K X345 (host := "") (Or.inl (wd hw 12 rfl)) Via.refl e345 f347 d6_28 rfl ?_
  intro T348 X348 e348
  refine go_aloadN K X348 d6_31 rfl rfl rfl ?_
  refine go_getF K X348 (host := "") (Or.inl (wd hw 33 rfl)) Via.refl e348 f342 d6_32 rfl ?_
  intro T349 X349 e349
  have f350 : AV Z h340 ia .long (own_arr x0 x1 x2 x3 x4) := (H9.keep (Keep.of_wr W340) (ninS (Ne.symm H12) nin0))
  refine go_laload K X349 e349 f350 (i := 4) rfl rfl d6_35 rfl ?_
  refine go_lstore K X349 #[.val (.ref a1), .val (.long x0), .second, .val (.long w4), .second, .val (.long x4), .second, .unset, .unset] d6_36 rfl rfl ?_
  refine go_iconst K X349 (0 : Int32) d6_38 rfl rfl ?_
  refine go_istore K X349 #[.val (.ref a1), .val (.long x0), .second, .val (.long w4), .second, .val (.long x4), .second, .val (.int (0 : Int32)), .unset] d6_39 rfl rfl ?_
  refine go_iconst K X349 (2 : Int32) d6_41 rfl rfl ?_
  refine go_iload K X349 d6_42 rfl rfl ?_
  refine go_imul K X349 d6_44 rfl ?_
  rw [show ((2 : Int32) * (0 : Int32)) = (0 : Int32) from by decide]
  refine go_iconst K X349 (1 : Int32) d6_45 rfl rfl ?_
  refine go_iadd K X349 d6_46 rfl ?_
  rw [show ((0 : Int32) + (1 : Int32)) = (1 : Int32) from by decide]
  refine go_aloadN K X349 d6_47 rfl rfl rfl ?_
  refine go_getF K X349 (host := "") (Or.inl (wd hw 33 rfl)) Via.refl e349 f342 d6_48 rfl ?_
  intro T351 X351 e351
  refine go_icmpF K X351 d6_51 rfl (by decide : (1 : Int32) < (4 : Int32)) ?_
  refine go_iconst K X351 (2 : Int32) d6_54 rfl rfl ?_
  refine go_iload K X351 d6_55 rfl rfl ?_
  refine go_imul K X351 d6_57 rfl ?_
  rw [show ((2 : Int32) * (0 : Int32)) = (0 : Int32) from by decide]
  refine go_iconst K X351 (1 : Int32) d6_58 rfl rfl ?_
  refine go_iadd K X351 d6_59 rfl ?_
  rw [show ((0 : Int32) + (1 : Int32)) = (1 : Int32) from by decide]
  refine go_istore K X351 #[.val (.ref a1), .val (.long x0), .second, .val (.long w4), .second, .val (.long x4), .second, .val (.int (0 : Int32)), .val (.int (1 : Int32))] d6_60 rfl rfl ?_
  refine go_iload K X351 d6_62 rfl rfl ?_
  refine go_iconst K X351 (1 : Int32) d6_64 rfl rfl ?_
  refine go_iadd K X351 d6_65 rfl ?_
  rw [show ((1 : Int32) + (1 : Int32)) = (2 : Int32) from by decide]
  refine go_aloadN K X351 d6_66 rfl rfl rfl ?_
  refine go_getF K X351 (host := "") (Or.inl (wd hw 33 rfl)) Via.refl e351 f342 d6_67 rfl ?_
  intro T352 X352 e352
  refine go_icmpF K X352 d6_70 rfl (by decide : (2 : Int32) < (4 : Int32)) ?_
  refine go_aloadN K X352 d6_73 rfl rfl rfl ?_
  refine go_getF K X352 (host := "") (Or.inl (wd hw 10 rfl)) Via.refl e352 f343 d6_74 rfl ?_
  intro T353 X353 e353
  refine go_iload K X353 d6_77 rfl rfl ?_
  refine go_iconst K X353 (1 : Int32) d6_79 rfl rfl ?_
  refine go_iadd K X353 d6_80 rfl ?_
  rw [show ((1 : Int32) + (1 : Int32)) = (2 : Int32) from by decide]
  refine go_laload K X353 e353 f346 (i := 2) rfl rfl d6_81 rfl ?_
  refine go_aloadN K X353 d6_82 rfl rfl rfl ?_
  refine go_getF K X353 (host := "") (Or.inl (wd hw 10 rfl)) Via.refl e353 f343 d6_83 rfl ?_
  intro T354 X354 e354
  refine go_iload K X354 d6_86 rfl rfl ?_
  refine go_laload K X354 e354 f346 (i := 1) rfl rfl d6_88 rfl ?_
  refine go_lif K X354 d6_89 rfl d6_90 (by decide) rfl rfl ?_ ?_
  · intro (hc355 : ¬ w2 < w1)
    refine go_aloadN K X354 d6_96 rfl rfl rfl ?_
    refine go_getF K X354 (host := "") (Or.inl (wd hw 10 rfl)) Via.refl e354 f343 d6_97 rfl ?_
    intro T356 X356 e356
    refine go_iload K X356 d6_100 rfl rfl ?_
    refine go_laload K X356 e356 f346 (i := 1) rfl rfl d6_102 rfl ?_
    refine go_lloadN K X356 d6_103 rfl rfl ?_
    refine go_lif K X356 d6_104 rfl d6_105 (by decide) rfl rfl ?_ ?_
    · intro (hc357 : w1 < w4)
      refine go_aloadN K X356 d6_111 rfl rfl rfl ?_
      refine go_getF K X356 (host := "") (Or.inl (wd hw 10 rfl)) Via.refl e356 f343 d6_112 rfl ?_
      intro T358 X358 e358
      refine go_iload K X358 d6_115 rfl rfl ?_
      refine go_aloadN K X358 d6_117 rfl rfl rfl ?_
      refine go_getF K X358 (host := "") (Or.inl (wd hw 10 rfl)) Via.refl e358 f343 d6_118 rfl ?_
      intro T359 X359 e359
      refine go_iload K X359 d6_121 rfl rfl ?_
      refine go_laload K X359 e359 f346 (i := 1) rfl rfl d6_123 rfl ?_
      refine go_lastore K X359 e359 f346 (i := 0) rfl (Nat.le_of_ble_eq_true rfl) H2 d6_124 rfl ?_
      intro T360 h360 X360 e360 W360 A360
      have kp361 : Keep h0 h360 [a1, wa, ia] := kp341.trans (Keep.of_wr W360) (allS (Or.inl (List.mem_of_getElem? (i := 1) rfl)) all0)
      have f362 : AV Z h360 wa .long (own_arr w1 w1 w2 w3 w4) := A360
      refine go_aloadN K X360 d6_125 rfl rfl rfl ?_
      have f363 : Fld Z h360 a1 "com/example/plumbline/plumbline/align/WeightHeap" "items" "[J" (.ref ia) := (f347.keep (Keep.of_wr W360) (ninS H11 nin0))
      refine go_getF K X360 (host := "") (Or.inl (wd hw 12 rfl)) Via.refl e360 f363 d6_126 rfl ?_
      intro T364 X364 e364
      refine go_iload K X364 d6_129 rfl rfl ?_
      refine go_aloadN K X364 d6_131 rfl rfl rfl ?_
      refine go_getF K X364 (host := "") (Or.inl (wd hw 12 rfl)) Via.refl e364 f363 d6_132 rfl ?_
      intro T365 X365 e365
      refine go_iload K X365 d6_135 rfl rfl ?_
      have f366 : AV Z h360 ia .long (own_arr x0 x1 x2 x3 x4) := (f350.keep (Keep.of_wr W360) (ninS (Ne.symm H10) nin0))
      refine go_laload K X365 e365 f366 (i := 1) rfl rfl d6_137 rfl ?_
      refine go_lastore K X365 e365 f366 (i := 0) rfl (Nat.le_of_ble_eq_true rfl) H3 d6_138 rfl ?_
      intro T367 h367 X367 e367 W367 A367
      have kp368 : Keep h0 h367 [a1, wa, ia] := kp361.trans (Keep.of_wr W367) (allS (Or.inl (List.mem_of_getElem? (i := 2) rfl)) all0)
      have f369 : AV Z h367 ia .long (own_arr x1 x1 x2 x3 x4) := A367
      refine go_iload K X367 d6_139 rfl rfl ?_
      refine go_istore K X367 #[.val (.ref a1), .val (.long x0), .second, .val (.long w4), .second, .val (.long x4), .second, .val (.int (1 : Int32)), .val (.int (1 : Int32))] d6_141 rfl rfl ?_
      refine go_goto K X367 d6_143 (by decide) rfl ?_
      refine go_iconst K X367 (2 : Int32) d6_41 rfl rfl ?_
      refine go_iload K X367 d6_42 rfl rfl ?_
      refine go_imul K X367 d6_44 rfl ?_
      rw [show ((2 : Int32) * (1 : Int32)) = (2 : Int32) from by decide]
      refine go_iconst K X367 (1 : Int32) d6_45 rfl rfl ?_
      refine go_iadd K X367 d6_46 rfl ?_
      rw [show ((2 : Int32) + (1 : Int32)) = (3 : Int32) from by decide]
      refine go_aloadN K X367 d6_47 rfl rfl rfl ?_
      have f370 : Fld Z h367 a1 "com/example/plumbline/plumbline/align/WeightHeap" "size" "I" (.int (4 : Int32)) := ((f342.keep (Keep.of_wr W360) (ninS H11 nin0)).keep (Keep.of_wr W367) (ninS H12 nin0))
      refine go_getF K X367 (host := "") (Or.inl (wd hw 33 rfl)) Via.refl e367 f370 d6_48 rfl ?_
      intro T371 X371 e371
      refine go_icmpF K X371 d6_51 rfl (by decide : (3 : Int32) < (4 : Int32)) ?_
      refine go_iconst K X371 (2 : Int32) d6_54 rfl rfl ?_
      refine go_iload K X371 d6_55 rfl rfl ?_
      refine go_imul K X371 d6_57 rfl ?_
      rw [show ((2 : Int32) * (1 : Int32)) = (2 : Int32) from by decide]
      refine go_iconst K X371 (1 : Int32) d6_58 rfl rfl ?_
      refine go_iadd K X371 d6_59 rfl ?_
      rw [show ((2 : Int32) + (1 : Int32)) = (3 : Int32) from by decide]
      refine go_istore K X371 #[.val (.ref a1), .val (.long x0), .second, .val (.long w4), .second, .val (.long x4), .second, .val (.int (1 : Int32)), .val (.int (3 : Int32))] d6_60 rfl rfl ?_
      refine go_iload K X371 d6_62 rfl rfl ?_
      refine go_iconst K X371 (1 : Int32) d6_64 rfl rfl ?_
      refine go_iadd K X371 d6_65 rfl ?_
      rw [show ((3 : Int32) + (1 : Int32)) = (4 : Int32) from by decide]
      refine go_aloadN K X371 d6_66 rfl rfl rfl ?_
      refine go_getF K X371 (host := "") (Or.inl (wd hw 33 rfl)) Via.refl e371 f370 d6_67 rfl ?_
      intro T372 X372 e372
      refine go_icmpT K X372 d6_70 (by decide) rfl (by decide : ¬ (4 : Int32) < (4 : Int32)) ?_
      refine go_aloadN K X372 d6_96 rfl rfl rfl ?_
      have f373 : Fld Z h367 a1 "com/example/plumbline/plumbline/align/WeightHeap" "weights" "[J" (.ref wa) := ((f343.keep (Keep.of_wr W360) (ninS H11 nin0)).keep (Keep.of_wr W367) (ninS H12 nin0))
      refine go_getF K X372 (host := "") (Or.inl (wd hw 10 rfl)) Via.refl e372 f373 d6_97 rfl ?_
      intro T374 X374 e374
      refine go_iload K X374 d6_100 rfl rfl ?_
      have f375 : AV Z h367 wa .long (own_arr w1 w1 w2 w3 w4) := (f362.keep (Keep.of_wr W367) (ninS H10 nin0))
      refine go_laload K X374 e374 f375 (i := 3) rfl rfl d6_102 rfl ?_
      refine go_lloadN K X374 d6_103 rfl rfl ?_
      refine go_lif K X374 d6_104 rfl d6_105 (by decide) rfl rfl ?_ ?_
      · intro (hc376 : w3 < w4)
        refine go_aloadN K X374 d6_111 rfl rfl rfl ?_
        refine go_getF K X374 (host := "") (Or.inl (wd hw 10 rfl)) Via.refl e374 f373 d6_112 rfl ?_
        intro T377 X377 e377
        refine go_iload K X377 d6_115 rfl rfl ?_
        refine go_aloadN K X377 d6_117 rfl rfl rfl ?_
        refine go_getF K X377 (host := "") (Or.inl (wd hw 10 rfl)) Via.refl e377 f373 d6_118 rfl ?_
        intro T378 X378 e378
        refine go_iload K X378 d6_121 rfl rfl ?_
        refine go_laload K X378 e378 f375 (i := 3) rfl rfl d6_123 rfl ?_
        refine go_lastore K X378 e378 f375 (i := 1) rfl (Nat.le_of_ble_eq_true rfl) H2 d6_124 rfl ?_
        intro T379 h379 X379 e379 W379 A379
        have kp380 : Keep h0 h379 [a1, wa, ia] := kp368.trans (Keep.of_wr W379) (allS (Or.inl (List.mem_of_getElem? (i := 1) rfl)) all0)
        have f381 : AV Z h379 wa .long (own_arr w1 w3 w2 w3 w4) := A379
        refine go_aloadN K X379 d6_125 rfl rfl rfl ?_
        have f382 : Fld Z h379 a1 "com/example/plumbline/plumbline/align/WeightHeap" "items" "[J" (.ref ia) := ((f363.keep (Keep.of_wr W367) (ninS H12 nin0)).keep (Keep.of_wr W379) (ninS H11 nin0))
        refine go_getF K X379 (host := "") (Or.inl (wd hw 12 rfl)) Via.refl e379 f382 d6_126 rfl ?_
        intro T383 X383 e383
        refine go_iload K X383 d6_129 rfl rfl ?_
        refine go_aloadN K X383 d6_131 rfl rfl rfl ?_
        refine go_getF K X383 (host := "") (Or.inl (wd hw 12 rfl)) Via.refl e383 f382 d6_132 rfl ?_
        intro T384 X384 e384
        refine go_iload K X384 d6_135 rfl rfl ?_
        have f385 : AV Z h379 ia .long (own_arr x1 x1 x2 x3 x4) := (f369.keep (Keep.of_wr W379) (ninS (Ne.symm H10) nin0))
        refine go_laload K X384 e384 f385 (i := 3) rfl rfl d6_137 rfl ?_
        refine go_lastore K X384 e384 f385 (i := 1) rfl (Nat.le_of_ble_eq_true rfl) H3 d6_138 rfl ?_
        intro T386 h386 X386 e386 W386 A386
        have kp387 : Keep h0 h386 [a1, wa, ia] := kp380.trans (Keep.of_wr W386) (allS (Or.inl (List.mem_of_getElem? (i := 2) rfl)) all0)
        have f388 : AV Z h386 ia .long (own_arr x1 x3 x2 x3 x4) := A386
        refine go_iload K X386 d6_139 rfl rfl ?_
        refine go_istore K X386 #[.val (.ref a1), .val (.long x0), .second, .val (.long w4), .second, .val (.long x4), .second, .val (.int (3 : Int32)), .val (.int (3 : Int32))] d6_141 rfl rfl ?_
        refine go_goto K X386 d6_143 (by decide) rfl ?_
        refine go_iconst K X386 (2 : Int32) d6_41 rfl rfl ?_
        refine go_iload K X386 d6_42 rfl rfl ?_
        refine go_imul K X386 d6_44 rfl ?_
        rw [show ((2 : Int32) * (3 : Int32)) = (6 : Int32) from by decide]
        refine go_iconst K X386 (1 : Int32) d6_45 rfl rfl ?_
        refine go_iadd K X386 d6_46 rfl ?_
        rw [show ((6 : Int32) + (1 : Int32)) = (7 : Int32) from by decide]
        refine go_aloadN K X386 d6_47 rfl rfl rfl ?_
        have f389 : Fld Z h386 a1 "com/example/plumbline/plumbline/align/WeightHeap" "size" "I" (.int (4 : Int32)) := ((f370.keep (Keep.of_wr W379) (ninS H11 nin0)).keep (Keep.of_wr W386) (ninS H12 nin0))
        refine go_getF K X386 (host := "") (Or.inl (wd hw 33 rfl)) Via.refl e386 f389 d6_48 rfl ?_
        intro T390 X390 e390
        refine go_icmpT K X390 d6_51 (by decide) rfl (by decide : ¬ (7 : Int32) < (4 : Int32)) ?_
        refine go_aloadN K X390 d6_146 rfl rfl rfl ?_
        have f391 : Fld Z h386 a1 "com/example/plumbline/plumbline/align/WeightHeap" "weights" "[J" (.ref wa) := ((f373.keep (Keep.of_wr W379) (ninS H11 nin0)).keep (Keep.of_wr W386) (ninS H12 nin0))
        refine go_getF K X390 (host := "") (Or.inl (wd hw 10 rfl)) Via.refl e390 f391 d6_147 rfl ?_
        intro T392 X392 e392
        refine go_iload K X392 d6_150 rfl rfl ?_
        refine go_lloadN K X392 d6_152 rfl rfl ?_
        have f393 : AV Z h386 wa .long (own_arr w1 w3 w2 w3 w4) := (f381.keep (Keep.of_wr W386) (ninS H10 nin0))
        refine go_lastore K X392 e392 f393 (i := 3) rfl (Nat.le_of_ble_eq_true rfl) H2 d6_153 rfl ?_
        intro T394 h394 X394 e394 W394 A394
        have kp395 : Keep h0 h394 [a1, wa, ia] := kp387.trans (Keep.of_wr W394) (allS (Or.inl (List.mem_of_getElem? (i := 1) rfl)) all0)
        have f396 : AV Z h394 wa .long (own_arr w1 w3 w2 w4 w4) := A394
        refine go_aloadN K X394 d6_154 rfl rfl rfl ?_
        have f397 : Fld Z h394 a1 "com/example/plumbline/plumbline/align/WeightHeap" "items" "[J" (.ref ia) := ((f382.keep (Keep.of_wr W386) (ninS H12 nin0)).keep (Keep.of_wr W394) (ninS H11 nin0))
        refine go_getF K X394 (host := "") (Or.inl (wd hw 12 rfl)) Via.refl e394 f397 d6_155 rfl ?_
        intro T398 X398 e398
        refine go_iload K X398 d6_158 rfl rfl ?_
        refine go_lload K X398 d6_160 rfl rfl ?_
        have f399 : AV Z h394 ia .long (own_arr x1 x3 x2 x3 x4) := (f388.keep (Keep.of_wr W394) (ninS (Ne.symm H10) nin0))
        refine go_lastore K X398 e398 f399 (i := 3) rfl (Nat.le_of_ble_eq_true rfl) H3 d6_162 rfl ?_
        intro T400 h400 X400 e400 W400 A400
        have kp401 : Keep h0 h400 [a1, wa, ia] := kp395.trans (Keep.of_wr W400) (allS (Or.inl (List.mem_of_getElem? (i := 2) rfl)) all0)
        have f402 : AV Z h400 ia .long (own_arr x1 x3 x2 x4 x4) := A400
        refine go_lloadN K X400 d6_163 rfl rfl ?_
        refine go_retJ K X400 d6_164 (by decide) (by decide) ?_
        have f403 : Exa Z h400 a1 "com/example/plumbline/plumbline/align/WeightHeap" := (((((((H4.keep (Keep.of_wr W340)).keep (Keep.of_wr W360)).keep (Keep.of_wr W367)).keep (Keep.of_wr W379)).keep (Keep.of_wr W386)).keep (Keep.of_wr W394)).keep (Keep.of_wr W400))
        have f404 : Fld Z h400 a1 "com/example/plumbline/plumbline/align/WeightHeap" "weights" "[J" (.ref wa) := ((f391.keep (Keep.of_wr W394) (ninS H11 nin0)).keep (Keep.of_wr W400) (ninS H12 nin0))
        have f405 : Fld Z h400 a1 "com/example/plumbline/plumbline/align/WeightHeap" "items" "[J" (.ref ia) := (f397.keep (Keep.of_wr W400) (ninS H12 nin0))
        have f406 : Fld Z h400 a1 "com/example/plumbline/plumbline/align/WeightHeap" "size" "I" (.int (4 : Int32)) := ((f389.keep (Keep.of_wr W394) (ninS H11 nin0)).keep (Keep.of_wr W400) (ninS H12 nin0))
        have f407 : AV Z h400 wa .long (own_arr w1 w3 w2 w4 w4) := (f396.keep (Keep.of_wr W400) (ninS H10 nin0))
        rw [e400]
        exact ⟨w1, w3, w2, w4, w4, x1, x3, x2, x4, x4, rfl, kp401, f403, f404, f405, f406, f407, f402, (by have hp := H13; have g0 := own_nlt hc355; have g1 := own_lt hc357; have g2 := own_lt hc376; omega), (List.Perm.cons _ (List.Perm.cons _ ((List.perm_middle (l₁ := [(w3, x3)]) (a := (w2, x2)) (l₂ := [(w4, x4)])).trans (List.Perm.cons _ (List.Perm.cons _ (List.Perm.cons _ (List.Perm.refl _))))))), (by have hp := H13; have g0 := own_nlt hc355; have g1 := own_lt hc357; have g2 := own_lt hc376; omega)⟩
      · intro (hc376 : ¬ w3 < w4)
        refine go_goto K X374 d6_108 (by decide) rfl ?_
        refine go_aloadN K X374 d6_146 rfl rfl rfl ?_
        refine go_getF K X374 (host := "") (Or.inl (wd hw 10 rfl)) Via.refl e374 f373 d6_147 rfl ?_
        intro T408 X408 e408
        refine go_iload K X408 d6_150 rfl rfl ?_
        refine go_lloadN K X408 d6_152 rfl rfl ?_
        refine go_lastore K X408 e408 f375 (i := 1) rfl (Nat.le_of_ble_eq_true rfl) H2 d6_153 rfl ?_
        intro T409 h409 X409 e409 W409 A409
        have kp410 : Keep h0 h409 [a1, wa, ia] := kp368.trans (Keep.of_wr W409) (allS (Or.inl (List.mem_of_getElem? (i := 1) rfl)) all0)
        have f411 : AV Z h409 wa .long (own_arr w1 w4 w2 w3 w4) := A409
        refine go_aloadN K X409 d6_154 rfl rfl rfl ?_
        have f412 : Fld Z h409 a1 "com/example/plumbline/plumbline/align/WeightHeap" "items" "[J" (.ref ia) := ((f363.keep (Keep.of_wr W367) (ninS H12 nin0)).keep (Keep.of_wr W409) (ninS H11 nin0))
        refine go_getF K X409 (host := "") (Or.inl (wd hw 12 rfl)) Via.refl e409 f412 d6_155 rfl ?_
        intro T413 X413 e413
        refine go_iload K X413 d6_158 rfl rfl ?_
        refine go_lload K X413 d6_160 rfl rfl ?_
        have f414 : AV Z h409 ia .long (own_arr x1 x1 x2 x3 x4) := (f369.keep (Keep.of_wr W409) (ninS (Ne.symm H10) nin0))
        refine go_lastore K X413 e413 f414 (i := 1) rfl (Nat.le_of_ble_eq_true rfl) H3 d6_162 rfl ?_
        intro T415 h415 X415 e415 W415 A415
        have kp416 : Keep h0 h415 [a1, wa, ia] := kp410.trans (Keep.of_wr W415) (allS (Or.inl (List.mem_of_getElem? (i := 2) rfl)) all0)
        have f417 : AV Z h415 ia .long (own_arr x1 x4 x2 x3 x4) := A415
        refine go_lloadN K X415 d6_163 rfl rfl ?_
        refine go_retJ K X415 d6_164 (by decide) (by decide) ?_
        have f418 : Exa Z h415 a1 "com/example/plumbline/plumbline/align/WeightHeap" := (((((H4.keep (Keep.of_wr W340)).keep (Keep.of_wr W360)).keep (Keep.of_wr W367)).keep (Keep.of_wr W409)).keep (Keep.of_wr W415))
        have f419 : Fld Z h415 a1 "com/example/plumbline/plumbline/align/WeightHeap" "weights" "[J" (.ref wa) := ((f373.keep (Keep.of_wr W409) (ninS H11 nin0)).keep (Keep.of_wr W415) (ninS H12 nin0))
        have f420 : Fld Z h415 a1 "com/example/plumbline/plumbline/align/WeightHeap" "items" "[J" (.ref ia) := (f412.keep (Keep.of_wr W415) (ninS H12 nin0))
        have f421 : Fld Z h415 a1 "com/example/plumbline/plumbline/align/WeightHeap" "size" "I" (.int (4 : Int32)) := ((f370.keep (Keep.of_wr W409) (ninS H11 nin0)).keep (Keep.of_wr W415) (ninS H12 nin0))
        have f422 : AV Z h415 wa .long (own_arr w1 w4 w2 w3 w4) := (f411.keep (Keep.of_wr W415) (ninS H10 nin0))
        rw [e415]
        exact ⟨w1, w4, w2, w3, w4, x1, x4, x2, x3, x4, rfl, kp416, f418, f419, f420, f421, f422, f417, (by have hp := H13; have g0 := own_nlt hc355; have g1 := own_lt hc357; have g2 := own_nlt hc376; omega), (List.Perm.cons _ (List.Perm.cons _ ((List.perm_middle (l₁ := [(w4, x4)]) (a := (w2, x2)) (l₂ := [(w3, x3)])).trans (List.Perm.cons _ ((List.perm_middle (l₁ := [(w4, x4)]) (a := (w3, x3)) (l₂ := [])).trans (List.Perm.cons _ (List.Perm.cons _ (List.Perm.refl _)))))))), (by have hp := H13; have g0 := own_nlt hc355; have g1 := own_lt hc357; have g2 := own_nlt hc376; omega)⟩
    · intro (hc357 : ¬ w1 < w4)
      refine go_goto K X356 d6_108 (by decide) rfl ?_
      refine go_aloadN K X356 d6_146 rfl rfl rfl ?_
      refine go_getF K X356 (host := "") (Or.inl (wd hw 10 rfl)) Via.refl e356 f343 d6_147 rfl ?_
      intro T423 X423 e423
      refine go_iload K X423 d6_150 rfl rfl ?_
      refine go_lloadN K X423 d6_152 rfl rfl ?_
      refine go_lastore K X423 e423 f346 (i := 0) rfl (Nat.le_of_ble_eq_true rfl) H2 d6_153 rfl ?_
      intro T424 h424 X424 e424 W424 A424
      have kp425 : Keep h0 h424 [a1, wa, ia] := kp341.trans (Keep.of_wr W424) (allS (Or.inl (List.mem_of_getElem? (i := 1) rfl)) all0)
      have f426 : AV Z h424 wa .long (own_arr w4 w1 w2 w3 w4) := A424
      refine go_aloadN K X424 d6_154 rfl rfl rfl ?_
      have f427 : Fld Z h424 a1 "com/example/plumbline/plumbline/align/WeightHeap" "items" "[J" (.ref ia) := (f347.keep (Keep.of_wr W424) (ninS H11 nin0))
      refine go_getF K X424 (host := "") (Or.inl (wd hw 12 rfl)) Via.refl e424 f427 d6_155 rfl ?_
      intro T428 X428 e428
      refine go_iload K X428 d6_158 rfl rfl ?_
      refine go_lload K X428 d6_160 rfl rfl ?_
      have f429 : AV Z h424 ia .long (own_arr x0 x1 x2 x3 x4) := (f350.keep (Keep.of_wr W424) (ninS (Ne.symm H10) nin0))
      refine go_lastore K X428 e428 f429 (i := 0) rfl (Nat.le_of_ble_eq_true rfl) H3 d6_162 rfl ?_
      intro T430 h430 X430 e430 W430 A430
      have kp431 : Keep h0 h430 [a1, wa, ia] := kp425.trans (Keep.of_wr W430) (allS (Or.inl (List.mem_of_getElem? (i := 2) rfl)) all0)
      have f432 : AV Z h430 ia .long (own_arr x4 x1 x2 x3 x4) := A430
      refine go_lloadN K X430 d6_163 rfl rfl ?_
      refine go_retJ K X430 d6_164 (by decide) (by decide) ?_
      have f433 : Exa Z h430 a1 "com/example/plumbline/plumbline/align/WeightHeap" := (((H4.keep (Keep.of_wr W340)).keep (Keep.of_wr W424)).keep (Keep.of_wr W430))
      have f434 : Fld Z h430 a1 "com/example/plumbline/plumbline/align/WeightHeap" "weights" "[J" (.ref wa) := ((f343.keep (Keep.of_wr W424) (ninS H11 nin0)).keep (Keep.of_wr W430) (ninS H12 nin0))
      have f435 : Fld Z h430 a1 "com/example/plumbline/plumbline/align/WeightHeap" "items" "[J" (.ref ia) := (f427.keep (Keep.of_wr W430) (ninS H12 nin0))
      have f436 : Fld Z h430 a1 "com/example/plumbline/plumbline/align/WeightHeap" "size" "I" (.int (4 : Int32)) := ((f342.keep (Keep.of_wr W424) (ninS H11 nin0)).keep (Keep.of_wr W430) (ninS H12 nin0))
      have f437 : AV Z h430 wa .long (own_arr w4 w1 w2 w3 w4) := (f426.keep (Keep.of_wr W430) (ninS H10 nin0))
      rw [e430]
      exact ⟨w4, w1, w2, w3, w4, x4, x1, x2, x3, x4, rfl, kp431, f433, f434, f435, f436, f437, f432, (by have hp := H13; have g0 := own_nlt hc355; have g1 := own_nlt hc357; omega), (List.Perm.cons _ ((List.perm_middle (l₁ := [(w4, x4)]) (a := (w1, x1)) (l₂ := [(w2, x2), (w3, x3)])).trans (List.Perm.cons _ ((List.perm_middle (l₁ := [(w4, x4)]) (a := (w2, x2)) (l₂ := [(w3, x3)])).trans (List.Perm.cons _ ((List.perm_middle (l₁ := [(w4, x4)]) (a := (w3, x3)) (l₂ := [])).trans (List.Perm.cons _ (List.Perm.cons _ (List.Perm.refl _))))))))), (by have hp := H13; have g0 := own_nlt hc355; have g1 := own_nlt hc357; omega)⟩
  · intro (hc355 : w2 < w1)
    refine go_iinc K X354 (1 : Int32) #[.val (.ref a1), .val (.long x0), .second, .val (.long w4), .second, .val (.long x4), .second, .val (.int (0 : Int32)), .val (.int ((1 : Int32) + (1 : Int32)))] d6_93 rfl rfl rfl rfl ?_
    rw [show ((1 : Int32) + (1 : Int32)) = (2 : Int32) from by decide]
    refine go_aloadN K X354 d6_96 rfl rfl rfl ?_
    refine go_getF K X354 (host := "") (Or.inl (wd hw 10 rfl)) Via.refl e354 f343 d6_97 rfl ?_
    intro T438 X438 e438
    refine go_iload K X438 d6_100 rfl rfl ?_
    refine go_laload K X438 e438 f346 (i := 2) rfl rfl d6_102 rfl ?_
    refine go_lloadN K X438 d6_103 rfl rfl ?_
    refine go_lif K X438 d6_104 rfl d6_105 (by decide) rfl rfl ?_ ?_
    · intro (hc439 : w2 < w4)
      refine go_aloadN K X438 d6_111 rfl rfl rfl ?_
      refine go_getF K X438 (host := "") (Or.inl (wd hw 10 rfl)) Via.refl e438 f343 d6_112 rfl ?_
      intro T440 X440 e440
      refine go_iload K X440 d6_115 rfl rfl ?_
      refine go_aloadN K X440 d6_117 rfl rfl rfl ?_
      refine go_getF K X440 (host := "") (Or.inl (wd hw 10 rfl)) Via.refl e440 f343 d6_118 rfl ?_
      intro T441 X441 e441
      refine go_iload K X441 d6_121 rfl rfl ?_
      refine go_laload K X441 e441 f346 (i := 2) rfl rfl d6_123 rfl ?_
      refine go_lastore K X441 e441 f346 (i := 0) rfl (Nat.le_of_ble_eq_true rfl) H2 d6_124 rfl ?_
      intro T442 h442 X442 e442 W442 A442
      have kp443 : Keep h0 h442 [a1, wa, ia] := kp341.trans (Keep.of_wr W442) (allS (Or.inl (List.mem_of_getElem? (i := 1) rfl)) all0)
      have f444 : AV Z h442 wa .long (own_arr w2 w1 w2 w3 w4) := A442
      refine go_aloadN K X442 d6_125 rfl rfl rfl ?_
      have f445 : Fld Z h442 a1 "com/example/plumbline/plumbline/align/WeightHeap" "items" "[J" (.ref ia) := (f347.keep (Keep.of_wr W442) (ninS H11 nin0))
      refine go_getF K X442 (host := "") (Or.inl (wd hw 12 rfl)) Via.refl e442 f445 d6_126 rfl ?_
      intro T446 X446 e446
      refine go_iload K X446 d6_129 rfl rfl ?_
      refine go_aloadN K X446 d6_131 rfl rfl rfl ?_
      refine go_getF K X446 (host := "") (Or.inl (wd hw 12 rfl)) Via.refl e446 f445 d6_132 rfl ?_
      intro T447 X447 e447
      refine go_iload K X447 d6_135 rfl rfl ?_
      have f448 : AV Z h442 ia .long (own_arr x0 x1 x2 x3 x4) := (f350.keep (Keep.of_wr W442) (ninS (Ne.symm H10) nin0))
      refine go_laload K X447 e447 f448 (i := 2) rfl rfl d6_137 rfl ?_
      refine go_lastore K X447 e447 f448 (i := 0) rfl (Nat.le_of_ble_eq_true rfl) H3 d6_138 rfl ?_
      intro T449 h449 X449 e449 W449 A449
      have kp450 : Keep h0 h449 [a1, wa, ia] := kp443.trans (Keep.of_wr W449) (allS (Or.inl (List.mem_of_getElem? (i := 2) rfl)) all0)
      have f451 : AV Z h449 ia .long (own_arr x2 x1 x2 x3 x4) := A449
      refine go_iload K X449 d6_139 rfl rfl ?_
      refine go_istore K X449 #[.val (.ref a1), .val (.long x0), .second, .val (.long w4), .second, .val (.long x4), .second, .val (.int (2 : Int32)), .val (.int (2 : Int32))] d6_141 rfl rfl ?_
      refine go_goto K X449 d6_143 (by decide) rfl ?_
      refine go_iconst K X449 (2 : Int32) d6_41 rfl rfl ?_
      refine go_iload K X449 d6_42 rfl rfl ?_
      refine go_imul K X449 d6_44 rfl ?_
      rw [show ((2 : Int32) * (2 : Int32)) = (4 : Int32) from by decide]
      refine go_iconst K X449 (1 : Int32) d6_45 rfl rfl ?_
      refine go_iadd K X449 d6_46 rfl ?_
      rw [show ((4 : Int32) + (1 : Int32)) = (5 : Int32) from by decide]
      refine go_aloadN K X449 d6_47 rfl rfl rfl ?_
      have f452 : Fld Z h449 a1 "com/example/plumbline/plumbline/align/WeightHeap" "size" "I" (.int (4 : Int32)) := ((f342.keep (Keep.of_wr W442) (ninS H11 nin0)).keep (Keep.of_wr W449) (ninS H12 nin0))
      refine go_getF K X449 (host := "") (Or.inl (wd hw 33 rfl)) Via.refl e449 f452 d6_48 rfl ?_
      intro T453 X453 e453
      refine go_icmpT K X453 d6_51 (by decide) rfl (by decide : ¬ (5 : Int32) < (4 : Int32)) ?_
      refine go_aloadN K X453 d6_146 rfl rfl rfl ?_
      have f454 : Fld Z h449 a1 "com/example/plumbline/plumbline/align/WeightHeap" "weights" "[J" (.ref wa) := ((f343.keep (Keep.of_wr W442) (ninS H11 nin0)).keep (Keep.of_wr W449) (ninS H12 nin0))
      refine go_getF K X453 (host := "") (Or.inl (wd hw 10 rfl)) Via.refl e453 f454 d6_147 rfl ?_
      intro T455 X455 e455
      refine go_iload K X455 d6_150 rfl rfl ?_
      refine go_lloadN K X455 d6_152 rfl rfl ?_
      have f456 : AV Z h449 wa .long (own_arr w2 w1 w2 w3 w4) := (f444.keep (Keep.of_wr W449) (ninS H10 nin0))
      refine go_lastore K X455 e455 f456 (i := 2) rfl (Nat.le_of_ble_eq_true rfl) H2 d6_153 rfl ?_
      intro T457 h457 X457 e457 W457 A457
      have kp458 : Keep h0 h457 [a1, wa, ia] := kp450.trans (Keep.of_wr W457) (allS (Or.inl (List.mem_of_getElem? (i := 1) rfl)) all0)
      have f459 : AV Z h457 wa .long (own_arr w2 w1 w4 w3 w4) := A457
      refine go_aloadN K X457 d6_154 rfl rfl rfl ?_
      have f460 : Fld Z h457 a1 "com/example/plumbline/plumbline/align/WeightHeap" "items" "[J" (.ref ia) := ((f445.keep (Keep.of_wr W449) (ninS H12 nin0)).keep (Keep.of_wr W457) (ninS H11 nin0))
      refine go_getF K X457 (host := "") (Or.inl (wd hw 12 rfl)) Via.refl e457 f460 d6_155 rfl ?_
      intro T461 X461 e461
      refine go_iload K X461 d6_158 rfl rfl ?_
      refine go_lload K X461 d6_160 rfl rfl ?_
      have f462 : AV Z h457 ia .long (own_arr x2 x1 x2 x3 x4) := (f451.keep (Keep.of_wr W457) (ninS (Ne.symm H10) nin0))
      refine go_lastore K X461 e461 f462 (i := 2) rfl (Nat.le_of_ble_eq_true rfl) H3 d6_162 rfl ?_
      intro T463 h463 X463 e463 W463 A463
      have kp464 : Keep h0 h463 [a1, wa, ia] := kp458.trans (Keep.of_wr W463) (allS (Or.inl (List.mem_of_getElem? (i := 2) rfl)) all0)
      have f465 : AV Z h463 ia .long (own_arr x2 x1 x4 x3 x4) := A463
      refine go_lloadN K X463 d6_163 rfl rfl ?_
      refine go_retJ K X463 d6_164 (by decide) (by decide) ?_
      have f466 : Exa Z h463 a1 "com/example/plumbline/plumbline/align/WeightHeap" := (((((H4.keep (Keep.of_wr W340)).keep (Keep.of_wr W442)).keep (Keep.of_wr W449)).keep (Keep.of_wr W457)).keep (Keep.of_wr W463))
      have f467 : Fld Z h463 a1 "com/example/plumbline/plumbline/align/WeightHeap" "weights" "[J" (.ref wa) := ((f454.keep (Keep.of_wr W457) (ninS H11 nin0)).keep (Keep.of_wr W463) (ninS H12 nin0))
      have f468 : Fld Z h463 a1 "com/example/plumbline/plumbline/align/WeightHeap" "items" "[J" (.ref ia) := (f460.keep (Keep.of_wr W463) (ninS H12 nin0))
      have f469 : Fld Z h463 a1 "com/example/plumbline/plumbline/align/WeightHeap" "size" "I" (.int (4 : Int32)) := ((f452.keep (Keep.of_wr W457) (ninS H11 nin0)).keep (Keep.of_wr W463) (ninS H12 nin0))
      have f470 : AV Z h463 wa .long (own_arr w2 w1 w4 w3 w4) := (f459.keep (Keep.of_wr W463) (ninS H10 nin0))
      rw [e463]
      exact ⟨w2, w1, w4, w3, w4, x2, x1, x4, x3, x4, rfl, kp464, f466, f467, f468, f469, f470, f465, (by have hp := H13; have g0 := own_lt hc355; have g1 := own_lt hc439; omega), (List.Perm.cons _ ((List.perm_middle (l₁ := [(w2, x2)]) (a := (w1, x1)) (l₂ := [(w4, x4), (w3, x3)])).trans (List.Perm.cons _ (List.Perm.cons _ ((List.perm_middle (l₁ := [(w4, x4)]) (a := (w3, x3)) (l₂ := [])).trans (List.Perm.cons _ (List.Perm.cons _ (List.Perm.refl _)))))))), (by have hp := H13; have g0 := own_lt hc355; have g1 := own_lt hc439; omega)⟩
    · intro (hc439 : ¬ w2 < w4)
      refine go_goto K X438 d6_108 (by decide) rfl ?_
      refine go_aloadN K X438 d6_146 rfl rfl rfl ?_
      refine go_getF K X438 (host := "") (Or.inl (wd hw 10 rfl)) Via.refl e438 f343 d6_147 rfl ?_
      intro T471 X471 e471
      refine go_iload K X471 d6_150 rfl rfl ?_
      refine go_lloadN K X471 d6_152 rfl rfl ?_
      refine go_lastore K X471 e471 f346 (i := 0) rfl (Nat.le_of_ble_eq_true rfl) H2 d6_153 rfl ?_
      intro T472 h472 X472 e472 W472 A472
      have kp473 : Keep h0 h472 [a1, wa, ia] := kp341.trans (Keep.of_wr W472) (allS (Or.inl (List.mem_of_getElem? (i := 1) rfl)) all0)
      have f474 : AV Z h472 wa .long (own_arr w4 w1 w2 w3 w4) := A472
      refine go_aloadN K X472 d6_154 rfl rfl rfl ?_
      have f475 : Fld Z h472 a1 "com/example/plumbline/plumbline/align/WeightHeap" "items" "[J" (.ref ia) := (f347.keep (Keep.of_wr W472) (ninS H11 nin0))
      refine go_getF K X472 (host := "") (Or.inl (wd hw 12 rfl)) Via.refl e472 f475 d6_155 rfl ?_
      intro T476 X476 e476
      refine go_iload K X476 d6_158 rfl rfl ?_
      refine go_lload K X476 d6_160 rfl rfl ?_
      have f477 : AV Z h472 ia .long (own_arr x0 x1 x2 x3 x4) := (f350.keep (Keep.of_wr W472) (ninS (Ne.symm H10) nin0))
      refine go_lastore K X476 e476 f477 (i := 0) rfl (Nat.le_of_ble_eq_true rfl) H3 d6_162 rfl ?_
      intro T478 h478 X478 e478 W478 A478
      have kp479 : Keep h0 h478 [a1, wa, ia] := kp473.trans (Keep.of_wr W478) (allS (Or.inl (List.mem_of_getElem? (i := 2) rfl)) all0)
      have f480 : AV Z h478 ia .long (own_arr x4 x1 x2 x3 x4) := A478
      refine go_lloadN K X478 d6_163 rfl rfl ?_
      refine go_retJ K X478 d6_164 (by decide) (by decide) ?_
      have f481 : Exa Z h478 a1 "com/example/plumbline/plumbline/align/WeightHeap" := (((H4.keep (Keep.of_wr W340)).keep (Keep.of_wr W472)).keep (Keep.of_wr W478))
      have f482 : Fld Z h478 a1 "com/example/plumbline/plumbline/align/WeightHeap" "weights" "[J" (.ref wa) := ((f343.keep (Keep.of_wr W472) (ninS H11 nin0)).keep (Keep.of_wr W478) (ninS H12 nin0))
      have f483 : Fld Z h478 a1 "com/example/plumbline/plumbline/align/WeightHeap" "items" "[J" (.ref ia) := (f475.keep (Keep.of_wr W478) (ninS H12 nin0))
      have f484 : Fld Z h478 a1 "com/example/plumbline/plumbline/align/WeightHeap" "size" "I" (.int (4 : Int32)) := ((f342.keep (Keep.of_wr W472) (ninS H11 nin0)).keep (Keep.of_wr W478) (ninS H12 nin0))
      have f485 : AV Z h478 wa .long (own_arr w4 w1 w2 w3 w4) := (f474.keep (Keep.of_wr W478) (ninS H10 nin0))
      rw [e478]
      exact ⟨w4, w1, w2, w3, w4, x4, x1, x2, x3, x4, rfl, kp479, f481, f482, f483, f484, f485, f480, (by have hp := H13; have g0 := own_lt hc355; have g1 := own_nlt hc439; omega), (List.Perm.cons _ ((List.perm_middle (l₁ := [(w4, x4)]) (a := (w1, x1)) (l₂ := [(w2, x2), (w3, x3)])).trans (List.Perm.cons _ ((List.perm_middle (l₁ := [(w4, x4)]) (a := (w2, x2)) (l₂ := [(w3, x3)])).trans (List.Perm.cons _ ((List.perm_middle (l₁ := [(w4, x4)]) (a := (w3, x3)) (l₂ := [])).trans (List.Perm.cons _ (List.Perm.cons _ (List.Perm.refl _))))))))), (by have hp := H13; have g0 := own_lt hc355; have g1 := own_nlt hc439; omega)⟩
theorem ef_rmPoll4 (m : MethodId) (a1 : Addr) : entryFrame m #[(.ref a1)] 9 = mkF m 0 #[.val (.ref a1), .unset, .unset, .unset, .unset, .unset, .unset, .unset, .unset] [] := by first | (simp [entryFrame, mkF, argsToLocals, Value.category]; done) | rfl
def Q_rmPoll4 (Z : State) (n0 : Nat) (a1 : Addr) (wa : Addr) (ia : Addr) (w0 : Int64) (w1 : Int64) (w2 : Int64) (w3 : Int64) (w4 : Int64) (x0 : Int64) (x1 : Int64) (x2 : Int64) (x3 : Int64) (x4 : Int64) (h0 : Heap) (v : Option Value) (h : Heap) : Prop := ∃ d0 : Int64, ∃ d1 : Int64, ∃ d2 : Int64, ∃ d3 : Int64, ∃ d4 : Int64, ∃ e0 : Int64, ∃ e1 : Int64, ∃ e2 : Int64, ∃ e3 : Int64, ∃ e4 : Int64, v = some (.long x0) ∧ Keep h0 h [a1, wa, ia] ∧ Exa Z h a1 "com/example/plumbline/plumbline/align/WeightHeap" ∧ Fld Z h a1 "com/example/plumbline/plumbline/align/WeightHeap" "weights" "[J" (.ref wa) ∧ Fld Z h a1 "com/example/plumbline/plumbline/align/WeightHeap" "items" "[J" (.ref ia) ∧ Fld Z h a1 "com/example/plumbline/plumbline/align/WeightHeap" "size" "I" (.int (3 : Int32)) ∧ AV Z h wa .long (own_arr d0 d1 d2 d3 d4) ∧ AV Z h ia .long (own_arr e0 e1 e2 e3 e4) ∧ ((d0).toInt ≤ (d1).toInt ∧ (d0).toInt ≤ (d2).toInt) ∧ (List.Perm [(w0, x0), (d0, e0), (d1, e1), (d2, e2)] [(w0, x0), (w1, x1), (w2, x2), (w3, x3)]) ∧ ((w0).toInt ≤ (d0).toInt)
abbrev R_rmPoll4 : Room := { frames := 0, cells := 0, slots := 0, locals := 0 }
set_option maxRecDepth 65536 in
set_option maxHeartbeats 40000000 in
theorem rmPoll4 {l : Launch} {Z : State} {n0 : Nat} {a0 : Array Value} (hw : ∀ d ∈ tables_1, d.before a0 Z = true) (a1 : Addr) (wa : Addr) (ia : Addr) (w0 : Int64) (w1 : Int64) (w2 : Int64) (w3 : Int64) (w4 : Int64) (x0 : Int64) (x1 : Int64) (x2 : Int64) (x3 : Int64) (x4 : Int64) (h0 : Heap) (H0 : n0 ≤ h0.size) (H1 : n0 ≤ a1) (H2 : n0 ≤ wa) (H3 : n0 ≤ ia) (H4 : Exa Z h0 a1 "com/example/plumbline/plumbline/align/WeightHeap") (H5 : Fld Z h0 a1 "com/example/plumbline/plumbline/align/WeightHeap" "weights" "[J" (.ref wa)) (H6 : Fld Z h0 a1 "com/example/plumbline/plumbline/align/WeightHeap" "items" "[J" (.ref ia)) (H7 : Fld Z h0 a1 "com/example/plumbline/plumbline/align/WeightHeap" "size" "I" (.int (4 : Int32))) (H8 : AV Z h0 wa .long (own_arr w0 w1 w2 w3 w4)) (H9 : AV Z h0 ia .long (own_arr x0 x1 x2 x3 x4)) (H10 : wa ≠ ia) (H11 : a1 ≠ wa) (H12 : a1 ≠ ia) (H13 : (w0).toInt ≤ (w1).toInt ∧ (w0).toInt ≤ (w2).toInt ∧ (w1).toInt ≤ (w3).toInt) :
    Con l Z n0 (⟨"com/example/plumbline/plumbline/align/WeightHeap", "pollFirst", "()J"⟩ : MethodName) prog_61_method_7_code 9 (some .long) R_rmPoll4 #[(.ref a1)] h0 (Q_rmPoll4 Z n0 a1 wa ia w0 w1 w2 w3 w4 x0 x1 x2 x3 x4 h0) := by
  refine con_of (plainFor_of_name pn_com_example_plumbline_plumbline_align_WeightHeap) ?_
  intro p e s m below meth c T0 K X0 e0
  replace K : Ctx p s m meth c Z "com/example/plumbline/plumbline/align/WeightHeap" "pollFirst" prog_61_method_7_code 9 (some .long) := K
  refine go_entry (ef_rmPoll4 m a1) ?_
  refine go_aloadN K X0 d6_0 rfl rfl rfl ?_
  refine go_getF K X0 (host := "") (Or.inl (wd hw 12 rfl)) Via.refl e0 H6 d6_1 rfl ?_
  intro T486 X486 e486
  refine go_iconst K X486 (0 : Int32) d6_4 rfl rfl ?_
  refine go_laload K X486 e486 H9 (i := 0) rfl rfl d6_5 rfl ?_
  refine go_lstoreN K X486 #[.val (.ref a1), .val (.long x0), .second, .unset, .unset, .unset, .unset, .unset, .unset] d6_6 rfl rfl ?_
  refine go_aloadN K X486 d6_7 rfl rfl rfl ?_
  refine go_dup K X486 d6_8 rfl rfl ?_
  refine go_getF K X486 (host := "") (Or.inl (wd hw 33 rfl)) Via.refl e486 H7 d6_9 rfl ?_
  intro T487 X487 e487
  refine go_iconst K X487 (1 : Int32) d6_12 rfl rfl ?_
  refine go_isub K X487 d6_13 rfl ?_
  rw [show ((4 : Int32) - (1 : Int32)) = (3 : Int32) from by decide]
  refine go_putF K X487 (host := "") (Or.inl (wd hw 33 rfl)) Via.refl e487 H7 H4 (Or.inl (wd hw 34 rfl)) (wd hw 2 rfl) (ty := .int) (by decide) rfl rfl H1 d6_14 rfl ?_
  intro T488 h488 X488 e488 W488
  have kp489 : Keep h0 h488 [a1, wa, ia] := (Keep.refl h0 [a1, wa, ia]).trans (Keep.of_wr W488) (allS (Or.inl (List.mem_of_getElem? (i := 0) rfl)) all0)
  have f490 : Fld Z h488 a1 "com/example/plumbline/plumbline/align/WeightHeap" "size" "I" (.int (3 : Int32)) := H7.same W488
  refine go_aloadN K X488 d6_17 rfl rfl rfl ?_
  have f491 : Fld Z h488 a1 "com/example/plumbline/plumbline/align/WeightHeap" "weights" "[J" (.ref wa) := (H5.other W488 (Or.inr (slot_ne (Or.inl (wd hw 11 rfl)) (Or.inl (wd hw 34 rfl)) (by decide) (t := (.array .long)) (t' := .int) (by decide) (by decide))))
  refine go_getF K X488 (host := "") (Or.inl (wd hw 10 rfl)) Via.refl e488 f491 d6_18 rfl ?_
  intro T492 X492 e492
  refine go_aloadN K X492 d6_21 rfl rfl rfl ?_
  refine go_getF K X492 (host := "") (Or.inl (wd hw 33 rfl)) Via.refl e492 f490 d6_22 rfl ?_
  intro T493 X493 e493
  have f494 : AV Z h488 wa .long (own_arr w0 w1 w2 w3 w4) := (H8.keep (Keep.of_wr W488) (ninS (Ne.symm H11) nin0))
  refine go_laload K X493 e493 f494 (i := 3) rfl rfl d6_25 rfl ?_
  refine go_lstoreN K X493 #[.val (.ref a1), .val (.long x0), .second, .val (.long w3), .second, .unset, .unset, .unset, .unset] d6_26 rfl rfl ?_
  refine go_aloadN K X493 d6_27 rfl rfl rfl ?_
  have f495 : Fld Z h488 a1 "com/example/plumbline/plumbline/align/WeightHeap" "items" "[J" (.ref ia) := (H6.other W488 (Or.inr (slot_ne (Or.inl (wd hw 13 rfl)) (Or.inl (wd hw 34 rfl)) (by decide) (t := (.array .long)) (t' := .int) (by decide) (by decide))))
  refine go_getF K X493 (host := "") (Or.inl (wd hw 12 rfl)) Via.refl e493 f495 d6_28 rfl ?_
  intro T496 X496 e496
  refine go_aloadN K X496 d6_31 rfl rfl rfl ?_
  refine go_getF K X496 (host := "") (Or.inl (wd hw 33 rfl)) Via.refl e496 f490 d6_32 rfl ?_
  intro T497 X497 e497
  have f498 : AV Z h488 ia .long (own_arr x0 x1 x2 x3 x4) := (H9.keep (Keep.of_wr W488) (ninS (Ne.symm H12) nin0))
  refine go_laload K X497 e497 f498 (i := 3) rfl rfl d6_35 rfl ?_
  refine go_lstore K X497 #[.val (.ref a1), .val (.long x0), .second, .val (.long w3), .second, .val (.long x3), .second, .unset, .unset] d6_36 rfl rfl ?_
  refine go_iconst K X497 (0 : Int32) d6_38 rfl rfl ?_
  refine go_istore K X497 #[.val (.ref a1), .val (.long x0), .second, .val (.long w3), .second, .val (.long x3), .second, .val (.int (0 : Int32)), .unset] d6_39 rfl rfl ?_
  refine go_iconst K X497 (2 : Int32) d6_41 rfl rfl ?_
  refine go_iload K X497 d6_42 rfl rfl ?_
  refine go_imul K X497 d6_44 rfl ?_
  rw [show ((2 : Int32) * (0 : Int32)) = (0 : Int32) from by decide]
  refine go_iconst K X497 (1 : Int32) d6_45 rfl rfl ?_
  refine go_iadd K X497 d6_46 rfl ?_
  rw [show ((0 : Int32) + (1 : Int32)) = (1 : Int32) from by decide]
  refine go_aloadN K X497 d6_47 rfl rfl rfl ?_
  refine go_getF K X497 (host := "") (Or.inl (wd hw 33 rfl)) Via.refl e497 f490 d6_48 rfl ?_
  intro T499 X499 e499
  refine go_icmpF K X499 d6_51 rfl (by decide : (1 : Int32) < (3 : Int32)) ?_
  refine go_iconst K X499 (2 : Int32) d6_54 rfl rfl ?_
  refine go_iload K X499 d6_55 rfl rfl ?_
  refine go_imul K X499 d6_57 rfl ?_
  rw [show ((2 : Int32) * (0 : Int32)) = (0 : Int32) from by decide]
  refine go_iconst K X499 (1 : Int32) d6_58 rfl rfl ?_
  refine go_iadd K X499 d6_59 rfl ?_
  rw [show ((0 : Int32) + (1 : Int32)) = (1 : Int32) from by decide]
  refine go_istore K X499 #[.val (.ref a1), .val (.long x0), .second, .val (.long w3), .second, .val (.long x3), .second, .val (.int (0 : Int32)), .val (.int (1 : Int32))] d6_60 rfl rfl ?_
  refine go_iload K X499 d6_62 rfl rfl ?_
  refine go_iconst K X499 (1 : Int32) d6_64 rfl rfl ?_
  refine go_iadd K X499 d6_65 rfl ?_
  rw [show ((1 : Int32) + (1 : Int32)) = (2 : Int32) from by decide]
  refine go_aloadN K X499 d6_66 rfl rfl rfl ?_
  refine go_getF K X499 (host := "") (Or.inl (wd hw 33 rfl)) Via.refl e499 f490 d6_67 rfl ?_
  intro T500 X500 e500
  refine go_icmpF K X500 d6_70 rfl (by decide : (2 : Int32) < (3 : Int32)) ?_
  refine go_aloadN K X500 d6_73 rfl rfl rfl ?_
  refine go_getF K X500 (host := "") (Or.inl (wd hw 10 rfl)) Via.refl e500 f491 d6_74 rfl ?_
  intro T501 X501 e501
  refine go_iload K X501 d6_77 rfl rfl ?_
  refine go_iconst K X501 (1 : Int32) d6_79 rfl rfl ?_
  refine go_iadd K X501 d6_80 rfl ?_
  rw [show ((1 : Int32) + (1 : Int32)) = (2 : Int32) from by decide]
  refine go_laload K X501 e501 f494 (i := 2) rfl rfl d6_81 rfl ?_
  refine go_aloadN K X501 d6_82 rfl rfl rfl ?_
  refine go_getF K X501 (host := "") (Or.inl (wd hw 10 rfl)) Via.refl e501 f491 d6_83 rfl ?_
  intro T502 X502 e502
  refine go_iload K X502 d6_86 rfl rfl ?_
  refine go_laload K X502 e502 f494 (i := 1) rfl rfl d6_88 rfl ?_
  refine go_lif K X502 d6_89 rfl d6_90 (by decide) rfl rfl ?_ ?_
  · intro (hc503 : ¬ w2 < w1)
    refine go_aloadN K X502 d6_96 rfl rfl rfl ?_
    refine go_getF K X502 (host := "") (Or.inl (wd hw 10 rfl)) Via.refl e502 f491 d6_97 rfl ?_
    intro T504 X504 e504
    refine go_iload K X504 d6_100 rfl rfl ?_
    refine go_laload K X504 e504 f494 (i := 1) rfl rfl d6_102 rfl ?_
    refine go_lloadN K X504 d6_103 rfl rfl ?_
    refine go_lif K X504 d6_104 rfl d6_105 (by decide) rfl rfl ?_ ?_
    · intro (hc505 : w1 < w3)
      refine go_aloadN K X504 d6_111 rfl rfl rfl ?_
      refine go_getF K X504 (host := "") (Or.inl (wd hw 10 rfl)) Via.refl e504 f491 d6_112 rfl ?_
      intro T506 X506 e506
      refine go_iload K X506 d6_115 rfl rfl ?_
      refine go_aloadN K X506 d6_117 rfl rfl rfl ?_
      refine go_getF K X506 (host := "") (Or.inl (wd hw 10 rfl)) Via.refl e506 f491 d6_118 rfl ?_
      intro T507 X507 e507
      refine go_iload K X507 d6_121 rfl rfl ?_
      refine go_laload K X507 e507 f494 (i := 1) rfl rfl d6_123 rfl ?_
      refine go_lastore K X507 e507 f494 (i := 0) rfl (Nat.le_of_ble_eq_true rfl) H2 d6_124 rfl ?_
      intro T508 h508 X508 e508 W508 A508
      have kp509 : Keep h0 h508 [a1, wa, ia] := kp489.trans (Keep.of_wr W508) (allS (Or.inl (List.mem_of_getElem? (i := 1) rfl)) all0)
      have f510 : AV Z h508 wa .long (own_arr w1 w1 w2 w3 w4) := A508
      refine go_aloadN K X508 d6_125 rfl rfl rfl ?_
      have f511 : Fld Z h508 a1 "com/example/plumbline/plumbline/align/WeightHeap" "items" "[J" (.ref ia) := (f495.keep (Keep.of_wr W508) (ninS H11 nin0))
      refine go_getF K X508 (host := "") (Or.inl (wd hw 12 rfl)) Via.refl e508 f511 d6_126 rfl ?_
      intro T512 X512 e512
      refine go_iload K X512 d6_129 rfl rfl ?_
      refine go_aloadN K X512 d6_131 rfl rfl rfl ?_
      refine go_getF K X512 (host := "") (Or.inl (wd hw 12 rfl)) Via.refl e512 f511 d6_132 rfl ?_
      intro T513 X513 e513
      refine go_iload K X513 d6_135 rfl rfl ?_
      have f514 : AV Z h508 ia .long (own_arr x0 x1 x2 x3 x4) := (f498.keep (Keep.of_wr W508) (ninS (Ne.symm H10) nin0))
      refine go_laload K X513 e513 f514 (i := 1) rfl rfl d6_137 rfl ?_
      refine go_lastore K X513 e513 f514 (i := 0) rfl (Nat.le_of_ble_eq_true rfl) H3 d6_138 rfl ?_
      intro T515 h515 X515 e515 W515 A515
      have kp516 : Keep h0 h515 [a1, wa, ia] := kp509.trans (Keep.of_wr W515) (allS (Or.inl (List.mem_of_getElem? (i := 2) rfl)) all0)
      have f517 : AV Z h515 ia .long (own_arr x1 x1 x2 x3 x4) := A515
      refine go_iload K X515 d6_139 rfl rfl ?_
      refine go_istore K X515 #[.val (.ref a1), .val (.long x0), .second, .val (.long w3), .second, .val (.long x3), .second, .val (.int (1 : Int32)), .val (.int (1 : Int32))] d6_141 rfl rfl ?_
      refine go_goto K X515 d6_143 (by decide) rfl ?_
      refine go_iconst K X515 (2 : Int32) d6_41 rfl rfl ?_
      refine go_iload K X515 d6_42 rfl rfl ?_
      refine go_imul K X515 d6_44 rfl ?_
      rw [show ((2 : Int32) * (1 : Int32)) = (2 : Int32) from by decide]
      refine go_iconst K X515 (1 : Int32) d6_45 rfl rfl ?_
      refine go_iadd K X515 d6_46 rfl ?_
      rw [show ((2 : Int32) + (1 : Int32)) = (3 : Int32) from by decide]
      refine go_aloadN K X515 d6_47 rfl rfl rfl ?_
      have f518 : Fld Z h515 a1 "com/example/plumbline/plumbline/align/WeightHeap" "size" "I" (.int (3 : Int32)) := ((f490.keep (Keep.of_wr W508) (ninS H11 nin0)).keep (Keep.of_wr W515) (ninS H12 nin0))
      refine go_getF K X515 (host := "") (Or.inl (wd hw 33 rfl)) Via.refl e515 f518 d6_48 rfl ?_
      intro T519 X519 e519
      refine go_icmpT K X519 d6_51 (by decide) rfl (by decide : ¬ (3 : Int32) < (3 : Int32)) ?_
      refine go_aloadN K X519 d6_146 rfl rfl rfl ?_
      have f520 : Fld Z h515 a1 "com/example/plumbline/plumbline/align/WeightHeap" "weights" "[J" (.ref wa) := ((f491.keep (Keep.of_wr W508) (ninS H11 nin0)).keep (Keep.of_wr W515) (ninS H12 nin0))
      refine go_getF K X519 (host := "") (Or.inl (wd hw 10 rfl)) Via.refl e519 f520 d6_147 rfl ?_
      intro T521 X521 e521
      refine go_iload K X521 d6_150 rfl rfl ?_
      refine go_lloadN K X521 d6_152 rfl rfl ?_
      have f522 : AV Z h515 wa .long (own_arr w1 w1 w2 w3 w4) := (f510.keep (Keep.of_wr W515) (ninS H10 nin0))
      refine go_lastore K X521 e521 f522 (i := 1) rfl (Nat.le_of_ble_eq_true rfl) H2 d6_153 rfl ?_
      intro T523 h523 X523 e523 W523 A523
      have kp524 : Keep h0 h523 [a1, wa, ia] := kp516.trans (Keep.of_wr W523) (allS (Or.inl (List.mem_of_getElem? (i := 1) rfl)) all0)
      have f525 : AV Z h523 wa .long (own_arr w1 w3 w2 w3 w4) := A523
      refine go_aloadN K X523 d6_154 rfl rfl rfl ?_
      have f526 : Fld Z h523 a1 "com/example/plumbline/plumbline/align/WeightHeap" "items" "[J" (.ref ia) := ((f511.keep (Keep.of_wr W515) (ninS H12 nin0)).keep (Keep.of_wr W523) (ninS H11 nin0))
      refine go_getF K X523 (host := "") (Or.inl (wd hw 12 rfl)) Via.refl e523 f526 d6_155 rfl ?_
      intro T527 X527 e527
      refine go_iload K X527 d6_158 rfl rfl ?_
      refine go_lload K X527 d6_160 rfl rfl ?_
      have f528 : AV Z h523 ia .long (own_arr x1 x1 x2 x3 x4) := (f517.keep (Keep.of_wr W523) (ninS (Ne.symm H10) nin0))
      refine go_lastore K X527 e527 f528 (i := 1) rfl (Nat.le_of_ble_eq_true rfl) H3 d6_162 rfl ?_
      intro T529 h529 X529 e529 W529 A529
      have kp530 : Keep h0 h529 [a1, wa, ia] := kp524.trans (Keep.of_wr W529) (allS (Or.inl (List.mem_of_getElem? (i := 2) rfl)) all0)
      have f531 : AV Z h529 ia .long (own_arr x1 x3 x2 x3 x4) := A529
      refine go_lloadN K X529 d6_163 rfl rfl ?_
      refine go_retJ K X529 d6_164 (by decide) (by decide) ?_
      have f532 : Exa Z h529 a1 "com/example/plumbline/plumbline/align/WeightHeap" := (((((H4.keep (Keep.of_wr W488)).keep (Keep.of_wr W508)).keep (Keep.of_wr W515)).keep (Keep.of_wr W523)).keep (Keep.of_wr W529))
      have f533 : Fld Z h529 a1 "com/example/plumbline/plumbline/align/WeightHeap" "weights" "[J" (.ref wa) := ((f520.keep (Keep.of_wr W523) (ninS H11 nin0)).keep (Keep.of_wr W529) (ninS H12 nin0))
      have f534 : Fld Z h529 a1 "com/example/plumbline/plumbline/align/WeightHeap" "items" "[J" (.ref ia) := (f526.keep (Keep.of_wr W529) (ninS H12 nin0))
      have f535 : Fld Z h529 a1 "com/example/plumbline/plumbline/align/WeightHeap" "size" "I" (.int (3 : Int32)) := ((f518.keep (Keep.of_wr W523) (ninS H11 nin0)).keep (Keep.of_wr W529) (ninS H12 nin0))
      have f536 : AV Z h529 wa .long (own_arr w1 w3 w2 w3 w4) := (f525.keep (Keep.of_wr W529) (ninS H10 nin0))
      rw [e529]
      exact ⟨w1, w3, w2, w3, w4, x1, x3, x2, x3, x4, rfl, kp530, f532, f533, f534, f535, f536, f531, (by have hp := H13; have g0 := own_nlt hc503; have g1 := own_lt hc505; omega), (List.Perm.cons _ (List.Perm.cons _ ((List.perm_middle (l₁ := [(w3, x3)]) (a := (w2, x2)) (l₂ := [])).trans (List.Perm.cons _ (List.Perm.cons _ (List.Perm.refl _)))))), (by have hp := H13; have g0 := own_nlt hc503; have g1 := own_lt hc505; omega)⟩
    · intro (hc505 : ¬ w1 < w3)
      refine go_goto K X504 d6_108 (by decide) rfl ?_
      refine go_aloadN K X504 d6_146 rfl rfl rfl ?_
      refine go_getF K X504 (host := "") (Or.inl (wd hw 10 rfl)) Via.refl e504 f491 d6_147 rfl ?_
      intro T537 X537 e537
      refine go_iload K X537 d6_150 rfl rfl ?_
      refine go_lloadN K X537 d6_152 rfl rfl ?_
      refine go_lastore K X537 e537 f494 (i := 0) rfl (Nat.le_of_ble_eq_true rfl) H2 d6_153 rfl ?_
      intro T538 h538 X538 e538 W538 A538
      have kp539 : Keep h0 h538 [a1, wa, ia] := kp489.trans (Keep.of_wr W538) (allS (Or.inl (List.mem_of_getElem? (i := 1) rfl)) all0)
      have f540 : AV Z h538 wa .long (own_arr w3 w1 w2 w3 w4) := A538
      refine go_aloadN K X538 d6_154 rfl rfl rfl ?_
      have f541 : Fld Z h538 a1 "com/example/plumbline/plumbline/align/WeightHeap" "items" "[J" (.ref ia) := (f495.keep (Keep.of_wr W538) (ninS H11 nin0))
      refine go_getF K X538 (host := "") (Or.inl (wd hw 12 rfl)) Via.refl e538 f541 d6_155 rfl ?_
      intro T542 X542 e542
      refine go_iload K X542 d6_158 rfl rfl ?_
      refine go_lload K X542 d6_160 rfl rfl ?_
      have f543 : AV Z h538 ia .long (own_arr x0 x1 x2 x3 x4) := (f498.keep (Keep.of_wr W538) (ninS (Ne.symm H10) nin0))
      refine go_lastore K X542 e542 f543 (i := 0) rfl (Nat.le_of_ble_eq_true rfl) H3 d6_162 rfl ?_
      intro T544 h544 X544 e544 W544 A544
      have kp545 : Keep h0 h544 [a1, wa, ia] := kp539.trans (Keep.of_wr W544) (allS (Or.inl (List.mem_of_getElem? (i := 2) rfl)) all0)
      have f546 : AV Z h544 ia .long (own_arr x3 x1 x2 x3 x4) := A544
      refine go_lloadN K X544 d6_163 rfl rfl ?_
      refine go_retJ K X544 d6_164 (by decide) (by decide) ?_
      have f547 : Exa Z h544 a1 "com/example/plumbline/plumbline/align/WeightHeap" := (((H4.keep (Keep.of_wr W488)).keep (Keep.of_wr W538)).keep (Keep.of_wr W544))
      have f548 : Fld Z h544 a1 "com/example/plumbline/plumbline/align/WeightHeap" "weights" "[J" (.ref wa) := ((f491.keep (Keep.of_wr W538) (ninS H11 nin0)).keep (Keep.of_wr W544) (ninS H12 nin0))
      have f549 : Fld Z h544 a1 "com/example/plumbline/plumbline/align/WeightHeap" "items" "[J" (.ref ia) := (f541.keep (Keep.of_wr W544) (ninS H12 nin0))
      have f550 : Fld Z h544 a1 "com/example/plumbline/plumbline/align/WeightHeap" "size" "I" (.int (3 : Int32)) := ((f490.keep (Keep.of_wr W538) (ninS H11 nin0)).keep (Keep.of_wr W544) (ninS H12 nin0))
      have f551 : AV Z h544 wa .long (own_arr w3 w1 w2 w3 w4) := (f540.keep (Keep.of_wr W544) (ninS H10 nin0))
      rw [e544]
      exact ⟨w3, w1, w2, w3, w4, x3, x1, x2, x3, x4, rfl, kp545, f547, f548, f549, f550, f551, f546, (by have hp := H13; have g0 := own_nlt hc503; have g1 := own_nlt hc505; omega), (List.Perm.cons _ ((List.perm_middle (l₁ := [(w3, x3)]) (a := (w1, x1)) (l₂ := [(w2, x2)])).trans (List.Perm.cons _ ((List.perm_middle (l₁ := [(w3, x3)]) (a := (w2, x2)) (l₂ := [])).trans (List.Perm.cons _ (List.Perm.cons _ (List.Perm.refl _))))))), (by have hp := H13; have g0 := own_nlt hc503; have g1 := own_nlt hc505; omega)⟩
  · intro (hc503 : w2 < w1)
    refine go_iinc K X502 (1 : Int32) #[.val (.ref a1), .val (.long x0), .second, .val (.long w3), .second, .val (.long x3), .second, .val (.int (0 : Int32)), .val (.int ((1 : Int32) + (1 : Int32)))] d6_93 rfl rfl rfl rfl ?_
    rw [show ((1 : Int32) + (1 : Int32)) = (2 : Int32) from by decide]
    refine go_aloadN K X502 d6_96 rfl rfl rfl ?_
    refine go_getF K X502 (host := "") (Or.inl (wd hw 10 rfl)) Via.refl e502 f491 d6_97 rfl ?_
    intro T552 X552 e552
    refine go_iload K X552 d6_100 rfl rfl ?_
    refine go_laload K X552 e552 f494 (i := 2) rfl rfl d6_102 rfl ?_
    refine go_lloadN K X552 d6_103 rfl rfl ?_
    refine go_lif K X552 d6_104 rfl d6_105 (by decide) rfl rfl ?_ ?_
    · intro (hc553 : w2 < w3)
      refine go_aloadN K X552 d6_111 rfl rfl rfl ?_
      refine go_getF K X552 (host := "") (Or.inl (wd hw 10 rfl)) Via.refl e552 f491 d6_112 rfl ?_
      intro T554 X554 e554
      refine go_iload K X554 d6_115 rfl rfl ?_
      refine go_aloadN K X554 d6_117 rfl rfl rfl ?_
      refine go_getF K X554 (host := "") (Or.inl (wd hw 10 rfl)) Via.refl e554 f491 d6_118 rfl ?_
      intro T555 X555 e555
      refine go_iload K X555 d6_121 rfl rfl ?_
      refine go_laload K X555 e555 f494 (i := 2) rfl rfl d6_123 rfl ?_
      refine go_lastore K X555 e555 f494 (i := 0) rfl (Nat.le_of_ble_eq_true rfl) H2 d6_124 rfl ?_
      intro T556 h556 X556 e556 W556 A556
      have kp557 : Keep h0 h556 [a1, wa, ia] := kp489.trans (Keep.of_wr W556) (allS (Or.inl (List.mem_of_getElem? (i := 1) rfl)) all0)
      have f558 : AV Z h556 wa .long (own_arr w2 w1 w2 w3 w4) := A556
      refine go_aloadN K X556 d6_125 rfl rfl rfl ?_
      have f559 : Fld Z h556 a1 "com/example/plumbline/plumbline/align/WeightHeap" "items" "[J" (.ref ia) := (f495.keep (Keep.of_wr W556) (ninS H11 nin0))
      refine go_getF K X556 (host := "") (Or.inl (wd hw 12 rfl)) Via.refl e556 f559 d6_126 rfl ?_
      intro T560 X560 e560
      refine go_iload K X560 d6_129 rfl rfl ?_
      refine go_aloadN K X560 d6_131 rfl rfl rfl ?_
      refine go_getF K X560 (host := "") (Or.inl (wd hw 12 rfl)) Via.refl e560 f559 d6_132 rfl ?_
      intro T561 X561 e561
      refine go_iload K X561 d6_135 rfl rfl ?_
      have f562 : AV Z h556 ia .long (own_arr x0 x1 x2 x3 x4) := (f498.keep (Keep.of_wr W556) (ninS (Ne.symm H10) nin0))
      refine go_laload K X561 e561 f562 (i := 2) rfl rfl d6_137 rfl ?_
      refine go_lastore K X561 e561 f562 (i := 0) rfl (Nat.le_of_ble_eq_true rfl) H3 d6_138 rfl ?_
      intro T563 h563 X563 e563 W563 A563
      have kp564 : Keep h0 h563 [a1, wa, ia] := kp557.trans (Keep.of_wr W563) (allS (Or.inl (List.mem_of_getElem? (i := 2) rfl)) all0)
      have f565 : AV Z h563 ia .long (own_arr x2 x1 x2 x3 x4) := A563
      refine go_iload K X563 d6_139 rfl rfl ?_
      refine go_istore K X563 #[.val (.ref a1), .val (.long x0), .second, .val (.long w3), .second, .val (.long x3), .second, .val (.int (2 : Int32)), .val (.int (2 : Int32))] d6_141 rfl rfl ?_
      refine go_goto K X563 d6_143 (by decide) rfl ?_
      refine go_iconst K X563 (2 : Int32) d6_41 rfl rfl ?_
      refine go_iload K X563 d6_42 rfl rfl ?_
      refine go_imul K X563 d6_44 rfl ?_
      rw [show ((2 : Int32) * (2 : Int32)) = (4 : Int32) from by decide]
      refine go_iconst K X563 (1 : Int32) d6_45 rfl rfl ?_
      refine go_iadd K X563 d6_46 rfl ?_
      rw [show ((4 : Int32) + (1 : Int32)) = (5 : Int32) from by decide]
      refine go_aloadN K X563 d6_47 rfl rfl rfl ?_
      have f566 : Fld Z h563 a1 "com/example/plumbline/plumbline/align/WeightHeap" "size" "I" (.int (3 : Int32)) := ((f490.keep (Keep.of_wr W556) (ninS H11 nin0)).keep (Keep.of_wr W563) (ninS H12 nin0))
      refine go_getF K X563 (host := "") (Or.inl (wd hw 33 rfl)) Via.refl e563 f566 d6_48 rfl ?_
      intro T567 X567 e567
      refine go_icmpT K X567 d6_51 (by decide) rfl (by decide : ¬ (5 : Int32) < (3 : Int32)) ?_
      refine go_aloadN K X567 d6_146 rfl rfl rfl ?_
      have f568 : Fld Z h563 a1 "com/example/plumbline/plumbline/align/WeightHeap" "weights" "[J" (.ref wa) := ((f491.keep (Keep.of_wr W556) (ninS H11 nin0)).keep (Keep.of_wr W563) (ninS H12 nin0))
      refine go_getF K X567 (host := "") (Or.inl (wd hw 10 rfl)) Via.refl e567 f568 d6_147 rfl ?_
      intro T569 X569 e569
      refine go_iload K X569 d6_150 rfl rfl ?_
      refine go_lloadN K X569 d6_152 rfl rfl ?_
      have f570 : AV Z h563 wa .long (own_arr w2 w1 w2 w3 w4) := (f558.keep (Keep.of_wr W563) (ninS H10 nin0))
      refine go_lastore K X569 e569 f570 (i := 2) rfl (Nat.le_of_ble_eq_true rfl) H2 d6_153 rfl ?_
      intro T571 h571 X571 e571 W571 A571
      have kp572 : Keep h0 h571 [a1, wa, ia] := kp564.trans (Keep.of_wr W571) (allS (Or.inl (List.mem_of_getElem? (i := 1) rfl)) all0)
      have f573 : AV Z h571 wa .long (own_arr w2 w1 w3 w3 w4) := A571
      refine go_aloadN K X571 d6_154 rfl rfl rfl ?_
      have f574 : Fld Z h571 a1 "com/example/plumbline/plumbline/align/WeightHeap" "items" "[J" (.ref ia) := ((f559.keep (Keep.of_wr W563) (ninS H12 nin0)).keep (Keep.of_wr W571) (ninS H11 nin0))
      refine go_getF K X571 (host := "") (Or.inl (wd hw 12 rfl)) Via.refl e571 f574 d6_155 rfl ?_
      intro T575 X575 e575
      refine go_iload K X575 d6_158 rfl rfl ?_
      refine go_lload K X575 d6_160 rfl rfl ?_
      have f576 : AV Z h571 ia .long (own_arr x2 x1 x2 x3 x4) := (f565.keep (Keep.of_wr W571) (ninS (Ne.symm H10) nin0))
      refine go_lastore K X575 e575 f576 (i := 2) rfl (Nat.le_of_ble_eq_true rfl) H3 d6_162 rfl ?_
      intro T577 h577 X577 e577 W577 A577
      have kp578 : Keep h0 h577 [a1, wa, ia] := kp572.trans (Keep.of_wr W577) (allS (Or.inl (List.mem_of_getElem? (i := 2) rfl)) all0)
      have f579 : AV Z h577 ia .long (own_arr x2 x1 x3 x3 x4) := A577
      refine go_lloadN K X577 d6_163 rfl rfl ?_
      refine go_retJ K X577 d6_164 (by decide) (by decide) ?_
      have f580 : Exa Z h577 a1 "com/example/plumbline/plumbline/align/WeightHeap" := (((((H4.keep (Keep.of_wr W488)).keep (Keep.of_wr W556)).keep (Keep.of_wr W563)).keep (Keep.of_wr W571)).keep (Keep.of_wr W577))
      have f581 : Fld Z h577 a1 "com/example/plumbline/plumbline/align/WeightHeap" "weights" "[J" (.ref wa) := ((f568.keep (Keep.of_wr W571) (ninS H11 nin0)).keep (Keep.of_wr W577) (ninS H12 nin0))
      have f582 : Fld Z h577 a1 "com/example/plumbline/plumbline/align/WeightHeap" "items" "[J" (.ref ia) := (f574.keep (Keep.of_wr W577) (ninS H12 nin0))
      have f583 : Fld Z h577 a1 "com/example/plumbline/plumbline/align/WeightHeap" "size" "I" (.int (3 : Int32)) := ((f566.keep (Keep.of_wr W571) (ninS H11 nin0)).keep (Keep.of_wr W577) (ninS H12 nin0))
      have f584 : AV Z h577 wa .long (own_arr w2 w1 w3 w3 w4) := (f573.keep (Keep.of_wr W577) (ninS H10 nin0))
      rw [e577]
      exact ⟨w2, w1, w3, w3, w4, x2, x1, x3, x3, x4, rfl, kp578, f580, f581, f582, f583, f584, f579, (by have hp := H13; have g0 := own_lt hc503; have g1 := own_lt hc553; omega), (List.Perm.cons _ ((List.perm_middle (l₁ := [(w2, x2)]) (a := (w1, x1)) (l₂ := [(w3, x3)])).trans (List.Perm.cons _ (List.Perm.cons _ (List.Perm.cons _ (List.Perm.refl _)))))), (by have hp := H13; have g0 := own_lt hc503; have g1 := own_lt hc553; omega)⟩
    · intro (hc553 : ¬ w2 < w3)
      refine go_goto K X552 d6_108 (by decide) rfl ?_
      refine go_aloadN K X552 d6_146 rfl rfl rfl ?_
      refine go_getF K X552 (host := "") (Or.inl (wd hw 10 rfl)) Via.refl e552 f491 d6_147 rfl ?_
      intro T585 X585 e585
      refine go_iload K X585 d6_150 rfl rfl ?_
      refine go_lloadN K X585 d6_152 rfl rfl ?_
      refine go_lastore K X585 e585 f494 (i := 0) rfl (Nat.le_of_ble_eq_true rfl) H2 d6_153 rfl ?_
      intro T586 h586 X586 e586 W586 A586
      have kp587 : Keep h0 h586 [a1, wa, ia] := kp489.trans (Keep.of_wr W586) (allS (Or.inl (List.mem_of_getElem? (i := 1) rfl)) all0)
      have f588 : AV Z h586 wa .long (own_arr w3 w1 w2 w3 w4) := A586
      refine go_aloadN K X586 d6_154 rfl rfl rfl ?_
      have f589 : Fld Z h586 a1 "com/example/plumbline/plumbline/align/WeightHeap" "items" "[J" (.ref ia) := (f495.keep (Keep.of_wr W586) (ninS H11 nin0))
      refine go_getF K X586 (host := "") (Or.inl (wd hw 12 rfl)) Via.refl e586 f589 d6_155 rfl ?_
      intro T590 X590 e590
      refine go_iload K X590 d6_158 rfl rfl ?_
      refine go_lload K X590 d6_160 rfl rfl ?_
      have f591 : AV Z h586 ia .long (own_arr x0 x1 x2 x3 x4) := (f498.keep (Keep.of_wr W586) (ninS (Ne.symm H10) nin0))
      refine go_lastore K X590 e590 f591 (i := 0) rfl (Nat.le_of_ble_eq_true rfl) H3 d6_162 rfl ?_
      intro T592 h592 X592 e592 W592 A592
      have kp593 : Keep h0 h592 [a1, wa, ia] := kp587.trans (Keep.of_wr W592) (allS (Or.inl (List.mem_of_getElem? (i := 2) rfl)) all0)
      have f594 : AV Z h592 ia .long (own_arr x3 x1 x2 x3 x4) := A592
      refine go_lloadN K X592 d6_163 rfl rfl ?_
      refine go_retJ K X592 d6_164 (by decide) (by decide) ?_
      have f595 : Exa Z h592 a1 "com/example/plumbline/plumbline/align/WeightHeap" := (((H4.keep (Keep.of_wr W488)).keep (Keep.of_wr W586)).keep (Keep.of_wr W592))
      have f596 : Fld Z h592 a1 "com/example/plumbline/plumbline/align/WeightHeap" "weights" "[J" (.ref wa) := ((f491.keep (Keep.of_wr W586) (ninS H11 nin0)).keep (Keep.of_wr W592) (ninS H12 nin0))
      have f597 : Fld Z h592 a1 "com/example/plumbline/plumbline/align/WeightHeap" "items" "[J" (.ref ia) := (f589.keep (Keep.of_wr W592) (ninS H12 nin0))
      have f598 : Fld Z h592 a1 "com/example/plumbline/plumbline/align/WeightHeap" "size" "I" (.int (3 : Int32)) := ((f490.keep (Keep.of_wr W586) (ninS H11 nin0)).keep (Keep.of_wr W592) (ninS H12 nin0))
      have f599 : AV Z h592 wa .long (own_arr w3 w1 w2 w3 w4) := (f588.keep (Keep.of_wr W592) (ninS H10 nin0))
      rw [e592]
      exact ⟨w3, w1, w2, w3, w4, x3, x1, x2, x3, x4, rfl, kp593, f595, f596, f597, f598, f599, f594, (by have hp := H13; have g0 := own_lt hc503; have g1 := own_nlt hc553; omega), (List.Perm.cons _ ((List.perm_middle (l₁ := [(w3, x3)]) (a := (w1, x1)) (l₂ := [(w2, x2)])).trans (List.Perm.cons _ ((List.perm_middle (l₁ := [(w3, x3)]) (a := (w2, x2)) (l₂ := [])).trans (List.Perm.cons _ (List.Perm.cons _ (List.Perm.refl _))))))), (by have hp := H13; have g0 := own_lt hc503; have g1 := own_nlt hc553; omega)⟩
theorem ef_rmPoll3 (m : MethodId) (a1 : Addr) : entryFrame m #[(.ref a1)] 9 = mkF m 0 #[.val (.ref a1), .unset, .unset, .unset, .unset, .unset, .unset, .unset, .unset] [] := by first | (simp [entryFrame, mkF, argsToLocals, Value.category]; done) | rfl
def Q_rmPoll3 (Z : State) (n0 : Nat) (a1 : Addr) (wa : Addr) (ia : Addr) (w0 : Int64) (w1 : Int64) (w2 : Int64) (w3 : Int64) (w4 : Int64) (x0 : Int64) (x1 : Int64) (x2 : Int64) (x3 : Int64) (x4 : Int64) (h0 : Heap) (v : Option Value) (h : Heap) : Prop := ∃ d0 : Int64, ∃ d1 : Int64, ∃ d2 : Int64, ∃ d3 : Int64, ∃ d4 : Int64, ∃ e0 : Int64, ∃ e1 : Int64, ∃ e2 : Int64, ∃ e3 : Int64, ∃ e4 : Int64, v = some (.long x0) ∧ Keep h0 h [a1, wa, ia] ∧ Exa Z h a1 "com/example/plumbline/plumbline/align/WeightHeap" ∧ Fld Z h a1 "com/example/plumbline/plumbline/align/WeightHeap" "weights" "[J" (.ref wa) ∧ Fld Z h a1 "com/example/plumbline/plumbline/align/WeightHeap" "items" "[J" (.ref ia) ∧ Fld Z h a1 "com/example/plumbline/plumbline/align/WeightHeap" "size" "I" (.int (2 : Int32)) ∧ AV Z h wa .long (own_arr d0 d1 d2 d3 d4) ∧ AV Z h ia .long (own_arr e0 e1 e2 e3 e4) ∧ ((d0).toInt ≤ (d1).toInt) ∧ (List.Perm [(w0, x0), (d0, e0), (d1, e1)] [(w0, x0), (w1, x1), (w2, x2)]) ∧ ((w0).toInt ≤ (d0).toInt)
abbrev R_rmPoll3 : Room := { frames := 0, cells := 0, slots := 0, locals := 0 }
set_option maxRecDepth 65536 in
set_option maxHeartbeats 40000000 in
theorem rmPoll3 {l : Launch} {Z : State} {n0 : Nat} {a0 : Array Value} (hw : ∀ d ∈ tables_1, d.before a0 Z = true) (a1 : Addr) (wa : Addr) (ia : Addr) (w0 : Int64) (w1 : Int64) (w2 : Int64) (w3 : Int64) (w4 : Int64) (x0 : Int64) (x1 : Int64) (x2 : Int64) (x3 : Int64) (x4 : Int64) (h0 : Heap) (H0 : n0 ≤ h0.size) (H1 : n0 ≤ a1) (H2 : n0 ≤ wa) (H3 : n0 ≤ ia) (H4 : Exa Z h0 a1 "com/example/plumbline/plumbline/align/WeightHeap") (H5 : Fld Z h0 a1 "com/example/plumbline/plumbline/align/WeightHeap" "weights" "[J" (.ref wa)) (H6 : Fld Z h0 a1 "com/example/plumbline/plumbline/align/WeightHeap" "items" "[J" (.ref ia)) (H7 : Fld Z h0 a1 "com/example/plumbline/plumbline/align/WeightHeap" "size" "I" (.int (3 : Int32))) (H8 : AV Z h0 wa .long (own_arr w0 w1 w2 w3 w4)) (H9 : AV Z h0 ia .long (own_arr x0 x1 x2 x3 x4)) (H10 : wa ≠ ia) (H11 : a1 ≠ wa) (H12 : a1 ≠ ia) (H13 : (w0).toInt ≤ (w1).toInt ∧ (w0).toInt ≤ (w2).toInt) :
    Con l Z n0 (⟨"com/example/plumbline/plumbline/align/WeightHeap", "pollFirst", "()J"⟩ : MethodName) prog_61_method_7_code 9 (some .long) R_rmPoll3 #[(.ref a1)] h0 (Q_rmPoll3 Z n0 a1 wa ia w0 w1 w2 w3 w4 x0 x1 x2 x3 x4 h0) := by
  refine con_of (plainFor_of_name pn_com_example_plumbline_plumbline_align_WeightHeap) ?_
  intro p e s m below meth c T0 K X0 e0
  replace K : Ctx p s m meth c Z "com/example/plumbline/plumbline/align/WeightHeap" "pollFirst" prog_61_method_7_code 9 (some .long) := K
  refine go_entry (ef_rmPoll3 m a1) ?_
  refine go_aloadN K X0 d6_0 rfl rfl rfl ?_
  refine go_getF K X0 (host := "") (Or.inl (wd hw 12 rfl)) Via.refl e0 H6 d6_1 rfl ?_
  intro T600 X600 e600
  refine go_iconst K X600 (0 : Int32) d6_4 rfl rfl ?_
  refine go_laload K X600 e600 H9 (i := 0) rfl rfl d6_5 rfl ?_
  refine go_lstoreN K X600 #[.val (.ref a1), .val (.long x0), .second, .unset, .unset, .unset, .unset, .unset, .unset] d6_6 rfl rfl ?_
  refine go_aloadN K X600 d6_7 rfl rfl rfl ?_
  refine go_dup K X600 d6_8 rfl rfl ?_
  refine go_getF K X600 (host := "") (Or.inl (wd hw 33 rfl)) Via.refl e600 H7 d6_9 rfl ?_
  intro T601 X601 e601
  refine go_iconst K X601 (1 : Int32) d6_12 rfl rfl ?_
  refine go_isub K X601 d6_13 rfl ?_
  rw [show ((3 : Int32) - (1 : Int32)) = (2 : Int32) from by decide]
  refine go_putF K X601 (host := "") (Or.inl (wd hw 33 rfl)) Via.refl e601 H7 H4 (Or.inl (wd hw 34 rfl)) (wd hw 2 rfl) (ty := .int) (by decide) rfl rfl H1 d6_14 rfl ?_
  intro T602 h602 X602 e602 W602
  have kp603 : Keep h0 h602 [a1, wa, ia] := (Keep.refl h0 [a1, wa, ia]).trans (Keep.of_wr W602) (allS (Or.inl (List.mem_of_getElem? (i := 0) rfl)) all0)
  have f604 : Fld Z h602 a1 "com/example/plumbline/plumbline/align/WeightHeap" "size" "I" (.int (2 : Int32)) := H7.same W602
  refine go_aloadN K X602 d6_17 rfl rfl rfl ?_
  have f605 : Fld Z h602 a1 "com/example/plumbline/plumbline/align/WeightHeap" "weights" "[J" (.ref wa) := (H5.other W602 (Or.inr (slot_ne (Or.inl (wd hw 11 rfl)) (Or.inl (wd hw 34 rfl)) (by decide) (t := (.array .long)) (t' := .int) (by decide) (by decide))))
  refine go_getF K X602 (host := "") (Or.inl (wd hw 10 rfl)) Via.refl e602 f605 d6_18 rfl ?_
  intro T606 X606 e606
  refine go_aloadN K X606 d6_21 rfl rfl rfl ?_
  refine go_getF K X606 (host := "") (Or.inl (wd hw 33 rfl)) Via.refl e606 f604 d6_22 rfl ?_
  intro T607 X607 e607
  have f608 : AV Z h602 wa .long (own_arr w0 w1 w2 w3 w4) := (H8.keep (Keep.of_wr W602) (ninS (Ne.symm H11) nin0))
  refine go_laload K X607 e607 f608 (i := 2) rfl rfl d6_25 rfl ?_
  refine go_lstoreN K X607 #[.val (.ref a1), .val (.long x0), .second, .val (.long w2), .second, .unset, .unset, .unset, .unset] d6_26 rfl rfl ?_
  refine go_aloadN K X607 d6_27 rfl rfl rfl ?_
  have f609 : Fld Z h602 a1 "com/example/plumbline/plumbline/align/WeightHeap" "items" "[J" (.ref ia) := (H6.other W602 (Or.inr (slot_ne (Or.inl (wd hw 13 rfl)) (Or.inl (wd hw 34 rfl)) (by decide) (t := (.array .long)) (t' := .int) (by decide) (by decide))))
  refine go_getF K X607 (host := "") (Or.inl (wd hw 12 rfl)) Via.refl e607 f609 d6_28 rfl ?_
  intro T610 X610 e610
  refine go_aloadN K X610 d6_31 rfl rfl rfl ?_
  refine go_getF K X610 (host := "") (Or.inl (wd hw 33 rfl)) Via.refl e610 f604 d6_32 rfl ?_
  intro T611 X611 e611
  have f612 : AV Z h602 ia .long (own_arr x0 x1 x2 x3 x4) := (H9.keep (Keep.of_wr W602) (ninS (Ne.symm H12) nin0))
  refine go_laload K X611 e611 f612 (i := 2) rfl rfl d6_35 rfl ?_
  refine go_lstore K X611 #[.val (.ref a1), .val (.long x0), .second, .val (.long w2), .second, .val (.long x2), .second, .unset, .unset] d6_36 rfl rfl ?_
  refine go_iconst K X611 (0 : Int32) d6_38 rfl rfl ?_
  refine go_istore K X611 #[.val (.ref a1), .val (.long x0), .second, .val (.long w2), .second, .val (.long x2), .second, .val (.int (0 : Int32)), .unset] d6_39 rfl rfl ?_
  refine go_iconst K X611 (2 : Int32) d6_41 rfl rfl ?_
  refine go_iload K X611 d6_42 rfl rfl ?_
  refine go_imul K X611 d6_44 rfl ?_
  rw [show ((2 : Int32) * (0 : Int32)) = (0 : Int32) from by decide]
  refine go_iconst K X611 (1 : Int32) d6_45 rfl rfl ?_
  refine go_iadd K X611 d6_46 rfl ?_
  rw [show ((0 : Int32) + (1 : Int32)) = (1 : Int32) from by decide]
  refine go_aloadN K X611 d6_47 rfl rfl rfl ?_
  refine go_getF K X611 (host := "") (Or.inl (wd hw 33 rfl)) Via.refl e611 f604 d6_48 rfl ?_
  intro T613 X613 e613
  refine go_icmpF K X613 d6_51 rfl (by decide : (1 : Int32) < (2 : Int32)) ?_
  refine go_iconst K X613 (2 : Int32) d6_54 rfl rfl ?_
  refine go_iload K X613 d6_55 rfl rfl ?_
  refine go_imul K X613 d6_57 rfl ?_
  rw [show ((2 : Int32) * (0 : Int32)) = (0 : Int32) from by decide]
  refine go_iconst K X613 (1 : Int32) d6_58 rfl rfl ?_
  refine go_iadd K X613 d6_59 rfl ?_
  rw [show ((0 : Int32) + (1 : Int32)) = (1 : Int32) from by decide]
  refine go_istore K X613 #[.val (.ref a1), .val (.long x0), .second, .val (.long w2), .second, .val (.long x2), .second, .val (.int (0 : Int32)), .val (.int (1 : Int32))] d6_60 rfl rfl ?_
  refine go_iload K X613 d6_62 rfl rfl ?_
  refine go_iconst K X613 (1 : Int32) d6_64 rfl rfl ?_
  refine go_iadd K X613 d6_65 rfl ?_
  rw [show ((1 : Int32) + (1 : Int32)) = (2 : Int32) from by decide]
  refine go_aloadN K X613 d6_66 rfl rfl rfl ?_
  refine go_getF K X613 (host := "") (Or.inl (wd hw 33 rfl)) Via.refl e613 f604 d6_67 rfl ?_
  intro T614 X614 e614
  refine go_icmpT K X614 d6_70 (by decide) rfl (by decide : ¬ (2 : Int32) < (2 : Int32)) ?_
  refine go_aloadN K X614 d6_96 rfl rfl rfl ?_
  refine go_getF K X614 (host := "") (Or.inl (wd hw 10 rfl)) Via.refl e614 f605 d6_97 rfl ?_
  intro T615 X615 e615
  refine go_iload K X615 d6_100 rfl rfl ?_
  refine go_laload K X615 e615 f608 (i := 1) rfl rfl d6_102 rfl ?_
  refine go_lloadN K X615 d6_103 rfl rfl ?_
  refine go_lif K X615 d6_104 rfl d6_105 (by decide) rfl rfl ?_ ?_
  · intro (hc616 : w1 < w2)
    refine go_aloadN K X615 d6_111 rfl rfl rfl ?_
    refine go_getF K X615 (host := "") (Or.inl (wd hw 10 rfl)) Via.refl e615 f605 d6_112 rfl ?_
    intro T617 X617 e617
    refine go_iload K X617 d6_115 rfl rfl ?_
    refine go_aloadN K X617 d6_117 rfl rfl rfl ?_
    refine go_getF K X617 (host := "") (Or.inl (wd hw 10 rfl)) Via.refl e617 f605 d6_118 rfl ?_
    intro T618 X618 e618
    refine go_iload K X618 d6_121 rfl rfl ?_
    refine go_laload K X618 e618 f608 (i := 1) rfl rfl d6_123 rfl ?_
    refine go_lastore K X618 e618 f608 (i := 0) rfl (Nat.le_of_ble_eq_true rfl) H2 d6_124 rfl ?_
    intro T619 h619 X619 e619 W619 A619
    have kp620 : Keep h0 h619 [a1, wa, ia] := kp603.trans (Keep.of_wr W619) (allS (Or.inl (List.mem_of_getElem? (i := 1) rfl)) all0)
    have f621 : AV Z h619 wa .long (own_arr w1 w1 w2 w3 w4) := A619
    refine go_aloadN K X619 d6_125 rfl rfl rfl ?_
    have f622 : Fld Z h619 a1 "com/example/plumbline/plumbline/align/WeightHeap" "items" "[J" (.ref ia) := (f609.keep (Keep.of_wr W619) (ninS H11 nin0))
    refine go_getF K X619 (host := "") (Or.inl (wd hw 12 rfl)) Via.refl e619 f622 d6_126 rfl ?_
    intro T623 X623 e623
    refine go_iload K X623 d6_129 rfl rfl ?_
    refine go_aloadN K X623 d6_131 rfl rfl rfl ?_
    refine go_getF K X623 (host := "") (Or.inl (wd hw 12 rfl)) Via.refl e623 f622 d6_132 rfl ?_
    intro T624 X624 e624
    refine go_iload K X624 d6_135 rfl rfl ?_
    have f625 : AV Z h619 ia .long (own_arr x0 x1 x2 x3 x4) := (f612.keep (Keep.of_wr W619) (ninS (Ne.symm H10) nin0))
    refine go_laload K X624 e624 f625 (i := 1) rfl rfl d6_137 rfl ?_
    refine go_lastore K X624 e624 f625 (i := 0) rfl (Nat.le_of_ble_eq_true rfl) H3 d6_138 rfl ?_
    intro T626 h626 X626 e626 W626 A626
    have kp627 : Keep h0 h626 [a1, wa, ia] := kp620.trans (Keep.of_wr W626) (allS (Or.inl (List.mem_of_getElem? (i := 2) rfl)) all0)
    have f628 : AV Z h626 ia .long (own_arr x1 x1 x2 x3 x4) := A626
    refine go_iload K X626 d6_139 rfl rfl ?_
    refine go_istore K X626 #[.val (.ref a1), .val (.long x0), .second, .val (.long w2), .second, .val (.long x2), .second, .val (.int (1 : Int32)), .val (.int (1 : Int32))] d6_141 rfl rfl ?_
    refine go_goto K X626 d6_143 (by decide) rfl ?_
    refine go_iconst K X626 (2 : Int32) d6_41 rfl rfl ?_
    refine go_iload K X626 d6_42 rfl rfl ?_
    refine go_imul K X626 d6_44 rfl ?_
    rw [show ((2 : Int32) * (1 : Int32)) = (2 : Int32) from by decide]
    refine go_iconst K X626 (1 : Int32) d6_45 rfl rfl ?_
    refine go_iadd K X626 d6_46 rfl ?_
    rw [show ((2 : Int32) + (1 : Int32)) = (3 : Int32) from by decide]
    refine go_aloadN K X626 d6_47 rfl rfl rfl ?_
    have f629 : Fld Z h626 a1 "com/example/plumbline/plumbline/align/WeightHeap" "size" "I" (.int (2 : Int32)) := ((f604.keep (Keep.of_wr W619) (ninS H11 nin0)).keep (Keep.of_wr W626) (ninS H12 nin0))
    refine go_getF K X626 (host := "") (Or.inl (wd hw 33 rfl)) Via.refl e626 f629 d6_48 rfl ?_
    intro T630 X630 e630
    refine go_icmpT K X630 d6_51 (by decide) rfl (by decide : ¬ (3 : Int32) < (2 : Int32)) ?_
    refine go_aloadN K X630 d6_146 rfl rfl rfl ?_
    have f631 : Fld Z h626 a1 "com/example/plumbline/plumbline/align/WeightHeap" "weights" "[J" (.ref wa) := ((f605.keep (Keep.of_wr W619) (ninS H11 nin0)).keep (Keep.of_wr W626) (ninS H12 nin0))
    refine go_getF K X630 (host := "") (Or.inl (wd hw 10 rfl)) Via.refl e630 f631 d6_147 rfl ?_
    intro T632 X632 e632
    refine go_iload K X632 d6_150 rfl rfl ?_
    refine go_lloadN K X632 d6_152 rfl rfl ?_
    have f633 : AV Z h626 wa .long (own_arr w1 w1 w2 w3 w4) := (f621.keep (Keep.of_wr W626) (ninS H10 nin0))
    refine go_lastore K X632 e632 f633 (i := 1) rfl (Nat.le_of_ble_eq_true rfl) H2 d6_153 rfl ?_
    intro T634 h634 X634 e634 W634 A634
    have kp635 : Keep h0 h634 [a1, wa, ia] := kp627.trans (Keep.of_wr W634) (allS (Or.inl (List.mem_of_getElem? (i := 1) rfl)) all0)
    have f636 : AV Z h634 wa .long (own_arr w1 w2 w2 w3 w4) := A634
    refine go_aloadN K X634 d6_154 rfl rfl rfl ?_
    have f637 : Fld Z h634 a1 "com/example/plumbline/plumbline/align/WeightHeap" "items" "[J" (.ref ia) := ((f622.keep (Keep.of_wr W626) (ninS H12 nin0)).keep (Keep.of_wr W634) (ninS H11 nin0))
    refine go_getF K X634 (host := "") (Or.inl (wd hw 12 rfl)) Via.refl e634 f637 d6_155 rfl ?_
    intro T638 X638 e638
    refine go_iload K X638 d6_158 rfl rfl ?_
    refine go_lload K X638 d6_160 rfl rfl ?_
    have f639 : AV Z h634 ia .long (own_arr x1 x1 x2 x3 x4) := (f628.keep (Keep.of_wr W634) (ninS (Ne.symm H10) nin0))
    refine go_lastore K X638 e638 f639 (i := 1) rfl (Nat.le_of_ble_eq_true rfl) H3 d6_162 rfl ?_
    intro T640 h640 X640 e640 W640 A640
    have kp641 : Keep h0 h640 [a1, wa, ia] := kp635.trans (Keep.of_wr W640) (allS (Or.inl (List.mem_of_getElem? (i := 2) rfl)) all0)
    have f642 : AV Z h640 ia .long (own_arr x1 x2 x2 x3 x4) := A640
    refine go_lloadN K X640 d6_163 rfl rfl ?_
    refine go_retJ K X640 d6_164 (by decide) (by decide) ?_
    have f643 : Exa Z h640 a1 "com/example/plumbline/plumbline/align/WeightHeap" := (((((H4.keep (Keep.of_wr W602)).keep (Keep.of_wr W619)).keep (Keep.of_wr W626)).keep (Keep.of_wr W634)).keep (Keep.of_wr W640))
    have f644 : Fld Z h640 a1 "com/example/plumbline/plumbline/align/WeightHeap" "weights" "[J" (.ref wa) := ((f631.keep (Keep.of_wr W634) (ninS H11 nin0)).keep (Keep.of_wr W640) (ninS H12 nin0))
    have f645 : Fld Z h640 a1 "com/example/plumbline/plumbline/align/WeightHeap" "items" "[J" (.ref ia) := (f637.keep (Keep.of_wr W640) (ninS H12 nin0))
    have f646 : Fld Z h640 a1 "com/example/plumbline/plumbline/align/WeightHeap" "size" "I" (.int (2 : Int32)) := ((f629.keep (Keep.of_wr W634) (ninS H11 nin0)).keep (Keep.of_wr W640) (ninS H12 nin0))
    have f647 : AV Z h640 wa .long (own_arr w1 w2 w2 w3 w4) := (f636.keep (Keep.of_wr W640) (ninS H10 nin0))
    rw [e640]
    exact ⟨w1, w2, w2, w3, w4, x1, x2, x2, x3, x4, rfl, kp641, f643, f644, f645, f646, f647, f642, (by have hp := H13; have g0 := own_lt hc616; omega), (List.Perm.cons _ (List.Perm.cons _ (List.Perm.cons _ (List.Perm.refl _)))), (by have hp := H13; have g0 := own_lt hc616; omega)⟩
  · intro (hc616 : ¬ w1 < w2)
    refine go_goto K X615 d6_108 (by decide) rfl ?_
    refine go_aloadN K X615 d6_146 rfl rfl rfl ?_
    refine go_getF K X615 (host := "") (Or.inl (wd hw 10 rfl)) Via.refl e615 f605 d6_147 rfl ?_
    intro T648 X648 e648
    refine go_iload K X648 d6_150 rfl rfl ?_
    refine go_lloadN K X648 d6_152 rfl rfl ?_
    refine go_lastore K X648 e648 f608 (i := 0) rfl (Nat.le_of_ble_eq_true rfl) H2 d6_153 rfl ?_
    intro T649 h649 X649 e649 W649 A649
    have kp650 : Keep h0 h649 [a1, wa, ia] := kp603.trans (Keep.of_wr W649) (allS (Or.inl (List.mem_of_getElem? (i := 1) rfl)) all0)
    have f651 : AV Z h649 wa .long (own_arr w2 w1 w2 w3 w4) := A649
    refine go_aloadN K X649 d6_154 rfl rfl rfl ?_
    have f652 : Fld Z h649 a1 "com/example/plumbline/plumbline/align/WeightHeap" "items" "[J" (.ref ia) := (f609.keep (Keep.of_wr W649) (ninS H11 nin0))
    refine go_getF K X649 (host := "") (Or.inl (wd hw 12 rfl)) Via.refl e649 f652 d6_155 rfl ?_
    intro T653 X653 e653
    refine go_iload K X653 d6_158 rfl rfl ?_
    refine go_lload K X653 d6_160 rfl rfl ?_
    have f654 : AV Z h649 ia .long (own_arr x0 x1 x2 x3 x4) := (f612.keep (Keep.of_wr W649) (ninS (Ne.symm H10) nin0))
    refine go_lastore K X653 e653 f654 (i := 0) rfl (Nat.le_of_ble_eq_true rfl) H3 d6_162 rfl ?_
    intro T655 h655 X655 e655 W655 A655
    have kp656 : Keep h0 h655 [a1, wa, ia] := kp650.trans (Keep.of_wr W655) (allS (Or.inl (List.mem_of_getElem? (i := 2) rfl)) all0)
    have f657 : AV Z h655 ia .long (own_arr x2 x1 x2 x3 x4) := A655
    refine go_lloadN K X655 d6_163 rfl rfl ?_
    refine go_retJ K X655 d6_164 (by decide) (by decide) ?_
    have f658 : Exa Z h655 a1 "com/example/plumbline/plumbline/align/WeightHeap" := (((H4.keep (Keep.of_wr W602)).keep (Keep.of_wr W649)).keep (Keep.of_wr W655))
    have f659 : Fld Z h655 a1 "com/example/plumbline/plumbline/align/WeightHeap" "weights" "[J" (.ref wa) := ((f605.keep (Keep.of_wr W649) (ninS H11 nin0)).keep (Keep.of_wr W655) (ninS H12 nin0))
    have f660 : Fld Z h655 a1 "com/example/plumbline/plumbline/align/WeightHeap" "items" "[J" (.ref ia) := (f652.keep (Keep.of_wr W655) (ninS H12 nin0))
    have f661 : Fld Z h655 a1 "com/example/plumbline/plumbline/align/WeightHeap" "size" "I" (.int (2 : Int32)) := ((f604.keep (Keep.of_wr W649) (ninS H11 nin0)).keep (Keep.of_wr W655) (ninS H12 nin0))
    have f662 : AV Z h655 wa .long (own_arr w2 w1 w2 w3 w4) := (f651.keep (Keep.of_wr W655) (ninS H10 nin0))
    rw [e655]
    exact ⟨w2, w1, w2, w3, w4, x2, x1, x2, x3, x4, rfl, kp656, f658, f659, f660, f661, f662, f657, (by have hp := H13; have g0 := own_nlt hc616; omega), (List.Perm.cons _ ((List.perm_middle (l₁ := [(w2, x2)]) (a := (w1, x1)) (l₂ := [])).trans (List.Perm.cons _ (List.Perm.cons _ (List.Perm.refl _))))), (by have hp := H13; have g0 := own_nlt hc616; omega)⟩
theorem ef_rmPoll2 (m : MethodId) (a1 : Addr) : entryFrame m #[(.ref a1)] 9 = mkF m 0 #[.val (.ref a1), .unset, .unset, .unset, .unset, .unset, .unset, .unset, .unset] [] := by first | (simp [entryFrame, mkF, argsToLocals, Value.category]; done) | rfl
def Q_rmPoll2 (Z : State) (n0 : Nat) (a1 : Addr) (wa : Addr) (ia : Addr) (w0 : Int64) (w1 : Int64) (w2 : Int64) (w3 : Int64) (w4 : Int64) (x0 : Int64) (x1 : Int64) (x2 : Int64) (x3 : Int64) (x4 : Int64) (h0 : Heap) (v : Option Value) (h : Heap) : Prop := ∃ d0 : Int64, ∃ d1 : Int64, ∃ d2 : Int64, ∃ d3 : Int64, ∃ d4 : Int64, ∃ e0 : Int64, ∃ e1 : Int64, ∃ e2 : Int64, ∃ e3 : Int64, ∃ e4 : Int64, v = some (.long x0) ∧ Keep h0 h [a1, wa, ia] ∧ Exa Z h a1 "com/example/plumbline/plumbline/align/WeightHeap" ∧ Fld Z h a1 "com/example/plumbline/plumbline/align/WeightHeap" "weights" "[J" (.ref wa) ∧ Fld Z h a1 "com/example/plumbline/plumbline/align/WeightHeap" "items" "[J" (.ref ia) ∧ Fld Z h a1 "com/example/plumbline/plumbline/align/WeightHeap" "size" "I" (.int (1 : Int32)) ∧ AV Z h wa .long (own_arr d0 d1 d2 d3 d4) ∧ AV Z h ia .long (own_arr e0 e1 e2 e3 e4) ∧ (True) ∧ (List.Perm [(w0, x0), (d0, e0)] [(w0, x0), (w1, x1)]) ∧ ((w0).toInt ≤ (d0).toInt)
abbrev R_rmPoll2 : Room := { frames := 0, cells := 0, slots := 0, locals := 0 }
set_option maxRecDepth 65536 in
set_option maxHeartbeats 40000000 in
theorem rmPoll2 {l : Launch} {Z : State} {n0 : Nat} {a0 : Array Value} (hw : ∀ d ∈ tables_1, d.before a0 Z = true) (a1 : Addr) (wa : Addr) (ia : Addr) (w0 : Int64) (w1 : Int64) (w2 : Int64) (w3 : Int64) (w4 : Int64) (x0 : Int64) (x1 : Int64) (x2 : Int64) (x3 : Int64) (x4 : Int64) (h0 : Heap) (H0 : n0 ≤ h0.size) (H1 : n0 ≤ a1) (H2 : n0 ≤ wa) (H3 : n0 ≤ ia) (H4 : Exa Z h0 a1 "com/example/plumbline/plumbline/align/WeightHeap") (H5 : Fld Z h0 a1 "com/example/plumbline/plumbline/align/WeightHeap" "weights" "[J" (.ref wa)) (H6 : Fld Z h0 a1 "com/example/plumbline/plumbline/align/WeightHeap" "items" "[J" (.ref ia)) (H7 : Fld Z h0 a1 "com/example/plumbline/plumbline/align/WeightHeap" "size" "I" (.int (2 : Int32))) (H8 : AV Z h0 wa .long (own_arr w0 w1 w2 w3 w4)) (H9 : AV Z h0 ia .long (own_arr x0 x1 x2 x3 x4)) (H10 : wa ≠ ia) (H11 : a1 ≠ wa) (H12 : a1 ≠ ia) (H13 : (w0).toInt ≤ (w1).toInt) :
    Con l Z n0 (⟨"com/example/plumbline/plumbline/align/WeightHeap", "pollFirst", "()J"⟩ : MethodName) prog_61_method_7_code 9 (some .long) R_rmPoll2 #[(.ref a1)] h0 (Q_rmPoll2 Z n0 a1 wa ia w0 w1 w2 w3 w4 x0 x1 x2 x3 x4 h0) := by
  refine con_of (plainFor_of_name pn_com_example_plumbline_plumbline_align_WeightHeap) ?_
  intro p e s m below meth c T0 K X0 e0
  replace K : Ctx p s m meth c Z "com/example/plumbline/plumbline/align/WeightHeap" "pollFirst" prog_61_method_7_code 9 (some .long) := K
  refine go_entry (ef_rmPoll2 m a1) ?_
  refine go_aloadN K X0 d6_0 rfl rfl rfl ?_
  refine go_getF K X0 (host := "") (Or.inl (wd hw 12 rfl)) Via.refl e0 H6 d6_1 rfl ?_
  intro T663 X663 e663
  refine go_iconst K X663 (0 : Int32) d6_4 rfl rfl ?_
  refine go_laload K X663 e663 H9 (i := 0) rfl rfl d6_5 rfl ?_
  refine go_lstoreN K X663 #[.val (.ref a1), .val (.long x0), .second, .unset, .unset, .unset, .unset, .unset, .unset] d6_6 rfl rfl ?_
  refine go_aloadN K X663 d6_7 rfl rfl rfl ?_
  refine go_dup K X663 d6_8 rfl rfl ?_
  refine go_getF K X663 (host := "") (Or.inl (wd hw 33 rfl)) Via.refl e663 H7 d6_9 rfl ?_
  intro T664 X664 e664
  refine go_iconst K X664 (1 : Int32) d6_12 rfl rfl ?_
  refine go_isub K X664 d6_13 rfl ?_
  rw [show ((2 : Int32) - (1 : Int32)) = (1 : Int32) from by decide]
  refine go_putF K X664 (host := "") (Or.inl (wd hw 33 rfl)) Via.refl e664 H7 H4 (Or.inl (wd hw 34 rfl)) (wd hw 2 rfl) (ty := .int) (by decide) rfl rfl H1 d6_14 rfl ?_
  intro T665 h665 X665 e665 W665
  have kp666 : Keep h0 h665 [a1, wa, ia] := (Keep.refl h0 [a1, wa, ia]).trans (Keep.of_wr W665) (allS (Or.inl (List.mem_of_getElem? (i := 0) rfl)) all0)
  have f667 : Fld Z h665 a1 "com/example/plumbline/plumbline/align/WeightHeap" "size" "I" (.int (1 : Int32)) := H7.same W665
  refine go_aloadN K X665 d6_17 rfl rfl rfl ?_
  have f668 : Fld Z h665 a1 "com/example/plumbline/plumbline/align/WeightHeap" "weights" "[J" (.ref wa) := (H5.other W665 (Or.inr (slot_ne (Or.inl (wd hw 11 rfl)) (Or.inl (wd hw 34 rfl)) (by decide) (t := (.array .long)) (t' := .int) (by decide) (by decide))))
  refine go_getF K X665 (host := "") (Or.inl (wd hw 10 rfl)) Via.refl e665 f668 d6_18 rfl ?_
  intro T669 X669 e669
  refine go_aloadN K X669 d6_21 rfl rfl rfl ?_
  refine go_getF K X669 (host := "") (Or.inl (wd hw 33 rfl)) Via.refl e669 f667 d6_22 rfl ?_
  intro T670 X670 e670
  have f671 : AV Z h665 wa .long (own_arr w0 w1 w2 w3 w4) := (H8.keep (Keep.of_wr W665) (ninS (Ne.symm H11) nin0))
  refine go_laload K X670 e670 f671 (i := 1) rfl rfl d6_25 rfl ?_
  refine go_lstoreN K X670 #[.val (.ref a1), .val (.long x0), .second, .val (.long w1), .second, .unset, .unset, .unset, .unset] d6_26 rfl rfl ?_
  refine go_aloadN K X670 d6_27 rfl rfl rfl ?_
  have f672 : Fld Z h665 a1 "com/example/plumbline/plumbline/align/WeightHeap" "items" "[J" (.ref ia) := (H6.other W665 (Or.inr (slot_ne (Or.inl (wd hw 13 rfl)) (Or.inl (wd hw 34 rfl)) (by decide) (t := (.array .long)) (t' := .int) (by decide) (by decide))))
  refine go_getF K X670 (host := "") (Or.inl (wd hw 12 rfl)) Via.refl e670 f672 d6_28 rfl ?_
  intro T673 X673 e673
  refine go_aloadN K X673 d6_31 rfl rfl rfl ?_
  refine go_getF K X673 (host := "") (Or.inl (wd hw 33 rfl)) Via.refl e673 f667 d6_32 rfl ?_
  intro T674 X674 e674
  have f675 : AV Z h665 ia .long (own_arr x0 x1 x2 x3 x4) := (H9.keep (Keep.of_wr W665) (ninS (Ne.symm H12) nin0))
  refine go_laload K X674 e674 f675 (i := 1) rfl rfl d6_35 rfl ?_
  refine go_lstore K X674 #[.val (.ref a1), .val (.long x0), .second, .val (.long w1), .second, .val (.long x1), .second, .unset, .unset] d6_36 rfl rfl ?_
  refine go_iconst K X674 (0 : Int32) d6_38 rfl rfl ?_
  refine go_istore K X674 #[.val (.ref a1), .val (.long x0), .second, .val (.long w1), .second, .val (.long x1), .second, .val (.int (0 : Int32)), .unset] d6_39 rfl rfl ?_
  refine go_iconst K X674 (2 : Int32) d6_41 rfl rfl ?_
  refine go_iload K X674 d6_42 rfl rfl ?_
  refine go_imul K X674 d6_44 rfl ?_
  rw [show ((2 : Int32) * (0 : Int32)) = (0 : Int32) from by decide]
  refine go_iconst K X674 (1 : Int32) d6_45 rfl rfl ?_
  refine go_iadd K X674 d6_46 rfl ?_
  rw [show ((0 : Int32) + (1 : Int32)) = (1 : Int32) from by decide]
  refine go_aloadN K X674 d6_47 rfl rfl rfl ?_
  refine go_getF K X674 (host := "") (Or.inl (wd hw 33 rfl)) Via.refl e674 f667 d6_48 rfl ?_
  intro T676 X676 e676
  refine go_icmpT K X676 d6_51 (by decide) rfl (by decide : ¬ (1 : Int32) < (1 : Int32)) ?_
  refine go_aloadN K X676 d6_146 rfl rfl rfl ?_
  refine go_getF K X676 (host := "") (Or.inl (wd hw 10 rfl)) Via.refl e676 f668 d6_147 rfl ?_
  intro T677 X677 e677
  refine go_iload K X677 d6_150 rfl rfl ?_
  refine go_lloadN K X677 d6_152 rfl rfl ?_
  refine go_lastore K X677 e677 f671 (i := 0) rfl (Nat.le_of_ble_eq_true rfl) H2 d6_153 rfl ?_
  intro T678 h678 X678 e678 W678 A678
  have kp679 : Keep h0 h678 [a1, wa, ia] := kp666.trans (Keep.of_wr W678) (allS (Or.inl (List.mem_of_getElem? (i := 1) rfl)) all0)
  have f680 : AV Z h678 wa .long (own_arr w1 w1 w2 w3 w4) := A678
  refine go_aloadN K X678 d6_154 rfl rfl rfl ?_
  have f681 : Fld Z h678 a1 "com/example/plumbline/plumbline/align/WeightHeap" "items" "[J" (.ref ia) := (f672.keep (Keep.of_wr W678) (ninS H11 nin0))
  refine go_getF K X678 (host := "") (Or.inl (wd hw 12 rfl)) Via.refl e678 f681 d6_155 rfl ?_
  intro T682 X682 e682
  refine go_iload K X682 d6_158 rfl rfl ?_
  refine go_lload K X682 d6_160 rfl rfl ?_
  have f683 : AV Z h678 ia .long (own_arr x0 x1 x2 x3 x4) := (f675.keep (Keep.of_wr W678) (ninS (Ne.symm H10) nin0))
  refine go_lastore K X682 e682 f683 (i := 0) rfl (Nat.le_of_ble_eq_true rfl) H3 d6_162 rfl ?_
  intro T684 h684 X684 e684 W684 A684
  have kp685 : Keep h0 h684 [a1, wa, ia] := kp679.trans (Keep.of_wr W684) (allS (Or.inl (List.mem_of_getElem? (i := 2) rfl)) all0)
  have f686 : AV Z h684 ia .long (own_arr x1 x1 x2 x3 x4) := A684
  refine go_lloadN K X684 d6_163 rfl rfl ?_
  refine go_retJ K X684 d6_164 (by decide) (by decide) ?_
  have f687 : Exa Z h684 a1 "com/example/plumbline/plumbline/align/WeightHeap" := (((H4.keep (Keep.of_wr W665)).keep (Keep.of_wr W678)).keep (Keep.of_wr W684))
  have f688 : Fld Z h684 a1 "com/example/plumbline/plumbline/align/WeightHeap" "weights" "[J" (.ref wa) := ((f668.keep (Keep.of_wr W678) (ninS H11 nin0)).keep (Keep.of_wr W684) (ninS H12 nin0))
  have f689 : Fld Z h684 a1 "com/example/plumbline/plumbline/align/WeightHeap" "items" "[J" (.ref ia) := (f681.keep (Keep.of_wr W684) (ninS H12 nin0))
  have f690 : Fld Z h684 a1 "com/example/plumbline/plumbline/align/WeightHeap" "size" "I" (.int (1 : Int32)) := ((f667.keep (Keep.of_wr W678) (ninS H11 nin0)).keep (Keep.of_wr W684) (ninS H12 nin0))
  have f691 : AV Z h684 wa .long (own_arr w1 w1 w2 w3 w4) := (f680.keep (Keep.of_wr W684) (ninS H10 nin0))
  rw [e684]
  exact ⟨w1, w1, w2, w3, w4, x1, x1, x2, x3, x4, rfl, kp685, f687, f688, f689, f690, f691, f686, trivial, (List.Perm.cons _ (List.Perm.cons _ (List.Perm.refl _))), (by have hp := H13; omega)⟩
theorem ef_rmPoll1 (m : MethodId) (a1 : Addr) : entryFrame m #[(.ref a1)] 9 = mkF m 0 #[.val (.ref a1), .unset, .unset, .unset, .unset, .unset, .unset, .unset, .unset] [] := by first | (simp [entryFrame, mkF, argsToLocals, Value.category]; done) | rfl
def Q_rmPoll1 (Z : State) (n0 : Nat) (a1 : Addr) (wa : Addr) (ia : Addr) (w0 : Int64) (w1 : Int64) (w2 : Int64) (w3 : Int64) (w4 : Int64) (x0 : Int64) (x1 : Int64) (x2 : Int64) (x3 : Int64) (x4 : Int64) (h0 : Heap) (v : Option Value) (h : Heap) : Prop := ∃ d0 : Int64, ∃ d1 : Int64, ∃ d2 : Int64, ∃ d3 : Int64, ∃ d4 : Int64, ∃ e0 : Int64, ∃ e1 : Int64, ∃ e2 : Int64, ∃ e3 : Int64, ∃ e4 : Int64, v = some (.long x0) ∧ Keep h0 h [a1, wa, ia] ∧ Exa Z h a1 "com/example/plumbline/plumbline/align/WeightHeap" ∧ Fld Z h a1 "com/example/plumbline/plumbline/align/WeightHeap" "weights" "[J" (.ref wa) ∧ Fld Z h a1 "com/example/plumbline/plumbline/align/WeightHeap" "items" "[J" (.ref ia) ∧ Fld Z h a1 "com/example/plumbline/plumbline/align/WeightHeap" "size" "I" (.int (0 : Int32)) ∧ AV Z h wa .long (own_arr d0 d1 d2 d3 d4) ∧ AV Z h ia .long (own_arr e0 e1 e2 e3 e4) ∧ (True) ∧ (List.Perm [(w0, x0)] [(w0, x0)]) ∧ (True)
abbrev R_rmPoll1 : Room := { frames := 0, cells := 0, slots := 0, locals := 0 }
set_option maxRecDepth 65536 in
set_option maxHeartbeats 40000000 in
theorem rmPoll1 {l : Launch} {Z : State} {n0 : Nat} {a0 : Array Value} (hw : ∀ d ∈ tables_1, d.before a0 Z = true) (a1 : Addr) (wa : Addr) (ia : Addr) (w0 : Int64) (w1 : Int64) (w2 : Int64) (w3 : Int64) (w4 : Int64) (x0 : Int64) (x1 : Int64) (x2 : Int64) (x3 : Int64) (x4 : Int64) (h0 : Heap) (H0 : n0 ≤ h0.size) (H1 : n0 ≤ a1) (H2 : n0 ≤ wa) (H3 : n0 ≤ ia) (H4 : Exa Z h0 a1 "com/example/plumbline/plumbline/align/WeightHeap") (H5 : Fld Z h0 a1 "com/example/plumbline/plumbline/align/WeightHeap" "weights" "[J" (.ref wa)) (H6 : Fld Z h0 a1 "com/example/plumbline/plumbline/align/WeightHeap" "items" "[J" (.ref ia)) (H7 : Fld Z h0 a1 "com/example/plumbline/plumbline/align/WeightHeap" "size" "I" (.int (1 : Int32))) (H8 : AV Z h0 wa .long (own_arr w0 w1 w2 w3 w4)) (H9 : AV Z h0 ia .long (own_arr x0 x1 x2 x3 x4)) (H10 : wa ≠ ia) (H11 : a1 ≠ wa) (H12 : a1 ≠ ia) (H13 : True) :
    Con l Z n0 (⟨"com/example/plumbline/plumbline/align/WeightHeap", "pollFirst", "()J"⟩ : MethodName) prog_61_method_7_code 9 (some .long) R_rmPoll1 #[(.ref a1)] h0 (Q_rmPoll1 Z n0 a1 wa ia w0 w1 w2 w3 w4 x0 x1 x2 x3 x4 h0) := by
  refine con_of (plainFor_of_name pn_com_example_plumbline_plumbline_align_WeightHeap) ?_
  intro p e s m below meth c T0 K X0 e0
  replace K : Ctx p s m meth c Z "com/example/plumbline/plumbline/align/WeightHeap" "pollFirst" prog_61_method_7_code 9 (some .long) := K
  refine go_entry (ef_rmPoll1 m a1) ?_
  refine go_aloadN K X0 d6_0 rfl rfl rfl ?_
  refine go_getF K X0 (host := "") (Or.inl (wd hw 12 rfl)) Via.refl e0 H6 d6_1 rfl ?_
  intro T692 X692 e692
  refine go_iconst K X692 (0 : Int32) d6_4 rfl rfl ?_
  refine go_laload K X692 e692 H9 (i := 0) rfl rfl d6_5 rfl ?_
  refine go_lstoreN K X692 #[.val (.ref a1), .val (.long x0), .second, .unset, .unset, .unset, .unset, .unset, .unset] d6_6 rfl rfl ?_
  refine go_aloadN K X692 d6_7 rfl rfl rfl ?_
  refine go_dup K X692 d6_8 rfl rfl ?_
  refine go_getF K X692 (host := "") (Or.inl (wd hw 33 rfl)) Via.refl e692 H7 d6_9 rfl ?_
  intro T693 X693 e693
  refine go_iconst K X693 (1 : Int32) d6_12 rfl rfl ?_
  refine go_isub K X693 d6_13 rfl ?_
  rw [show ((1 : Int32) - (1 : Int32)) = (0 : Int32) from by decide]
  refine go_putF K X693 (host := "") (Or.inl (wd hw 33 rfl)) Via.refl e693 H7 H4 (Or.inl (wd hw 34 rfl)) (wd hw 2 rfl) (ty := .int) (by decide) rfl rfl H1 d6_14 rfl ?_
  intro T694 h694 X694 e694 W694
  have kp695 : Keep h0 h694 [a1, wa, ia] := (Keep.refl h0 [a1, wa, ia]).trans (Keep.of_wr W694) (allS (Or.inl (List.mem_of_getElem? (i := 0) rfl)) all0)
  have f696 : Fld Z h694 a1 "com/example/plumbline/plumbline/align/WeightHeap" "size" "I" (.int (0 : Int32)) := H7.same W694
  refine go_aloadN K X694 d6_17 rfl rfl rfl ?_
  have f697 : Fld Z h694 a1 "com/example/plumbline/plumbline/align/WeightHeap" "weights" "[J" (.ref wa) := (H5.other W694 (Or.inr (slot_ne (Or.inl (wd hw 11 rfl)) (Or.inl (wd hw 34 rfl)) (by decide) (t := (.array .long)) (t' := .int) (by decide) (by decide))))
  refine go_getF K X694 (host := "") (Or.inl (wd hw 10 rfl)) Via.refl e694 f697 d6_18 rfl ?_
  intro T698 X698 e698
  refine go_aloadN K X698 d6_21 rfl rfl rfl ?_
  refine go_getF K X698 (host := "") (Or.inl (wd hw 33 rfl)) Via.refl e698 f696 d6_22 rfl ?_
  intro T699 X699 e699
  have f700 : AV Z h694 wa .long (own_arr w0 w1 w2 w3 w4) := (H8.keep (Keep.of_wr W694) (ninS (Ne.symm H11) nin0))
  refine go_laload K X699 e699 f700 (i := 0) rfl rfl d6_25 rfl ?_
  refine go_lstoreN K X699 #[.val (.ref a1), .val (.long x0), .second, .val (.long w0), .second, .unset, .unset, .unset, .unset] d6_26 rfl rfl ?_
  refine go_aloadN K X699 d6_27 rfl rfl rfl ?_
  have f701 : Fld Z h694 a1 "com/example/plumbline/plumbline/align/WeightHeap" "items" "[J" (.ref ia) := (H6.other W694 (Or.inr (slot_ne (Or.inl (wd hw 13 rfl)) (Or.inl (wd hw 34 rfl)) (by decide) (t := (.array .long)) (t' := .int) (by decide) (by decide))))
  refine go_getF K X699 (host := "") (Or.inl (wd hw 12 rfl)) Via.refl e699 f701 d6_28 rfl ?_
  intro T702 X702 e702
  refine go_aloadN K X702 d6_31 rfl rfl rfl ?_
  refine go_getF K X702 (host := "") (Or.inl (wd hw 33 rfl)) Via.refl e702 f696 d6_32 rfl ?_
  intro T703 X703 e703
  have f704 : AV Z h694 ia .long (own_arr x0 x1 x2 x3 x4) := (H9.keep (Keep.of_wr W694) (ninS (Ne.symm H12) nin0))
  refine go_laload K X703 e703 f704 (i := 0) rfl rfl d6_35 rfl ?_
  refine go_lstore K X703 #[.val (.ref a1), .val (.long x0), .second, .val (.long w0), .second, .val (.long x0), .second, .unset, .unset] d6_36 rfl rfl ?_
  refine go_iconst K X703 (0 : Int32) d6_38 rfl rfl ?_
  refine go_istore K X703 #[.val (.ref a1), .val (.long x0), .second, .val (.long w0), .second, .val (.long x0), .second, .val (.int (0 : Int32)), .unset] d6_39 rfl rfl ?_
  refine go_iconst K X703 (2 : Int32) d6_41 rfl rfl ?_
  refine go_iload K X703 d6_42 rfl rfl ?_
  refine go_imul K X703 d6_44 rfl ?_
  rw [show ((2 : Int32) * (0 : Int32)) = (0 : Int32) from by decide]
  refine go_iconst K X703 (1 : Int32) d6_45 rfl rfl ?_
  refine go_iadd K X703 d6_46 rfl ?_
  rw [show ((0 : Int32) + (1 : Int32)) = (1 : Int32) from by decide]
  refine go_aloadN K X703 d6_47 rfl rfl rfl ?_
  refine go_getF K X703 (host := "") (Or.inl (wd hw 33 rfl)) Via.refl e703 f696 d6_48 rfl ?_
  intro T705 X705 e705
  refine go_icmpT K X705 d6_51 (by decide) rfl (by decide : ¬ (1 : Int32) < (0 : Int32)) ?_
  refine go_aloadN K X705 d6_146 rfl rfl rfl ?_
  refine go_getF K X705 (host := "") (Or.inl (wd hw 10 rfl)) Via.refl e705 f697 d6_147 rfl ?_
  intro T706 X706 e706
  refine go_iload K X706 d6_150 rfl rfl ?_
  refine go_lloadN K X706 d6_152 rfl rfl ?_
  refine go_lastore K X706 e706 f700 (i := 0) rfl (Nat.le_of_ble_eq_true rfl) H2 d6_153 rfl ?_
  intro T707 h707 X707 e707 W707 A707
  have kp708 : Keep h0 h707 [a1, wa, ia] := kp695.trans (Keep.of_wr W707) (allS (Or.inl (List.mem_of_getElem? (i := 1) rfl)) all0)
  have f709 : AV Z h707 wa .long (own_arr w0 w1 w2 w3 w4) := A707
  refine go_aloadN K X707 d6_154 rfl rfl rfl ?_
  have f710 : Fld Z h707 a1 "com/example/plumbline/plumbline/align/WeightHeap" "items" "[J" (.ref ia) := (f701.keep (Keep.of_wr W707) (ninS H11 nin0))
  refine go_getF K X707 (host := "") (Or.inl (wd hw 12 rfl)) Via.refl e707 f710 d6_155 rfl ?_
  intro T711 X711 e711
  refine go_iload K X711 d6_158 rfl rfl ?_
  refine go_lload K X711 d6_160 rfl rfl ?_
  have f712 : AV Z h707 ia .long (own_arr x0 x1 x2 x3 x4) := (f704.keep (Keep.of_wr W707) (ninS (Ne.symm H10) nin0))
  refine go_lastore K X711 e711 f712 (i := 0) rfl (Nat.le_of_ble_eq_true rfl) H3 d6_162 rfl ?_
  intro T713 h713 X713 e713 W713 A713
  have kp714 : Keep h0 h713 [a1, wa, ia] := kp708.trans (Keep.of_wr W713) (allS (Or.inl (List.mem_of_getElem? (i := 2) rfl)) all0)
  have f715 : AV Z h713 ia .long (own_arr x0 x1 x2 x3 x4) := A713
  refine go_lloadN K X713 d6_163 rfl rfl ?_
  refine go_retJ K X713 d6_164 (by decide) (by decide) ?_
  have f716 : Exa Z h713 a1 "com/example/plumbline/plumbline/align/WeightHeap" := (((H4.keep (Keep.of_wr W694)).keep (Keep.of_wr W707)).keep (Keep.of_wr W713))
  have f717 : Fld Z h713 a1 "com/example/plumbline/plumbline/align/WeightHeap" "weights" "[J" (.ref wa) := ((f697.keep (Keep.of_wr W707) (ninS H11 nin0)).keep (Keep.of_wr W713) (ninS H12 nin0))
  have f718 : Fld Z h713 a1 "com/example/plumbline/plumbline/align/WeightHeap" "items" "[J" (.ref ia) := (f710.keep (Keep.of_wr W713) (ninS H12 nin0))
  have f719 : Fld Z h713 a1 "com/example/plumbline/plumbline/align/WeightHeap" "size" "I" (.int (0 : Int32)) := ((f696.keep (Keep.of_wr W707) (ninS H11 nin0)).keep (Keep.of_wr W713) (ninS H12 nin0))
  have f720 : AV Z h713 wa .long (own_arr w0 w1 w2 w3 w4) := (f709.keep (Keep.of_wr W713) (ninS H10 nin0))
  rw [e713]
  exact ⟨w0, w1, w2, w3, w4, x0, x1, x2, x3, x4, rfl, kp714, f716, f717, f718, f719, f720, f715, trivial, (List.Perm.cons _ (List.Perm.refl _)), trivial⟩
theorem d7_0 : decode method_2_code 0 = .ok (.lload_n 0, 1) := by decide +kernel
theorem d7_1 : decode method_2_code 1 = .ok (.lconst 0, 1) := by decide +kernel
theorem d7_2 : decode method_2_code 2 = .ok (.lcmp, 1) := by decide +kernel
theorem d7_3 : decode method_2_code 3 = .ok (.ifCond .lt 14, 3) := by decide +kernel
theorem d7_17 : decode method_2_code 17 = .ok (.iconst (-1), 1) := by decide +kernel
theorem d7_18 : decode method_2_code 18 = .ok (.ireturn, 1) := by decide +kernel
theorem d7_6 : decode method_2_code 6 = .ok (.lload_n 0, 1) := by decide +kernel
theorem d7_7 : decode method_2_code 7 = .ok (.ldc2_w 7, 3) := by decide +kernel
theorem d7_10 : decode method_2_code 10 = .ok (.lcmp, 1) := by decide +kernel
theorem d7_11 : decode method_2_code 11 = .ok (.ifCond .ge 6, 3) := by decide +kernel
theorem d7_14 : decode method_2_code 14 = .ok (.lload_n 0, 1) := by decide +kernel
theorem d7_15 : decode method_2_code 15 = .ok (.l2i, 1) := by decide +kernel
theorem d7_16 : decode method_2_code 16 = .ok (.ireturn, 1) := by decide +kernel
theorem pn_com_example_plumbline_plumbline_align_WeightHeapPollFirstPinLaw : plainName "com/example/plumbline/plumbline/align/WeightHeapPollFirstPinLaw" = true := by first | (simp [plainName, overriddenIn]; done) | decide +kernel
theorem ef_rmIdx (m : MethodId) (q1 : Int64) : entryFrame m #[(.long q1)] 2 = mkF m 0 #[.val (.long q1), .second] [] := by first | (simp [entryFrame, mkF, argsToLocals, Value.category]; done) | rfl
def Q_rmIdx (Z : State) (n0 : Nat) (q1 : Int64) (h0 : Heap) (v : Option Value) (h : Heap) : Prop := v = some (.int (own_idx q1)) ∧ h = h0
abbrev R_rmIdx : Room := { frames := 0, cells := 0, slots := 0, locals := 0 }
set_option maxRecDepth 65536 in
set_option maxHeartbeats 40000000 in
theorem rmIdx {l : Launch} {Z : State} {n0 : Nat} {a0 : Array Value} (hw : ∀ d ∈ tables_1, d.before a0 Z = true) (q1 : Int64) (h0 : Heap) :
    Con l Z n0 (⟨"com/example/plumbline/plumbline/align/WeightHeapPollFirstPinLaw", "idx", "(J)I"⟩ : MethodName) method_2_code 2 (some .int) R_rmIdx #[(.long q1)] h0 (Q_rmIdx Z n0 q1 h0) := by
  refine con_of (plainFor_of_name pn_com_example_plumbline_plumbline_align_WeightHeapPollFirstPinLaw) ?_
  intro p e s m below meth c T0 K X0 e0
  replace K : Ctx p s m meth c Z "com/example/plumbline/plumbline/align/WeightHeapPollFirstPinLaw" "idx" method_2_code 2 (some .int) := K
  refine go_entry (ef_rmIdx m q1) ?_
  refine go_lloadN K X0 d7_0 rfl rfl ?_
  refine go_lconst K X0 (0 : Int64) d7_1 rfl rfl ?_
  refine go_lif K X0 d7_2 rfl d7_3 (by decide) rfl rfl ?_ ?_
  · intro (hc721 : q1 < (0 : Int64))
    refine go_iconst K X0 (-1 : Int32) d7_17 rfl rfl ?_
    refine go_retI K X0 d7_18 (by decide) (by decide) ?_
    rw [e0]
    exact ⟨(by simp [own_idx, hc721]), rfl⟩
  · intro (hc721 : ¬ q1 < (0 : Int64))
    refine go_lloadN K X0 d7_6 rfl rfl ?_
    refine go_ldc2J K X0 (wd hw 47 rfl) d7_7 rfl ?_
    refine go_lif K X0 d7_10 rfl d7_11 (by decide) rfl rfl ?_ ?_
    · intro (hc722 : ¬ q1 < (5 : Int64))
      refine go_iconst K X0 (-1 : Int32) d7_17 rfl rfl ?_
      refine go_retI K X0 d7_18 (by decide) (by decide) ?_
      rw [e0]
      exact ⟨(by simp [own_idx, hc721, hc722]), rfl⟩
    · intro (hc722 : q1 < (5 : Int64))
      refine go_lloadN K X0 d7_14 rfl rfl ?_
      refine go_l2i K X0 d7_15 rfl ?_
      refine go_retI K X0 d7_16 (by decide) (by decide) ?_
      rw [e0]
      exact ⟨(by simp [own_idx, hc721, hc722]), rfl⟩
theorem pd_2 : parseMethodDescriptor "()V" = some ⟨[], none⟩ := by decide +kernel
theorem pd_3 : parseMethodDescriptor "(JJ)V" = some ⟨[.long, .long], none⟩ := by decide +kernel
theorem pd_4 : parseMethodDescriptor "()J" = some ⟨[], some .long⟩ := by decide +kernel
theorem pd_5 : parseMethodDescriptor "(J)I" = some ⟨[.long], some .int⟩ := by decide +kernel
theorem ef_rmLaw (m : MethodId) (q1 : Int64) (q2 : Int64) (q3 : Int64) (q4 : Int64) (q5 : Int64) (q6 : Int64) : entryFrame m #[(.long q1), (.long q2), (.long q3), (.long q4), (.long q5), (.long q6)] maxLocals = mkF m 0 #[.val (.long q1), .second, .val (.long q2), .second, .val (.long q3), .second, .val (.long q4), .second, .val (.long q5), .second, .val (.long q6), .second, .unset, .unset, .unset, .unset, .unset, .unset, .unset, .unset] [] := by first | (simp [entryFrame, mkF, argsToLocals, Value.category, maxLocals]; done) | rfl
def Q_rmLaw (Z : State) (n0 : Nat) (q1 : Int64) (q2 : Int64) (q3 : Int64) (q4 : Int64) (q5 : Int64) (q6 : Int64) (h0 : Heap) (v : Option Value) (h : Heap) : Prop := v = some (.int (1 : Int32)) ∧ Keep h0 h []
set_option maxRecDepth 65536 in
set_option maxHeartbeats 40000000 in
theorem rmLaw {l : Launch} {Z : State} {n0 : Nat} {a0 : Array Value} (hw : ∀ d ∈ tables_1, d.before a0 Z = true) (q1 : Int64) (q2 : Int64) (q3 : Int64) (q4 : Int64) (q5 : Int64) (q6 : Int64) (h0 : Heap) (H0 : n0 ≤ h0.size) :
    Con l Z n0 x code maxLocals ret room_1 #[(.long q1), (.long q2), (.long q3), (.long q4), (.long q5), (.long q6)] h0 (Q_rmLaw Z n0 q1 q2 q3 q4 q5 q6 h0) := by
  refine con_of (plainFor_of_name pn_com_example_plumbline_plumbline_align_WeightHeapPollFirstPinLaw) ?_
  intro p e s m below meth c T0 K X0 e0
  replace K : Ctx p s m meth c Z "com/example/plumbline/plumbline/align/WeightHeapPollFirstPinLaw" "law" code maxLocals (some .boolean) := K
  refine go_entry (ef_rmLaw m q1 q2 q3 q4 q5 q6) ?_
  refine go_iconst K X0 (5 : Int32) at_0 rfl rfl ?_
  refine go_newarray K X0 (wd hw 0 rfl) e0 at_1 (i := 5) (cap := 5) rfl (by decide) (by decide) rfl (cells' := 1) (slots' := 5) rfl rfl (by decide) (by decide) ?_
  intro T723 h723 b723 g723 X723 e723 E723 A723
  have ga724 : n0 ≤ b723 := Nat.le_trans H0 (Nat.le_of_eq g723.symm)
  have gb725 : h0.size ≤ b723 := Nat.le_trans (Keep.refl h0 []).1 (Nat.le_of_eq g723.symm)
  have kp726 : Keep h0 h723 [] := (Keep.refl h0 []).trans (Keep.ext (Keep.refl _ []) E723) all0
  have f727 : AV Z h723 b723 .long [(.long (0 : Int64)), (.long (0 : Int64)), (.long (0 : Int64)), (.long (0 : Int64)), (.long (0 : Int64))] := A723
  refine go_dup K X723 at_3 rfl rfl ?_
  refine go_iconst K X723 (0 : Int32) at_4 rfl rfl ?_
  refine go_lloadN K X723 at_5 rfl rfl ?_
  refine go_lastore K X723 e723 f727 (i := 0) rfl (Nat.le_of_ble_eq_true rfl) ga724 at_6 rfl ?_
  intro T728 h728 X728 e728 W728 A728
  have kp729 : Keep h0 h728 [] := kp726.trans (Keep.of_wr W728) (allS (Or.inr gb725) all0)
  have f730 : AV Z h728 b723 .long [(.long q1), (.long (0 : Int64)), (.long (0 : Int64)), (.long (0 : Int64)), (.long (0 : Int64))] := A728
  refine go_dup K X728 at_7 rfl rfl ?_
  refine go_iconst K X728 (1 : Int32) at_8 rfl rfl ?_
  refine go_lloadN K X728 at_9 rfl rfl ?_
  refine go_lastore K X728 e728 f730 (i := 1) rfl (Nat.le_of_ble_eq_true rfl) ga724 at_10 rfl ?_
  intro T731 h731 X731 e731 W731 A731
  have kp732 : Keep h0 h731 [] := kp729.trans (Keep.of_wr W731) (allS (Or.inr gb725) all0)
  have f733 : AV Z h731 b723 .long [(.long q1), (.long q2), (.long (0 : Int64)), (.long (0 : Int64)), (.long (0 : Int64))] := A731
  refine go_dup K X731 at_11 rfl rfl ?_
  refine go_iconst K X731 (2 : Int32) at_12 rfl rfl ?_
  refine go_lload K X731 at_13 rfl rfl ?_
  refine go_lastore K X731 e731 f733 (i := 2) rfl (Nat.le_of_ble_eq_true rfl) ga724 at_15 rfl ?_
  intro T734 h734 X734 e734 W734 A734
  have kp735 : Keep h0 h734 [] := kp732.trans (Keep.of_wr W734) (allS (Or.inr gb725) all0)
  have f736 : AV Z h734 b723 .long [(.long q1), (.long q2), (.long q3), (.long (0 : Int64)), (.long (0 : Int64))] := A734
  refine go_dup K X734 at_16 rfl rfl ?_
  refine go_iconst K X734 (3 : Int32) at_17 rfl rfl ?_
  refine go_lload K X734 at_18 rfl rfl ?_
  refine go_lastore K X734 e734 f736 (i := 3) rfl (Nat.le_of_ble_eq_true rfl) ga724 at_20 rfl ?_
  intro T737 h737 X737 e737 W737 A737
  have kp738 : Keep h0 h737 [] := kp735.trans (Keep.of_wr W737) (allS (Or.inr gb725) all0)
  have f739 : AV Z h737 b723 .long [(.long q1), (.long q2), (.long q3), (.long q4), (.long (0 : Int64))] := A737
  refine go_dup K X737 at_21 rfl rfl ?_
  refine go_iconst K X737 (4 : Int32) at_22 rfl rfl ?_
  refine go_lload K X737 at_23 rfl rfl ?_
  refine go_lastore K X737 e737 f739 (i := 4) rfl (Nat.le_of_ble_eq_true rfl) ga724 at_25 rfl ?_
  intro T740 h740 X740 e740 W740 A740
  have kp741 : Keep h0 h740 [] := kp738.trans (Keep.of_wr W740) (allS (Or.inr gb725) all0)
  have f742 : AV Z h740 b723 .long [(.long q1), (.long q2), (.long q3), (.long q4), (.long q5)] := A740
  refine go_astore K X740 #[.val (.long q1), .second, .val (.long q2), .second, .val (.long q3), .second, .val (.long q4), .second, .val (.long q5), .second, .val (.long q6), .second, .val (.ref b723), .unset, .unset, .unset, .unset, .unset, .unset, .unset] at_26 rfl rfl rfl ?_
  refine go_new K X740 (wd hw 1 rfl) (wd hw 2 rfl) (wd hw 3 rfl) e740 at_28 rfl (cells' := 2) (slots' := 9) rfl rfl (by decide) (by decide) ?_
  intro T743 h743 b743 g743 X743 e743 E743 A743 D743
  have ga744 : n0 ≤ b743 := Nat.le_trans (Nat.le_trans (Nat.le_trans (Nat.le_trans (Nat.le_trans (Nat.le_trans (Nat.le_trans H0 (Keep.ext (Keep.refl _ []) E723).1) (Keep.of_wr W728).1) (Keep.of_wr W731).1) (Keep.of_wr W734).1) (Keep.of_wr W737).1) (Keep.of_wr W740).1) (Nat.le_of_eq g743.symm)
  have gb745 : h0.size ≤ b743 := Nat.le_trans kp741.1 (Nat.le_of_eq g743.symm)
  have kp746 : Keep h0 h743 [] := kp741.trans (Keep.ext (Keep.refl _ []) E743) all0
  refine go_dup K X743 at_31 rfl rfl ?_
  refine go_init K X743 (a := b743) (argsL := []) (stk := [(.ref b743)]) (wd hw 4 rfl) (wd hw 5 rfl) (wd hw 3 rfl) (wd hw 6 rfl) (by decide) rfl (lenOf pd_2 rfl) e743 (rmInit hw b743 .null .null (.long (0 : Int64)) h743 (Nat.le_trans (Nat.le_trans (Nat.le_trans (Nat.le_trans (Nat.le_trans (Nat.le_trans (Nat.le_trans H0 (Keep.ext (Keep.refl _ []) E723).1) (Keep.of_wr W728).1) (Keep.of_wr W731).1) (Keep.of_wr W734).1) (Keep.of_wr W737).1) (Keep.of_wr W740).1) (Keep.ext (Keep.refl _ []) E743).1) ga744 A743 (D743 (Or.inl (wd hw 11 rfl)) (ty := (.array .long)) (by decide) : Fld Z h743 b743 "com/example/plumbline/plumbline/align/WeightHeap" "weights" "[J" .null) (D743 (Or.inl (wd hw 13 rfl)) (ty := (.array .long)) (by decide) : Fld Z h743 b743 "com/example/plumbline/plumbline/align/WeightHeap" "items" "[J" .null) (D743 (Or.inl (wd hw 27 rfl)) (ty := .long) (by decide) : Fld Z h743 b743 "com/example/plumbline/plumbline/align/WeightHeap" "bytes" "J" (.long (0 : Int64))) (D743 (Or.inl (wd hw 34 rfl)) (ty := .int) (by decide) : Fld Z h743 b743 "com/example/plumbline/plumbline/align/WeightHeap" "size" "I" (.int (0 : Int32)))) rfl rfl at_32 rfl (by decide) (W := 1) (Nat.le_of_eq rfl) (by decide) (cells' := 4) (slots' := 137) rfl rfl (by decide) (by decide) ?_
  rintro T747 h747 _ X747 e747 ⟨wa748, ia749, rfl, K747, f750, f751, f752, f753, f754, f755, f756, f757, r758⟩
  show Go _ _ _ _ _ _ _ (T747.setTop (mkF m 35 #[.val (.long q1), .second, .val (.long q2), .second, .val (.long q3), .second, .val (.long q4), .second, .val (.long q5), .second, .val (.long q6), .second, .val (.ref b723), .unset, .unset, .unset, .unset, .unset, .unset, .unset] [(.ref b743)]))
  have ga759 : n0 ≤ wa748 := Nat.le_trans (Nat.le_trans (Nat.le_trans (Nat.le_trans (Nat.le_trans (Nat.le_trans (Nat.le_trans (Nat.le_trans H0 (Keep.ext (Keep.refl _ []) E723).1) (Keep.of_wr W728).1) (Keep.of_wr W731).1) (Keep.of_wr W734).1) (Keep.of_wr W737).1) (Keep.of_wr W740).1) (Keep.ext (Keep.refl _ []) E743).1) f750
  have gb760 : h0.size ≤ wa748 := Nat.le_trans kp746.1 f750
  have ga761 : n0 ≤ ia749 := Nat.le_trans (Nat.le_trans (Nat.le_trans (Nat.le_trans (Nat.le_trans (Nat.le_trans (Nat.le_trans (Nat.le_trans H0 (Keep.ext (Keep.refl _ []) E723).1) (Keep.of_wr W728).1) (Keep.of_wr W731).1) (Keep.of_wr W734).1) (Keep.of_wr W737).1) (Keep.of_wr W740).1) (Keep.ext (Keep.refl _ []) E743).1) f751
  have gb762 : h0.size ≤ ia749 := Nat.le_trans kp746.1 f751
  have kp763 : Keep h0 h747 [] := kp746.trans K747 (allS (Or.inr gb745) all0)
  refine go_astore K X747 #[.val (.long q1), .second, .val (.long q2), .second, .val (.long q3), .second, .val (.long q4), .second, .val (.long q5), .second, .val (.long q6), .second, .val (.ref b723), .val (.ref b743), .unset, .unset, .unset, .unset, .unset, .unset] at_35 rfl rfl rfl ?_
  refine go_aload K X747 at_37 rfl rfl rfl ?_
  refine go_lloadN K X747 at_39 rfl rfl ?_
  refine go_lload K X747 at_40 rfl rfl ?_
  refine go_virt K X747 (a := b743) (argsL := [(.long q1), (.long q6)]) (stk := []) (wd hw 28 rfl) (wd hw 29 rfl) (wd hw 31 rfl) (wd hw 31 rfl) (wd hw 30 rfl) (wd hw 32 rfl) (wd hw 3 rfl) (by decide) (lenOf pd_3 rfl) e747 f752 (rmAdd0 hw b743 q1 q6 wa748 ia749 (0 : Int64) (0 : Int64) (0 : Int64) (0 : Int64) (0 : Int64) (0 : Int64) (0 : Int64) (0 : Int64) (0 : Int64) (0 : Int64) h747 (Nat.le_trans (Nat.le_trans (Nat.le_trans (Nat.le_trans (Nat.le_trans (Nat.le_trans (Nat.le_trans (Nat.le_trans H0 (Keep.ext (Keep.refl _ []) E723).1) (Keep.of_wr W728).1) (Keep.of_wr W731).1) (Keep.of_wr W734).1) (Keep.of_wr W737).1) (Keep.of_wr W740).1) (Keep.ext (Keep.refl _ []) E743).1) K747.1) ga744 ga759 ga761 f752 f753 f754 f755 f756 f757 r758 (Nat.ne_of_lt (Nat.lt_of_lt_of_le A743.lt f750)) (Nat.ne_of_lt (Nat.lt_of_lt_of_le A743.lt f751)) trivial) rfl rfl at_42 rfl (by decide) (W := 0) (Nat.le_of_eq rfl) (by decide) (cells' := 4) (slots' := 137) rfl rfl (by decide) (by decide) ?_
  rintro T764 h764 _ X764 e764 ⟨d0765, d1766, d2767, d3768, d4769, e0770, e1771, e2772, e3773, e4774, rfl, K764, f775, f776, f777, f778, f779, f780, r781, r782⟩
  show Go _ _ _ _ _ _ _ (T764.setTop (mkF m 45 #[.val (.long q1), .second, .val (.long q2), .second, .val (.long q3), .second, .val (.long q4), .second, .val (.long q5), .second, .val (.long q6), .second, .val (.ref b723), .val (.ref b743), .unset, .unset, .unset, .unset, .unset, .unset] []))
  have kp783 : Keep h0 h764 [] := kp763.trans K764 (allS (Or.inr gb745) (allS (Or.inr gb760) (allS (Or.inr gb762) all0)))
  refine go_aload K X764 at_45 rfl rfl rfl ?_
  refine go_lloadN K X764 at_47 rfl rfl ?_
  refine go_lload K X764 at_48 rfl rfl ?_
  refine go_lconst K X764 (1 : Int64) at_50 rfl rfl ?_
  refine go_ladd K X764 at_51 rfl ?_
  refine go_virt K X764 (a := b743) (argsL := [(.long q2), (.long (q6 + (1 : Int64)))]) (stk := []) (wd hw 28 rfl) (wd hw 29 rfl) (wd hw 31 rfl) (wd hw 31 rfl) (wd hw 30 rfl) (wd hw 32 rfl) (wd hw 3 rfl) (by decide) (lenOf pd_3 rfl) e764 f775 (rmAdd1 hw b743 q2 (q6 + (1 : Int64)) wa748 ia749 d0765 d1766 d2767 d3768 d4769 e0770 e1771 e2772 e3773 e4774 h764 (Nat.le_trans (Nat.le_trans (Nat.le_trans (Nat.le_trans (Nat.le_trans (Nat.le_trans (Nat.le_trans (Nat.le_trans (Nat.le_trans H0 (Keep.ext (Keep.refl _ []) E723).1) (Keep.of_wr W728).1) (Keep.of_wr W731).1) (Keep.of_wr W734).1) (Keep.of_wr W737).1) (Keep.of_wr W740).1) (Keep.ext (Keep.refl _ []) E743).1) K747.1) K764.1) ga744 ga759 ga761 f775 f776 f777 f778 f779 f780 r758 (Nat.ne_of_lt (Nat.lt_of_lt_of_le A743.lt f750)) (Nat.ne_of_lt (Nat.lt_of_lt_of_le A743.lt f751)) r781) rfl rfl at_52 rfl (by decide) (W := 0) (Nat.le_of_eq rfl) (by decide) (cells' := 4) (slots' := 137) rfl rfl (by decide) (by decide) ?_
  rintro T784 h784 _ X784 e784 ⟨d0785, d1786, d2787, d3788, d4789, e0790, e1791, e2792, e3793, e4794, rfl, K784, f795, f796, f797, f798, f799, f800, r801, r802⟩
  show Go _ _ _ _ _ _ _ (T784.setTop (mkF m 55 #[.val (.long q1), .second, .val (.long q2), .second, .val (.long q3), .second, .val (.long q4), .second, .val (.long q5), .second, .val (.long q6), .second, .val (.ref b723), .val (.ref b743), .unset, .unset, .unset, .unset, .unset, .unset] []))
  have kp803 : Keep h0 h784 [] := kp783.trans K784 (allS (Or.inr gb745) (allS (Or.inr gb760) (allS (Or.inr gb762) all0)))
  refine go_aload K X784 at_55 rfl rfl rfl ?_
  refine go_lload K X784 at_57 rfl rfl ?_
  refine go_lload K X784 at_59 rfl rfl ?_
  refine go_ldc2J K X784 (wd hw 35 rfl) at_61 rfl ?_
  refine go_ladd K X784 at_64 rfl ?_
  refine go_virt K X784 (a := b743) (argsL := [(.long q3), (.long (q6 + (2 : Int64)))]) (stk := []) (wd hw 28 rfl) (wd hw 29 rfl) (wd hw 31 rfl) (wd hw 31 rfl) (wd hw 30 rfl) (wd hw 32 rfl) (wd hw 3 rfl) (by decide) (lenOf pd_3 rfl) e784 f795 (rmAdd2 hw b743 q3 (q6 + (2 : Int64)) wa748 ia749 d0785 d1786 d2787 d3788 d4789 e0790 e1791 e2792 e3793 e4794 h784 (Nat.le_trans (Nat.le_trans (Nat.le_trans (Nat.le_trans (Nat.le_trans (Nat.le_trans (Nat.le_trans (Nat.le_trans (Nat.le_trans (Nat.le_trans H0 (Keep.ext (Keep.refl _ []) E723).1) (Keep.of_wr W728).1) (Keep.of_wr W731).1) (Keep.of_wr W734).1) (Keep.of_wr W737).1) (Keep.of_wr W740).1) (Keep.ext (Keep.refl _ []) E743).1) K747.1) K764.1) K784.1) ga744 ga759 ga761 f795 f796 f797 f798 f799 f800 r758 (Nat.ne_of_lt (Nat.lt_of_lt_of_le A743.lt f750)) (Nat.ne_of_lt (Nat.lt_of_lt_of_le A743.lt f751)) r801) rfl rfl at_65 rfl (by decide) (W := 0) (Nat.le_of_eq rfl) (by decide) (cells' := 4) (slots' := 137) rfl rfl (by decide) (by decide) ?_
  rintro T804 h804 _ X804 e804 ⟨d0805, d1806, d2807, d3808, d4809, e0810, e1811, e2812, e3813, e4814, rfl, K804, f815, f816, f817, f818, f819, f820, r821, r822⟩
  show Go _ _ _ _ _ _ _ (T804.setTop (mkF m 68 #[.val (.long q1), .second, .val (.long q2), .second, .val (.long q3), .second, .val (.long q4), .second, .val (.long q5), .second, .val (.long q6), .second, .val (.ref b723), .val (.ref b743), .unset, .unset, .unset, .unset, .unset, .unset] []))
  have kp823 : Keep h0 h804 [] := kp803.trans K804 (allS (Or.inr gb745) (allS (Or.inr gb760) (allS (Or.inr gb762) all0)))
  refine go_aload K X804 at_68 rfl rfl rfl ?_
  refine go_lload K X804 at_70 rfl rfl ?_
  refine go_lload K X804 at_72 rfl rfl ?_
  refine go_ldc2J K X804 (wd hw 36 rfl) at_74 rfl ?_
  refine go_ladd K X804 at_77 rfl ?_
  refine go_virt K X804 (a := b743) (argsL := [(.long q4), (.long (q6 + (3 : Int64)))]) (stk := []) (wd hw 28 rfl) (wd hw 29 rfl) (wd hw 31 rfl) (wd hw 31 rfl) (wd hw 30 rfl) (wd hw 32 rfl) (wd hw 3 rfl) (by decide) (lenOf pd_3 rfl) e804 f815 (rmAdd3 hw b743 q4 (q6 + (3 : Int64)) wa748 ia749 d0805 d1806 d2807 d3808 d4809 e0810 e1811 e2812 e3813 e4814 h804 (Nat.le_trans (Nat.le_trans (Nat.le_trans (Nat.le_trans (Nat.le_trans (Nat.le_trans (Nat.le_trans (Nat.le_trans (Nat.le_trans (Nat.le_trans (Nat.le_trans H0 (Keep.ext (Keep.refl _ []) E723).1) (Keep.of_wr W728).1) (Keep.of_wr W731).1) (Keep.of_wr W734).1) (Keep.of_wr W737).1) (Keep.of_wr W740).1) (Keep.ext (Keep.refl _ []) E743).1) K747.1) K764.1) K784.1) K804.1) ga744 ga759 ga761 f815 f816 f817 f818 f819 f820 r758 (Nat.ne_of_lt (Nat.lt_of_lt_of_le A743.lt f750)) (Nat.ne_of_lt (Nat.lt_of_lt_of_le A743.lt f751)) r821) rfl rfl at_78 rfl (by decide) (W := 0) (Nat.le_of_eq rfl) (by decide) (cells' := 4) (slots' := 137) rfl rfl (by decide) (by decide) ?_
  rintro T824 h824 _ X824 e824 ⟨d0825, d1826, d2827, d3828, d4829, e0830, e1831, e2832, e3833, e4834, rfl, K824, f835, f836, f837, f838, f839, f840, r841, r842⟩
  show Go _ _ _ _ _ _ _ (T824.setTop (mkF m 81 #[.val (.long q1), .second, .val (.long q2), .second, .val (.long q3), .second, .val (.long q4), .second, .val (.long q5), .second, .val (.long q6), .second, .val (.ref b723), .val (.ref b743), .unset, .unset, .unset, .unset, .unset, .unset] []))
  have kp843 : Keep h0 h824 [] := kp823.trans K824 (allS (Or.inr gb745) (allS (Or.inr gb760) (allS (Or.inr gb762) all0)))
  refine go_aload K X824 at_81 rfl rfl rfl ?_
  refine go_lload K X824 at_83 rfl rfl ?_
  refine go_lload K X824 at_85 rfl rfl ?_
  refine go_ldc2J K X824 (wd hw 37 rfl) at_87 rfl ?_
  refine go_ladd K X824 at_90 rfl ?_
  refine go_virt K X824 (a := b743) (argsL := [(.long q5), (.long (q6 + (4 : Int64)))]) (stk := []) (wd hw 28 rfl) (wd hw 29 rfl) (wd hw 31 rfl) (wd hw 31 rfl) (wd hw 30 rfl) (wd hw 32 rfl) (wd hw 3 rfl) (by decide) (lenOf pd_3 rfl) e824 f835 (rmAdd4 hw b743 q5 (q6 + (4 : Int64)) wa748 ia749 d0825 d1826 d2827 d3828 d4829 e0830 e1831 e2832 e3833 e4834 h824 (Nat.le_trans (Nat.le_trans (Nat.le_trans (Nat.le_trans (Nat.le_trans (Nat.le_trans (Nat.le_trans (Nat.le_trans (Nat.le_trans (Nat.le_trans (Nat.le_trans (Nat.le_trans H0 (Keep.ext (Keep.refl _ []) E723).1) (Keep.of_wr W728).1) (Keep.of_wr W731).1) (Keep.of_wr W734).1) (Keep.of_wr W737).1) (Keep.of_wr W740).1) (Keep.ext (Keep.refl _ []) E743).1) K747.1) K764.1) K784.1) K804.1) K824.1) ga744 ga759 ga761 f835 f836 f837 f838 f839 f840 r758 (Nat.ne_of_lt (Nat.lt_of_lt_of_le A743.lt f750)) (Nat.ne_of_lt (Nat.lt_of_lt_of_le A743.lt f751)) r841) rfl rfl at_91 rfl (by decide) (W := 0) (Nat.le_of_eq rfl) (by decide) (cells' := 4) (slots' := 137) rfl rfl (by decide) (by decide) ?_
  rintro T844 h844 _ X844 e844 ⟨d0845, d1846, d2847, d3848, d4849, e0850, e1851, e2852, e3853, e4854, rfl, K844, f855, f856, f857, f858, f859, f860, r861, r862⟩
  show Go _ _ _ _ _ _ _ (T844.setTop (mkF m 94 #[.val (.long q1), .second, .val (.long q2), .second, .val (.long q3), .second, .val (.long q4), .second, .val (.long q5), .second, .val (.long q6), .second, .val (.ref b723), .val (.ref b743), .unset, .unset, .unset, .unset, .unset, .unset] []))
  have kp863 : Keep h0 h844 [] := kp843.trans K844 (allS (Or.inr gb745) (allS (Or.inr gb760) (allS (Or.inr gb762) all0)))
  refine go_aload K X844 at_94 rfl rfl rfl ?_
  refine go_virt K X844 (a := b743) (argsL := []) (stk := []) (wd hw 38 rfl) (wd hw 39 rfl) (wd hw 41 rfl) (wd hw 41 rfl) (wd hw 40 rfl) (wd hw 42 rfl) (wd hw 3 rfl) (by decide) (lenOf pd_4 rfl) e844 f855 (rmPoll5 hw b743 wa748 ia749 d0845 d1846 d2847 d3848 d4849 e0850 e1851 e2852 e3853 e4854 h844 (Nat.le_trans (Nat.le_trans (Nat.le_trans (Nat.le_trans (Nat.le_trans (Nat.le_trans (Nat.le_trans (Nat.le_trans (Nat.le_trans (Nat.le_trans (Nat.le_trans (Nat.le_trans (Nat.le_trans H0 (Keep.ext (Keep.refl _ []) E723).1) (Keep.of_wr W728).1) (Keep.of_wr W731).1) (Keep.of_wr W734).1) (Keep.of_wr W737).1) (Keep.of_wr W740).1) (Keep.ext (Keep.refl _ []) E743).1) K747.1) K764.1) K784.1) K804.1) K824.1) K844.1) ga744 ga759 ga761 f855 f856 f857 f858 f859 f860 r758 (Nat.ne_of_lt (Nat.lt_of_lt_of_le A743.lt f750)) (Nat.ne_of_lt (Nat.lt_of_lt_of_le A743.lt f751)) r861) rfl rfl at_96 rfl (by decide) (W := 0) (Nat.le_of_eq rfl) (by decide) (cells' := 4) (slots' := 137) rfl rfl (by decide) (by decide) ?_
  rintro T864 h864 _ X864 e864 ⟨d0865, d1866, d2867, d3868, d4869, e0870, e1871, e2872, e3873, e4874, rfl, K864, f875, f876, f877, f878, f879, f880, r881, r882, r883⟩
  show Go _ _ _ _ _ _ _ (T864.setTop (mkF m 99 #[.val (.long q1), .second, .val (.long q2), .second, .val (.long q3), .second, .val (.long q4), .second, .val (.long q5), .second, .val (.long q6), .second, .val (.ref b723), .val (.ref b743), .unset, .unset, .unset, .unset, .unset, .unset] [(.long e0850)]))
  have kp884 : Keep h0 h864 [] := kp863.trans K864 (allS (Or.inr gb745) (allS (Or.inr gb760) (allS (Or.inr gb762) all0)))
  refine go_lload K X864 at_99 rfl rfl ?_
  refine go_lsub K X864 at_101 rfl ?_
  refine go_static K X864 (argsL := [(.long (e0850 - q6))]) (stk := []) (wd hw 43 rfl) (wd hw 44 rfl) (wd hw 45 rfl) (wd hw 46 rfl) (by decide) (lenOf pd_5 rfl) e864 (rmIdx hw (e0850 - q6) h864 ) rfl rfl at_102 rfl (by decide) (W := 0) (Nat.le_of_eq rfl) (by decide) (cells' := 4) (slots' := 137) rfl rfl (by decide) (by decide) ?_
  rintro T885 h885 _ X885 e885 ⟨rfl, qe885⟩
  show Go _ _ _ _ _ _ _ (T885.setTop (mkF m 105 #[.val (.long q1), .second, .val (.long q2), .second, .val (.long q3), .second, .val (.long q4), .second, .val (.long q5), .second, .val (.long q6), .second, .val (.ref b723), .val (.ref b743), .unset, .unset, .unset, .unset, .unset, .unset] [(.int (own_idx (e0850 - q6)))]))
  replace e885 := e885.trans qe885
  refine go_istore K X885 #[.val (.long q1), .second, .val (.long q2), .second, .val (.long q3), .second, .val (.long q4), .second, .val (.long q5), .second, .val (.long q6), .second, .val (.ref b723), .val (.ref b743), .val (.int (own_idx (e0850 - q6))), .unset, .unset, .unset, .unset, .unset] at_105 rfl rfl ?_
  refine go_aload K X885 at_107 rfl rfl rfl ?_
  refine go_virt K X885 (a := b743) (argsL := []) (stk := []) (wd hw 38 rfl) (wd hw 39 rfl) (wd hw 41 rfl) (wd hw 41 rfl) (wd hw 40 rfl) (wd hw 42 rfl) (wd hw 3 rfl) (by decide) (lenOf pd_4 rfl) e885 f875 (rmPoll4 hw b743 wa748 ia749 d0865 d1866 d2867 d3868 d4869 e0870 e1871 e2872 e3873 e4874 h864 (Nat.le_trans (Nat.le_trans (Nat.le_trans (Nat.le_trans (Nat.le_trans (Nat.le_trans (Nat.le_trans (Nat.le_trans (Nat.le_trans (Nat.le_trans (Nat.le_trans (Nat.le_trans (Nat.le_trans (Nat.le_trans H0 (Keep.ext (Keep.refl _ []) E723).1) (Keep.of_wr W728).1) (Keep.of_wr W731).1) (Keep.of_wr W734).1) (Keep.of_wr W737).1) (Keep.of_wr W740).1) (Keep.ext (Keep.refl _ []) E743).1) K747.1) K764.1) K784.1) K804.1) K824.1) K844.1) K864.1) ga744 ga759 ga761 f875 f876 f877 f878 f879 f880 r758 (Nat.ne_of_lt (Nat.lt_of_lt_of_le A743.lt f750)) (Nat.ne_of_lt (Nat.lt_of_lt_of_le A743.lt f751)) r881) rfl rfl at_109 rfl (by decide) (W := 0) (Nat.le_of_eq rfl) (by decide) (cells' := 4) (slots' := 137) rfl rfl (by decide) (by decide) ?_
  rintro T886 h886 _ X886 e886 ⟨d0887, d1888, d2889, d3890, d4891, e0892, e1893, e2894, e3895, e4896, rfl, K886, f897, f898, f899, f900, f901, f902, r903, r904, r905⟩
  show Go _ _ _ _ _ _ _ (T886.setTop (mkF m 112 #[.val (.long q1), .second, .val (.long q2), .second, .val (.long q3), .second, .val (.long q4), .second, .val (.long q5), .second, .val (.long q6), .second, .val (.ref b723), .val (.ref b743), .val (.int (own_idx (e0850 - q6))), .unset, .unset, .unset, .unset, .unset] [(.long e0870)]))
  have kp906 : Keep h0 h886 [] := kp884.trans K886 (allS (Or.inr gb745) (allS (Or.inr gb760) (allS (Or.inr gb762) all0)))
  refine go_lload K X886 at_112 rfl rfl ?_
  refine go_lsub K X886 at_114 rfl ?_
  refine go_static K X886 (argsL := [(.long (e0870 - q6))]) (stk := []) (wd hw 43 rfl) (wd hw 44 rfl) (wd hw 45 rfl) (wd hw 46 rfl) (by decide) (lenOf pd_5 rfl) e886 (rmIdx hw (e0870 - q6) h886 ) rfl rfl at_115 rfl (by decide) (W := 0) (Nat.le_of_eq rfl) (by decide) (cells' := 4) (slots' := 137) rfl rfl (by decide) (by decide) ?_
  rintro T907 h907 _ X907 e907 ⟨rfl, qe907⟩
  show Go _ _ _ _ _ _ _ (T907.setTop (mkF m 118 #[.val (.long q1), .second, .val (.long q2), .second, .val (.long q3), .second, .val (.long q4), .second, .val (.long q5), .second, .val (.long q6), .second, .val (.ref b723), .val (.ref b743), .val (.int (own_idx (e0850 - q6))), .unset, .unset, .unset, .unset, .unset] [(.int (own_idx (e0870 - q6)))]))
  replace e907 := e907.trans qe907
  refine go_istore K X907 #[.val (.long q1), .second, .val (.long q2), .second, .val (.long q3), .second, .val (.long q4), .second, .val (.long q5), .second, .val (.long q6), .second, .val (.ref b723), .val (.ref b743), .val (.int (own_idx (e0850 - q6))), .val (.int (own_idx (e0870 - q6))), .unset, .unset, .unset, .unset] at_118 rfl rfl ?_
  refine go_aload K X907 at_120 rfl rfl rfl ?_
  refine go_virt K X907 (a := b743) (argsL := []) (stk := []) (wd hw 38 rfl) (wd hw 39 rfl) (wd hw 41 rfl) (wd hw 41 rfl) (wd hw 40 rfl) (wd hw 42 rfl) (wd hw 3 rfl) (by decide) (lenOf pd_4 rfl) e907 f897 (rmPoll3 hw b743 wa748 ia749 d0887 d1888 d2889 d3890 d4891 e0892 e1893 e2894 e3895 e4896 h886 (Nat.le_trans (Nat.le_trans (Nat.le_trans (Nat.le_trans (Nat.le_trans (Nat.le_trans (Nat.le_trans (Nat.le_trans (Nat.le_trans (Nat.le_trans (Nat.le_trans (Nat.le_trans (Nat.le_trans (Nat.le_trans (Nat.le_trans H0 (Keep.ext (Keep.refl _ []) E723).1) (Keep.of_wr W728).1) (Keep.of_wr W731).1) (Keep.of_wr W734).1) (Keep.of_wr W737).1) (Keep.of_wr W740).1) (Keep.ext (Keep.refl _ []) E743).1) K747.1) K764.1) K784.1) K804.1) K824.1) K844.1) K864.1) K886.1) ga744 ga759 ga761 f897 f898 f899 f900 f901 f902 r758 (Nat.ne_of_lt (Nat.lt_of_lt_of_le A743.lt f750)) (Nat.ne_of_lt (Nat.lt_of_lt_of_le A743.lt f751)) r903) rfl rfl at_122 rfl (by decide) (W := 0) (Nat.le_of_eq rfl) (by decide) (cells' := 4) (slots' := 137) rfl rfl (by decide) (by decide) ?_
  rintro T908 h908 _ X908 e908 ⟨d0909, d1910, d2911, d3912, d4913, e0914, e1915, e2916, e3917, e4918, rfl, K908, f919, f920, f921, f922, f923, f924, r925, r926, r927⟩
  show Go _ _ _ _ _ _ _ (T908.setTop (mkF m 125 #[.val (.long q1), .second, .val (.long q2), .second, .val (.long q3), .second, .val (.long q4), .second, .val (.long q5), .second, .val (.long q6), .second, .val (.ref b723), .val (.ref b743), .val (.int (own_idx (e0850 - q6))), .val (.int (own_idx (e0870 - q6))), .unset, .unset, .unset, .unset] [(.long e0892)]))
  have kp928 : Keep h0 h908 [] := kp906.trans K908 (allS (Or.inr gb745) (allS (Or.inr gb760) (allS (Or.inr gb762) all0)))
  refine go_lload K X908 at_125 rfl rfl ?_
  refine go_lsub K X908 at_127 rfl ?_
  refine go_static K X908 (argsL := [(.long (e0892 - q6))]) (stk := []) (wd hw 43 rfl) (wd hw 44 rfl) (wd hw 45 rfl) (wd hw 46 rfl) (by decide) (lenOf pd_5 rfl) e908 (rmIdx hw (e0892 - q6) h908 ) rfl rfl at_128 rfl (by decide) (W := 0) (Nat.le_of_eq rfl) (by decide) (cells' := 4) (slots' := 137) rfl rfl (by decide) (by decide) ?_
  rintro T929 h929 _ X929 e929 ⟨rfl, qe929⟩
  show Go _ _ _ _ _ _ _ (T929.setTop (mkF m 131 #[.val (.long q1), .second, .val (.long q2), .second, .val (.long q3), .second, .val (.long q4), .second, .val (.long q5), .second, .val (.long q6), .second, .val (.ref b723), .val (.ref b743), .val (.int (own_idx (e0850 - q6))), .val (.int (own_idx (e0870 - q6))), .unset, .unset, .unset, .unset] [(.int (own_idx (e0892 - q6)))]))
  replace e929 := e929.trans qe929
  refine go_istore K X929 #[.val (.long q1), .second, .val (.long q2), .second, .val (.long q3), .second, .val (.long q4), .second, .val (.long q5), .second, .val (.long q6), .second, .val (.ref b723), .val (.ref b743), .val (.int (own_idx (e0850 - q6))), .val (.int (own_idx (e0870 - q6))), .val (.int (own_idx (e0892 - q6))), .unset, .unset, .unset] at_131 rfl rfl ?_
  refine go_aload K X929 at_133 rfl rfl rfl ?_
  refine go_virt K X929 (a := b743) (argsL := []) (stk := []) (wd hw 38 rfl) (wd hw 39 rfl) (wd hw 41 rfl) (wd hw 41 rfl) (wd hw 40 rfl) (wd hw 42 rfl) (wd hw 3 rfl) (by decide) (lenOf pd_4 rfl) e929 f919 (rmPoll2 hw b743 wa748 ia749 d0909 d1910 d2911 d3912 d4913 e0914 e1915 e2916 e3917 e4918 h908 (Nat.le_trans (Nat.le_trans (Nat.le_trans (Nat.le_trans (Nat.le_trans (Nat.le_trans (Nat.le_trans (Nat.le_trans (Nat.le_trans (Nat.le_trans (Nat.le_trans (Nat.le_trans (Nat.le_trans (Nat.le_trans (Nat.le_trans (Nat.le_trans H0 (Keep.ext (Keep.refl _ []) E723).1) (Keep.of_wr W728).1) (Keep.of_wr W731).1) (Keep.of_wr W734).1) (Keep.of_wr W737).1) (Keep.of_wr W740).1) (Keep.ext (Keep.refl _ []) E743).1) K747.1) K764.1) K784.1) K804.1) K824.1) K844.1) K864.1) K886.1) K908.1) ga744 ga759 ga761 f919 f920 f921 f922 f923 f924 r758 (Nat.ne_of_lt (Nat.lt_of_lt_of_le A743.lt f750)) (Nat.ne_of_lt (Nat.lt_of_lt_of_le A743.lt f751)) r925) rfl rfl at_135 rfl (by decide) (W := 0) (Nat.le_of_eq rfl) (by decide) (cells' := 4) (slots' := 137) rfl rfl (by decide) (by decide) ?_
  rintro T930 h930 _ X930 e930 ⟨d0931, d1932, d2933, d3934, d4935, e0936, e1937, e2938, e3939, e4940, rfl, K930, f941, f942, f943, f944, f945, f946, r947, r948, r949⟩
  show Go _ _ _ _ _ _ _ (T930.setTop (mkF m 138 #[.val (.long q1), .second, .val (.long q2), .second, .val (.long q3), .second, .val (.long q4), .second, .val (.long q5), .second, .val (.long q6), .second, .val (.ref b723), .val (.ref b743), .val (.int (own_idx (e0850 - q6))), .val (.int (own_idx (e0870 - q6))), .val (.int (own_idx (e0892 - q6))), .unset, .unset, .unset] [(.long e0914)]))
  have kp950 : Keep h0 h930 [] := kp928.trans K930 (allS (Or.inr gb745) (allS (Or.inr gb760) (allS (Or.inr gb762) all0)))
  refine go_lload K X930 at_138 rfl rfl ?_
  refine go_lsub K X930 at_140 rfl ?_
  refine go_static K X930 (argsL := [(.long (e0914 - q6))]) (stk := []) (wd hw 43 rfl) (wd hw 44 rfl) (wd hw 45 rfl) (wd hw 46 rfl) (by decide) (lenOf pd_5 rfl) e930 (rmIdx hw (e0914 - q6) h930 ) rfl rfl at_141 rfl (by decide) (W := 0) (Nat.le_of_eq rfl) (by decide) (cells' := 4) (slots' := 137) rfl rfl (by decide) (by decide) ?_
  rintro T951 h951 _ X951 e951 ⟨rfl, qe951⟩
  show Go _ _ _ _ _ _ _ (T951.setTop (mkF m 144 #[.val (.long q1), .second, .val (.long q2), .second, .val (.long q3), .second, .val (.long q4), .second, .val (.long q5), .second, .val (.long q6), .second, .val (.ref b723), .val (.ref b743), .val (.int (own_idx (e0850 - q6))), .val (.int (own_idx (e0870 - q6))), .val (.int (own_idx (e0892 - q6))), .unset, .unset, .unset] [(.int (own_idx (e0914 - q6)))]))
  replace e951 := e951.trans qe951
  refine go_istore K X951 #[.val (.long q1), .second, .val (.long q2), .second, .val (.long q3), .second, .val (.long q4), .second, .val (.long q5), .second, .val (.long q6), .second, .val (.ref b723), .val (.ref b743), .val (.int (own_idx (e0850 - q6))), .val (.int (own_idx (e0870 - q6))), .val (.int (own_idx (e0892 - q6))), .val (.int (own_idx (e0914 - q6))), .unset, .unset] at_144 rfl rfl ?_
  refine go_aload K X951 at_146 rfl rfl rfl ?_
  refine go_virt K X951 (a := b743) (argsL := []) (stk := []) (wd hw 38 rfl) (wd hw 39 rfl) (wd hw 41 rfl) (wd hw 41 rfl) (wd hw 40 rfl) (wd hw 42 rfl) (wd hw 3 rfl) (by decide) (lenOf pd_4 rfl) e951 f941 (rmPoll1 hw b743 wa748 ia749 d0931 d1932 d2933 d3934 d4935 e0936 e1937 e2938 e3939 e4940 h930 (Nat.le_trans (Nat.le_trans (Nat.le_trans (Nat.le_trans (Nat.le_trans (Nat.le_trans (Nat.le_trans (Nat.le_trans (Nat.le_trans (Nat.le_trans (Nat.le_trans (Nat.le_trans (Nat.le_trans (Nat.le_trans (Nat.le_trans (Nat.le_trans (Nat.le_trans H0 (Keep.ext (Keep.refl _ []) E723).1) (Keep.of_wr W728).1) (Keep.of_wr W731).1) (Keep.of_wr W734).1) (Keep.of_wr W737).1) (Keep.of_wr W740).1) (Keep.ext (Keep.refl _ []) E743).1) K747.1) K764.1) K784.1) K804.1) K824.1) K844.1) K864.1) K886.1) K908.1) K930.1) ga744 ga759 ga761 f941 f942 f943 f944 f945 f946 r758 (Nat.ne_of_lt (Nat.lt_of_lt_of_le A743.lt f750)) (Nat.ne_of_lt (Nat.lt_of_lt_of_le A743.lt f751)) r947) rfl rfl at_148 rfl (by decide) (W := 0) (Nat.le_of_eq rfl) (by decide) (cells' := 4) (slots' := 137) rfl rfl (by decide) (by decide) ?_
  rintro T952 h952 _ X952 e952 ⟨d0953, d1954, d2955, d3956, d4957, e0958, e1959, e2960, e3961, e4962, rfl, K952, f963, f964, f965, f966, f967, f968, r969, r970, r971⟩
  show Go _ _ _ _ _ _ _ (T952.setTop (mkF m 151 #[.val (.long q1), .second, .val (.long q2), .second, .val (.long q3), .second, .val (.long q4), .second, .val (.long q5), .second, .val (.long q6), .second, .val (.ref b723), .val (.ref b743), .val (.int (own_idx (e0850 - q6))), .val (.int (own_idx (e0870 - q6))), .val (.int (own_idx (e0892 - q6))), .val (.int (own_idx (e0914 - q6))), .unset, .unset] [(.long e0936)]))
  have kp972 : Keep h0 h952 [] := kp950.trans K952 (allS (Or.inr gb745) (allS (Or.inr gb760) (allS (Or.inr gb762) all0)))
  refine go_lload K X952 at_151 rfl rfl ?_
  refine go_lsub K X952 at_153 rfl ?_
  refine go_static K X952 (argsL := [(.long (e0936 - q6))]) (stk := []) (wd hw 43 rfl) (wd hw 44 rfl) (wd hw 45 rfl) (wd hw 46 rfl) (by decide) (lenOf pd_5 rfl) e952 (rmIdx hw (e0936 - q6) h952 ) rfl rfl at_154 rfl (by decide) (W := 0) (Nat.le_of_eq rfl) (by decide) (cells' := 4) (slots' := 137) rfl rfl (by decide) (by decide) ?_
  rintro T973 h973 _ X973 e973 ⟨rfl, qe973⟩
  show Go _ _ _ _ _ _ _ (T973.setTop (mkF m 157 #[.val (.long q1), .second, .val (.long q2), .second, .val (.long q3), .second, .val (.long q4), .second, .val (.long q5), .second, .val (.long q6), .second, .val (.ref b723), .val (.ref b743), .val (.int (own_idx (e0850 - q6))), .val (.int (own_idx (e0870 - q6))), .val (.int (own_idx (e0892 - q6))), .val (.int (own_idx (e0914 - q6))), .unset, .unset] [(.int (own_idx (e0936 - q6)))]))
  replace e973 := e973.trans qe973
  refine go_istore K X973 #[.val (.long q1), .second, .val (.long q2), .second, .val (.long q3), .second, .val (.long q4), .second, .val (.long q5), .second, .val (.long q6), .second, .val (.ref b723), .val (.ref b743), .val (.int (own_idx (e0850 - q6))), .val (.int (own_idx (e0870 - q6))), .val (.int (own_idx (e0892 - q6))), .val (.int (own_idx (e0914 - q6))), .val (.int (own_idx (e0936 - q6))), .unset] at_157 rfl rfl ?_
  obtain ⟨i1, i2, i3, i4, i5, nd, r1, r2, r3, r4, r5, s1, s2, s3, s4⟩ := own_end q1 q2 q3 q4 q5 q6 (((List.Perm.cons _ ((List.Perm.cons _ ((List.Perm.cons _ ((List.Perm.cons _ (r970)).trans r948)).trans r926)).trans r904)).trans r882).trans ((r862).trans (List.Perm.cons _ ((r842).trans (List.Perm.cons _ ((r822).trans (List.Perm.cons _ ((r802).trans (List.Perm.cons _ (r782)))))))))) r883 r905 r927 r949
  rw [r1]
  rw [r2]
  rw [r3]
  rw [r4]
  rw [r5]
  refine go_iload K X973 at_159 rfl rfl ?_
  refine go_ifF K X973 at_161 rfl (own_nneg i1 : ¬ (own_i i1) < (0 : Int32)) ?_
  refine go_iload K X973 at_164 rfl rfl ?_
  refine go_ifF K X973 at_166 rfl (own_nneg i2 : ¬ (own_i i2) < (0 : Int32)) ?_
  refine go_iload K X973 at_169 rfl rfl ?_
  refine go_ifF K X973 at_171 rfl (own_nneg i3 : ¬ (own_i i3) < (0 : Int32)) ?_
  refine go_iload K X973 at_174 rfl rfl ?_
  refine go_ifF K X973 at_176 rfl (own_nneg i4 : ¬ (own_i i4) < (0 : Int32)) ?_
  refine go_iload K X973 at_179 rfl rfl ?_
  refine go_ifT K X973 at_181 (by decide) rfl (own_nneg i5 : ¬ (own_i i5) < (0 : Int32)) ?_
  refine go_iconst K X973 (1 : Int32) at_186 rfl rfl ?_
  refine go_iload K X973 at_187 rfl rfl ?_
  refine go_ishl K X973 at_189 rfl ?_
  refine go_iconst K X973 (1 : Int32) at_190 rfl rfl ?_
  refine go_iload K X973 at_191 rfl rfl ?_
  refine go_ishl K X973 at_193 rfl ?_
  refine go_ior K X973 at_194 rfl ?_
  refine go_iconst K X973 (1 : Int32) at_195 rfl rfl ?_
  refine go_iload K X973 at_196 rfl rfl ?_
  refine go_ishl K X973 at_198 rfl ?_
  refine go_ior K X973 at_199 rfl ?_
  refine go_iconst K X973 (1 : Int32) at_200 rfl rfl ?_
  refine go_iload K X973 at_201 rfl rfl ?_
  refine go_ishl K X973 at_203 rfl ?_
  refine go_ior K X973 at_204 rfl ?_
  refine go_iconst K X973 (1 : Int32) at_205 rfl rfl ?_
  refine go_iload K X973 at_206 rfl rfl ?_
  refine go_ishl K X973 at_208 rfl ?_
  refine go_ior K X973 at_209 rfl ?_
  refine go_istore K X973 #[.val (.long q1), .second, .val (.long q2), .second, .val (.long q3), .second, .val (.long q4), .second, .val (.long q5), .second, .val (.long q6), .second, .val (.ref b723), .val (.ref b743), .val (.int (own_i i1)), .val (.int (own_i i2)), .val (.int (own_i i3)), .val (.int (own_i i4)), .val (.int (own_i i5)), .val (.int ((((((1 : Int32) <<< ((own_i i1) &&& 31)) ||| ((1 : Int32) <<< ((own_i i2) &&& 31))) ||| ((1 : Int32) <<< ((own_i i3) &&& 31))) ||| ((1 : Int32) <<< ((own_i i4) &&& 31))) ||| ((1 : Int32) <<< ((own_i i5) &&& 31))))] at_210 rfl rfl ?_
  refine go_iload K X973 at_212 rfl rfl ?_
  refine go_bipush K X973 (31 : Int32) at_214 rfl rfl ?_
  refine go_icmpT K X973 at_216 (by decide) rfl (own_mask _ _ _ _ _ nd : ((((((1 : Int32) <<< ((own_i i1) &&& 31)) ||| ((1 : Int32) <<< ((own_i i2) &&& 31))) ||| ((1 : Int32) <<< ((own_i i3) &&& 31))) ||| ((1 : Int32) <<< ((own_i i4) &&& 31))) ||| ((1 : Int32) <<< ((own_i i5) &&& 31))) = (31 : Int32)) ?_
  refine go_aload K X973 at_221 rfl rfl rfl ?_
  refine go_iload K X973 at_223 rfl rfl ?_
  have f974 : AV Z h952 b723 .long [(.long q1), (.long q2), (.long q3), (.long q4), (.long q5)] := ((((((((((((f742.keep (Keep.ext (Keep.refl _ []) E743) nin0).keep K747 (ninS (Nat.ne_of_lt (Nat.lt_of_lt_of_le (Nat.lt_of_lt_of_le (Nat.lt_of_lt_of_le (Nat.lt_of_lt_of_le (Nat.lt_of_lt_of_le (Nat.lt_of_lt_of_le f727.lt (Keep.of_wr W728).1) (Keep.of_wr W731).1) (Keep.of_wr W734).1) (Keep.of_wr W737).1) (Keep.of_wr W740).1) (Nat.le_of_eq g743.symm))) nin0)).keep K764 (ninS (Nat.ne_of_lt (Nat.lt_of_lt_of_le (Nat.lt_of_lt_of_le (Nat.lt_of_lt_of_le (Nat.lt_of_lt_of_le (Nat.lt_of_lt_of_le (Nat.lt_of_lt_of_le f727.lt (Keep.of_wr W728).1) (Keep.of_wr W731).1) (Keep.of_wr W734).1) (Keep.of_wr W737).1) (Keep.of_wr W740).1) (Nat.le_of_eq g743.symm))) (ninS (Nat.ne_of_lt (Nat.lt_of_lt_of_le (Nat.lt_of_lt_of_le (Nat.lt_of_lt_of_le (Nat.lt_of_lt_of_le (Nat.lt_of_lt_of_le (Nat.lt_of_lt_of_le (Nat.lt_of_lt_of_le f727.lt (Keep.of_wr W728).1) (Keep.of_wr W731).1) (Keep.of_wr W734).1) (Keep.of_wr W737).1) (Keep.of_wr W740).1) (Keep.ext (Keep.refl _ []) E743).1) f750)) (ninS (Nat.ne_of_lt (Nat.lt_of_lt_of_le (Nat.lt_of_lt_of_le (Nat.lt_of_lt_of_le (Nat.lt_of_lt_of_le (Nat.lt_of_lt_of_le (Nat.lt_of_lt_of_le (Nat.lt_of_lt_of_le f727.lt (Keep.of_wr W728).1) (Keep.of_wr W731).1) (Keep.of_wr W734).1) (Keep.of_wr W737).1) (Keep.of_wr W740).1) (Keep.ext (Keep.refl _ []) E743).1) f751)) nin0)))).keep K784 (ninS (Nat.ne_of_lt (Nat.lt_of_lt_of_le (Nat.lt_of_lt_of_le (Nat.lt_of_lt_of_le (Nat.lt_of_lt_of_le (Nat.lt_of_lt_of_le (Nat.lt_of_lt_of_le f727.lt (Keep.of_wr W728).1) (Keep.of_wr W731).1) (Keep.of_wr W734).1) (Keep.of_wr W737).1) (Keep.of_wr W740).1) (Nat.le_of_eq g743.symm))) (ninS (Nat.ne_of_lt (Nat.lt_of_lt_of_le (Nat.lt_of_lt_of_le (Nat.lt_of_lt_of_le (Nat.lt_of_lt_of_le (Nat.lt_of_lt_of_le (Nat.lt_of_lt_of_le (Nat.lt_of_lt_of_le f727.lt (Keep.of_wr W728).1) (Keep.of_wr W731).1) (Keep.of_wr W734).1) (Keep.of_wr W737).1) (Keep.of_wr W740).1) (Keep.ext (Keep.refl _ []) E743).1) f750)) (ninS (Nat.ne_of_lt (Nat.lt_of_lt_of_le (Nat.lt_of_lt_of_le (Nat.lt_of_lt_of_le (Nat.lt_of_lt_of_le (Nat.lt_of_lt_of_le (Nat.lt_of_lt_of_le (Nat.lt_of_lt_of_le f727.lt (Keep.of_wr W728).1) (Keep.of_wr W731).1) (Keep.of_wr W734).1) (Keep.of_wr W737).1) (Keep.of_wr W740).1) (Keep.ext (Keep.refl _ []) E743).1) f751)) nin0)))).keep K804 (ninS (Nat.ne_of_lt (Nat.lt_of_lt_of_le (Nat.lt_of_lt_of_le (Nat.lt_of_lt_of_le (Nat.lt_of_lt_of_le (Nat.lt_of_lt_of_le (Nat.lt_of_lt_of_le f727.lt (Keep.of_wr W728).1) (Keep.of_wr W731).1) (Keep.of_wr W734).1) (Keep.of_wr W737).1) (Keep.of_wr W740).1) (Nat.le_of_eq g743.symm))) (ninS (Nat.ne_of_lt (Nat.lt_of_lt_of_le (Nat.lt_of_lt_of_le (Nat.lt_of_lt_of_le (Nat.lt_of_lt_of_le (Nat.lt_of_lt_of_le (Nat.lt_of_lt_of_le (Nat.lt_of_lt_of_le f727.lt (Keep.of_wr W728).1) (Keep.of_wr W731).1) (Keep.of_wr W734).1) (Keep.of_wr W737).1) (Keep.of_wr W740).1) (Keep.ext (Keep.refl _ []) E743).1) f750)) (ninS (Nat.ne_of_lt (Nat.lt_of_lt_of_le (Nat.lt_of_lt_of_le (Nat.lt_of_lt_of_le (Nat.lt_of_lt_of_le (Nat.lt_of_lt_of_le (Nat.lt_of_lt_of_le (Nat.lt_of_lt_of_le f727.lt (Keep.of_wr W728).1) (Keep.of_wr W731).1) (Keep.of_wr W734).1) (Keep.of_wr W737).1) (Keep.of_wr W740).1) (Keep.ext (Keep.refl _ []) E743).1) f751)) nin0)))).keep K824 (ninS (Nat.ne_of_lt (Nat.lt_of_lt_of_le (Nat.lt_of_lt_of_le (Nat.lt_of_lt_of_le (Nat.lt_of_lt_of_le (Nat.lt_of_lt_of_le (Nat.lt_of_lt_of_le f727.lt (Keep.of_wr W728).1) (Keep.of_wr W731).1) (Keep.of_wr W734).1) (Keep.of_wr W737).1) (Keep.of_wr W740).1) (Nat.le_of_eq g743.symm))) (ninS (Nat.ne_of_lt (Nat.lt_of_lt_of_le (Nat.lt_of_lt_of_le (Nat.lt_of_lt_of_le (Nat.lt_of_lt_of_le (Nat.lt_of_lt_of_le (Nat.lt_of_lt_of_le (Nat.lt_of_lt_of_le f727.lt (Keep.of_wr W728).1) (Keep.of_wr W731).1) (Keep.of_wr W734).1) (Keep.of_wr W737).1) (Keep.of_wr W740).1) (Keep.ext (Keep.refl _ []) E743).1) f750)) (ninS (Nat.ne_of_lt (Nat.lt_of_lt_of_le (Nat.lt_of_lt_of_le (Nat.lt_of_lt_of_le (Nat.lt_of_lt_of_le (Nat.lt_of_lt_of_le (Nat.lt_of_lt_of_le (Nat.lt_of_lt_of_le f727.lt (Keep.of_wr W728).1) (Keep.of_wr W731).1) (Keep.of_wr W734).1) (Keep.of_wr W737).1) (Keep.of_wr W740).1) (Keep.ext (Keep.refl _ []) E743).1) f751)) nin0)))).keep K844 (ninS (Nat.ne_of_lt (Nat.lt_of_lt_of_le (Nat.lt_of_lt_of_le (Nat.lt_of_lt_of_le (Nat.lt_of_lt_of_le (Nat.lt_of_lt_of_le (Nat.lt_of_lt_of_le f727.lt (Keep.of_wr W728).1) (Keep.of_wr W731).1) (Keep.of_wr W734).1) (Keep.of_wr W737).1) (Keep.of_wr W740).1) (Nat.le_of_eq g743.symm))) (ninS (Nat.ne_of_lt (Nat.lt_of_lt_of_le (Nat.lt_of_lt_of_le (Nat.lt_of_lt_of_le (Nat.lt_of_lt_of_le (Nat.lt_of_lt_of_le (Nat.lt_of_lt_of_le (Nat.lt_of_lt_of_le f727.lt (Keep.of_wr W728).1) (Keep.of_wr W731).1) (Keep.of_wr W734).1) (Keep.of_wr W737).1) (Keep.of_wr W740).1) (Keep.ext (Keep.refl _ []) E743).1) f750)) (ninS (Nat.ne_of_lt (Nat.lt_of_lt_of_le (Nat.lt_of_lt_of_le (Nat.lt_of_lt_of_le (Nat.lt_of_lt_of_le (Nat.lt_of_lt_of_le (Nat.lt_of_lt_of_le (Nat.lt_of_lt_of_le f727.lt (Keep.of_wr W728).1) (Keep.of_wr W731).1) (Keep.of_wr W734).1) (Keep.of_wr W737).1) (Keep.of_wr W740).1) (Keep.ext (Keep.refl _ []) E743).1) f751)) nin0)))).keep K864 (ninS (Nat.ne_of_lt (Nat.lt_of_lt_of_le (Nat.lt_of_lt_of_le (Nat.lt_of_lt_of_le (Nat.lt_of_lt_of_le (Nat.lt_of_lt_of_le (Nat.lt_of_lt_of_le f727.lt (Keep.of_wr W728).1) (Keep.of_wr W731).1) (Keep.of_wr W734).1) (Keep.of_wr W737).1) (Keep.of_wr W740).1) (Nat.le_of_eq g743.symm))) (ninS (Nat.ne_of_lt (Nat.lt_of_lt_of_le (Nat.lt_of_lt_of_le (Nat.lt_of_lt_of_le (Nat.lt_of_lt_of_le (Nat.lt_of_lt_of_le (Nat.lt_of_lt_of_le (Nat.lt_of_lt_of_le f727.lt (Keep.of_wr W728).1) (Keep.of_wr W731).1) (Keep.of_wr W734).1) (Keep.of_wr W737).1) (Keep.of_wr W740).1) (Keep.ext (Keep.refl _ []) E743).1) f750)) (ninS (Nat.ne_of_lt (Nat.lt_of_lt_of_le (Nat.lt_of_lt_of_le (Nat.lt_of_lt_of_le (Nat.lt_of_lt_of_le (Nat.lt_of_lt_of_le (Nat.lt_of_lt_of_le (Nat.lt_of_lt_of_le f727.lt (Keep.of_wr W728).1) (Keep.of_wr W731).1) (Keep.of_wr W734).1) (Keep.of_wr W737).1) (Keep.of_wr W740).1) (Keep.ext (Keep.refl _ []) E743).1) f751)) nin0)))).keep K886 (ninS (Nat.ne_of_lt (Nat.lt_of_lt_of_le (Nat.lt_of_lt_of_le (Nat.lt_of_lt_of_le (Nat.lt_of_lt_of_le (Nat.lt_of_lt_of_le (Nat.lt_of_lt_of_le f727.lt (Keep.of_wr W728).1) (Keep.of_wr W731).1) (Keep.of_wr W734).1) (Keep.of_wr W737).1) (Keep.of_wr W740).1) (Nat.le_of_eq g743.symm))) (ninS (Nat.ne_of_lt (Nat.lt_of_lt_of_le (Nat.lt_of_lt_of_le (Nat.lt_of_lt_of_le (Nat.lt_of_lt_of_le (Nat.lt_of_lt_of_le (Nat.lt_of_lt_of_le (Nat.lt_of_lt_of_le f727.lt (Keep.of_wr W728).1) (Keep.of_wr W731).1) (Keep.of_wr W734).1) (Keep.of_wr W737).1) (Keep.of_wr W740).1) (Keep.ext (Keep.refl _ []) E743).1) f750)) (ninS (Nat.ne_of_lt (Nat.lt_of_lt_of_le (Nat.lt_of_lt_of_le (Nat.lt_of_lt_of_le (Nat.lt_of_lt_of_le (Nat.lt_of_lt_of_le (Nat.lt_of_lt_of_le (Nat.lt_of_lt_of_le f727.lt (Keep.of_wr W728).1) (Keep.of_wr W731).1) (Keep.of_wr W734).1) (Keep.of_wr W737).1) (Keep.of_wr W740).1) (Keep.ext (Keep.refl _ []) E743).1) f751)) nin0)))).keep K908 (ninS (Nat.ne_of_lt (Nat.lt_of_lt_of_le (Nat.lt_of_lt_of_le (Nat.lt_of_lt_of_le (Nat.lt_of_lt_of_le (Nat.lt_of_lt_of_le (Nat.lt_of_lt_of_le f727.lt (Keep.of_wr W728).1) (Keep.of_wr W731).1) (Keep.of_wr W734).1) (Keep.of_wr W737).1) (Keep.of_wr W740).1) (Nat.le_of_eq g743.symm))) (ninS (Nat.ne_of_lt (Nat.lt_of_lt_of_le (Nat.lt_of_lt_of_le (Nat.lt_of_lt_of_le (Nat.lt_of_lt_of_le (Nat.lt_of_lt_of_le (Nat.lt_of_lt_of_le (Nat.lt_of_lt_of_le f727.lt (Keep.of_wr W728).1) (Keep.of_wr W731).1) (Keep.of_wr W734).1) (Keep.of_wr W737).1) (Keep.of_wr W740).1) (Keep.ext (Keep.refl _ []) E743).1) f750)) (ninS (Nat.ne_of_lt (Nat.lt_of_lt_of_le (Nat.lt_of_lt_of_le (Nat.lt_of_lt_of_le (Nat.lt_of_lt_of_le (Nat.lt_of_lt_of_le (Nat.lt_of_lt_of_le (Nat.lt_of_lt_of_le f727.lt (Keep.of_wr W728).1) (Keep.of_wr W731).1) (Keep.of_wr W734).1) (Keep.of_wr W737).1) (Keep.of_wr W740).1) (Keep.ext (Keep.refl _ []) E743).1) f751)) nin0)))).keep K930 (ninS (Nat.ne_of_lt (Nat.lt_of_lt_of_le (Nat.lt_of_lt_of_le (Nat.lt_of_lt_of_le (Nat.lt_of_lt_of_le (Nat.lt_of_lt_of_le (Nat.lt_of_lt_of_le f727.lt (Keep.of_wr W728).1) (Keep.of_wr W731).1) (Keep.of_wr W734).1) (Keep.of_wr W737).1) (Keep.of_wr W740).1) (Nat.le_of_eq g743.symm))) (ninS (Nat.ne_of_lt (Nat.lt_of_lt_of_le (Nat.lt_of_lt_of_le (Nat.lt_of_lt_of_le (Nat.lt_of_lt_of_le (Nat.lt_of_lt_of_le (Nat.lt_of_lt_of_le (Nat.lt_of_lt_of_le f727.lt (Keep.of_wr W728).1) (Keep.of_wr W731).1) (Keep.of_wr W734).1) (Keep.of_wr W737).1) (Keep.of_wr W740).1) (Keep.ext (Keep.refl _ []) E743).1) f750)) (ninS (Nat.ne_of_lt (Nat.lt_of_lt_of_le (Nat.lt_of_lt_of_le (Nat.lt_of_lt_of_le (Nat.lt_of_lt_of_le (Nat.lt_of_lt_of_le (Nat.lt_of_lt_of_le (Nat.lt_of_lt_of_le f727.lt (Keep.of_wr W728).1) (Keep.of_wr W731).1) (Keep.of_wr W734).1) (Keep.of_wr W737).1) (Keep.of_wr W740).1) (Keep.ext (Keep.refl _ []) E743).1) f751)) nin0)))).keep K952 (ninS (Nat.ne_of_lt (Nat.lt_of_lt_of_le (Nat.lt_of_lt_of_le (Nat.lt_of_lt_of_le (Nat.lt_of_lt_of_le (Nat.lt_of_lt_of_le (Nat.lt_of_lt_of_le f727.lt (Keep.of_wr W728).1) (Keep.of_wr W731).1) (Keep.of_wr W734).1) (Keep.of_wr W737).1) (Keep.of_wr W740).1) (Nat.le_of_eq g743.symm))) (ninS (Nat.ne_of_lt (Nat.lt_of_lt_of_le (Nat.lt_of_lt_of_le (Nat.lt_of_lt_of_le (Nat.lt_of_lt_of_le (Nat.lt_of_lt_of_le (Nat.lt_of_lt_of_le (Nat.lt_of_lt_of_le f727.lt (Keep.of_wr W728).1) (Keep.of_wr W731).1) (Keep.of_wr W734).1) (Keep.of_wr W737).1) (Keep.of_wr W740).1) (Keep.ext (Keep.refl _ []) E743).1) f750)) (ninS (Nat.ne_of_lt (Nat.lt_of_lt_of_le (Nat.lt_of_lt_of_le (Nat.lt_of_lt_of_le (Nat.lt_of_lt_of_le (Nat.lt_of_lt_of_le (Nat.lt_of_lt_of_le (Nat.lt_of_lt_of_le f727.lt (Keep.of_wr W728).1) (Keep.of_wr W731).1) (Keep.of_wr W734).1) (Keep.of_wr W737).1) (Keep.of_wr W740).1) (Keep.ext (Keep.refl _ []) E743).1) f751)) nin0))))
  refine go_laload K X973 e973 f974 (i := i1.val) (own_iI i1) (own_el q1 q2 q3 q4 q5 i1) at_225 rfl ?_
  refine go_aload K X973 at_226 rfl rfl rfl ?_
  refine go_iload K X973 at_228 rfl rfl ?_
  refine go_laload K X973 e973 f974 (i := i2.val) (own_iI i2) (own_el q1 q2 q3 q4 q5 i2) at_230 rfl ?_
  refine go_lifF K X973 at_231 rfl at_232 rfl (s1 : ¬ (own_w q1 q2 q3 q4 q5 i2) < (own_w q1 q2 q3 q4 q5 i1)) ?_
  refine go_aload K X973 at_235 rfl rfl rfl ?_
  refine go_iload K X973 at_237 rfl rfl ?_
  refine go_laload K X973 e973 f974 (i := i2.val) (own_iI i2) (own_el q1 q2 q3 q4 q5 i2) at_239 rfl ?_
  refine go_aload K X973 at_240 rfl rfl rfl ?_
  refine go_iload K X973 at_242 rfl rfl ?_
  refine go_laload K X973 e973 f974 (i := i3.val) (own_iI i3) (own_el q1 q2 q3 q4 q5 i3) at_244 rfl ?_
  refine go_lifF K X973 at_245 rfl at_246 rfl (s2 : ¬ (own_w q1 q2 q3 q4 q5 i3) < (own_w q1 q2 q3 q4 q5 i2)) ?_
  refine go_aload K X973 at_249 rfl rfl rfl ?_
  refine go_iload K X973 at_251 rfl rfl ?_
  refine go_laload K X973 e973 f974 (i := i3.val) (own_iI i3) (own_el q1 q2 q3 q4 q5 i3) at_253 rfl ?_
  refine go_aload K X973 at_254 rfl rfl rfl ?_
  refine go_iload K X973 at_256 rfl rfl ?_
  refine go_laload K X973 e973 f974 (i := i4.val) (own_iI i4) (own_el q1 q2 q3 q4 q5 i4) at_258 rfl ?_
  refine go_lifF K X973 at_259 rfl at_260 rfl (s3 : ¬ (own_w q1 q2 q3 q4 q5 i4) < (own_w q1 q2 q3 q4 q5 i3)) ?_
  refine go_aload K X973 at_263 rfl rfl rfl ?_
  refine go_iload K X973 at_265 rfl rfl ?_
  refine go_laload K X973 e973 f974 (i := i4.val) (own_iI i4) (own_el q1 q2 q3 q4 q5 i4) at_267 rfl ?_
  refine go_aload K X973 at_268 rfl rfl rfl ?_
  refine go_iload K X973 at_270 rfl rfl ?_
  refine go_laload K X973 e973 f974 (i := i5.val) (own_iI i5) (own_el q1 q2 q3 q4 q5 i5) at_272 rfl ?_
  refine go_lifF K X973 at_273 rfl at_274 rfl (s4 : ¬ (own_w q1 q2 q3 q4 q5 i5) < (own_w q1 q2 q3 q4 q5 i4)) ?_
  refine go_iconst K X973 (1 : Int32) at_277 rfl rfl ?_
  refine go_goto K X973 at_278 (by decide) rfl ?_
  refine go_retZ K X973 (Or.inr rfl) at_282 (by decide) (by decide) ?_
  rw [e973]
  exact ⟨rfl, kp972⟩
set_option maxRecDepth 65536 in
set_option maxHeartbeats 40000000 in
theorem comes_1 {Post : Tables → Env → Array Value → State → Outcome → State → Prop} (hpost : ∀ tb e args s v u, (limb_1_1.after args s (.returned v) u = true ∧ limb_1_2.after args s (.returned v) u = true ∧ True) → FrameEnd s (.returned v) u (Jvm.fieldLocs frame_1_writes args s ++ Jvm.arrayLocs frame_1_arrays args s ++ Jvm.staticLocs frame_1_statics s) 16 384 → Post tb e args s (.returned v) u) :
    ArmFor flags0 classFile x code maxLocals ret World_1 tables_1 room_1 Calls_1 rest_1 Pre_1 Post := by
  intro l hfl _ _ p e ha hc hk s m args below hf hA hF happ hP
  obtain ⟨hcalls, hrest, hpre⟩ := hP
  obtain ⟨-, -, -, hnamed, -, -, -, hat⟩ := (Spec.applies_iff hf).mp happ
  obtain ⟨hg, hn⟩ := and_e (Cond.before_iff.mp (show (Jvm.Cond.and given_1 narrow_1).before args s = true from hpre))
  obtain ⟨g1, g2⟩ := and_e hg
  obtain ⟨g3, g4⟩ := and_e g2
  obtain ⟨g5, g6⟩ := and_e g4
  obtain ⟨g7, g8⟩ := and_e g6
  obtain ⟨g9, g10⟩ := and_e g8
  obtain ⟨g11, g12⟩ := and_e g10
  obtain ⟨w0, w1, w2, w3, w4, w5, rfl⟩ : ∃ w0 w1 w2 w3 w4 w5 : Value, args = #[w0, w1, w2, w3, w4, w5] := by
    have hs : args.size = 6 := by simpa [Cond.value, given_1] using g1
    obtain ⟨L⟩ := args
    match L, hs with
    | [w0, w1, w2, w3, w4, w5], _ => exact ⟨w0, w1, w2, w3, w4, w5, rfl⟩
  have hw := fun d (hd : d ∈ tables_1) => atoms_spec (ws := Jvm.Cond.code x code maxLocals ret :: tables_1) hat d (List.mem_cons_of_mem _ hd)
  have hfit : Fit s := fun {y c} hc i hi => by
    obtain ⟨ha, rfl⟩ := Array.getElem?_eq_some_iff.mp hc
    have q := List.all_eq_true.mp ((Array.all_eq_true_iff_forall_mem.mp hF) _ (Array.getElem_mem ha)) i (List.mem_range.mpr hi)
    simpa [Array.getElem?_eq_getElem hi] using q
  obtain ⟨i0, ei0⟩ := isL_v g3
  obtain rfl : w0 = (.long i0) := Option.some.inj ei0
  obtain ⟨i1, ei1⟩ := isL_v g5
  obtain rfl : w1 = (.long i1) := Option.some.inj ei1
  obtain ⟨i2, ei2⟩ := isL_v g7
  obtain rfl : w2 = (.long i2) := Option.some.inj ei2
  obtain ⟨i3, ei3⟩ := isL_v g9
  obtain rfl : w3 = (.long i3) := Option.some.inj ei3
  obtain ⟨i4, ei4⟩ := isL_v g11
  obtain rfl : w4 = (.long i4) := Option.some.inj ei4
  obtain ⟨i5, ei5⟩ := isL_v g12
  obtain rfl : w5 = (.long i5) := Option.some.inj ei5
  obtain ⟨n, o, h1, h2, h3, _, L, rfl, ⟨⟨rfl, -⟩, N⟩, hq⟩ := rmLaw (l := l) (n0 := s.heap.size) hw i0 i1 i2 i3 i4 i5 s.heap (Nat.le_refl _) tables_1 p e ha hc hk s m _ below hf ((Spec.applies_iff_loose hf).mp happ).1 ⟨rfl, State.Warmed39.refl s, rfl⟩ trivial
  refine ⟨n, _, h1, h2, h3, hpost _ _ _ _ _ _ ⟨Cond.after_iff.mpr rfl, Cond.after_iff.mpr (eq_i res_at (Term.int_eval (1)) rfl), trivial⟩ ⟨hq.1, hq.2.1, (hq.2.2.sift fun y hy => Or.inr (N y hy)).mono (by decide) (by decide)⟩⟩
theorem main_1_1 : Claimed_1_1 := comes_1 fun _ _ _ _ _ _ h hF => ⟨h.1, hF⟩
theorem main_1_2 : Claimed_1_2 := comes_1 fun _ _ _ _ _ _ h hF => ⟨h.2.1, hF⟩
end Jvm.Pilot.@@N@@
namespace Jvm.Pilot.@@N@@
open Jvm Jvm.ClassFile Sem Op Lib Jvm.Free Jvm.Stand Jvm.Pilot.@@N@@.Jvm.D
/-! MADE BY PROGRAM (witnessworld.py) out of the Statement's table words and the real class files: 12 classes; the members and pool entries that the words name. The judged class is class 1, her method 2. -/
namespace start1
open Jvm.ClassFile
def u (s : String) : CpInfo := .utf8 (stringToUtf16 s)
/-- a pool by its gaps: so many unusable entries, then the entry; so many at the end -/
def gap : Nat → List CpInfo → List CpInfo
  | 0, r => r
  | n + 1, r => .unusable :: gap n r
def poolList (es : List (Nat × CpInfo)) (last : Nat) : List CpInfo := es.foldr (fun e r => gap e.1 (e.2 :: r)) (gap last [])
def pool (es : List (Nat × CpInfo)) (last : Nat) : Array CpInfo := ⟨poolList es last⟩
def fileOf (pool : Array CpInfo) (this : Nat) (attrs : Array Attribute := #[]) (ms : Array MethodInfo := #[]) (fl : Nat := 33) (sup : Nat := 0) (ifs : Array Nat := #[]) (fds : Array FieldInfo := #[]) : ClassFile where
  minorVersion := 0
  majorVersion := 65
  constantPool := pool
  accessFlags := fl
  thisClass := this
  superClass := sup
  interfaces := ifs
  fields := fds
  methods := ms
  attributes := attrs
def plain (name : String) (sup : Option ClassId) : Class where
  name := name
  kind := .ordinary
  loader := none
  accessFlags := 33
  super := sup
  interfaces := #[]
  cf := none
  fields := #[]
  methods := #[]
  instanceTypes := #[]
  staticTypes := #[]
  resolved := #[]
  callSites := []
  init := .initialized
  statics := none
  mirror := none

def pool0 : Array CpInfo := pool [(5, u "<init>"), (0, u "()V"), (1, .class_ 10), (1, u "java/lang/Object")] 113

def k0c0 : Code := { maxStack := 0, maxLocals := 1, code := object_method_1_code, exceptionTable := #[], attributes := #[] }
def k0m0 : Method := { name := "<init>", desc := "()V", sig := { parameters := [], returnType := none }, accessFlags := 1, code := some k0c0 }
/-- java/lang/Object -/
def k0 : Class := { plain "java/lang/Object" none with
  accessFlags := 33
  interfaces := #[]
  cf := some (fileOf pool0 8 #[] #[{ accessFlags := 1, nameIndex := 5, descriptorIndex := 6, attributes := #[] }] 33 0 #[] #[])
  fields := #[]
  methods := #[k0m0]
  instanceTypes := #[]
  staticTypes := #[]
  resolved := Array.replicate 124 none
  statics := none }

def pool1 : Array CpInfo := pool [(2, .class_ 4), (0, .nameAndType 5 6), (0, u "java/lang/Object"), (0, u "<init>"), (0, u "()V"), (0, .long 5), (1, .class_ 10), (0, u "com/example/plumbline/plumbline/align/WeightHeap"), (0, .methodref 9 3), (0, .methodref 9 13), (0, .nameAndType 14 15), (0, u "add"), (0, u "(JJ)V"), (0, .long 2), (1, .long 3), (1, .long 4), (1, .methodref 9 23), (0, .nameAndType 24 25), (0, u "pollFirst"), (0, u "()J"), (0, .methodref 27 28), (0, .class_ 29), (0, .nameAndType 30 31), (0, u "com/example/plumbline/plumbline/align/WeightHeapPollFirstPinLaw"), (0, u "idx"), (0, u "(J)I"), (3, u "law"), (0, u "(JJJJJJ)Z")] 4

def k1m0 : Method := { name := "<init>", desc := "()V", sig := { parameters := [], returnType := none }, accessFlags := 2, code := none }
def k1c1 : Code := { maxStack := 4, maxLocals := 2, code := method_2_code, exceptionTable := #[], attributes := #[] }
def k1m1 : Method := { name := "idx", desc := "(J)I", sig := { parameters := [.long], returnType := some .int }, accessFlags := 10, code := some k1c1 }
def k1c2 : Code := { maxStack := 7, maxLocals := 20, code := code, exceptionTable := #[], attributes := #[] }
def k1m2 : Method := { name := "law", desc := "(JJJJJJ)Z", sig := { parameters := [.long, .long, .long, .long, .long, .long], returnType := some .boolean }, accessFlags := 9, code := some k1c2 }
/-- com/example/plumbline/plumbline/align/WeightHeapPollFirstPinLaw -/
def k1 : Class := { plain "com/example/plumbline/plumbline/align/WeightHeapPollFirstPinLaw" (some 0) with
  accessFlags := 49
  interfaces := #[]
  cf := some (fileOf pool1 27 #[] #[{ accessFlags := 2, nameIndex := 5, descriptorIndex := 6, attributes := #[] }, { accessFlags := 10, nameIndex := 30, descriptorIndex := 31, attributes := #[] }, { accessFlags := 9, nameIndex := 35, descriptorIndex := 36, attributes := #[] }] 49 2 #[] #[])
  fields := #[]
  methods := #[k1m0, k1m1, k1m2]
  instanceTypes := #[]
  staticTypes := #[]
  resolved := Array.replicate 41 none
  statics := none }

def pool2 : Array CpInfo := pool [(1, .methodref 2 3), (0, .class_ 4), (0, .nameAndType 5 6), (0, u "java/lang/Object"), (0, u "<init>"), (0, u "()V"), (0, .fieldref 8 9), (0, .class_ 10), (0, .nameAndType 11 12), (0, u "com/example/plumbline/plumbline/align/WeightHeap"), (0, u "weights"), (0, u "[J"), (0, .fieldref 8 14), (0, .nameAndType 15 12), (0, u "items"), (0, .methodref 8 17), (0, .nameAndType 18 19), (0, u "arrayBytes"), (0, u "(I)J"), (0, .fieldref 8 21), (0, .nameAndType 22 23), (0, u "bytes"), (0, u "J"), (0, .fieldref 8 25), (0, .nameAndType 26 27), (0, u "size"), (0, u "I"), (6, .long 2), (3, .methodref 39 40), (0, .class_ 41), (0, .nameAndType 42 43), (0, u "com/example/plumbline/plumbline/model/HeapBytes"), (0, u "ofArray"), (0, u "(II)J"), (5, u "()J"), (1, u "add"), (0, u "(JJ)V"), (0, u "pollFirst")] 2

def k2c0 : Code := { maxStack := 3, maxLocals := 1, code := prog_61_method_1_code, exceptionTable := #[], attributes := #[] }
def k2m0 : Method := { name := "<init>", desc := "()V", sig := { parameters := [], returnType := none }, accessFlags := 0, code := some k2c0 }
def k2c1 : Code := { maxStack := 5, maxLocals := 7, code := prog_61_method_5_code, exceptionTable := #[], attributes := #[] }
def k2m1 : Method := { name := "add", desc := "(JJ)V", sig := { parameters := [.long, .long], returnType := none }, accessFlags := 0, code := some k2c1 }
def k2c2 : Code := { maxStack := 4, maxLocals := 1, code := prog_61_method_6_code, exceptionTable := #[], attributes := #[] }
def k2m2 : Method := { name := "arrayBytes", desc := "(I)J", sig := { parameters := [.int], returnType := some .long }, accessFlags := 10, code := some k2c2 }
def k2c3 : Code := { maxStack := 4, maxLocals := 9, code := prog_61_method_7_code, exceptionTable := #[], attributes := #[] }
def k2m3 : Method := { name := "pollFirst", desc := "()J", sig := { parameters := [], returnType := some .long }, accessFlags := 0, code := some k2c3 }
/-- com/example/plumbline/plumbline/align/WeightHeap -/
def k2 : Class := { plain "com/example/plumbline/plumbline/align/WeightHeap" (some 0) with
  accessFlags := 48
  interfaces := #[]
  cf := some (fileOf pool2 8 #[] #[{ accessFlags := 0, nameIndex := 5, descriptorIndex := 6, attributes := #[] }, { accessFlags := 0, nameIndex := 51, descriptorIndex := 52, attributes := #[] }, { accessFlags := 10, nameIndex := 18, descriptorIndex := 19, attributes := #[] }, { accessFlags := 0, nameIndex := 53, descriptorIndex := 49, attributes := #[] }] 48 2 #[] #[{ accessFlags := 2, nameIndex := 11, descriptorIndex := 12, attributes := #[] }, { accessFlags := 2, nameIndex := 15, descriptorIndex := 12, attributes := #[] }, { accessFlags := 2, nameIndex := 26, descriptorIndex := 27, attributes := #[] }, { accessFlags := 2, nameIndex := 22, descriptorIndex := 23, attributes := #[] }])
  fields := #[{ name := "weights", type := (.array .long), accessFlags := 2, slot := 0, constantValue := 0 }, { name := "items", type := (.array .long), accessFlags := 2, slot := 1, constantValue := 0 }, { name := "size", type := .int, accessFlags := 2, slot := 2, constantValue := 0 }, { name := "bytes", type := .long, accessFlags := 2, slot := 3, constantValue := 0 }]
  methods := #[k2m0, k2m1, k2m2, k2m3]
  instanceTypes := #[(.array .long), (.array .long), .int, .long]
  staticTypes := #[]
  resolved := Array.replicate 56 none
  statics := none }

def pool3 : Array CpInfo := pool [(2, .class_ 4), (1, u "java/lang/Object"), (0, u "<init>"), (0, u "()V"), (0, .class_ 8), (0, u "com/example/plumbline/plumbline/model/HeapBytes"), (0, .long 16), (1, .long 7), (1, .long 18446744073709551608), (1, .long 524288), (1, .long 1048576), (3, u "ofArray"), (0, u "(II)J"), (8, u "REFERENCE"), (0, u "I"), (2, u "HEADER"), (0, u "J"), (0, u "REGION")] 9

def k3m0 : Method := { name := "<init>", desc := "()V", sig := { parameters := [], returnType := none }, accessFlags := 2, code := none }
def k3c1 : Code := { maxStack := 6, maxLocals := 4, code := prog_86_method_2_code, exceptionTable := #[], attributes := #[] }
def k3m1 : Method := { name := "ofArray", desc := "(II)J", sig := { parameters := [.int, .int], returnType := some .long }, accessFlags := 9, code := some k3c1 }
/-- com/example/plumbline/plumbline/model/HeapBytes -/
def k3 : Class := { plain "com/example/plumbline/plumbline/model/HeapBytes" (some 0) with
  accessFlags := 49
  interfaces := #[]
  cf := some (fileOf pool3 7 #[] #[{ accessFlags := 2, nameIndex := 5, descriptorIndex := 6, attributes := #[] }, { accessFlags := 9, nameIndex := 21, descriptorIndex := 22, attributes := #[] }] 49 2 #[] #[{ accessFlags := 25, nameIndex := 31, descriptorIndex := 32, attributes := #[] }, { accessFlags := 26, nameIndex := 35, descriptorIndex := 36, attributes := #[] }, { accessFlags := 26, nameIndex := 37, descriptorIndex := 36, attributes := #[] }])
  fields := #[{ name := "REFERENCE", type := .int, accessFlags := 25, slot := 0, constantValue := 0 }, { name := "HEADER", type := .long, accessFlags := 26, slot := 1, constantValue := 0 }, { name := "REGION", type := .long, accessFlags := 26, slot := 2, constantValue := 0 }]
  methods := #[k3m0, k3m1]
  instanceTypes := #[]
  staticTypes := #[.int, .long, .long]
  resolved := Array.replicate 47 none
  statics := none }

def pool4 : Array CpInfo := pool [(1, u "java/lang/Cloneable"), (0, .class_ 1), (0, u "java/lang/Object"), (0, .class_ 3)] 3

/-- java/lang/Cloneable -/
def k4 : Class := { plain "java/lang/Cloneable" (some 0) with
  accessFlags := 1537
  interfaces := #[]
  cf := some (fileOf pool4 2 #[] #[] 1537 4 #[] #[])
  fields := #[]
  methods := #[]
  instanceTypes := #[]
  staticTypes := #[]
  resolved := Array.replicate 8 none
  statics := none }

def pool5 : Array CpInfo := pool [(1, u "java/io/Serializable"), (0, .class_ 1), (0, u "java/lang/Object"), (0, .class_ 3)] 3

/-- java/io/Serializable -/
def k5 : Class := { plain "java/io/Serializable" (some 0) with
  accessFlags := 1537
  interfaces := #[]
  cf := some (fileOf pool5 2 #[] #[] 1537 4 #[] #[])
  fields := #[]
  methods := #[]
  instanceTypes := #[]
  staticTypes := #[]
  resolved := Array.replicate 8 none
  statics := none }

/-- the primitive byte -/
def k6 : Class := { plain "byte" none with kind := .primitive 'B', accessFlags := 0x411 }
/-- [B -/
def k7 : Class := { plain "[B" (some 0) with kind := .array 6 .byte, interfaces := #[4, 5], accessFlags := 1041 }

/-- the primitive int -/
def k8 : Class := { plain "int" none with kind := .primitive 'I', accessFlags := 0x411 }
/-- [I -/
def k9 : Class := { plain "[I" (some 0) with kind := .array 8 .int, interfaces := #[4, 5], accessFlags := 1041 }

/-- the primitive long -/
def k10 : Class := { plain "long" none with kind := .primitive 'J', accessFlags := 0x411 }
/-- [J -/
def k11 : Class := { plain "[J" (some 0) with kind := .array 10 .long, interfaces := #[4, 5], accessFlags := 1041 }

def heap : Heap := #[]
def classes : Array Class := #[k0, k1, k2, k3, k4, k5, k6, k7, k8, k9, k10, k11]
def interned : List (Array UInt16 × Addr) := []
def slotsUsed : Nat := 0
def theMethod : MethodId := ⟨1, 2⟩
def args0 : Array Value := #[.long 5, .long 7, .long 3, .long 4, .long 1, .long 100]
def aboutOver (below : List Frame) : State where
  vm := { classes := classes, interned := interned.toArray }
  heap := heap
  slotsUsed := slotsUsed
  threads := #[{ frames := .invoking theMethod args0 :: below }]
def below0 : List Frame := [.native { method := ⟨0, 0⟩, args := #[] }]
def about1 : State := aboutOver below0
def p0 : Program := .bare "" "" ""
def e0 : Env := launch0.env 0 0 0
theorem w_frames : about1.frames = Frame.invoking theMethod args0 :: below0 := rfl
set_option maxRecDepth 65536 in
theorem w_args : argsFit about1.vm theMethod args0 = true := by decide +kernel
set_option maxRecDepth 65536 in
theorem w_heap : heapFits about1 = true := by decide +kernel
set_option maxRecDepth 65536 in
theorem w_runnable : about1.curStatus? = some .runnable := by decide +kernel
set_option maxRecDepth 65536 in
theorem w_alone : about1.alone = true := by decide +kernel
set_option maxRecDepth 65536 in
theorem w_named : about1.methodNamed? x = some theMethod := by decide +kernel
set_option maxRecDepth 65536 in
theorem w_hears : about1.hears theMethod below0 = true := by decide +kernel
set_option maxRecDepth 65536 in
theorem w_ripe : about1.ripe theMethod args0 below0 = true := by decide +kernel
theorem w_running : about1.status = .running := rfl
set_option maxRecDepth 65536 in
theorem w_room : about1.hasRoom e0.platform room_1 = true :=
  launch0.hasRoom_least _ room_1 (by decide +kernel) (by decide +kernel) (by decide +kernel) (by decide +kernel) (by decide +kernel) (by decide +kernel)
theorem allAtoms_all (ts : List Jvm.Cond) (a : Array Jvm.Value) (st : Jvm.State) : (allAtoms ts).before a st = ts.all (fun c => c.before a st) := by
  induction ts with
  | nil => rfl
  | cons c t ih =>
    show (Jvm.Cond.and c (allAtoms t)).before a st = _
    rw [Jvm.Cond.before_and, ih, List.all_cons]
def words1 : List Jvm.Cond := Jvm.Cond.code x code maxLocals ret :: tables_1
/-- a 'code' word, met by the world's own term for the bytes: nothing is compared byte by byte -/
theorem code_word {y : MethodName} {bytes : ByteArray} {mx : Nat} {rt : Option FieldType} {a : Array Value} {s : State} {m : MethodId} {meth : Method} {c : Code} (h1 : s.methodNamed? y = some m) (h2 : s.vm.method? m = some meth) (h3 : meth.code = some c) (h4 : c.code = bytes)
    (h5 : (c.maxLocals == mx && c.exceptionTable.isEmpty && decide (c.maxStack ≤ mostOperands) && decide (meth.sig.returnType = rt) && !meth.locks && decide (parseMethodDescriptor y.desc = some meth.sig)) = true) : (Jvm.Cond.code y bytes mx rt).before a s = true := by
  simp only [Bool.and_eq_true, beq_iff_eq, Bool.not_eq_true', decide_eq_true_eq] at h5
  obtain ⟨⟨⟨⟨⟨g1, g2⟩, g3⟩, g4⟩, g5⟩, g6⟩ := h5
  simp [Cond.before, Cond.holds, Cond.value, h1, h2, h3, h4, g1, g2, g3, g4, g5, g6]
def isCode : Jvm.Cond → Bool
  | .code _ _ _ _ => true
  | _ => false
theorem all_split {L : List Jvm.Cond} {P : Jvm.Cond → Bool} (h1 : L.all (fun c => isCode c || P c) = true) (h2 : ∀ c ∈ L.filter isCode, P c = true) : L.all P = true := by
  refine List.all_eq_true.mpr fun c hc => ?_
  have h := List.all_eq_true.mp h1 c hc
  rcases Bool.eq_false_or_eq_true (isCode c) with hi | hi
  · exact h2 c (List.mem_filter.mpr ⟨hc, hi⟩)
  · simpa [hi] using h
set_option maxRecDepth 65536 in
theorem w_c0 : (Jvm.Cond.code x code maxLocals ret).before args0 about1 = true := code_word (m := ⟨1, 2⟩) (meth := k1m2) (c := k1c2) (by decide +kernel) rfl rfl rfl (by decide +kernel)
set_option maxRecDepth 65536 in
theorem w_c1 : (Jvm.Cond.code ({ cls := "com/example/plumbline/plumbline/align/WeightHeap", name := "<init>", desc := "()V" } : Jvm.MethodName) prog_61_method_1_code (1 : Nat) (Option.none : Option Jvm.ClassFile.FieldType)).before args0 about1 = true := code_word (m := ⟨2, 0⟩) (meth := k2m0) (c := k2c0) (by decide +kernel) rfl rfl rfl (by decide +kernel)
set_option maxRecDepth 65536 in
theorem w_c2 : (Jvm.Cond.code ({ cls := "java/lang/Object", name := "<init>", desc := "()V" } : Jvm.MethodName) object_method_1_code (1 : Nat) (Option.none : Option Jvm.ClassFile.FieldType)).before args0 about1 = true := code_word (m := ⟨0, 0⟩) (meth := k0m0) (c := k0c0) (by decide +kernel) rfl rfl rfl (by decide +kernel)
set_option maxRecDepth 65536 in
theorem w_c3 : (Jvm.Cond.code ({ cls := "com/example/plumbline/plumbline/align/WeightHeap", name := "arrayBytes", desc := "(I)J" } : Jvm.MethodName) prog_61_method_6_code (1 : Nat) (Option.some Jvm.ClassFile.FieldType.long)).before args0 about1 = true := code_word (m := ⟨2, 2⟩) (meth := k2m2) (c := k2c2) (by decide +kernel) rfl rfl rfl (by decide +kernel)
set_option maxRecDepth 65536 in
theorem w_c4 : (Jvm.Cond.code ({ cls := "com/example/plumbline/plumbline/model/HeapBytes", name := "ofArray", desc := "(II)J" } : Jvm.MethodName) prog_86_method_2_code (4 : Nat) (Option.some Jvm.ClassFile.FieldType.long)).before args0 about1 = true := code_word (m := ⟨3, 1⟩) (meth := k3m1) (c := k3c1) (by decide +kernel) rfl rfl rfl (by decide +kernel)
set_option maxRecDepth 65536 in
theorem w_c5 : (Jvm.Cond.code ({ cls := "com/example/plumbline/plumbline/align/WeightHeap", name := "add", desc := "(JJ)V" } : Jvm.MethodName) prog_61_method_5_code (7 : Nat) (Option.none : Option Jvm.ClassFile.FieldType)).before args0 about1 = true := code_word (m := ⟨2, 1⟩) (meth := k2m1) (c := k2c1) (by decide +kernel) rfl rfl rfl (by decide +kernel)
set_option maxRecDepth 65536 in
theorem w_c6 : (Jvm.Cond.code ({ cls := "com/example/plumbline/plumbline/align/WeightHeap", name := "pollFirst", desc := "()J" } : Jvm.MethodName) prog_61_method_7_code (9 : Nat) (Option.some Jvm.ClassFile.FieldType.long)).before args0 about1 = true := code_word (m := ⟨2, 3⟩) (meth := k2m3) (c := k2c3) (by decide +kernel) rfl rfl rfl (by decide +kernel)
set_option maxRecDepth 65536 in
theorem w_c7 : (Jvm.Cond.code ({ cls := "com/example/plumbline/plumbline/align/WeightHeapPollFirstPinLaw", name := "idx", desc := "(J)I" } : Jvm.MethodName) method_2_code (2 : Nat) (Option.some Jvm.ClassFile.FieldType.int)).before args0 about1 = true := code_word (m := ⟨1, 1⟩) (meth := k1m1) (c := k1c1) (by decide +kernel) rfl rfl rfl (by decide +kernel)
def codes1 : List Jvm.Cond := [Jvm.Cond.code x code maxLocals ret, Jvm.Cond.code ({ cls := "com/example/plumbline/plumbline/align/WeightHeap", name := "<init>", desc := "()V" } : Jvm.MethodName) prog_61_method_1_code (1 : Nat) (Option.none : Option Jvm.ClassFile.FieldType), Jvm.Cond.code ({ cls := "java/lang/Object", name := "<init>", desc := "()V" } : Jvm.MethodName) object_method_1_code (1 : Nat) (Option.none : Option Jvm.ClassFile.FieldType), Jvm.Cond.code ({ cls := "com/example/plumbline/plumbline/align/WeightHeap", name := "arrayBytes", desc := "(I)J" } : Jvm.MethodName) prog_61_method_6_code (1 : Nat) (Option.some Jvm.ClassFile.FieldType.long), Jvm.Cond.code ({ cls := "com/example/plumbline/plumbline/model/HeapBytes", name := "ofArray", desc := "(II)J" } : Jvm.MethodName) prog_86_method_2_code (4 : Nat) (Option.some Jvm.ClassFile.FieldType.long), Jvm.Cond.code ({ cls := "com/example/plumbline/plumbline/align/WeightHeap", name := "add", desc := "(JJ)V" } : Jvm.MethodName) prog_61_method_5_code (7 : Nat) (Option.none : Option Jvm.ClassFile.FieldType), Jvm.Cond.code ({ cls := "com/example/plumbline/plumbline/align/WeightHeap", name := "pollFirst", desc := "()J" } : Jvm.MethodName) prog_61_method_7_code (9 : Nat) (Option.some Jvm.ClassFile.FieldType.long), Jvm.Cond.code ({ cls := "com/example/plumbline/plumbline/align/WeightHeapPollFirstPinLaw", name := "idx", desc := "(J)I" } : Jvm.MethodName) method_2_code (2 : Nat) (Option.some Jvm.ClassFile.FieldType.int)]
set_option maxRecDepth 65536 in
theorem codes_eq : words1.filter isCode = codes1 := rfl
theorem w_codes : ∀ c ∈ words1.filter isCode, c.before args0 about1 = true := by
  rw [codes_eq]
  intro c hc
  simp only [codes1, List.mem_cons, List.not_mem_nil, or_false] at hc
  rcases hc with rfl | rfl | rfl | rfl | rfl | rfl | rfl | rfl
  · exact w_c0
  · exact w_c1
  · exact w_c2
  · exact w_c3
  · exact w_c4
  · exact w_c5
  · exact w_c6
  · exact w_c7
set_option maxRecDepth 65536 in
theorem w_t1 : (words1.take 24).all (fun c => isCode c || c.before args0 about1) = true := by decide +kernel
set_option maxRecDepth 65536 in
theorem w_t2 : ((words1.drop 24).take 24).all (fun c => isCode c || c.before args0 about1) = true := by decide +kernel
set_option maxRecDepth 65536 in
theorem w_t3 : ((words1.drop 24).drop 24).all (fun c => isCode c || c.before args0 about1) = true := by decide +kernel
theorem w_tables : (allAtoms (Jvm.Cond.code x code maxLocals ret :: tables_1)).before args0 about1 = true := by
  rw [allAtoms_all]
  show words1.all (fun c => c.before args0 about1) = true
  refine all_split ?_ w_codes
  rw [← List.take_append_drop 24 words1, List.all_append, w_t1, ← List.take_append_drop 24 (words1.drop 24), List.all_append, w_t2, w_t3]
  rfl
set_option maxRecDepth 65536 in
theorem w_case : (Jvm.Cond.and given_1 narrow_1).before args0 about1 = true := by decide +kernel
theorem w_applies : (headSpec (Jvm.Cond.code x code maxLocals ret :: tables_1) room_1).applies x e0.platform about1 = true :=
  (Spec.applies_iff w_frames).mpr ⟨w_running, w_runnable, w_alone, w_named, w_hears, w_ripe, w_room, w_tables⟩
theorem atStart : AtStart classFile x code maxLocals ret World_1 tables_1 room_1 Calls_1 rest_1 Pre_1 launch0 p0 e0 about1 theMethod args0 below0 :=
  ⟨lists_1, trivial, launch0.admits_env _ _ _, launch0.least_env, fairChoices_fair.cas, fairChoices_fair.clock, w_frames, w_args, w_heap, w_applies, trivial, trivial, w_case⟩
end start1
theorem witness_1 : WitnessClaimed_1 := ⟨start1.p0, start1.e0, start1.about1, start1.theMethod, start1.args0, start1.below0, start1.atStart⟩
end Jvm.Pilot.@@N@@
