import JvmDerived
import JvmDerived.Pilot.@@N@@Statement
import JvmDerived.Pilot.@@N@@Code
set_option linter.unusedVariables false
set_option linter.unusedSimpArgs false
namespace Jvm.Pilot.@@N@@
open Jvm Jvm.ClassFile Sem Op Lib Jvm.Free Jvm.Stand Jvm.LawKit Jvm.RoadKit Bundle Jvm.Pilot.@@N@@.Jvm.D
section OwnKit
variable {p : Program} {l : Launch} {e : Env} {R : Room} {s : State} {m : MethodId} {args : Array Value} {below : List Frame} {meth : Method} {c : Code} {T : State} {cells slots cells' slots' : Nat} {Z : State} {a0 : Array Value} {h h' : Heap} {n0 : Nat} {Q : Option Value → Heap → Prop} {own nm : String} {bytes : ByteArray} {maxL : Nat} {ret : Option FieldType} {pc pc' pt : Nat} {Ls : Array Slot} {stk : List Value}
def Ctx (p : Program) (s : State) (m : MethodId) (meth : Method) (c : Code) (Z : State) (own nm : String) (bytes : ByteArray) (maxL : Nat) (ret : Option FieldType) : Prop :=
  (p.tables.exec = Jvm.exec ∧ Z.Warmed39 s.vm) ∧ (c.code = bytes ∧ c.maxLocals = maxL) ∧ (s.vm.findClass own = some m.cls ∧ meth.name = nm) ∧ (meth.sig.returnType = ret ∧ meth.locks = false)
theorem Ctx.hx (K : Ctx p s m meth c Z own nm bytes maxL ret) : p.tables.exec = Jvm.exec := K.1.1
theorem Ctx.hZ (K : Ctx p s m meth c Z own nm bytes maxL ret) : Z.Warmed39 s.vm := K.1.2
theorem Ctx.by' (K : Ctx p s m meth c Z own nm bytes maxL ret) : c.code = bytes := K.2.1.1
theorem Ctx.ml (K : Ctx p s m meth c Z own nm bytes maxL ret) : c.maxLocals = maxL := K.2.1.2
theorem Ctx.own' (K : Ctx p s m meth c Z own nm bytes maxL ret) : s.vm.findClass own = some m.cls := K.2.2.1.1
theorem Ctx.nm' (K : Ctx p s m meth c Z own nm bytes maxL ret) : meth.name = nm := K.2.2.1.2
theorem Ctx.ret' (K : Ctx p s m meth c Z own nm bytes maxL ret) : meth.sig.returnType = ret := K.2.2.2.1
theorem Ctx.locks (K : Ctx p s m meth c Z own nm bytes maxL ret) : meth.locks = false := K.2.2.2.2
def St (p : Program) (l : Launch) (e : Env) (R : Room) (s : State) (m : MethodId) (args : Array Value) (below : List Frame) (meth : Method) (c : Code) (n0 : Nat) (T : State) (cells slots : Nat) : Prop :=
  ∃ locs, Stand p l e R s m args below meth c T locs cells slots ∧ Fr n0 locs
theorem St.mono (X : St p l e R s m args below meth c n0 T cells slots) (hc : cells ≤ cells') (hs : slots ≤ slots') : St p l e R s m args below meth c n0 T cells' slots' := by
  obtain ⟨locs, X, N⟩ := X
  exact ⟨locs, { X with same := X.same.mono hc hs }, N⟩
def Go (p : Program) (e : Env) (below : List Frame) (s : State) (R : Room) (n0 : Nat) (Q : Option Value → Heap → Prop) (st : State) : Prop :=
  ∃ s₂ o, Steps p.tables e below st s₂ ∧ s₂.status = .running ∧ Ended s₂ below o ∧ ∃ v L, o = .returned v ∧ (Q v s₂.heap ∧ Fr n0 L) ∧ FrameEnd s o s₂ L R.cells R.slots
theorem go_by {st st' : State} (h : ∀ t, Steps p.tables e below st' t → Steps p.tables e below st t) (k : Go p e below s R n0 Q st') : Go p e below s R n0 Q st := by
  obtain ⟨s₂, o, h1, h2⟩ := k
  exact ⟨s₂, o, h _ h1, h2⟩
theorem own_cut {α : Sort _} {P : α → Prop} {S : α → State} {st : State} (h1 : (∀ b, P b → Go p e below s R n0 Q (S b)) → Go p e below s R n0 Q st) (h2 : ∀ b, P b → Go p e below s R n0 Q (S b)) : Go p e below s R n0 Q st := h1 h2
def Con (l : Launch) (Z : State) (n0 : Nat) (y : MethodName) (bytes : ByteArray) (maxL : Nat) (ret : Option FieldType) (rm : Room) (as' : Array Value) (h0 : Heap) (Q : Option Value → Heap → Prop) : Prop :=
  ∀ ws : List Jvm.Cond, MetFree l y (head1 (Jvm.Cond.code y bytes maxL ret :: ws) rm) (fun a U => a = as' ∧ Z.Warmed39 U.vm ∧ U.heap = h0) (fun _ _ _ _ _ => True) (fun _ U o U' => ∃ v L, o = .returned v ∧ (Q v U'.heap ∧ Fr n0 L) ∧ FrameEnd U o U' L rm.cells rm.slots)
theorem con_of {y : MethodName} {rm : Room} {as' : Array Value} {h0 : Heap} (hx : plainFor y = true)
    (body : ∀ p e s m below meth c T, Ctx p s m meth c Z y.cls y.name bytes maxL ret → St p l e rm s m as' below meth c n0 T 0 0 → T.heap = h0 → Go p e below s rm n0 Q (T.setTop (entryFrame m as' maxL))) :
    Con l Z n0 y bytes maxL ret rm as' h0 Q := by
  intro ws
  refine MetFree.of_bodySF hx hisR ?_
  intro p e s m args below meth c s₁ Bd hml0 hP hK
  obtain ⟨hargs, hZ, hh⟩ := hP
  have X0 := Stand.of_body Bd
  have hnm := (name_of_methodNamed Bd.named Bd.method).1
  rw [hargs] at X0 ⊢
  obtain ⟨s₂, o, h1, h2, h3, v, L, h4, h5, h6⟩ := body p e s m below meth c s₁ ⟨⟨Bd.exec, hZ⟩, ⟨Bd.bytes, hml0⟩, ⟨findClass_of_methodNamed Bd.named, hnm⟩, ⟨Bd.returns, BodyLoose.notSynchronized Bd⟩⟩ ⟨[], X0, Fr.nil n0⟩ (by rw [← hh, Bd.state]; rfl)
  exact ⟨s₂, o, h1, h2, h3, v, L, h4, h5, h6⟩
theorem go_entry {as' : Array Value} {g : JFrame} (q : entryFrame m as' maxL = g) (k : Go p e below s R n0 Q (T.setTop g)) : Go p e below s R n0 Q (T.setTop (entryFrame m as' maxL)) := by rw [q]; exact k
theorem wd (hw : ∀ d ∈ tables_1, d.before a0 Z = true) (i : Nat) {d : Jvm.Cond} (q : tables_1[i]? = some d) : d.before a0 Z = true := hw d (List.mem_of_getElem? q)
theorem go_iloadN (K : Ctx p s m meth c Z own nm bytes maxL ret) (X : St p l e R s m args below meth c n0 T cells slots) {k0 : Fin 4} {v : Int32} (hd : decode bytes pc = .ok (.iload_n k0, 1)) (hl : Ls[k0.val]? = some (.val (.int v))) (hp : pc + 1 = pc')
    (k : Go p e below s R n0 Q (T.setTop (mkF m pc' Ls (.int v :: stk)))) : Go p e below s R n0 Q (T.setTop (mkF m pc Ls (stk))) := by
  subst hp; obtain ⟨locs, X, N⟩ := X
  exact go_by (fun t k => XS.iloadN X.here K.hx rfl (hb K.by' hd) hl k) k
theorem go_iload (K : Ctx p s m meth c Z own nm bytes maxL ret) (X : St p l e R s m args below meth c n0 T cells slots) {k0 : Nat} {v : Int32} (hd : decode bytes pc = .ok (.iload k0, 2)) (hl : Ls[k0]? = some (.val (.int v))) (hp : pc + 2 = pc')
    (k : Go p e below s R n0 Q (T.setTop (mkF m pc' Ls (.int v :: stk)))) : Go p e below s R n0 Q (T.setTop (mkF m pc Ls (stk))) := by
  subst hp; obtain ⟨locs, X, N⟩ := X
  exact go_by (fun t k => XS.iload X.here K.hx rfl (hb K.by' hd) hl k) k
theorem go_lload (K : Ctx p s m meth c Z own nm bytes maxL ret) (X : St p l e R s m args below meth c n0 T cells slots) {k0 : Nat} {v : Int64} (hd : decode bytes pc = .ok (.lload k0, 2)) (hl : Ls[k0]? = some (.val (.long v))) (hp : pc + 2 = pc')
    (k : Go p e below s R n0 Q (T.setTop (mkF m pc' Ls (.long v :: stk)))) : Go p e below s R n0 Q (T.setTop (mkF m pc Ls (stk))) := by
  subst hp; obtain ⟨locs, X, N⟩ := X
  exact go_by (fun t k => XS.lload X.here K.hx rfl (hb K.by' hd) hl k) k
theorem go_aloadN (K : Ctx p s m meth c Z own nm bytes maxL ret) (X : St p l e R s m args below meth c n0 T cells slots) {k0 : Fin 4} {v : Value} (hd : decode bytes pc = .ok (.aload_n k0, 1)) (hl : Ls[k0.val]? = some (.val v)) (hv : v.isRef = true) (hp : pc + 1 = pc')
    (k : Go p e below s R n0 Q (T.setTop (mkF m pc' Ls (v :: stk)))) : Go p e below s R n0 Q (T.setTop (mkF m pc Ls (stk))) := by
  subst hp; obtain ⟨locs, X, N⟩ := X
  exact go_by (fun t k => XS.aloadN X.here K.hx rfl (hb K.by' hd) hl hv k) k
theorem go_aload (K : Ctx p s m meth c Z own nm bytes maxL ret) (X : St p l e R s m args below meth c n0 T cells slots) {k0 : Nat} {v : Value} (hd : decode bytes pc = .ok (.aload k0, 2)) (hl : Ls[k0]? = some (.val v)) (hv : v.isRef = true) (hp : pc + 2 = pc')
    (k : Go p e below s R n0 Q (T.setTop (mkF m pc' Ls (v :: stk)))) : Go p e below s R n0 Q (T.setTop (mkF m pc Ls (stk))) := by
  subst hp; obtain ⟨locs, X, N⟩ := X
  exact go_by (fun t k => XS.aload X.here K.hx rfl (hb K.by' hd) hl hv k) k
theorem go_iconst (K : Ctx p s m meth c Z own nm bytes maxL ret) (X : St p l e R s m args below meth c n0 T cells slots) {i : Int} (v : Int32) (hd : decode bytes pc = .ok (.iconst i, 1)) (hv : Int32.ofInt i = v) (hp : pc + 1 = pc')
    (k : Go p e below s R n0 Q (T.setTop (mkF m pc' Ls (.int v :: stk)))) : Go p e below s R n0 Q (T.setTop (mkF m pc Ls (stk))) := by
  subst hp; obtain ⟨locs, X, N⟩ := X
  exact go_by (fun t k => XT.iconstV X.here K.hx rfl v (hb K.by' hd) hv k) k
theorem go_bipush (K : Ctx p s m meth c Z own nm bytes maxL ret) (X : St p l e R s m args below meth c n0 T cells slots) {i : Int} (v : Int32) (hd : decode bytes pc = .ok (.bipush i, 2)) (hv : (Int8.ofInt i).toInt32 = v) (hp : pc + 2 = pc')
    (k : Go p e below s R n0 Q (T.setTop (mkF m pc' Ls (.int v :: stk)))) : Go p e below s R n0 Q (T.setTop (mkF m pc Ls (stk))) := by
  subst hp; obtain ⟨locs, X, N⟩ := X
  exact go_by (fun t k => XT.bipushV X.here K.hx rfl v (hb K.by' hd) hv k) k
theorem go_sipush (K : Ctx p s m meth c Z own nm bytes maxL ret) (X : St p l e R s m args below meth c n0 T cells slots) {i : Int} (v : Int32) (hd : decode bytes pc = .ok (.sipush i, 3)) (hv : (Int16.ofInt i).toInt32 = v) (hp : pc + 3 = pc')
    (k : Go p e below s R n0 Q (T.setTop (mkF m pc' Ls (.int v :: stk)))) : Go p e below s R n0 Q (T.setTop (mkF m pc Ls (stk))) := by
  subst hp; obtain ⟨locs, X, N⟩ := X
  exact go_by (fun t k => XT.sipushV X.here K.hx rfl v (hb K.by' hd) hv k) k
theorem go_ldcI (K : Ctx p s m meth c Z own nm bytes maxL ret) (X : St p l e R s m args below meth c n0 T cells slots) {index : Nat} {v : Int32} (w : (Cond.constant own index v).before a0 Z = true) (hd : decode bytes pc = .ok (.ldc index, 2)) (hp : pc + 2 = pc')
    (k : Go p e below s R n0 Q (T.setTop (mkF m pc' Ls (.int v :: stk)))) : Go p e below s R n0 Q (T.setTop (mkF m pc Ls (stk))) := by
  subst hp; obtain ⟨locs, X, N⟩ := X
  exact go_by (fun t k => X.ldcI K.hx K.own' (mvT K.hZ w) rfl (hb K.by' hd) k) k
theorem go_ldcWI (K : Ctx p s m meth c Z own nm bytes maxL ret) (X : St p l e R s m args below meth c n0 T cells slots) {index : Nat} {v : Int32} (w : (Cond.constant own index v).before a0 Z = true) (hd : decode bytes pc = .ok (.ldc_w index, 3)) (hp : pc + 3 = pc')
    (k : Go p e below s R n0 Q (T.setTop (mkF m pc' Ls (.int v :: stk)))) : Go p e below s R n0 Q (T.setTop (mkF m pc Ls (stk))) := by
  subst hp; obtain ⟨locs, X, N⟩ := X
  exact go_by (fun t k => X.ldcWI K.hx K.own' (mvT K.hZ w) rfl (hb K.by' hd) k) k
theorem go_ldc2J (K : Ctx p s m meth c Z own nm bytes maxL ret) (X : St p l e R s m args below meth c n0 T cells slots) {index : Nat} {v : Int64} (w : (Cond.constantLong own index v).before a0 Z = true) (hd : decode bytes pc = .ok (.ldc2_w index, 3)) (hp : pc + 3 = pc')
    (k : Go p e below s R n0 Q (T.setTop (mkF m pc' Ls (.long v :: stk)))) : Go p e below s R n0 Q (T.setTop (mkF m pc Ls (stk))) := by
  subst hp; obtain ⟨locs, X, N⟩ := X
  exact go_by (fun t k => X.ldc2J K.hx K.own' (mvT K.hZ w) rfl (hb K.by' hd) k) k
theorem go_iadd (K : Ctx p s m meth c Z own nm bytes maxL ret) (X : St p l e R s m args below meth c n0 T cells slots) {x y : Int32} (hd : decode bytes pc = .ok (.iadd, 1)) (hp : pc + 1 = pc')
    (k : Go p e below s R n0 Q (T.setTop (mkF m pc' Ls (.int (x + y) :: stk)))) : Go p e below s R n0 Q (T.setTop (mkF m pc Ls (.int y :: .int x :: stk))) := by
  subst hp; obtain ⟨locs, X, N⟩ := X
  exact go_by (fun t k => XS.iadd X.here K.hx rfl (hb K.by' hd) rfl k) k
theorem go_isub (K : Ctx p s m meth c Z own nm bytes maxL ret) (X : St p l e R s m args below meth c n0 T cells slots) {x y : Int32} (hd : decode bytes pc = .ok (.isub, 1)) (hp : pc + 1 = pc')
    (k : Go p e below s R n0 Q (T.setTop (mkF m pc' Ls (.int (x - y) :: stk)))) : Go p e below s R n0 Q (T.setTop (mkF m pc Ls (.int y :: .int x :: stk))) := by
  subst hp; obtain ⟨locs, X, N⟩ := X
  exact go_by (fun t k => XS.isub X.here K.hx rfl (hb K.by' hd) rfl k) k
theorem go_imul (K : Ctx p s m meth c Z own nm bytes maxL ret) (X : St p l e R s m args below meth c n0 T cells slots) {x y : Int32} (hd : decode bytes pc = .ok (.imul, 1)) (hp : pc + 1 = pc')
    (k : Go p e below s R n0 Q (T.setTop (mkF m pc' Ls (.int (x * y) :: stk)))) : Go p e below s R n0 Q (T.setTop (mkF m pc Ls (.int y :: .int x :: stk))) := by
  subst hp; obtain ⟨locs, X, N⟩ := X
  exact go_by (fun t k => XS.imul X.here K.hx rfl (hb K.by' hd) rfl k) k
theorem go_iand (K : Ctx p s m meth c Z own nm bytes maxL ret) (X : St p l e R s m args below meth c n0 T cells slots) {x y : Int32} (hd : decode bytes pc = .ok (.iand, 1)) (hp : pc + 1 = pc')
    (k : Go p e below s R n0 Q (T.setTop (mkF m pc' Ls (.int (x &&& y) :: stk)))) : Go p e below s R n0 Q (T.setTop (mkF m pc Ls (.int y :: .int x :: stk))) := by
  subst hp; obtain ⟨locs, X, N⟩ := X
  exact go_by (fun t k => XS.iand X.here K.hx rfl (hb K.by' hd) rfl k) k
theorem go_ixor (K : Ctx p s m meth c Z own nm bytes maxL ret) (X : St p l e R s m args below meth c n0 T cells slots) {x y : Int32} (hd : decode bytes pc = .ok (.ixor, 1)) (hp : pc + 1 = pc')
    (k : Go p e below s R n0 Q (T.setTop (mkF m pc' Ls (.int (x ^^^ y) :: stk)))) : Go p e below s R n0 Q (T.setTop (mkF m pc Ls (.int y :: .int x :: stk))) := by
  subst hp; obtain ⟨locs, X, N⟩ := X
  exact go_by (fun t k => XS.ixor X.here K.hx rfl (hb K.by' hd) rfl k) k
theorem go_ishl (K : Ctx p s m meth c Z own nm bytes maxL ret) (X : St p l e R s m args below meth c n0 T cells slots) {x y : Int32} (hd : decode bytes pc = .ok (.ishl, 1)) (hp : pc + 1 = pc')
    (k : Go p e below s R n0 Q (T.setTop (mkF m pc' Ls (.int (x <<< (y &&& 31)) :: stk)))) : Go p e below s R n0 Q (T.setTop (mkF m pc Ls (.int y :: .int x :: stk))) := by
  subst hp; obtain ⟨locs, X, N⟩ := X
  exact go_by (fun t k => XS.ishl X.here K.hx rfl (hb K.by' hd) rfl k) k
theorem go_ishr (K : Ctx p s m meth c Z own nm bytes maxL ret) (X : St p l e R s m args below meth c n0 T cells slots) {x y : Int32} (hd : decode bytes pc = .ok (.ishr, 1)) (hp : pc + 1 = pc')
    (k : Go p e below s R n0 Q (T.setTop (mkF m pc' Ls (.int (x >>> (y &&& 31)) :: stk)))) : Go p e below s R n0 Q (T.setTop (mkF m pc Ls (.int y :: .int x :: stk))) := by
  subst hp; obtain ⟨locs, X, N⟩ := X
  exact go_by (fun t k => XS.ishr X.here K.hx rfl (hb K.by' hd) rfl k) k
theorem go_iushr (K : Ctx p s m meth c Z own nm bytes maxL ret) (X : St p l e R s m args below meth c n0 T cells slots) {x y : Int32} (hd : decode bytes pc = .ok (.iushr, 1)) (hp : pc + 1 = pc')
    (k : Go p e below s R n0 Q (T.setTop (mkF m pc' Ls (.int ((x.toUInt32 >>> (y &&& 31).toUInt32).toInt32) :: stk)))) : Go p e below s R n0 Q (T.setTop (mkF m pc Ls (.int y :: .int x :: stk))) := by
  subst hp; obtain ⟨locs, X, N⟩ := X
  exact go_by (fun t k => XS.iushr X.here K.hx rfl (hb K.by' hd) rfl k) k
theorem go_ladd (K : Ctx p s m meth c Z own nm bytes maxL ret) (X : St p l e R s m args below meth c n0 T cells slots) {x y : Int64} (hd : decode bytes pc = .ok (.ladd, 1)) (hp : pc + 1 = pc')
    (k : Go p e below s R n0 Q (T.setTop (mkF m pc' Ls (.long (x + y) :: stk)))) : Go p e below s R n0 Q (T.setTop (mkF m pc Ls (.long y :: .long x :: stk))) := by
  subst hp; obtain ⟨locs, X, N⟩ := X
  exact go_by (fun t k => XS.ladd X.here K.hx rfl (hb K.by' hd) rfl k) k
theorem go_lmul (K : Ctx p s m meth c Z own nm bytes maxL ret) (X : St p l e R s m args below meth c n0 T cells slots) {x y : Int64} (hd : decode bytes pc = .ok (.lmul, 1)) (hp : pc + 1 = pc')
    (k : Go p e below s R n0 Q (T.setTop (mkF m pc' Ls (.long (x * y) :: stk)))) : Go p e below s R n0 Q (T.setTop (mkF m pc Ls (.long y :: .long x :: stk))) := by
  subst hp; obtain ⟨locs, X, N⟩ := X
  exact go_by (fun t k => XS.lmul X.here K.hx rfl (hb K.by' hd) rfl k) k
theorem go_idiv (K : Ctx p s m meth c Z own nm bytes maxL ret) (X : St p l e R s m args below meth c n0 T cells slots) {x y : Int32} (hd : decode bytes pc = .ok (.idiv, 1)) (hy : y ≠ 0) (hp : pc + 1 = pc')
    (k : Go p e below s R n0 Q (T.setTop (mkF m pc' Ls (.int (x / y) :: stk)))) : Go p e below s R n0 Q (T.setTop (mkF m pc Ls (.int y :: .int x :: stk))) := by
  subst hp; obtain ⟨locs, X, N⟩ := X
  exact go_by (fun t k => XS.idiv X.here K.hx rfl (hb K.by' hd) rfl hy k) k
theorem go_ldiv (K : Ctx p s m meth c Z own nm bytes maxL ret) (X : St p l e R s m args below meth c n0 T cells slots) {x y : Int64} (hd : decode bytes pc = .ok (.ldiv, 1)) (hy : y ≠ 0) (hp : pc + 1 = pc')
    (k : Go p e below s R n0 Q (T.setTop (mkF m pc' Ls (.long (x / y) :: stk)))) : Go p e below s R n0 Q (T.setTop (mkF m pc Ls (.long y :: .long x :: stk))) := by
  subst hp; obtain ⟨locs, X, N⟩ := X
  exact go_by (fun t k => XS.ldiv X.here K.hx rfl (hb K.by' hd) rfl hy k) k
theorem go_i2l (K : Ctx p s m meth c Z own nm bytes maxL ret) (X : St p l e R s m args below meth c n0 T cells slots) {x : Int32} (hd : decode bytes pc = .ok (.i2l, 1)) (hp : pc + 1 = pc')
    (k : Go p e below s R n0 Q (T.setTop (mkF m pc' Ls (.long x.toInt64 :: stk)))) : Go p e below s R n0 Q (T.setTop (mkF m pc Ls (.int x :: stk))) := by
  subst hp; obtain ⟨locs, X, N⟩ := X
  exact go_by (fun t k => XS.i2l X.here K.hx rfl (hb K.by' hd) rfl k) k
theorem go_l2i (K : Ctx p s m meth c Z own nm bytes maxL ret) (X : St p l e R s m args below meth c n0 T cells slots) {x : Int64} (hd : decode bytes pc = .ok (.l2i, 1)) (hp : pc + 1 = pc')
    (k : Go p e below s R n0 Q (T.setTop (mkF m pc' Ls (.int x.toInt32 :: stk)))) : Go p e below s R n0 Q (T.setTop (mkF m pc Ls (.long x :: stk))) := by
  subst hp; obtain ⟨locs, X, N⟩ := X
  exact go_by (fun t k => XS.l2i X.here K.hx rfl (hb K.by' hd) rfl k) k
theorem go_istoreN (K : Ctx p s m meth c Z own nm bytes maxL ret) (X : St p l e R s m args below meth c n0 T cells slots) {k0 : Fin 4} {v : Int32} (Ls' : Array Slot) (hd : decode bytes pc = .ok (.istore_n k0, 1)) (hl : storeLocals Ls k0.val (.int v) = some Ls') (hp : pc + 1 = pc')
    (k : Go p e below s R n0 Q (T.setTop (mkF m pc' Ls' (stk)))) : Go p e below s R n0 Q (T.setTop (mkF m pc Ls (.int v :: stk))) := by
  subst hp; obtain ⟨locs, X, N⟩ := X
  exact go_by (fun t k => XS.istoreN X.here K.hx rfl (hb K.by' hd) rfl hl k) k
theorem go_istore (K : Ctx p s m meth c Z own nm bytes maxL ret) (X : St p l e R s m args below meth c n0 T cells slots) {k0 : Nat} {v : Int32} (Ls' : Array Slot) (hd : decode bytes pc = .ok (.istore k0, 2)) (hl : storeLocals Ls k0 (.int v) = some Ls') (hp : pc + 2 = pc')
    (k : Go p e below s R n0 Q (T.setTop (mkF m pc' Ls' (stk)))) : Go p e below s R n0 Q (T.setTop (mkF m pc Ls (.int v :: stk))) := by
  subst hp; obtain ⟨locs, X, N⟩ := X
  exact go_by (fun t k => XS.istore X.here K.hx rfl (hb K.by' hd) rfl hl k) k
theorem go_lstore (K : Ctx p s m meth c Z own nm bytes maxL ret) (X : St p l e R s m args below meth c n0 T cells slots) {k0 : Nat} {v : Int64} (Ls' : Array Slot) (hd : decode bytes pc = .ok (.lstore k0, 2)) (hl : storeLocals Ls k0 (.long v) = some Ls') (hp : pc + 2 = pc')
    (k : Go p e below s R n0 Q (T.setTop (mkF m pc' Ls' (stk)))) : Go p e below s R n0 Q (T.setTop (mkF m pc Ls (.long v :: stk))) := by
  subst hp; obtain ⟨locs, X, N⟩ := X
  exact go_by (fun t k => XS.lstore X.here K.hx rfl (hb K.by' hd) rfl hl k) k
theorem go_astoreN (K : Ctx p s m meth c Z own nm bytes maxL ret) (X : St p l e R s m args below meth c n0 T cells slots) {k0 : Fin 4} {v : Value} (Ls' : Array Slot) (hd : decode bytes pc = .ok (.astore_n k0, 1)) (hv : v.isRef = true) (hl : storeLocals Ls k0.val v = some Ls') (hp : pc + 1 = pc')
    (k : Go p e below s R n0 Q (T.setTop (mkF m pc' Ls' (stk)))) : Go p e below s R n0 Q (T.setTop (mkF m pc Ls (v :: stk))) := by
  subst hp; obtain ⟨locs, X, N⟩ := X
  exact go_by (fun t k => XS.astoreN X.here K.hx rfl (hb K.by' hd) rfl hv hl k) k
theorem go_astore (K : Ctx p s m meth c Z own nm bytes maxL ret) (X : St p l e R s m args below meth c n0 T cells slots) {k0 : Nat} {v : Value} (Ls' : Array Slot) (hd : decode bytes pc = .ok (.astore k0, 2)) (hv : v.isRef = true) (hl : storeLocals Ls k0 v = some Ls') (hp : pc + 2 = pc')
    (k : Go p e below s R n0 Q (T.setTop (mkF m pc' Ls' (stk)))) : Go p e below s R n0 Q (T.setTop (mkF m pc Ls (v :: stk))) := by
  subst hp; obtain ⟨locs, X, N⟩ := X
  exact go_by (fun t k => XS.astore X.here K.hx rfl (hb K.by' hd) rfl hv hl k) k
theorem go_iinc (K : Ctx p s m meth c Z own nm bytes maxL ret) (X : St p l e R s m args below meth c n0 T cells slots) {k0 : Nat} {cst : Int} {x : Int32} (v : Int32) (Ls' : Array Slot) (hd : decode bytes pc = .ok (.iinc k0 cst, 3)) (hv : Int32.ofInt cst = v) (hl : Ls[k0]? = some (.val (.int x))) (hl' : storeLocals Ls k0 (.int (x + v)) = some Ls') (hp : pc + 3 = pc')
    (k : Go p e below s R n0 Q (T.setTop (mkF m pc' Ls' (stk)))) : Go p e below s R n0 Q (T.setTop (mkF m pc Ls (stk))) := by
  subst hp; obtain ⟨locs, X, N⟩ := X
  exact go_by (fun t k => XT.iincV X.here K.hx rfl v (hb K.by' hd) hv hl hl' k) k
theorem go_dup (K : Ctx p s m meth c Z own nm bytes maxL ret) (X : St p l e R s m args below meth c n0 T cells slots) {x : Value} (hd : decode bytes pc = .ok (.dup, 1)) (hc : x.category = 1) (hp : pc + 1 = pc')
    (k : Go p e below s R n0 Q (T.setTop (mkF m pc' Ls (x :: x :: stk)))) : Go p e below s R n0 Q (T.setTop (mkF m pc Ls (x :: stk))) := by
  subst hp; obtain ⟨locs, X, N⟩ := X
  exact go_by (fun t k => XS.dup X.here K.hx rfl (hb K.by' hd) rfl hc k) k
theorem go_dup2 (K : Ctx p s m meth c Z own nm bytes maxL ret) (X : St p l e R s m args below meth c n0 T cells slots) {x y : Value} (hd : decode bytes pc = .ok (.dup2, 1)) (hc : x.category = 1) (hc' : y.category = 1) (hp : pc + 1 = pc')
    (k : Go p e below s R n0 Q (T.setTop (mkF m pc' Ls (x :: y :: x :: y :: stk)))) : Go p e below s R n0 Q (T.setTop (mkF m pc Ls (x :: y :: stk))) := by
  subst hp; obtain ⟨locs, X, N⟩ := X
  exact go_by (fun t k => XT.dup2 X.here K.hx rfl (hb K.by' hd) rfl hc hc' k) k
theorem go_goto (K : Ctx p s m meth c Z own nm bytes maxL ret) (X : St p l e R s m args below meth c n0 T cells slots) {o : Int} (hd : decode bytes pc = .ok (.goto o, 3)) (ho : 0 ≤ (pc : Int) + o) (hp : ((pc : Int) + o).toNat = pt)
    (k : Go p e below s R n0 Q (T.setTop (mkF m pt Ls stk))) : Go p e below s R n0 Q (T.setTop (mkF m pc Ls stk)) := by
  obtain ⟨locs, X, N⟩ := X
  exact go_by (fun t k => XS.goto X.here K.hx rfl (pc0 := pc) rfl (hb K.by' hd) ho hp k) k
def cT : ClassFile.Cond → Int32 → Int32 → Prop
  | .eq, x, y => x = y | .ne, x, y => ¬ x = y | .lt, x, y => x < y | .ge, x, y => ¬ x < y | .gt, x, y => y < x | .le, x, y => ¬ y < x
def cF : ClassFile.Cond → Int32 → Int32 → Prop
  | .eq, x, y => ¬ x = y | .ne, x, y => x = y | .lt, x, y => ¬ x < y | .ge, x, y => x < y | .gt, x, y => ¬ y < x | .le, x, y => y < x
theorem cT_or (cd : ClassFile.Cond) (x y : Int32) : cT cd x y ∨ cF cd x y := by
  cases cd <;> simp only [cT, cF] <;> first | exact Decidable.em _ | exact (Decidable.em _).symm
theorem cT_holds {cd : ClassFile.Cond} {x y : Int32} (q : cT cd x y) : if_icmp.holds cd x y = true := by
  cases cd
  · exact XT.ii_eq_t q
  · exact XT.ii_ne_t q
  · exact XT.ii_lt_t q
  · exact XT.ii_ge_t q
  · exact XT.ii_gt_t q
  · exact XT.ii_le_t q
theorem cF_holds {cd : ClassFile.Cond} {x y : Int32} (q : cF cd x y) : if_icmp.holds cd x y = false := by
  cases cd
  · exact XT.ii_eq_f q
  · exact XT.ii_ne_f q
  · exact XT.ii_lt_f q
  · exact XT.ii_ge_f q
  · exact XT.ii_gt_f q
  · exact XT.ii_le_f q
theorem go_icmpT (K : Ctx p s m meth c Z own nm bytes maxL ret) (X : St p l e R s m args below meth c n0 T cells slots) {cd : ClassFile.Cond} {o : Int} {x y : Int32} (hd : decode bytes pc = .ok (.if_icmp cd o, 3)) (ho : 0 ≤ (pc : Int) + o) (hp : ((pc : Int) + o).toNat = pt) (q : cT cd x y)
    (k : Go p e below s R n0 Q (T.setTop (mkF m pt Ls stk))) : Go p e below s R n0 Q (T.setTop (mkF m pc Ls (.int y :: .int x :: stk))) := by
  obtain ⟨locs, X, N⟩ := X
  exact go_by (fun t k => XS.icmpYes X.here K.hx rfl (pc0 := pc) rfl (hb K.by' hd) rfl (cT_holds q) ho hp k) k
theorem go_icmpF (K : Ctx p s m meth c Z own nm bytes maxL ret) (X : St p l e R s m args below meth c n0 T cells slots) {cd : ClassFile.Cond} {o : Int} {x y : Int32} (hd : decode bytes pc = .ok (.if_icmp cd o, 3)) (hp : pc + 3 = pc') (q : cF cd x y)
    (k : Go p e below s R n0 Q (T.setTop (mkF m pc' Ls stk))) : Go p e below s R n0 Q (T.setTop (mkF m pc Ls (.int y :: .int x :: stk))) := by
  subst hp; obtain ⟨locs, X, N⟩ := X
  exact go_by (fun t k => XS.icmpNo X.here K.hx rfl (hb K.by' hd) rfl (cF_holds q) k) k
theorem go_icmp (K : Ctx p s m meth c Z own nm bytes maxL ret) (X : St p l e R s m args below meth c n0 T cells slots) {cd : ClassFile.Cond} {o : Int} {x y : Int32} (hd : decode bytes pc = .ok (.if_icmp cd o, 3)) (ho : 0 ≤ (pc : Int) + o) (ht : ((pc : Int) + o).toNat = pt) (hp : pc + 3 = pc')
    (k1 : cT cd x y → Go p e below s R n0 Q (T.setTop (mkF m pt Ls stk))) (k2 : cF cd x y → Go p e below s R n0 Q (T.setTop (mkF m pc' Ls stk))) : Go p e below s R n0 Q (T.setTop (mkF m pc Ls (.int y :: .int x :: stk))) :=
  (cT_or cd _ _).elim (fun q => go_icmpT K X hd ho ht q (k1 q)) (fun q => go_icmpF K X hd hp q (k2 q))
theorem go_ifT (K : Ctx p s m meth c Z own nm bytes maxL ret) (X : St p l e R s m args below meth c n0 T cells slots) {cd : ClassFile.Cond} {o : Int} {x : Int32} (hd : decode bytes pc = .ok (.ifCond cd o, 3)) (ho : 0 ≤ (pc : Int) + o) (hp : ((pc : Int) + o).toNat = pt) (q : cT cd x 0)
    (k : Go p e below s R n0 Q (T.setTop (mkF m pt Ls stk))) : Go p e below s R n0 Q (T.setTop (mkF m pc Ls (.int x :: stk))) := by
  obtain ⟨locs, X, N⟩ := X
  exact go_by (fun t k => XS.ifYes X.here K.hx rfl (pc0 := pc) rfl (hb K.by' hd) rfl ((if0 _ _).trans (cT_holds q)) ho hp k) k
theorem go_ifF (K : Ctx p s m meth c Z own nm bytes maxL ret) (X : St p l e R s m args below meth c n0 T cells slots) {cd : ClassFile.Cond} {o : Int} {x : Int32} (hd : decode bytes pc = .ok (.ifCond cd o, 3)) (hp : pc + 3 = pc') (q : cF cd x 0)
    (k : Go p e below s R n0 Q (T.setTop (mkF m pc' Ls stk))) : Go p e below s R n0 Q (T.setTop (mkF m pc Ls (.int x :: stk))) := by
  subst hp; obtain ⟨locs, X, N⟩ := X
  exact go_by (fun t k => XS.ifNo X.here K.hx rfl (hb K.by' hd) rfl ((if0 _ _).trans (cF_holds q)) k) k
theorem go_if (K : Ctx p s m meth c Z own nm bytes maxL ret) (X : St p l e R s m args below meth c n0 T cells slots) {cd : ClassFile.Cond} {o : Int} {x : Int32} (hd : decode bytes pc = .ok (.ifCond cd o, 3)) (ho : 0 ≤ (pc : Int) + o) (ht : ((pc : Int) + o).toNat = pt) (hp : pc + 3 = pc')
    (k1 : cT cd x 0 → Go p e below s R n0 Q (T.setTop (mkF m pt Ls stk))) (k2 : cF cd x 0 → Go p e below s R n0 Q (T.setTop (mkF m pc' Ls stk))) : Go p e below s R n0 Q (T.setTop (mkF m pc Ls (.int x :: stk))) :=
  (cT_or cd _ _).elim (fun q => go_ifT K X hd ho ht q (k1 q)) (fun q => go_ifF K X hd hp q (k2 q))
theorem go_retV (K : Ctx p s m meth c Z own nm bytes maxL ret) (X : St p l e R s m args below meth c n0 T cells slots) {w : Value} {t : FieldType} {i : Instr} (hret : ret = some t) (hn : narrow t w = w)
    (hi : (i = .ireturn ∧ (t = .int ∨ t = .boolean ∨ t = .byte ∨ t = .char ∨ t = .short) ∧ ∃ z, w = .int z) ∨ (i = .lreturn ∧ t = .long ∧ ∃ z, w = .long z) ∨ (i = .dreturn ∧ t = .double ∧ ∃ z, w = .double z) ∨ (i = .freturn ∧ t = .float ∧ ∃ z, w = .float z) ∨ (i = .areturn ∧ t.isReference = true ∧ w.isRef = true))
    (hd : decode bytes pc = .ok (i, 1)) (hc : cells ≤ R.cells) (hs : slots ≤ R.slots) (q : Q (some w) T.heap) : Go p e below s R n0 Q (T.setTop (mkF m pc Ls (w :: stk))) := by
  obtain ⟨locs, X, N⟩ := X
  obtain ⟨fs, hr, hrun, hended, hW, hsame⟩ := X.leave (v := some w) (fun h => by rw [K.ret', hret] at h; cases h) K.locks
  exact ⟨_, _, retOut X K.hx (K.ret'.trans hret) hn hi (hb K.by' hd) hr, hrun, hended, _, _, rfl, ⟨q, N⟩, ⟨_, rfl⟩, hW, hsame.mono hc hs⟩
theorem go_retI (K : Ctx p s m meth c Z own nm bytes maxL (some .int)) (X : St p l e R s m args below meth c n0 T cells slots) {z : Int32} (hd : decode bytes pc = .ok (.ireturn, 1)) (hc : cells ≤ R.cells) (hs : slots ≤ R.slots) (q : Q (some (.int z)) T.heap) : Go p e below s R n0 Q (T.setTop (mkF m pc Ls (.int z :: stk))) :=
  go_retV K X rfl rfl (Or.inl ⟨rfl, Or.inl rfl, z, rfl⟩) hd hc hs q
theorem go_retZ (K : Ctx p s m meth c Z own nm bytes maxL (some .boolean)) (X : St p l e R s m args below meth c n0 T cells slots) {z : Int32} (hz : z = 0 ∨ z = 1) (hd : decode bytes pc = .ok (.ireturn, 1)) (hc : cells ≤ R.cells) (hs : slots ≤ R.slots) (q : Q (some (.int z)) T.heap) : Go p e below s R n0 Q (T.setTop (mkF m pc Ls (.int z :: stk))) :=
  go_retV K X rfl (by rcases hz with rfl | rfl <;> rfl) (Or.inl ⟨rfl, Or.inr (Or.inl rfl), z, rfl⟩) hd hc hs q
theorem go_retA (K : Ctx p s m meth c Z own nm bytes maxL (some t)) (X : St p l e R s m args below meth c n0 T cells slots) {w : Value} (ht : t.isReference = true) (hw : w.isRef = true) (hn : narrow t w = w) (hd : decode bytes pc = .ok (.areturn, 1)) (hc : cells ≤ R.cells) (hs : slots ≤ R.slots) (q : Q (some w) T.heap) : Go p e below s R n0 Q (T.setTop (mkF m pc Ls (w :: stk))) :=
  go_retV K X rfl hn (Or.inr (Or.inr (Or.inr (Or.inr ⟨rfl, ht, hw⟩)))) hd hc hs q
theorem go_ret (K : Ctx p s m meth c Z own nm bytes maxL none) (X : St p l e R s m args below meth c n0 T cells slots) (hd : decode bytes pc = .ok (.return_, 1)) (hc : cells ≤ R.cells) (hs : slots ≤ R.slots) (q : Q none T.heap) : Go p e below s R n0 Q (T.setTop (mkF m pc Ls [])) := by
  obtain ⟨locs, X, N⟩ := X
  obtain ⟨fs, hr, hrun, hended, hW, hsame⟩ := X.leave (v := none) (fun _ => rfl) K.locks
  exact ⟨_, _, X.returnOut K.hx K.ret' (hb K.by' hd) hr, hrun, hended, _, _, rfl, ⟨q, N⟩, ⟨_, rfl⟩, hW, hsame.mono hc hs⟩
theorem go_getF (K : Ctx p s m meth c Z own nm bytes maxL ret) (X : St p l e R s m args below meth c n0 T cells slots) {R0 O n d host : String} {index : Nat} (w : (Cond.fieldLink own index R0 n d).before a0 Z = true ∨ (Cond.fieldLinkNest own index R0 n d host).before a0 Z = true) (via : Via Z R0 O n d) (eT : T.heap = h) {a : Addr} {v : Value} (F : Fld Z h a O n d v) (hd : decode bytes pc = .ok (.getfield index, 3)) (hp : pc + 3 = pc')
    (k : ∀ T', St p l e R s m args below meth c n0 T' cells slots → T'.heap = h → Go p e below s R n0 Q (T'.setTop (mkF m pc' Ls (v :: stk)))) : Go p e below s R n0 Q (T.setTop (mkF m pc Ls (.ref a :: stk))) := by
  subst hp; obtain ⟨locs, X, N⟩ := X
  obtain ⟨T', X', e', st⟩ := getF X K.hx K.hZ K.own' w via eT F (g := mkF m pc Ls (.ref a :: stk)) rfl rfl (hb K.by' hd)
  exact go_by st (k T' ⟨locs, X', N⟩ e')
theorem go_putF (K : Ctx p s m meth c Z own nm bytes maxL ret) (X : St p l e R s m args below meth c n0 T cells slots) {R0 O n d host C : String} {index kk : Nat} {ty : FieldType} (w : (Cond.fieldLink own index R0 n d).before a0 Z = true ∨ (Cond.fieldLinkNest own index R0 n d host).before a0 Z = true) (via : Via Z R0 O n d) (eT : T.heap = h) {a : Addr} {v old : Value} (F : Fld Z h a O n d old) (E : Exa Z h a C)
    (L : (Cond.lays C O n d).before a0 Z = true ∨ ((Cond.laysFinal C O n d).before a0 Z = true ∧ own = O ∧ nm = "<init>")) (wi : (Cond.instantiable C kk).before a0 Z = true) (hty : parseFieldDescriptor d = some ty) (hn : narrow ty v = v) (hf : fits ty v = true) (ge : n0 ≤ a) (hd : decode bytes pc = .ok (.putfield index, 3)) (hp : pc + 3 = pc')
    (k : ∀ T' h', St p l e R s m args below meth c n0 T' cells slots → T'.heap = h' → Wr h h' a (Jvm.RoadKit.slotOf Z O n d) v → Go p e below s R n0 Q (T'.setTop (mkF m pc' Ls stk))) : Go p e below s R n0 Q (T.setTop (mkF m pc Ls (v :: .ref a :: stk))) := by
  subst hp; obtain ⟨locs, X, N⟩ := X
  obtain ⟨T', h', X', e', W', st⟩ := putF X K.hx K.hZ K.own' w via eT F E (L.imp id fun q => ⟨q.1, q.2.1, K.nm'.trans q.2.2⟩) wi hty hn hf (g := mkF m pc Ls (v :: .ref a :: stk)) rfl rfl (hb K.by' hd)
  exact go_by st (k T' h' ⟨_, X', Fr.snoc X' N ge⟩ e' W')
theorem go_new (K : Ctx p s m meth c Z own nm bytes maxL ret) (X : St p l e R s m args below meth c n0 T cells slots) {C : String} {index n : Nat} (w : (Cond.classLink own index C).before a0 Z = true) (wi : (Cond.instantiable C n).before a0 Z = true) (wz : (Cond.initialized C).before a0 Z = true) (eT : T.heap = h) (hd : decode bytes pc = .ok (.new index, 3)) (hp : pc + 3 = pc') (hc' : cells + 1 = cells') (hs' : slots + n = slots') (hc : cells' ≤ R.cells) (hs : slots' ≤ R.slots)
    (k : ∀ T' h' a, a = h.size → St p l e R s m args below meth c n0 T' cells' slots' → T'.heap = h' → Ext h h' → Exa Z h' a C → (∀ {O nm d : String} {ty : FieldType}, Laid Z a0 C O nm d → parseFieldDescriptor d = some ty → Fld Z h' a O nm d (defaultValue ty)) → Go p e below s R n0 Q (T'.setTop (mkF m pc' Ls (.ref a :: stk)))) : Go p e below s R n0 Q (T.setTop (mkF m pc Ls stk)) := by
  subst hp hc' hs'; obtain ⟨locs, X, N⟩ := X
  obtain ⟨T', h', X', e', E', A', D', -, st⟩ := newO X K.hx K.hZ K.own' w wi wz eT (g := mkF m pc Ls stk) rfl (hb K.by' hd) hc hs
  exact go_by st (k T' h' _ rfl ⟨_, X', N⟩ e' E' A' D')
theorem go_initO (K : Ctx p s m meth c Z own nm bytes maxL ret) (X : St p l e R s m args below meth c n0 T cells slots) {idx : Nat} {a : Addr} (w1 : (Cond.methodLink own idx Lib.objectInit).before a0 Z = true) (w2 : (Cond.instanceMethod Lib.objectInit).before a0 Z = true) (w3 : (Cond.code Lib.objectInit ⟨#[0xb1]⟩ 1 none).before a0 Z = true) (eT : T.heap = h) (hsize : Ls.size = maxL) (hd : decode bytes pc = .ok (.invokespecial idx, 3)) (hp : pc + 3 = pc')
    (hf : 1 ≤ R.frames) {W : Nat} (hW : (stk.map fun v => v.category).sum ≤ W) (hl : W + 12 ≤ R.locals)
    (k : ∀ T', St p l e R s m args below meth c n0 T' cells slots → T'.heap = h → Go p e below s R n0 Q (T'.setTop (mkF m pc' Ls stk))) : Go p e below s R n0 Q (T.setTop (mkF m pc Ls (.ref a :: stk))) := by
  subst hp; obtain ⟨locs, X, N⟩ := X
  obtain ⟨T', X', e', st⟩ := initO X K.hx K.hZ K.own' w1 w2 w3 eT (g := mkF m pc Ls (.ref a :: stk)) rfl (by rw [K.ml]; exact hsize) rfl (hb K.by' hd) hf (W := W) (by show 2 * 0 + _ ≤ _; omega) hl
  exact go_by st (k T' ⟨_, X', N⟩ e')
theorem go_cast (K : Ctx p s m meth c Z own nm bytes maxL ret) (X : St p l e R s m args below meth c n0 T cells slots) {C : String} {index : Nat} (w : (Cond.classLink own index C).before a0 Z = true) (eT : T.heap = h) {a : Addr} (F : Ins Z h a C true) (hd : decode bytes pc = .ok (.checkcast index, 3)) (hp : pc + 3 = pc')
    (k : ∀ T', St p l e R s m args below meth c n0 T' cells slots → T'.heap = h → Go p e below s R n0 Q (T'.setTop (mkF m pc' Ls (.ref a :: stk)))) : Go p e below s R n0 Q (T.setTop (mkF m pc Ls (.ref a :: stk))) := by
  subst hp; obtain ⟨locs, X, N⟩ := X
  obtain ⟨T', X', e', st⟩ := castY X K.hx K.hZ K.own' w eT F (g := mkF m pc Ls (.ref a :: stk)) rfl rfl (hb K.by' hd)
  exact go_by st (k T' ⟨_, X', N⟩ e')
def AV (Z : State) (h : Heap) (a : Addr) (ty : FieldType) (vs : List Value) : Prop := ∃ cl : Cell, Arr Z h a cl ty ∧ cl.slots = vs.toArray ∧ vs.length < 2 ^ 31
theorem AV.lt {a : Addr} {ty : FieldType} {vs : List Value} (F : AV Z h a ty vs) : a < h.size := by obtain ⟨cl, A, -⟩ := F; exact A.lt
theorem AV.keep {a : Addr} {ty : FieldType} {vs : List Value} {ws : List Addr} (F : AV Z h a ty vs) (K : Keep h h' ws) (q : a ∉ ws) : AV Z h' a ty vs := by
  obtain ⟨cl, A, r⟩ := F; exact ⟨cl, ⟨K.2.1 _ _ A.1 q, A.2⟩, r⟩
theorem AV.ext {a : Addr} {ty : FieldType} {vs : List Value} (F : AV Z h a ty vs) (E : Ext h h') : AV Z h' a ty vs := by
  obtain ⟨cl, A, r⟩ := F; exact ⟨cl, A.ext E, r⟩
theorem AV.len {a : Addr} {ty : FieldType} {vs : List Value} (F : AV Z h a ty vs) : vs.length < 2 ^ 31 := by obtain ⟨cl, -, -, r⟩ := F; exact r
theorem idx_nat {j : Int32} {i : Nat} (hj : j.toInt = (i : Int)) : j.toNatClampNeg = i ∧ ¬ j < 0 := by
  have h1 : j.toNatClampNeg = j.toInt.toNat := rfl
  have h2 : ¬ j < 0 := by rw [XT.negI32]; omega
  exact ⟨by rw [h1, hj]; rfl, h2⟩
theorem AV.in {a : Addr} {ty : FieldType} {vs : List Value} {cl : Cell} {j : Int32} {i : Nat} (hs : cl.slots = vs.toArray) (hj : j.toInt = (i : Int)) (hi : i < vs.length) : ¬ (j < 0 ∨ cl.slots.size ≤ j.toNatClampNeg) := by
  obtain ⟨h1, h2⟩ := idx_nat hj
  rintro (q | q)
  · exact h2 q
  · rw [h1, hs] at q
    simp at q
    omega
theorem AV.get {vs : List Value} {cl : Cell} {j : Int32} {i : Nat} {v : Value} (hs : cl.slots = vs.toArray) (hj : j.toInt = (i : Int)) (hv : vs[i]? = some v) : cl.slots[j.toNatClampNeg]? = some v := by
  rw [(idx_nat hj).1, hs]; simpa using hv
theorem AV.set {a : Addr} {ty : FieldType} {vs : List Value} {cl : Cell} {i : Nat} {v : Value} (A : Arr Z h a cl ty) (hs : cl.slots = vs.toArray) (hl : vs.length < 2 ^ 31) (W : Wr h h' a i v) : AV Z h' a ty (vs.set i v) := by
  refine ⟨_, A.same W, ?_, by simpa using hl⟩
  show cl.slots.setIfInBounds i v = _
  rw [hs]; simp
theorem lt_of_get {vs : List Value} {i : Nat} {v : Value} (hv : vs[i]? = some v) : i < vs.length := (List.getElem?_eq_some_iff.mp hv).1
theorem go_iaload (K : Ctx p s m meth c Z own nm bytes maxL ret) (X : St p l e R s m args below meth c n0 T cells slots) (eT : T.heap = h) {a : Addr} {vs : List Value} {j : Int32} {i : Nat} {v : Value} (F : AV Z h a .int vs) (hj : j.toInt = (i : Int)) (hv : vs[i]? = some v) (hd : decode bytes pc = .ok (.iaload, 1)) (hp : pc + 1 = pc')
    (k : Go p e below s R n0 Q (T.setTop (mkF m pc' Ls (v :: stk)))) : Go p e below s R n0 Q (T.setTop (mkF m pc Ls (.int j :: .ref a :: stk))) := by
  subst hp; obtain ⟨locs, X, N⟩ := X; obtain ⟨cl, A, hs, hl⟩ := F
  exact go_by (fun t k => X.iaload K.hx (by rw [eT]; exact A.1) (State.isArrayOf_alike K.hZ.alike A.2.1) A.2.2 (AV.in (a := a) (ty := .int) hs hj (lt_of_get hv)) (AV.get hs hj hv) (g := mkF m pc Ls (.int j :: .ref a :: stk)) rfl rfl (hb K.by' hd) t k) k
theorem go_aaload (K : Ctx p s m meth c Z own nm bytes maxL ret) (X : St p l e R s m args below meth c n0 T cells slots) (eT : T.heap = h) {a : Addr} {ty : FieldType} {vs : List Value} {j : Int32} {i : Nat} {v : Value} (F : AV Z h a ty vs) (hj : j.toInt = (i : Int)) (hv : vs[i]? = some v) (hty : ty.isReference = true) (hd : decode bytes pc = .ok (.aaload, 1)) (hp : pc + 1 = pc')
    (k : Go p e below s R n0 Q (T.setTop (mkF m pc' Ls (v :: stk)))) : Go p e below s R n0 Q (T.setTop (mkF m pc Ls (.int j :: .ref a :: stk))) := by
  subst hp; obtain ⟨locs, X, N⟩ := X; obtain ⟨cl, A, hs, hl⟩ := F
  exact go_by (fun t k => X.aaload K.hx (by rw [eT]; exact A.1) (State.isArrayOf_alike K.hZ.alike A.2.1) hty A.2.2 (AV.in (a := a) (ty := ty) hs hj (lt_of_get hv)) (AV.get hs hj hv) (g := mkF m pc Ls (.int j :: .ref a :: stk)) rfl rfl (hb K.by' hd) t k) k
theorem go_arraylength (K : Ctx p s m meth c Z own nm bytes maxL ret) (X : St p l e R s m args below meth c n0 T cells slots) (eT : T.heap = h) {a : Addr} {ty : FieldType} {vs : List Value} {z : Int32} (F : AV Z h a ty vs) (hz : vs.length.toInt32 = z) (hd : decode bytes pc = .ok (.arraylength, 1)) (hp : pc + 1 = pc')
    (k : Go p e below s R n0 Q (T.setTop (mkF m pc' Ls (.int z :: stk)))) : Go p e below s R n0 Q (T.setTop (mkF m pc Ls (.ref a :: stk))) := by
  subst hp hz; obtain ⟨locs, X, N⟩ := X; obtain ⟨cl, A, hs, hl⟩ := F
  refine go_by (fun t k => X.arraylength K.hx (by rw [eT]; exact A.1) (State.isArrayOf_alike K.hZ.alike A.2.1) (g := mkF m pc Ls (.ref a :: stk)) rfl rfl (hb K.by' hd) t ?_) k
  rw [show cl.slots.size = vs.length by rw [hs]; simp]; exact k
theorem go_iastore (K : Ctx p s m meth c Z own nm bytes maxL ret) (X : St p l e R s m args below meth c n0 T cells slots) (eT : T.heap = h) {a : Addr} {vs : List Value} {j : Int32} {x : Int32} {i : Nat} (F : AV Z h a .int vs) (hj : j.toInt = (i : Int)) (hi : i < vs.length) (ge : n0 ≤ a) (hd : decode bytes pc = .ok (.iastore, 1)) (hp : pc + 1 = pc')
    (k : ∀ T' h', St p l e R s m args below meth c n0 T' cells slots → T'.heap = h' → Wr h h' a i (.int x) → AV Z h' a .int (vs.set i (.int x)) → Go p e below s R n0 Q (T'.setTop (mkF m pc' Ls stk))) : Go p e below s R n0 Q (T.setTop (mkF m pc Ls (.int x :: .int j :: .ref a :: stk))) := by
  subst hp; obtain ⟨locs, X, N⟩ := X; obtain ⟨cl, A, hs, hl⟩ := F
  obtain ⟨T', h', X', e', W', st⟩ := stI X K.hx K.hZ eT A (AV.in (a := a) (ty := .int) hs hj hi) (g := mkF m pc Ls (.int x :: .int j :: .ref a :: stk)) rfl rfl (hb K.by' hd)
  have W2 := W'; rw [(idx_nat hj).1] at W2
  exact go_by st (k T' h' ⟨_, X', Fr.snoc X' N ge⟩ e' W2 (AV.set A hs hl W2))
theorem go_newarray (K : Ctx p s m meth c Z own nm bytes maxL ret) (X : St p l e R s m args below meth c n0 T cells slots) {aty : ArrayType} (w : (Cond.arrayClass (newarray.typeOf aty)).before a0 Z = true) (eT : T.heap = h) {j : Int32} {i cap : Nat} (hd : decode bytes pc = .ok (.newarray aty, 2)) (hj : j.toInt = (i : Int)) (hcap : i ≤ cap) (hb' : cap * 8 ≤ 536870912) (hp : pc + 2 = pc') (hc' : cells + 1 = cells') (hs' : slots + cap = slots') (hc : cells' ≤ R.cells) (hs : slots' ≤ R.slots)
    (k : ∀ T' h' a, a = h.size → St p l e R s m args below meth c n0 T' cells' slots' → T'.heap = h' → Ext h h' → AV Z h' a (newarray.typeOf aty) (List.replicate i (defaultValue (newarray.typeOf aty))) → Go p e below s R n0 Q (T'.setTop (mkF m pc' Ls (.ref a :: stk)))) : Go p e below s R n0 Q (T.setTop (mkF m pc Ls (.int j :: stk))) := by
  subst hp hc' hs'; obtain ⟨locs, X, N⟩ := X
  obtain ⟨h1, h2⟩ := idx_nat hj
  obtain ⟨T', h', cA, X', e', E', A', st⟩ := newP X K.hx K.hZ w eT (g := mkF m pc Ls (.int j :: stk)) rfl (hb K.by' hd) rfl h2 (cap := cap) (by rw [h1]; exact hcap) hb' hc hs
  refine go_by st (k T' h' _ rfl ⟨_, X', N⟩ e' E' ⟨_, A', ?_, ?_⟩)
  · show Array.replicate _ _ = _
    rw [h1]; simp
  · have := j.toInt_lt; rw [hj] at this; simp; omega
theorem nat32 {n : Nat} (h : n < 2 ^ 31) : n.toInt32.toNatClampNeg = n ∧ ¬ n.toInt32 < 0 := idx_nat (len_toInt h)
theorem AV.toArv {a : Addr} {ty : FieldType} {vs : List Value} (F : AV Z h a ty vs) (hf : ∀ v ∈ vs, fits ty v = true) (dv : Value) : ∃ k, Arv Z h a k ty vs.length.toInt32 vs dv := by
  obtain ⟨cl, A, hs, hl⟩ := F
  have hz : cl.slots.size = vs.length := by rw [hs]; simp
  refine ⟨cl.cls, cl, A, rfl, by rw [hz, (nat32 hl).1], (nat32 hl).2, fun i hi => ?_, fun i hi => ?_⟩
  · rw [hz] at hi
    rw [hs]; simp [List.getD, hi]
  · rw [hz] at hi
    have : vs.getD i dv = vs[i] := by simp [List.getD, hi]
    rw [this]; exact hf _ (List.getElem_mem hi)
theorem Arv.toAV {a : Addr} {k : ClassId} {ty : FieldType} {z : Int32} {vs : List Value} {dv : Value} (F : Arv Z h a k ty z vs dv) (hl : z.toNatClampNeg = vs.length) : AV Z h a ty vs := by
  obtain ⟨cl, A, -, hs, hn, H, -⟩ := F
  refine ⟨cl, A, ?_, ?_⟩
  · apply Array.ext
    · rw [hs, hl]; simp
    · intro i h1 h2
      have := H i h1
      have h3 : i < vs.length := by rw [hs, hl] at h1; exact h1
      rw [Array.getElem?_eq_getElem h1] at this
      have e := Option.some.inj this
      rw [e]; simp [List.getD, h3]
  · rw [← hl]; exact (back32 hn).2
theorem go_newarrayE (K : Ctx p s m meth c Z own nm bytes maxL ret) (X : St p l e R s m args below meth c n0 T cells slots) {aty : ArrayType} {ad : String} (had : "[" ++ (newarray.typeOf aty).toString = ad) (w : (Cond.arrayClass (newarray.typeOf aty)).before a0 Z = true) (eT : T.heap = h) {j : Int32} {i cap : Nat} (hd : decode bytes pc = .ok (.newarray aty, 2)) (hj : j.toInt = (i : Int)) (hcap : i ≤ cap) (hb' : cap * 8 ≤ 536870912) (hp : pc + 2 = pc') (hc' : cells + 1 = cells') (hs' : slots + cap = slots') (hc : cells' ≤ R.cells) (hs : slots' ≤ R.slots)
    (k : ∀ T' h' a, a = h.size → St p l e R s m args below meth c n0 T' cells' slots' → T'.heap = h' → Ext h h' → AV Z h' a (newarray.typeOf aty) (List.replicate i (defaultValue (newarray.typeOf aty))) → Exa Z h' a ad → Go p e below s R n0 Q (T'.setTop (mkF m pc' Ls (.ref a :: stk)))) : Go p e below s R n0 Q (T.setTop (mkF m pc Ls (.int j :: stk))) := by
  subst hp hc' hs'; obtain ⟨locs, X, N⟩ := X
  obtain ⟨h1, h2⟩ := idx_nat hj
  obtain ⟨T', h', cA, X', e', E', A', x', st⟩ := newPE X K.hx K.hZ w eT (g := mkF m pc Ls (.int j :: stk)) rfl (hb K.by' hd) rfl h2 (cap := cap) (by rw [h1]; exact hcap) hb' hc hs had
  refine go_by st (k T' h' _ rfl ⟨_, X', N⟩ e' E' ⟨_, A', ?_, ?_⟩ x')
  · show Array.replicate _ _ = _
    rw [h1]; simp
  · have := j.toInt_lt; rw [hj] at this; simp; omega
theorem go_clone (K : Ctx p s m meth c Z own nm bytes maxL ret) (X : St p l e R s m args below meth c n0 T cells slots) {ad : String} {index : Nat} (w1 : (Cond.methodLink own index ⟨ad, "clone", "()Ljava/lang/Object;"⟩).before a0 Z = true) (w2 : (Cond.sameMethod ad "java/lang/Object" "clone" "()Ljava/lang/Object;").before a0 Z = true) (w3 : (Cond.native ⟨"java/lang/Object", "clone", "()Ljava/lang/Object;"⟩).before a0 Z = true)
    (w4 : (Cond.instanceMethod ⟨"java/lang/Object", "clone", "()Ljava/lang/Object;"⟩).before a0 Z = true) (w5 : (Cond.selects ad ⟨ad, "clone", "()Ljava/lang/Object;"⟩ ⟨"java/lang/Object", "clone", "()Ljava/lang/Object;"⟩).before a0 Z = true) (w6 : (Cond.castable ad "java/lang/Cloneable").before a0 Z = true)
    (eT : T.heap = h) {a : Addr} {ty : FieldType} {vs : List Value} (F : AV Z h a ty vs) (E : Exa Z h a ad) (hfit : ∀ v ∈ vs, fits ty v = true) (hsize : Ls.size = maxL) (hd : decode bytes pc = .ok (.invokevirtual index, 3)) (hp : pc + 3 = pc')
    (hf : 1 ≤ R.frames) {W cap : Nat} (hW : (stk.map fun v => v.category).sum ≤ W) (hl : W + 14 ≤ R.locals) (hcap : vs.length ≤ cap) (hc' : cells + 1 = cells') (hs' : slots + cap = slots') (hc : cells' ≤ R.cells) (hs : slots' ≤ R.slots)
    (k : ∀ T' h' b, b = h.size → St p l e R s m args below meth c n0 T' cells' slots' → T'.heap = h' → Ext h h' → AV Z h' b ty vs → Exa Z h' b ad → Go p e below s R n0 Q (T'.setTop (mkF m pc' Ls (.ref b :: stk)))) : Go p e below s R n0 Q (T.setTop (mkF m pc Ls (.ref a :: stk))) := by
  subst hp hc' hs'; obtain ⟨locs, X, N⟩ := X
  obtain ⟨kk, V⟩ := F.toArv hfit .null
  have hlen := F.len
  obtain ⟨T', h', X', e', E', V', x', st⟩ := cloneH X K.hx K.hZ K.own' w1 w2 w3 w4 w5 w6 eT (Arv.arh V) E (g := mkF m pc Ls (.ref a :: stk)) rfl (by rw [K.ml]; exact hsize) rfl (hb K.by' hd) hf (W := W) (by show 2 * 0 + _ ≤ _; omega) hl (cap := cap) (by rw [(nat32 hlen).1]; exact hcap) hc hs
  exact go_by st (k T' h' _ rfl ⟨_, X', N⟩ e' E' (Arv.toAV V' (nat32 hlen).1) x')
theorem go_arraycopy (K : Ctx p s m meth c Z own nm bytes maxL ret) (X : St p l e R s m args below meth c n0 T cells slots) {index : Nat} (w1 : (Cond.methodLink own index Jvm.Stand.acN).before a0 Z = true) (w2 : (Cond.native Jvm.Stand.acN).before a0 Z = true) (w3 : (Cond.static Jvm.Stand.acN).before a0 Z = true) (w4 : (Cond.initialized "java/lang/System").before a0 Z = true)
    (eT : T.heap = h) {a b : Addr} {ty : FieldType} {vs vd us : List Value} {sp dp nn : Int32} {i j n : Nat} (F : AV Z h a ty vs) (G : AV Z h b ty vd) (hty : refKind ty = false) (hf1 : ∀ v ∈ vs, fits ty v = true) (hf2 : ∀ v ∈ vd, fits ty v = true) (hi : sp.toInt = (i : Int)) (hj : dp.toInt = (j : Int)) (hn : nn.toInt = (n : Int)) (h4 : i + n ≤ vs.length) (h5 : j + n ≤ vd.length) (hus : us = vd.take j ++ (vs.drop i).take n ++ vd.drop (j + n)) (ge : n0 ≤ b) (hsize : Ls.size = maxL) (hd : decode bytes pc = .ok (.invokestatic index, 3)) (hp : pc + 3 = pc')
    (hf : 1 ≤ R.frames) {W : Nat} (hW : (stk.map fun v => v.category).sum ≤ W) (hlo : W + (nativeFrameWords "java/lang/System" "arraycopy" 5 + 11) ≤ R.locals)
    (k : ∀ T' h', St p l e R s m args below meth c n0 T' cells slots → T'.heap = h' → Keep h h' [b] → AV Z h' b ty us → Go p e below s R n0 Q (T'.setTop (mkF m pc' Ls stk))) : Go p e below s R n0 Q (T.setTop (mkF m pc Ls (.int nn :: .int dp :: .ref b :: .int sp :: .ref a :: stk))) := by
  subst hp; obtain ⟨locs, X, N⟩ := X
  obtain ⟨k1, V1⟩ := F.toArv hf1 .null
  obtain ⟨k2, V2⟩ := G.toArv hf2 .null
  obtain ⟨i1, i2⟩ := idx_nat hi
  obtain ⟨j1, j2⟩ := idx_nat hj
  obtain ⟨n1, n2⟩ := idx_nat hn
  have l1 := (nat32 F.len).1
  have l2 := (nat32 G.len).1
  have e3 : (List.range n).map (fun q => vs.getD (i + q) .null) = (vs.drop i).take n := by
    apply List.ext_getElem
    · simp; omega
    · intro q h6 h7
      have : q < n := by simpa using h6
      have h8 : i + q < vs.length := by omega
      simp [List.getD, h8]
  obtain ⟨T', h', L', X', e', N', KK, V', st⟩ := cpA X K.hx K.hZ K.own' w1 w2 w3 w4 eT V1 V2 (Or.inl ⟨rfl, hty⟩) i2 j2 n2 (by rw [i1, n1, l1]; exact h4) (by rw [j1, n1, l2]; exact h5) rfl (by rw [j1, n1]; exact h5) N ge (g := mkF m pc Ls (.int nn :: .int dp :: .ref b :: .int sp :: .ref a :: stk)) rfl (by rw [K.ml]; exact hsize) rfl (hb K.by' hd) hf (W := W) (by show 2 * 0 + _ ≤ _; omega) hlo
  rw [i1, j1, n1, e3, ← hus] at V'
  have hl : us.length = vd.length := by rw [hus]; simp; omega
  exact go_by st (k T' h' ⟨_, X', N'⟩ e' KK (Arv.toAV V' (by rw [l2, hl])))
theorem go_static (K : Ctx p s m meth c Z own nm bytes maxL ret) (X : St p l e R s m args below meth c n0 T cells slots) {index : Nat} {y : MethodName} {bytes' : ByteArray} {maxL' : Nat} {ret' : Option FieldType} {rm : Room} {Q' : Option Value → Heap → Prop} {argsL st0 : List Value}
    (w1 : (Cond.methodLink own index y).before a0 Z = true) (w2 : (Cond.static y).before a0 Z = true) (w3 : (Cond.initialized y.cls).before a0 Z = true) (w4 : (Cond.code y bytes' maxL' ret').before a0 Z = true) (hy : y.cls ≠ "java/lang/invoke/MethodHandle" ∧ y.cls ≠ "java/lang/invoke/VarHandle")
    (hlen : ∀ sig, parseMethodDescriptor y.desc = some sig → argsL.length = sig.parameters.length) (eT : T.heap = h) (C : Con l Z n0 y bytes' maxL' ret' rm argsL.toArray h Q') (hst : st0 = argsL.reverse ++ stk) (hsize : Ls.size = maxL) (hd : decode bytes pc = .ok (.invokestatic index, 3)) (hp : pc + 3 = pc')
    (hf : rm.frames + 1 ≤ R.frames) {W : Nat} (hW : (stk.map fun v => v.category).sum ≤ W) (hl : W + (maxL' + 11) + rm.locals ≤ R.locals) (hc' : cells + rm.cells = cells') (hs' : slots + rm.slots = slots') (hc : cells' ≤ R.cells) (hs : slots' ≤ R.slots)
    (k : ∀ T' h' v, St p l e R s m args below meth c n0 T' cells' slots' → T'.heap = h' → Q' v h' → Go p e below s R n0 Q (T'.setTop (mkF m pc' Ls (v.toList ++ stk)))) : Go p e below s R n0 Q (T.setTop (mkF m pc Ls st0)) := by
  subst hp hc' hs' hst; obtain ⟨locs, X, N⟩ := X
  obtain ⟨_, _, ⟨T1, L1, k1, n1⟩, -, X1, ⟨Lc1, hQ1, l1, y1, z1⟩, st1⟩ := Jvm.LawKit.callS X K.hx K.own' (mvT K.hZ w1) (mvT K.hZ w2) (mvT K.hZ w3) (mvT K.hZ w4) hy (backOf (W := W) (Q := fun v u L => Q' v u ∧ Fr n0 L) (C []) K.hZ w4 w3 hf hl) (g := mkF m pc Ls (argsL.reverse ++ stk)) rfl (by rw [K.ml]; exact hsize) (argsL := argsL) (rest := stk) hlen rfl (by show 2 * 0 + _ ≤ _; omega) (hb K.by' hd) (fun _ _ => ⟨rfl, eT, hc, hs⟩)
  dsimp only [Pt.U, Pt.locs, Pt.cells, Pt.slots] at X1 l1 y1 z1 st1 hQ1
  subst l1 y1 z1
  exact go_by st1 (k T1 _ _ ⟨_, X1, Fr.app N hQ1.2⟩ rfl hQ1.1)
theorem go_init (K : Ctx p s m meth c Z own nm bytes maxL ret) (X : St p l e R s m args below meth c n0 T cells slots) {index : Nat} {y : MethodName} {bytes' : ByteArray} {maxL' : Nat} {rm : Room} {Q' : Option Value → Heap → Prop} {a : Addr} {argsL st0 : List Value}
    (w1 : (Cond.methodLink own index y).before a0 Z = true) (w2 : (Cond.instanceMethod y).before a0 Z = true) (w3 : (Cond.initialized y.cls).before a0 Z = true) (w4 : (Cond.code y bytes' maxL' none).before a0 Z = true) (hy : y.cls ≠ "java/lang/invoke/MethodHandle" ∧ y.cls ≠ "java/lang/invoke/VarHandle") (hi : y.name = "<init>")
    (hlen : ∀ sig, parseMethodDescriptor y.desc = some sig → argsL.length = sig.parameters.length) (eT : T.heap = h) (C : Con l Z n0 y bytes' maxL' none rm (.ref a :: argsL).toArray h Q') (hst : st0 = argsL.reverse ++ .ref a :: stk) (hsize : Ls.size = maxL) (hd : decode bytes pc = .ok (.invokespecial index, 3)) (hp : pc + 3 = pc')
    (hf : rm.frames + 1 ≤ R.frames) {W : Nat} (hW : (stk.map fun v => v.category).sum ≤ W) (hl : W + (maxL' + 11) + rm.locals ≤ R.locals) (hc' : cells + rm.cells = cells') (hs' : slots + rm.slots = slots') (hc : cells' ≤ R.cells) (hs : slots' ≤ R.slots)
    (k : ∀ T' h' v, St p l e R s m args below meth c n0 T' cells' slots' → T'.heap = h' → Q' v h' → Go p e below s R n0 Q (T'.setTop (mkF m pc' Ls (v.toList ++ stk)))) : Go p e below s R n0 Q (T.setTop (mkF m pc Ls st0)) := by
  subst hp hc' hs' hst; obtain ⟨locs, X, N⟩ := X
  obtain ⟨_, _, ⟨T1, L1, k1, n1⟩, -, X1, ⟨Lc1, hQ1, l1, y1, z1⟩, st1⟩ := X.specialBack K.hx hi K.own' (mvT K.hZ w1) (mvT K.hZ w2) (mvT K.hZ w4) hy (backOf (W := W) (Q := fun v u L => Q' v u ∧ Fr n0 L) (C []) K.hZ w4 w3 hf hl) (g := mkF m pc Ls (argsL.reverse ++ .ref a :: stk)) rfl (by rw [K.ml]; exact hsize) (Steps.refl _) (a := a) (argsL := argsL) (rest := stk) hlen rfl (by show 2 * 0 + _ ≤ _; omega) (hb K.by' hd) (fun _ _ => ⟨rfl, eT, hc, hs⟩)
  dsimp only [Pt.U, Pt.locs, Pt.cells, Pt.slots] at X1 l1 y1 z1 st1 hQ1
  subst l1 y1 z1
  exact go_by (fun t k => st1.trans k) (k T1 _ _ ⟨_, X1, Fr.app N hQ1.2⟩ rfl hQ1.1)
theorem go_virt (K : Ctx p s m meth c Z own nm bytes maxL ret) (X : St p l e R s m args below meth c n0 T cells slots) {C : String} {index : Nat} {y z : MethodName} {bytes' : ByteArray} {maxL' : Nat} {ret' : Option FieldType} {rm : Room} {Q' : Option Value → Heap → Prop} {a : Addr} {argsL st0 : List Value}
    (w1 : (Cond.methodLink own index y).before a0 Z = true) (w2 : (Cond.declares y).before a0 Z = true) (wn : (Cond.selects y.cls y y).before a0 Z = true) (w3 : (Cond.selects C y z).before a0 Z = true) (w4 : (Cond.instanceMethod z).before a0 Z = true) (w5 : (Cond.code z bytes' maxL' ret').before a0 Z = true) (w6 : (Cond.initialized z.cls).before a0 Z = true) (hy : y.cls ≠ "java/lang/invoke/MethodHandle" ∧ y.cls ≠ "java/lang/invoke/VarHandle")
    (hlen : ∀ sig, parseMethodDescriptor y.desc = some sig → argsL.length = sig.parameters.length) (eT : T.heap = h) (E : Exa Z h a C) (C0 : Con l Z n0 z bytes' maxL' ret' rm (.ref a :: argsL).toArray h Q') (hst : st0 = argsL.reverse ++ .ref a :: stk) (hsize : Ls.size = maxL) (hd : decode bytes pc = .ok (.invokevirtual index, 3)) (hp : pc + 3 = pc')
    (hf : rm.frames + 1 ≤ R.frames) {W : Nat} (hW : (stk.map fun v => v.category).sum ≤ W) (hl : W + (maxL' + 11) + rm.locals ≤ R.locals) (hc' : cells + rm.cells = cells') (hs' : slots + rm.slots = slots') (hc : cells' ≤ R.cells) (hs : slots' ≤ R.slots)
    (k : ∀ T' h' v, St p l e R s m args below meth c n0 T' cells' slots' → T'.heap = h' → Q' v h' → Go p e below s R n0 Q (T'.setTop (mkF m pc' Ls (v.toList ++ stk)))) : Go p e below s R n0 Q (T.setTop (mkF m pc Ls st0)) := by
  subst hp hc' hs' hst; obtain ⟨locs, X, N⟩ := X
  obtain ⟨cq, kq, qa, qb, qc⟩ := isOf K.hZ eT E
  obtain ⟨_, _, ⟨T1, L1, k1, n1⟩, -, X1, ⟨Lc1, hQ1, l1, y1, z1⟩, st1⟩ := X.virtualBack K.hx K.own' (mvT K.hZ w1) (mvT K.hZ w2) (notFace_of_selects (args := #[]) (mvT K.hZ wn)) (mvT K.hZ w3) (mvT K.hZ w4) hy (backOf (W := W) (Q := fun v u L => Q' v u ∧ Fr n0 L) (C0 []) K.hZ w5 w6 hf hl) qa qc (g := mkF m pc Ls (argsL.reverse ++ .ref a :: stk)) rfl (by rw [K.ml]; exact hsize) (Steps.refl _) (argsL := argsL) (rest := stk) hlen rfl (by show 2 * 0 + _ ≤ _; omega) (hb K.by' hd) (fun _ _ => ⟨rfl, eT, hc, hs⟩)
  dsimp only [Pt.U, Pt.locs, Pt.cells, Pt.slots] at X1 l1 y1 z1 st1 hQ1
  subst l1 y1 z1
  exact go_by (fun t k => st1.trans k) (k T1 _ _ ⟨_, X1, Fr.app N hQ1.2⟩ rfl hQ1.1)
end OwnKit
section OwnFp
open Jvm.FP
open Jvm.FP.Core (DInt val64 DFin zval b64 one64)
open Jvm.Native.java_lang_Math.nans (pick64)
abbrev Dz (z : Int) (a : UInt64) : Prop := DInt z a
theorem Dz.nn {z : Int} {a : UInt64} (h : Dz z a) : val64 a ≠ .nan := Core.DInt_ne_nan h
theorem mask_le {a : UInt64} (h : val64 a ≠ .nan) : a &&& 0x7fffffffffffffff ≤ 0x7ff0000000000000 := by
  rw [UInt64.le_iff_toNat_le, Core.mask_toNat]; exact (Core.ne_nan a).mp h
theorem isNaN_f {a : UInt64} (h : val64 a ≠ .nan) : FP.dIsNaN a = false := (Core.notNaN_iff a).mpr h
theorem Dz.add {i j k : Int} {a b : UInt64} (ha : Dz i a) (hb : Dz j b) (e : i + j = k) (h1 : -9007199254740992 ≤ k ∧ k ≤ 9007199254740992) : Dz k (FP.dadd a b) := by
  subst e; exact Core.dadd_int ha hb (by rw [show (2 : Nat) ^ 53 = 9007199254740992 from by decide]; omega)
theorem Dz.sub {i j k : Int} {a b : UInt64} (ha : Dz i a) (hb : Dz j b) (e : i - j = k) (h1 : -9007199254740992 ≤ k ∧ k ≤ 9007199254740992) : Dz k (FP.dsub a b) := by
  subst e; exact Core.dsub_int ha hb (by rw [show (2 : Nat) ^ 53 = 9007199254740992 from by decide]; omega)
theorem Dz.mul {i j k : Int} {a b : UInt64} (ha : Dz i a) (hb : Dz j b) (e : i * j = k) (h1 : -9007199254740992 ≤ k ∧ k ≤ 9007199254740992) : Dz k (FP.dmul a b) := by
  subst e; exact Core.dmul_int ha hb (by rw [show (2 : Nat) ^ 53 = 9007199254740992 from by decide]; omega)
theorem Dz.neg {i k : Int} {a : UInt64} (ha : Dz i a) (e : -i = k) : Dz k (FP.dneg a) := by
  subst e; rw [dneg_core (isNaN_f ha.nn)]; exact Core.dneg_int ha
theorem Dz.cmp {i j : Int} {a b : UInt64} (ha : Dz i a) (hb : Dz j b) : FP.dcmp a b = some (compare i j) := Core.dcmp_int ha hb
theorem Dz.zero : Dz 0 0 := by
  have h := Core.l2d_int (a := 0) (by decide)
  rw [show Core.l2d 0 = 0 from by decide +kernel] at h; exact h
theorem Dz.one : Dz 1 4607182418800017408 := Core.dint_one
theorem Dz.mone : Dz (-1) 13830554455654793216 := by
  have h := Core.l2d_int (a := -1) (by decide)
  rw [show Core.l2d (-1) = 13830554455654793216 from by decide +kernel] at h; exact h
theorem Dz.abs {i k : Int} {a : UInt64} (ha : Dz i a) (e : (i.natAbs : Int) = k) : Dz k (a &&& 0x7fffffffffffffff) := by
  subst e
  have hc := Dz.cmp ha Dz.zero
  rcases Int.lt_trichotomy i 0 with q | q | q
  · rw [Core.compare_lt_iff _ _ |>.mpr q] at hc
    rw [Core.abs_neg hc, show ((i.natAbs : Nat) : Int) = -i by omega]; exact Core.dneg_int ha
  · subst q
    rw [Core.compare_eq_iff _ _ |>.mpr rfl] at hc
    rw [Core.abs_zero hc]; exact Dz.zero
  · rw [Core.compare_gt_iff _ _ |>.mpr q] at hc
    rw [Core.abs_pos hc, show ((i.natAbs : Nat) : Int) = i by omega]; exact ha
theorem one_bits {b : UInt64} (hb : Dz 1 b) : b = Core.dconst1 := Core.dint_unique (by decide) hb Core.dint_one
theorem Dz.div1 {i : Int} {a b : UInt64} (ha : Dz i a) (hb : Dz 1 b) : Dz i (FP.ddiv a b) := by
  rw [one_bits hb]; rw [show FP.ddiv a Core.dconst1 = a from Core.ddiv_one ha.nn]; exact ha
theorem div_mone {a : UInt64} (h : DFin a) : val64 (FP.ddiv a 13830554455654793216) = Core.negate (val64 a) := by
  obtain ⟨s, c, q, e⟩ := h
  have f := Core.quotient_one Core.good_b64 (Core.val64_fits a) 52
  show val64 (Core.ddiv a 13830554455654793216) = _
  rw [Core.val64_ddiv, show val64 13830554455654793216 = .fin true (2 ^ 52) (-(52 : Nat)) from by decide +kernel]
  rw [e] at f ⊢
  have n2 : (2 : Nat) ^ 52 ≠ 0 := by decide
  simp only [Core.quotient, n2, if_false] at f ⊢
  rw [show (s != true) = !(s != false) by cases s <;> rfl, ← Core.negate_roundRatio, f]
theorem Dz.fin {i : Int} {a : UInt64} (h : Dz i a) : DFin a := by
  have h' := h; unfold Dz DInt at h'
  unfold DFin
  revert h'
  cases val64 a with
  | nan => intro h; exact h.elim
  | inf s => intro h; exact h.elim
  | fin s c q => intro _; exact ⟨s, c, q, rfl⟩
theorem Dz.divm {i k : Int} {a b : UInt64} (ha : Dz i a) (hb : Dz (-1) b) (e : -i = k) : Dz k (FP.ddiv a b) := by
  subst e
  rw [Core.dint_unique (by decide) hb Dz.mone]
  show Core.Whole (-i) (val64 _)
  rw [div_mone ha.fin]; exact Core.whole_negate ha
def Ep (b : UInt64) : Prop := val64 b ≠ .nan ∧ DFin b ∧ 0 < zval b64 (val64 b) ∧ zval b64 (val64 b) < (one64 : Int)
def En (b : UInt64) : Prop := val64 b ≠ .nan ∧ DFin b ∧ zval b64 (val64 b) < 0 ∧ -(one64 : Int) < zval b64 (val64 b)
def Dge (z : Int) (b : UInt64) : Prop := DFin b ∧ z * (one64 : Int) ≤ zval b64 (val64 b)
theorem fin_nn {a : UInt64} (h : DFin a) : val64 a ≠ .nan := by obtain ⟨s, c, q, e⟩ := h; rw [e]; exact fun q => by cases q
theorem ep_of {b : UInt64} (h1 : b.toNat % 2 ^ 63 < 9218868437227405312) (h2 : decide (0 < zval b64 (val64 b) ∧ zval b64 (val64 b) < (one64 : Int)) = true) : Ep b := by
  have h := (Core.fin_bits b).mpr h1
  exact ⟨fin_nn h, h, of_decide_eq_true h2⟩
theorem en_of {b : UInt64} (h1 : b.toNat % 2 ^ 63 < 9218868437227405312) (h2 : decide (zval b64 (val64 b) < 0 ∧ -(one64 : Int) < zval b64 (val64 b)) = true) : En b := by
  have h := (Core.fin_bits b).mpr h1
  exact ⟨fin_nn h, h, of_decide_eq_true h2⟩
theorem ep_9 : Ep 4472406533629990549 := ep_of (by decide) (by decide +kernel)
theorem ep_7 : Ep 4502148214488346440 := ep_of (by decide) (by decide +kernel)
theorem ep_12 : Ep 4427486594234968593 := ep_of (by decide) (by decide +kernel)
theorem en_7 : En 13725520251343122248 := en_of (by decide) (by decide +kernel)
theorem one_pos : (0 : Int) < (one64 : Int) := by have := Core.one64_pos; omega
theorem Ep.gt {i : Int} {a b : UInt64} (ha : Dz i a) (hb : Ep b) (h : 0 < i) : FP.dcmp a b = some .gt := by
  refine Core.dcmp_gt.mpr ⟨ha.nn, hb.1, ?_⟩
  rw [Core.DInt_zval ha]
  have := hb.2.2.2
  have h3 : (1 : Int) * (one64 : Int) ≤ i * (one64 : Int) := Int.mul_le_mul_of_nonneg_right h (Int.le_of_lt one_pos)
  omega
theorem Ep.lt {i : Int} {a b : UInt64} (ha : Dz i a) (hb : Ep b) (h : i ≤ 0) : FP.dcmp a b = some .lt := by
  refine Core.dcmp_lt.mpr ⟨ha.nn, hb.1, ?_⟩
  rw [Core.DInt_zval ha]
  have := hb.2.2.1
  have h3 : i * (one64 : Int) ≤ 0 * (one64 : Int) := Int.mul_le_mul_of_nonneg_right h (Int.le_of_lt one_pos)
  omega
theorem En.gt {i : Int} {a b : UInt64} (ha : Dz i a) (hb : En b) (h : 0 ≤ i) : FP.dcmp a b = some .gt := by
  refine Core.dcmp_gt.mpr ⟨ha.nn, hb.1, ?_⟩
  rw [Core.DInt_zval ha]
  have := hb.2.2.1
  have h3 : 0 * (one64 : Int) ≤ i * (one64 : Int) := Int.mul_le_mul_of_nonneg_right h (Int.le_of_lt one_pos)
  omega
theorem Dge.add {i : Int} {a b : UInt64} (ha : Dz i a) (hb : Ep b) (h0 : 0 ≤ i) (h1 : i ≤ 1048575) : Dge i (FP.dadd a b) ∧ val64 (FP.dadd a b) ≠ .nan := by
  have hge : zval b64 (val64 a) ≤ zval b64 (val64 (Core.dadd a b)) := by
    rw [Core.val64_dadd]
    exact Core.sum_ge Core.good_b64 ha.fin hb.2.1 (Core.val64_fits a) (Core.val64_fits b) (Core.val64_fits a) ha.nn (by have := hb.2.2.1; omega)
  have ub : Dz 1048576 (4697254411347427328 : UInt64) := by
    have h := Core.l2d_int (a := 1048576) (by decide)
    rw [show Core.l2d 1048576 = 4697254411347427328 from by decide +kernel] at h; exact h
  have hle : zval b64 (val64 (Core.dadd a b)) ≤ zval b64 (val64 (4697254411347427328 : UInt64)) := by
    rw [Core.val64_dadd]
    refine Core.sum_le Core.good_b64 ha.fin hb.2.1 (Core.val64_fits a) (Core.val64_fits b) (Core.val64_fits _) ub.nn ?_
    rw [Core.DInt_zval ha, Core.DInt_zval ub]
    have := hb.2.2.2
    have h3 : i * (one64 : Int) ≤ 1048575 * (one64 : Int) := Int.mul_le_mul_of_nonneg_right h1 (Int.le_of_lt one_pos)
    omega
  have hn : val64 (Core.dadd a b) ≠ .nan := by
    rw [Core.val64_dadd]
    obtain ⟨s, c, q, e1⟩ := ha.fin
    obtain ⟨t, d, r, e2⟩ := hb.2.1
    rw [e1, e2]; intro h; have h2 := Core.round_nan.mp h; cases h2
  rw [Core.DInt_zval ub] at hle
  rw [Core.DInt_zval ha] at hge
  have h4 : 0 * (one64 : Int) ≤ i * (one64 : Int) := Int.mul_le_mul_of_nonneg_right h0 (Int.le_of_lt one_pos)
  refine ⟨⟨?_, hge⟩, hn⟩
  show ∃ s c q, val64 (Core.dadd a b) = _
  revert hn hle hge
  cases val64 (Core.dadd a b) with
  | nan => intro _ _ h; exact absurd rfl h
  | inf s =>
    intro h2 h1 _
    have tp : (1048576 : Int) * (one64 : Int) < ((Core.zmag b64 (.inf s) : Nat) : Int) := by cases s <;> decide +kernel
    cases s
    · have : zval b64 (.inf false) = ((Core.zmag b64 (.inf false) : Nat) : Int) := rfl
      omega
    · have : zval b64 (.inf true) = -((Core.zmag b64 (.inf true) : Nat) : Int) := rfl
      have := one_pos
      omega
  | fin s c q => intro _ _ _; exact ⟨s, c, q, rfl⟩
theorem Dge.div1 {i : Int} {a b : UInt64} (ha : Dge i a) (hb : Dz 1 b) : FP.ddiv a b = a := by
  rw [one_bits hb]; exact Core.ddiv_one (fin_nn ha.1)
theorem Dge.dv {i : Int} {a b : UInt64} (ha : Dge i a) (hb : Dz 1 b) : Dge i (FP.ddiv a b) := by rw [Dge.div1 ha hb]; exact ha
theorem Ep.two {b : UInt64} (hb : Dz 2 b) : Ep (FP.dmul 4502148214488346440 b) := by
  have h := Core.l2d_int (a := 2) (by decide)
  rw [show Core.l2d 2 = 4611686018427387904 from by decide +kernel] at h
  rw [Core.dint_unique (by decide) hb h, show FP.dmul 4502148214488346440 4611686018427387904 = 4506651814115716936 from by decide +kernel]
  exact ep_of (by decide) (by decide +kernel)
theorem Dge.min {i : Int} {a : UInt64} (ha : Dge i a) : pick64 false 9218868437227405312 a = a := by
  have h := (Core.fin_lt_inf ha.1).2.2.1
  simp only [pick64, show FP.dcmp 9218868437227405312 a = some .gt from h]
  rfl
theorem Dge.le {i : Int} {a b : UInt64} (ha : Dz i a) (hb : Dge i b) : FP.dcmp a b = some .lt ∨ FP.dcmp a b = some .eq := by
  refine Core.dcmp_le.mpr ⟨ha.nn, fin_nn hb.1, ?_⟩
  rw [Core.DInt_zval ha]; exact hb.2
theorem Dz.max0 {i j k : Int} {a b : UInt64} (ha : Dz i a) (hb : Dz j b) (e : (if i < j then j else i) = k) : Dz k (pick64 true a b) := by
  subst e
  have hc := Dz.cmp ha hb
  rcases Int.lt_trichotomy i j with q | q | q
  · rw [Core.compare_lt_iff _ _ |>.mpr q] at hc
    simp only [pick64, hc, if_pos q]; exact hb
  · subst q
    rw [Core.compare_eq_iff _ _ |>.mpr rfl] at hc
    simp only [pick64, hc, Int.lt_irrefl, if_false]
    split <;> assumption
  · rw [Core.compare_gt_iff _ _ |>.mpr q] at hc
    simp only [pick64, hc, if_neg (show ¬ i < j by omega)]; exact ha
end OwnFp
section OwnDbl
open Jvm.FP.Core (DInt val64 DFin zval b64 one64)
open Jvm.Native.java_lang_Math.nans (pick64)
variable {p : Program} {l : Launch} {e : Env} {R : Room} {s : State} {m : MethodId} {args : Array Value} {below : List Frame} {meth : Method} {c : Code} {T : State} {cells slots cells' slots' : Nat} {Z : State} {a0 : Array Value} {h h' : Heap} {n0 : Nat} {Q : Option Value → Heap → Prop} {own nm : String} {bytes : ByteArray} {maxL : Nat} {ret : Option FieldType} {pc pc' pt : Nat} {Ls : Array Slot} {stk : List Value}
theorem go_dloadN (K : Ctx p s m meth c Z own nm bytes maxL ret) (X : St p l e R s m args below meth c n0 T cells slots) {k0 : Fin 4} {v : UInt64} (hd : decode bytes pc = .ok (.dload_n k0, 1)) (hl : Ls[k0.val]? = some (.val (.double v))) (hp : pc + 1 = pc')
    (k : Go p e below s R n0 Q (T.setTop (mkF m pc' Ls (.double v :: stk)))) : Go p e below s R n0 Q (T.setTop (mkF m pc Ls (stk))) := by
  subst hp; obtain ⟨locs, X, N⟩ := X
  exact go_by (fun t k => XS.dloadN X.here K.hx rfl (hb K.by' hd) hl k) k
theorem go_dload (K : Ctx p s m meth c Z own nm bytes maxL ret) (X : St p l e R s m args below meth c n0 T cells slots) {k0 : Nat} {v : UInt64} (hd : decode bytes pc = .ok (.dload k0, 2)) (hl : Ls[k0]? = some (.val (.double v))) (hp : pc + 2 = pc')
    (k : Go p e below s R n0 Q (T.setTop (mkF m pc' Ls (.double v :: stk)))) : Go p e below s R n0 Q (T.setTop (mkF m pc Ls (stk))) := by
  subst hp; obtain ⟨locs, X, N⟩ := X
  exact go_by (fun t k => XS.dload X.here K.hx rfl (hb K.by' hd) hl k) k
theorem go_dstoreN (K : Ctx p s m meth c Z own nm bytes maxL ret) (X : St p l e R s m args below meth c n0 T cells slots) {k0 : Fin 4} {v : UInt64} (Ls' : Array Slot) (hd : decode bytes pc = .ok (.dstore_n k0, 1)) (hl : storeLocals Ls k0.val (.double v) = some Ls') (hp : pc + 1 = pc')
    (k : Go p e below s R n0 Q (T.setTop (mkF m pc' Ls' (stk)))) : Go p e below s R n0 Q (T.setTop (mkF m pc Ls (.double v :: stk))) := by
  subst hp; obtain ⟨locs, X, N⟩ := X
  exact go_by (fun t k => XS.dstoreN X.here K.hx rfl (hb K.by' hd) rfl hl k) k
theorem go_dstore (K : Ctx p s m meth c Z own nm bytes maxL ret) (X : St p l e R s m args below meth c n0 T cells slots) {k0 : Nat} {v : UInt64} (Ls' : Array Slot) (hd : decode bytes pc = .ok (.dstore k0, 2)) (hl : storeLocals Ls k0 (.double v) = some Ls') (hp : pc + 2 = pc')
    (k : Go p e below s R n0 Q (T.setTop (mkF m pc' Ls' (stk)))) : Go p e below s R n0 Q (T.setTop (mkF m pc Ls (.double v :: stk))) := by
  subst hp; obtain ⟨locs, X, N⟩ := X
  exact go_by (fun t k => XS.dstore X.here K.hx rfl (hb K.by' hd) rfl hl k) k
theorem go_dconst0 (K : Ctx p s m meth c Z own nm bytes maxL ret) (X : St p l e R s m args below meth c n0 T cells slots)  (hd : decode bytes pc = .ok (.dconst 0, 1)) (hp : pc + 1 = pc')
    (k : Go p e below s R n0 Q (T.setTop (mkF m pc' Ls (.double 0 :: stk)))) : Go p e below s R n0 Q (T.setTop (mkF m pc Ls (stk))) := by
  subst hp; obtain ⟨locs, X, N⟩ := X
  exact go_by (fun t k => XS.dconst0 X.here K.hx rfl (hb K.by' hd) rfl k) k
theorem go_dconst1 (K : Ctx p s m meth c Z own nm bytes maxL ret) (X : St p l e R s m args below meth c n0 T cells slots)  (hd : decode bytes pc = .ok (.dconst 1, 1)) (hp : pc + 1 = pc')
    (k : Go p e below s R n0 Q (T.setTop (mkF m pc' Ls (.double 4607182418800017408 :: stk)))) : Go p e below s R n0 Q (T.setTop (mkF m pc Ls (stk))) := by
  subst hp; obtain ⟨locs, X, N⟩ := X
  exact go_by (fun t k => XS.dconst1 X.here K.hx rfl (hb K.by' hd) rfl k) k
theorem go_ldc2D (K : Ctx p s m meth c Z own nm bytes maxL ret) (X : St p l e R s m args below meth c n0 T cells slots) {index : Nat} {v : UInt64} (w : (Cond.constantDouble own index v).before a0 Z = true) (hd : decode bytes pc = .ok (.ldc2_w index, 3)) (hp : pc + 3 = pc')
    (k : Go p e below s R n0 Q (T.setTop (mkF m pc' Ls (.double v :: stk)))) : Go p e below s R n0 Q (T.setTop (mkF m pc Ls stk)) := by
  subst hp; obtain ⟨locs, X, N⟩ := X
  exact go_by (fun t k => X.ldc2DoubleC K.hx K.own' (mvT K.hZ w) (g := mkF m pc Ls stk) rfl (hb K.by' hd) t k) k
theorem go_i2d (K : Ctx p s m meth c Z own nm bytes maxL ret) (X : St p l e R s m args below meth c n0 T cells slots) {x : Int32} {z : Int} (hz : x.toInt = z) (hd : decode bytes pc = .ok (.i2d, 1)) (hp : pc + 1 = pc')
    (k : ∀ d, Dz z d → Go p e below s R n0 Q (T.setTop (mkF m pc' Ls (.double d :: stk)))) : Go p e below s R n0 Q (T.setTop (mkF m pc Ls (.int x :: stk))) := by
  subst hp hz; obtain ⟨locs, X, N⟩ := X
  exact go_by (fun t k => XS.i2dS X.here K.hx rfl (hb K.by' hd) rfl rfl k) (k _ (Jvm.FP.Core.i2d_int x))
theorem go_l2d (K : Ctx p s m meth c Z own nm bytes maxL ret) (X : St p l e R s m args below meth c n0 T cells slots) {x : Int64} {z : Int} (hz : x.toInt = z) (h1 : -9007199254740992 ≤ z) (h2 : z ≤ 9007199254740992) (hd : decode bytes pc = .ok (.l2d, 1)) (hp : pc + 1 = pc')
    (k : ∀ d, Dz z d → Go p e below s R n0 Q (T.setTop (mkF m pc' Ls (.double d :: stk)))) : Go p e below s R n0 Q (T.setTop (mkF m pc Ls (.long x :: stk))) := by
  subst hp hz; obtain ⟨locs, X, N⟩ := X
  exact go_by (fun t k => XS.l2dS X.here K.hx rfl (hb K.by' hd) rfl rfl k) (k _ (Jvm.FP.Core.l2d_int (by rw [show (2 : Nat) ^ 53 = 9007199254740992 from by decide]; omega)))
theorem go_dneg (K : Ctx p s m meth c Z own nm bytes maxL ret) (X : St p l e R s m args below meth c n0 T cells slots) {x : UInt64} {z : Int} (hx : Dz z (FP.dneg x)) (hd : decode bytes pc = .ok (.dneg, 1)) (hp : pc + 1 = pc')
    (k : ∀ d, Dz z d → Go p e below s R n0 Q (T.setTop (mkF m pc' Ls (.double d :: stk)))) : Go p e below s R n0 Q (T.setTop (mkF m pc Ls (.double x :: stk))) := by
  subst hp; obtain ⟨locs, X, N⟩ := X
  exact go_by (fun t k => XS.dnegS X.here K.hx rfl (hb K.by' hd) rfl rfl k) (k _ hx)
theorem go_daddP (K : Ctx p s m meth c Z own nm bytes maxL ret) (X : St p l e R s m args below meth c n0 T cells slots) {x y : UInt64} {P : UInt64 → Prop} (hv : P (FP.dadd x y)) (hn : val64 (FP.dadd x y) ≠ .nan) (hd : decode bytes pc = .ok (.dadd, 1)) (hp : pc + 1 = pc')
    (k : ∀ d, P d → Go p e below s R n0 Q (T.setTop (mkF m pc' Ls (.double d :: stk)))) : Go p e below s R n0 Q (T.setTop (mkF m pc Ls (.double y :: .double x :: stk))) := by
  subst hp; obtain ⟨locs, X, N⟩ := X
  exact go_by (fun t k => XS.daddS X.here K.hx rfl (hb K.by' hd) rfl (mask_le hn) rfl k) (k _ hv)
theorem go_dadd (K : Ctx p s m meth c Z own nm bytes maxL ret) (X : St p l e R s m args below meth c n0 T cells slots) {x y : UInt64} {z : Int} (hv : Dz z (FP.dadd x y)) (hd : decode bytes pc = .ok (.dadd, 1)) (hp : pc + 1 = pc')
    (k : ∀ d, Dz z d → Go p e below s R n0 Q (T.setTop (mkF m pc' Ls (.double d :: stk)))) : Go p e below s R n0 Q (T.setTop (mkF m pc Ls (.double y :: .double x :: stk))) :=
  go_daddP K X (P := fun d => Dz z d) hv hv.nn hd hp k
theorem go_dsubP (K : Ctx p s m meth c Z own nm bytes maxL ret) (X : St p l e R s m args below meth c n0 T cells slots) {x y : UInt64} {P : UInt64 → Prop} (hv : P (FP.dsub x y)) (hn : val64 (FP.dsub x y) ≠ .nan) (hd : decode bytes pc = .ok (.dsub, 1)) (hp : pc + 1 = pc')
    (k : ∀ d, P d → Go p e below s R n0 Q (T.setTop (mkF m pc' Ls (.double d :: stk)))) : Go p e below s R n0 Q (T.setTop (mkF m pc Ls (.double y :: .double x :: stk))) := by
  subst hp; obtain ⟨locs, X, N⟩ := X
  exact go_by (fun t k => XS.dsubS X.here K.hx rfl (hb K.by' hd) rfl (mask_le hn) rfl k) (k _ hv)
theorem go_dsub (K : Ctx p s m meth c Z own nm bytes maxL ret) (X : St p l e R s m args below meth c n0 T cells slots) {x y : UInt64} {z : Int} (hv : Dz z (FP.dsub x y)) (hd : decode bytes pc = .ok (.dsub, 1)) (hp : pc + 1 = pc')
    (k : ∀ d, Dz z d → Go p e below s R n0 Q (T.setTop (mkF m pc' Ls (.double d :: stk)))) : Go p e below s R n0 Q (T.setTop (mkF m pc Ls (.double y :: .double x :: stk))) :=
  go_dsubP K X (P := fun d => Dz z d) hv hv.nn hd hp k
theorem go_dmulP (K : Ctx p s m meth c Z own nm bytes maxL ret) (X : St p l e R s m args below meth c n0 T cells slots) {x y : UInt64} {P : UInt64 → Prop} (hv : P (FP.dmul x y)) (hn : val64 (FP.dmul x y) ≠ .nan) (hd : decode bytes pc = .ok (.dmul, 1)) (hp : pc + 1 = pc')
    (k : ∀ d, P d → Go p e below s R n0 Q (T.setTop (mkF m pc' Ls (.double d :: stk)))) : Go p e below s R n0 Q (T.setTop (mkF m pc Ls (.double y :: .double x :: stk))) := by
  subst hp; obtain ⟨locs, X, N⟩ := X
  exact go_by (fun t k => XS.dmulS X.here K.hx rfl (hb K.by' hd) rfl (mask_le hn) rfl k) (k _ hv)
theorem go_dmul (K : Ctx p s m meth c Z own nm bytes maxL ret) (X : St p l e R s m args below meth c n0 T cells slots) {x y : UInt64} {z : Int} (hv : Dz z (FP.dmul x y)) (hd : decode bytes pc = .ok (.dmul, 1)) (hp : pc + 1 = pc')
    (k : ∀ d, Dz z d → Go p e below s R n0 Q (T.setTop (mkF m pc' Ls (.double d :: stk)))) : Go p e below s R n0 Q (T.setTop (mkF m pc Ls (.double y :: .double x :: stk))) :=
  go_dmulP K X (P := fun d => Dz z d) hv hv.nn hd hp k
theorem go_ddivP (K : Ctx p s m meth c Z own nm bytes maxL ret) (X : St p l e R s m args below meth c n0 T cells slots) {x y : UInt64} {P : UInt64 → Prop} (hv : P (FP.ddiv x y)) (hn : val64 (FP.ddiv x y) ≠ .nan) (hd : decode bytes pc = .ok (.ddiv, 1)) (hp : pc + 1 = pc')
    (k : ∀ d, P d → Go p e below s R n0 Q (T.setTop (mkF m pc' Ls (.double d :: stk)))) : Go p e below s R n0 Q (T.setTop (mkF m pc Ls (.double y :: .double x :: stk))) := by
  subst hp; obtain ⟨locs, X, N⟩ := X
  exact go_by (fun t k => XS.ddivS X.here K.hx rfl (hb K.by' hd) rfl (mask_le hn) rfl k) (k _ hv)
theorem go_ddiv (K : Ctx p s m meth c Z own nm bytes maxL ret) (X : St p l e R s m args below meth c n0 T cells slots) {x y : UInt64} {z : Int} (hv : Dz z (FP.ddiv x y)) (hd : decode bytes pc = .ok (.ddiv, 1)) (hp : pc + 1 = pc')
    (k : ∀ d, Dz z d → Go p e below s R n0 Q (T.setTop (mkF m pc' Ls (.double d :: stk)))) : Go p e below s R n0 Q (T.setTop (mkF m pc Ls (.double y :: .double x :: stk))) :=
  go_ddivP K X (P := fun d => Dz z d) hv hv.nn hd hp k
def dT : ClassFile.Cond → Ordering → Bool
  | .eq, r => r == .eq | .ne, r => r != .eq | .lt, r => r == .lt | .ge, r => r != .lt | .gt, r => r == .gt | .le, r => r != .gt
def DT (cd : ClassFile.Cond) (x y : UInt64) : Prop := ∃ r, FP.dcmp x y = some r ∧ dT cd r = true
def DF (cd : ClassFile.Cond) (x y : UInt64) : Prop := ∃ r, FP.dcmp x y = some r ∧ dT cd r = false
theorem dT_holds {cd : ClassFile.Cond} {cm : CmpOp} {r : Ordering} {b : Bool} (q : dT cd r = b) : ifCond.holds cd (cmpValue (some r) cm) = b := by
  subst q; cases cd <;> cases r <;> cases cm <;> decide
def iT : ClassFile.Cond → Int → Int → Prop
  | .eq, x, y => x = y | .ne, x, y => ¬ x = y | .lt, x, y => x < y | .ge, x, y => ¬ x < y | .gt, x, y => y < x | .le, x, y => ¬ y < x
def iF : ClassFile.Cond → Int → Int → Prop
  | .eq, x, y => ¬ x = y | .ne, x, y => x = y | .lt, x, y => ¬ x < y | .ge, x, y => x < y | .gt, x, y => ¬ y < x | .le, x, y => y < x
theorem iT_or (cd : ClassFile.Cond) (x y : Int) : iT cd x y ∨ iF cd x y := by
  cases cd <;> simp only [iT, iF] <;> first | exact Decidable.em _ | exact (Decidable.em _).symm
theorem cmp3 (i j : Int) : (i < j ∧ compare i j = .lt) ∨ (i = j ∧ compare i j = .eq) ∨ (j < i ∧ compare i j = .gt) := by
  rcases Int.lt_trichotomy i j with q | q | q
  · exact Or.inl ⟨q, (Jvm.FP.Core.compare_lt_iff _ _).mpr q⟩
  · exact Or.inr (Or.inl ⟨q, (Jvm.FP.Core.compare_eq_iff _ _).mpr q⟩)
  · exact Or.inr (Or.inr ⟨q, (Jvm.FP.Core.compare_gt_iff _ _).mpr q⟩)
theorem Dz.tk {i j : Int} {x y : UInt64} {cd : ClassFile.Cond} (hx : Dz i x) (hy : Dz j y) (q : iT cd i j) : DT cd x y := by
  refine ⟨_, Dz.cmp hx hy, ?_⟩
  rcases cmp3 i j with ⟨h1, h2⟩ | ⟨h1, h2⟩ | ⟨h1, h2⟩ <;> rw [h2] <;> cases cd <;> simp only [iT] at q <;> first | rfl | (exfalso; omega)
theorem Dz.nt {i j : Int} {x y : UInt64} {cd : ClassFile.Cond} (hx : Dz i x) (hy : Dz j y) (q : iF cd i j) : DF cd x y := by
  refine ⟨_, Dz.cmp hx hy, ?_⟩
  rcases cmp3 i j with ⟨h1, h2⟩ | ⟨h1, h2⟩ | ⟨h1, h2⟩ <;> rw [h2] <;> cases cd <;> simp only [iF] at q <;> first | rfl | (exfalso; omega)
theorem Dge.leF {i : Int} {x y : UInt64} (hx : Dz i x) (hy : Dge i y) : DF .gt x y := by
  rcases Dge.le hx hy with q | q
  · exact ⟨_, q, rfl⟩
  · exact ⟨_, q, rfl⟩
theorem go_difT (K : Ctx p s m meth c Z own nm bytes maxL ret) (X : St p l e R s m args below meth c n0 T cells slots) {cd : ClassFile.Cond} {cm : CmpOp} {o : Int} {x y : UInt64} (hd1 : decode bytes pc = .ok (.dcmp cm, 1)) (hp : pc + 1 = pc') (hd : decode bytes pc' = .ok (.ifCond cd o, 3)) (ho : 0 ≤ (pc' : Int) + o) (ht : ((pc' : Int) + o).toNat = pt) (q : DT cd x y)
    (k : Go p e below s R n0 Q (T.setTop (mkF m pt Ls stk))) : Go p e below s R n0 Q (T.setTop (mkF m pc Ls (.double y :: .double x :: stk))) := by
  subst hp; obtain ⟨locs, X, N⟩ := X; obtain ⟨r, h1, h2⟩ := q
  exact go_by (fun t k => XS.dcmpS X.here K.hx rfl (hb K.by' hd1) rfl (by rw [h1]) (XS.ifYes X.here K.hx rfl (pc0 := pc + 1) rfl (hb K.by' hd) rfl (dT_holds (cm := cm) h2) ho ht k)) k
theorem go_difF (K : Ctx p s m meth c Z own nm bytes maxL ret) (X : St p l e R s m args below meth c n0 T cells slots) {cd : ClassFile.Cond} {cm : CmpOp} {o : Int} {x y : UInt64} {pn : Nat} (hd1 : decode bytes pc = .ok (.dcmp cm, 1)) (hp : pc + 1 = pc') (hd : decode bytes pc' = .ok (.ifCond cd o, 3)) (hn : pc' + 3 = pn) (q : DF cd x y)
    (k : Go p e below s R n0 Q (T.setTop (mkF m pn Ls stk))) : Go p e below s R n0 Q (T.setTop (mkF m pc Ls (.double y :: .double x :: stk))) := by
  subst hp hn; obtain ⟨locs, X, N⟩ := X; obtain ⟨r, h1, h2⟩ := q
  exact go_by (fun t k => XS.dcmpS X.here K.hx rfl (hb K.by' hd1) rfl (by rw [h1]) (XS.ifNo X.here K.hx rfl (hb K.by' hd) rfl (dT_holds (cm := cm) h2) k)) k
theorem go_retD (K : Ctx p s m meth c Z own nm bytes maxL (some .double)) (X : St p l e R s m args below meth c n0 T cells slots) {z : UInt64} (hd : decode bytes pc = .ok (.dreturn, 1)) (hc : cells ≤ R.cells) (hs : slots ≤ R.slots) (q : Q (some (.double z)) T.heap) : Go p e below s R n0 Q (T.setTop (mkF m pc Ls (.double z :: stk))) :=
  go_retV K X rfl rfl (Or.inr (Or.inr (Or.inl ⟨rfl, rfl, z, rfl⟩))) hd hc hs q
def DL : List Int → List Value → Prop
  | [], [] => True
  | z :: zs, v :: vs => (∃ d, v = .double d ∧ Dz z d) ∧ DL zs vs
  | _, _ => False
theorem DL.len : ∀ {zs : List Int} {vs : List Value}, DL zs vs → vs.length = zs.length
  | [], [], _ => rfl
  | _ :: _, _ :: _, q => congrArg (· + 1) (DL.len q.2)
  | [], _ :: _, q => q.elim
  | _ :: _, [], q => q.elim
theorem DL.get : ∀ {zs : List Int} {vs : List Value} {i : Nat} {z : Int}, DL zs vs → zs[i]? = some z → ∃ d, vs[i]? = some (.double d) ∧ Dz z d
  | z0 :: _, v0 :: _, 0, z, q, hz => by
    obtain ⟨⟨d, e1, e2⟩, -⟩ := q
    cases Option.some.inj (show some z0 = some z from hz)
    exact ⟨d, by rw [e1]; rfl, e2⟩
  | _ :: _, _ :: _, i + 1, z, q, hz => DL.get (i := i) q.2 (by simpa using hz)
  | [], _, i, z, _, hz => by simp at hz
  | _ :: _, [], _, _, q, _ => q.elim
theorem DL.set : ∀ {zs : List Int} {vs : List Value} {i : Nat} {z : Int} {d : UInt64}, DL zs vs → Dz z d → DL (zs.set i z) (vs.set i (.double d))
  | [], [], _, _, _, _, _ => trivial
  | _ :: _, _ :: _, 0, _, d, q, hz => ⟨⟨d, rfl, hz⟩, q.2⟩
  | _ :: _, _ :: _, _ + 1, _, _, q, hz => ⟨q.1, DL.set q.2 hz⟩
  | [], _ :: _, _, _, _, q, _ => q.elim
  | _ :: _, [], _, _, _, q, _ => q.elim
theorem DL.take : ∀ {zs : List Int} {vs : List Value} (n : Nat), DL zs vs → DL (zs.take n) (vs.take n)
  | _, _, 0, _ => by simp [DL]
  | [], [], _ + 1, _ => trivial
  | _ :: _, _ :: _, n + 1, q => ⟨q.1, DL.take n q.2⟩
  | [], _ :: _, _ + 1, q => q.elim
  | _ :: _, [], _ + 1, q => q.elim
theorem DL.drop : ∀ {zs : List Int} {vs : List Value} (n : Nat), DL zs vs → DL (zs.drop n) (vs.drop n)
  | _, _, 0, q => q
  | [], [], _ + 1, _ => trivial
  | _ :: _, _ :: _, n + 1, q => DL.drop n q.2
  | [], _ :: _, _ + 1, q => q.elim
  | _ :: _, [], _ + 1, q => q.elim
theorem DL.app : ∀ {zs ys : List Int} {vs us : List Value}, DL zs vs → DL ys us → DL (zs ++ ys) (vs ++ us)
  | [], _, [], _, _, q => q
  | _ :: _, _, _ :: _, _, r, q => ⟨r.1, DL.app r.2 q⟩
  | [], _, _ :: _, _, r, _ => r.elim
  | _ :: _, _, [], _, r, _ => r.elim
theorem DL.fits : ∀ {zs : List Int} {vs : List Value}, DL zs vs → ∀ v ∈ vs, fits .double v = true
  | [], [], _ => fun v hv => by cases hv
  | _ :: _, v0 :: _, q => fun v hv => by
    rcases List.mem_cons.mp hv with rfl | hv
    · obtain ⟨⟨d, rfl, -⟩, -⟩ := q; rfl
    · exact DL.fits q.2 v hv
  | [], _ :: _, q => q.elim
  | _ :: _, [], q => q.elim
theorem DL.zero : ∀ n : Nat, DL (List.replicate n 0) (List.replicate n (.double 0))
  | 0 => trivial
  | n + 1 => ⟨⟨0, rfl, Dz.zero⟩, DL.zero n⟩
def AD (Z : State) (h : Heap) (a : Addr) (zs : List Int) : Prop := ∃ vs : List Value, AV Z h a .double vs ∧ DL zs vs
theorem AD.lt {a : Addr} {zs : List Int} (F : AD Z h a zs) : a < h.size := by obtain ⟨vs, A, -⟩ := F; exact A.lt
theorem AD.keep {a : Addr} {zs : List Int} {ws : List Addr} (F : AD Z h a zs) (K : Keep h h' ws) (q : a ∉ ws) : AD Z h' a zs := by obtain ⟨vs, A, D⟩ := F; exact ⟨vs, A.keep K q, D⟩
theorem AD.zero {a : Addr} {n : Nat} (F : AV Z h a .double (List.replicate n (.double 0))) : AD Z h a (List.replicate n 0) := ⟨_, F, DL.zero n⟩
theorem go_daload (K : Ctx p s m meth c Z own nm bytes maxL ret) (X : St p l e R s m args below meth c n0 T cells slots) (eT : T.heap = h) {a : Addr} {zs : List Int} {j : Int32} {i : Nat} {z : Int} (F : AD Z h a zs) (hj : j.toInt = (i : Int)) (hz : zs[i]? = some z) (hd : decode bytes pc = .ok (.daload, 1)) (hp : pc + 1 = pc')
    (k : ∀ d, Dz z d → Go p e below s R n0 Q (T.setTop (mkF m pc' Ls (.double d :: stk)))) : Go p e below s R n0 Q (T.setTop (mkF m pc Ls (.int j :: .ref a :: stk))) := by
  subst hp; obtain ⟨locs, X, N⟩ := X; obtain ⟨vs, ⟨cl, A, hs, hl⟩, D⟩ := F
  obtain ⟨d, hv, hz'⟩ := D.get hz
  exact go_by (fun t k => X.daload K.hx (by rw [eT]; exact A.1) (State.isArrayOf_alike K.hZ.alike A.2.1) A.2.2 (AV.in (a := a) (ty := .double) hs hj (lt_of_get hv)) (AV.get hs hj hv) (g := mkF m pc Ls (.int j :: .ref a :: stk)) rfl rfl (hb K.by' hd) t k) (k d hz')
theorem go_dastore (K : Ctx p s m meth c Z own nm bytes maxL ret) (X : St p l e R s m args below meth c n0 T cells slots) (eT : T.heap = h) {a : Addr} {zs : List Int} {j : Int32} {x : UInt64} {i : Nat} {z : Int} (F : AD Z h a zs) (hj : j.toInt = (i : Int)) (hi : i < zs.length) (hx : Dz z x) (ge : n0 ≤ a) (hd : decode bytes pc = .ok (.dastore, 1)) (hp : pc + 1 = pc')
    (k : ∀ T' h', St p l e R s m args below meth c n0 T' cells slots → T'.heap = h' → Wr h h' a i (.double x) → AD Z h' a (zs.set i z) → Go p e below s R n0 Q (T'.setTop (mkF m pc' Ls stk))) : Go p e below s R n0 Q (T.setTop (mkF m pc Ls (.double x :: .int j :: .ref a :: stk))) := by
  subst hp; obtain ⟨locs, X, N⟩ := X; obtain ⟨vs, ⟨cl, A, hs, hl⟩, D⟩ := F
  have hi' : i < vs.length := by rw [D.len]; exact hi
  obtain ⟨T', h', X', e', W', st⟩ := stD X K.hx K.hZ eT A (AV.in (a := a) (ty := .double) hs hj hi') (g := mkF m pc Ls (.double x :: .int j :: .ref a :: stk)) rfl rfl (hb K.by' hd)
  have W2 := W'; rw [(idx_nat hj).1] at W2
  exact go_by st (k T' h' ⟨_, X', Fr.snoc X' N ge⟩ e' W2 ⟨_, AV.set A hs hl W2, D.set hx⟩)
theorem go_arraylengthD (K : Ctx p s m meth c Z own nm bytes maxL ret) (X : St p l e R s m args below meth c n0 T cells slots) (eT : T.heap = h) {a : Addr} {zs : List Int} {z : Int32} (F : AD Z h a zs) (hz : zs.length.toInt32 = z) (hd : decode bytes pc = .ok (.arraylength, 1)) (hp : pc + 1 = pc')
    (k : Go p e below s R n0 Q (T.setTop (mkF m pc' Ls (.int z :: stk)))) : Go p e below s R n0 Q (T.setTop (mkF m pc Ls (.ref a :: stk))) := by
  obtain ⟨vs, A, D⟩ := F
  exact go_arraylength K X eT A (by rw [D.len]; exact hz) hd hp k
theorem go_newarrayD (K : Ctx p s m meth c Z own nm bytes maxL ret) (X : St p l e R s m args below meth c n0 T cells slots) (w : (Cond.arrayClass .double).before a0 Z = true) (eT : T.heap = h) {j : Int32} {i cap : Nat} (hd : decode bytes pc = .ok (.newarray .double, 2)) (hj : j.toInt = (i : Int)) (hcap : i ≤ cap) (hb' : cap * 8 ≤ 536870912) (hp : pc + 2 = pc') (hc' : cells + 1 = cells') (hs' : slots + cap = slots') (hc : cells' ≤ R.cells) (hs : slots' ≤ R.slots)
    (k : ∀ T' h' a, a = h.size → St p l e R s m args below meth c n0 T' cells' slots' → T'.heap = h' → Ext h h' → AD Z h' a (List.replicate i 0) → Exa Z h' a "[D" → Go p e below s R n0 Q (T'.setTop (mkF m pc' Ls (.ref a :: stk)))) : Go p e below s R n0 Q (T.setTop (mkF m pc Ls (.int j :: stk))) :=
  go_newarrayE K X (aty := .double) (ad := "[D") (by decide) w eT hd hj hcap hb' hp hc' hs' hc hs fun T' h' a g X' e' E' A C => k T' h' a g X' e' E' (AD.zero A) C
theorem go_cloneD (K : Ctx p s m meth c Z own nm bytes maxL ret) (X : St p l e R s m args below meth c n0 T cells slots) {index : Nat} (w1 : (Cond.methodLink own index ⟨"[D", "clone", "()Ljava/lang/Object;"⟩).before a0 Z = true) (w2 : (Cond.sameMethod "[D" "java/lang/Object" "clone" "()Ljava/lang/Object;").before a0 Z = true) (w3 : (Cond.native ⟨"java/lang/Object", "clone", "()Ljava/lang/Object;"⟩).before a0 Z = true)
    (w4 : (Cond.instanceMethod ⟨"java/lang/Object", "clone", "()Ljava/lang/Object;"⟩).before a0 Z = true) (w5 : (Cond.selects "[D" ⟨"[D", "clone", "()Ljava/lang/Object;"⟩ ⟨"java/lang/Object", "clone", "()Ljava/lang/Object;"⟩).before a0 Z = true) (w6 : (Cond.castable "[D" "java/lang/Cloneable").before a0 Z = true)
    (eT : T.heap = h) {a : Addr} {zs : List Int} (F : AD Z h a zs) (E : Exa Z h a "[D") (hsize : Ls.size = maxL) (hd : decode bytes pc = .ok (.invokevirtual index, 3)) (hp : pc + 3 = pc')
    (hf : 1 ≤ R.frames) {W cap : Nat} (hW : (stk.map fun v => v.category).sum ≤ W) (hl : W + 14 ≤ R.locals) (hcap : zs.length ≤ cap) (hc' : cells + 1 = cells') (hs' : slots + cap = slots') (hc : cells' ≤ R.cells) (hs : slots' ≤ R.slots)
    (k : ∀ T' h' b, b = h.size → St p l e R s m args below meth c n0 T' cells' slots' → T'.heap = h' → Ext h h' → AD Z h' b zs → Exa Z h' b "[D" → Go p e below s R n0 Q (T'.setTop (mkF m pc' Ls (.ref b :: stk)))) : Go p e below s R n0 Q (T.setTop (mkF m pc Ls (.ref a :: stk))) := by
  obtain ⟨vs, A, D⟩ := F
  exact go_clone K X w1 w2 w3 w4 w5 w6 eT A E D.fits hsize hd hp hf hW hl (by rw [D.len]; exact hcap) hc' hs' hc hs fun T' h' b g X' e' E' A' C => k T' h' b g X' e' E' ⟨_, A', D⟩ C
theorem go_arraycopyD (K : Ctx p s m meth c Z own nm bytes maxL ret) (X : St p l e R s m args below meth c n0 T cells slots) {index : Nat} (w1 : (Cond.methodLink own index Jvm.Stand.acN).before a0 Z = true) (w2 : (Cond.native Jvm.Stand.acN).before a0 Z = true) (w3 : (Cond.static Jvm.Stand.acN).before a0 Z = true) (w4 : (Cond.initialized "java/lang/System").before a0 Z = true)
    (eT : T.heap = h) {a b : Addr} {zs zd us : List Int} {sp dp nn : Int32} {i j n : Nat} (F : AD Z h a zs) (G : AD Z h b zd) (hi : sp.toInt = (i : Int)) (hj : dp.toInt = (j : Int)) (hn : nn.toInt = (n : Int)) (h4 : i + n ≤ zs.length) (h5 : j + n ≤ zd.length) (hus : us = zd.take j ++ (zs.drop i).take n ++ zd.drop (j + n)) (ge : n0 ≤ b) (hsize : Ls.size = maxL) (hd : decode bytes pc = .ok (.invokestatic index, 3)) (hp : pc + 3 = pc')
    (hf : 1 ≤ R.frames) {W : Nat} (hW : (stk.map fun v => v.category).sum ≤ W) (hlo : W + (nativeFrameWords "java/lang/System" "arraycopy" 5 + 11) ≤ R.locals)
    (k : ∀ T' h', St p l e R s m args below meth c n0 T' cells slots → T'.heap = h' → Keep h h' [b] → AD Z h' b us → Go p e below s R n0 Q (T'.setTop (mkF m pc' Ls stk))) : Go p e below s R n0 Q (T.setTop (mkF m pc Ls (.int nn :: .int dp :: .ref b :: .int sp :: .ref a :: stk))) := by
  obtain ⟨vs, A, D⟩ := F; obtain ⟨vd, B, E⟩ := G
  exact go_arraycopy K X w1 w2 w3 w4 eT A B rfl D.fits E.fits hi hj hn (by rw [D.len]; exact h4) (by rw [E.len]; exact h5) rfl ge hsize hd hp hf hW hlo fun T' h' X' e' KK A' => k T' h' X' e' KK ⟨_, A', by rw [hus]; exact ((E.take j).app ((D.drop i).take n)).app (E.drop (j + n))⟩
theorem pdD : parseMethodDescriptor "(D)D" = some ⟨[.double], some .double⟩ := by decide +kernel
theorem pdDD : parseMethodDescriptor "(DD)D" = some ⟨[.double, .double], some .double⟩ := by decide +kernel
theorem go_absD (K : Ctx p s m meth c Z own nm bytes maxL ret) (X : St p l e R s m args below meth c n0 T cells slots) {index : Nat} {x : UInt64} {z z' : Int} (w1 : (Cond.methodLink own index Fl.Abs.absDN).before a0 Z = true) (w2 : (Cond.static Fl.Abs.absDN).before a0 Z = true) (w3 : (Cond.initialized "java/lang/Math").before a0 Z = true) (w4 : (Cond.code Fl.Abs.absDN Fl.Abs.absDCode 2 (some .double)).before a0 Z = true) (eT : T.heap = h) (hx : Dz z x) (hz : (z.natAbs : Int) = z') (hsize : Ls.size = maxL) (hd : decode bytes pc = .ok (.invokestatic index, 3)) (hp : pc + 3 = pc')
    (hf : 1 ≤ R.frames) {W : Nat} (hW : (stk.map fun v => v.category).sum ≤ W) (hl : W + 13 ≤ R.locals) (hc : cells ≤ R.cells) (hs : slots ≤ R.slots)
    (k : ∀ T' d, St p l e R s m args below meth c n0 T' cells slots → T'.heap = h → Dz z' d → Go p e below s R n0 Q (T'.setTop (mkF m pc' Ls (.double d :: stk)))) : Go p e below s R n0 Q (T.setTop (mkF m pc Ls (.double x :: stk))) := by
  subst hp; obtain ⟨locs, X, N⟩ := X
  obtain ⟨T', X', e', st⟩ := natS X K.hx K.hZ K.own' w1 w2 w3 w4 (by decide) eT (W := W) (fun hcode => Fl.Abs.absD_pays x hcode hf hl) (g := mkF m pc Ls (.double x :: stk)) rfl (by rw [K.ml]; exact hsize) (argsL := [.double x]) (rest := stk) (lenOf pdD rfl) rfl (by show 2 * 0 + _ ≤ _; omega) (hb K.by' hd) hc hs ⟨rfl, mask_le hx.nn⟩ rfl
  exact go_by st (k T' _ ⟨_, X', N⟩ e' (hx.abs hz))
theorem go_maxD (K : Ctx p s m meth c Z own nm bytes maxL ret) (X : St p l e R s m args below meth c n0 T cells slots) {index : Nat} {x y : UInt64} {i j z' : Int} (w1 : (Cond.methodLink own index Fl.Abs.maxDN).before a0 Z = true) (w2 : (Cond.static Fl.Abs.maxDN).before a0 Z = true) (w3 : (Cond.initialized "java/lang/Math").before a0 Z = true) (w4 : (Cond.code Fl.Abs.maxDN Fl.Abs.maxDCode 4 (some .double)).before a0 Z = true) (eT : T.heap = h) (hx : Dz i x) (hy : Dz j y) (hz : (if i < j then j else i) = z') (hsize : Ls.size = maxL) (hd : decode bytes pc = .ok (.invokestatic index, 3)) (hp : pc + 3 = pc')
    (hf : 1 ≤ R.frames) {W : Nat} (hW : (stk.map fun v => v.category).sum ≤ W) (hl : W + 15 ≤ R.locals) (hc : cells ≤ R.cells) (hs : slots ≤ R.slots)
    (k : ∀ T' d, St p l e R s m args below meth c n0 T' cells slots → T'.heap = h → Dz z' d → Go p e below s R n0 Q (T'.setTop (mkF m pc' Ls (.double d :: stk)))) : Go p e below s R n0 Q (T.setTop (mkF m pc Ls (.double y :: .double x :: stk))) := by
  subst hp; obtain ⟨locs, X, N⟩ := X
  obtain ⟨T', X', e', st⟩ := natS X K.hx K.hZ K.own' w1 w2 w3 w4 (by decide) eT (W := W) (fun hcode => Fl.Abs.maxD_pays x y hcode hf hl) (g := mkF m pc Ls (.double y :: .double x :: stk)) rfl (by rw [K.ml]; exact hsize) (argsL := [.double x, .double y]) (rest := stk) (lenOf pdDD rfl) rfl (by show 2 * 0 + _ ≤ _; omega) (hb K.by' hd) hc hs ⟨rfl, mask_le hx.nn, mask_le hy.nn⟩ rfl
  exact go_by st (k T' _ ⟨_, X', N⟩ e' (hx.max0 hy hz))
theorem go_minD (K : Ctx p s m meth c Z own nm bytes maxL ret) (X : St p l e R s m args below meth c n0 T cells slots) {index : Nat} {y : UInt64} {i : Int} (w1 : (Cond.methodLink own index Fl.Abs.minDN).before a0 Z = true) (w2 : (Cond.static Fl.Abs.minDN).before a0 Z = true) (w3 : (Cond.initialized "java/lang/Math").before a0 Z = true) (w4 : (Cond.code Fl.Abs.minDN Fl.Abs.minDCode 4 (some .double)).before a0 Z = true) (eT : T.heap = h) (hy : Dge i y) (hsize : Ls.size = maxL) (hd : decode bytes pc = .ok (.invokestatic index, 3)) (hp : pc + 3 = pc')
    (hf : 1 ≤ R.frames) {W : Nat} (hW : (stk.map fun v => v.category).sum ≤ W) (hl : W + 15 ≤ R.locals) (hc : cells ≤ R.cells) (hs : slots ≤ R.slots)
    (k : ∀ T', St p l e R s m args below meth c n0 T' cells slots → T'.heap = h → Go p e below s R n0 Q (T'.setTop (mkF m pc' Ls (.double y :: stk)))) : Go p e below s R n0 Q (T.setTop (mkF m pc Ls (.double y :: .double 9218868437227405312 :: stk))) := by
  subst hp; obtain ⟨locs, X, N⟩ := X
  obtain ⟨T', X', e', st⟩ := natS X K.hx K.hZ K.own' w1 w2 w3 w4 (by decide) eT (W := W) (fun hcode => Fl.Abs.minD_pays 9218868437227405312 y hcode hf hl) (g := mkF m pc Ls (.double y :: .double 9218868437227405312 :: stk)) rfl (by rw [K.ml]; exact hsize) (argsL := [.double 9218868437227405312, .double y]) (rest := stk) (lenOf pdDD rfl) rfl (by show 2 * 0 + _ ≤ _; omega) (hb K.by' hd) hc hs ⟨rfl, by unfold Fl.NoNaN64; decide, mask_le (fin_nn hy.1)⟩ (val' := .double y) (by rw [hy.min])
  exact go_by st (k T' ⟨_, X', N⟩ e')
theorem go_getFR (K : Ctx p s m meth c Z own nm bytes maxL ret) (X : St p l e R s m args below meth c n0 T cells slots) {O n d : String} {index : Nat} (w : (Cond.fieldRef own index O n d).before a0 Z = true) (eT : T.heap = h) {a : Addr} {v : Value} (F : Fld Z h a O n d v) (hd : decode bytes pc = .ok (.getfield index, 3)) (hp : pc + 3 = pc')
    (k : Go p e below s R n0 Q (T.setTop (mkF m pc' Ls (v :: stk)))) : Go p e below s R n0 Q (T.setTop (mkF m pc Ls (.ref a :: stk))) := by
  subst hp; obtain ⟨locs, X, N⟩ := X
  obtain ⟨cell, cf, kk, i, f, h1, h2, h3, h4, -, -, h7⟩ := F
  have hW : Z.Warmed39 T.vm := wtrans K.hZ X.warmed
  have w' := Cond.fieldRef_warmed39 hW w
  have hown : (Z.setVm T.vm).vm.findClass own = some m.cls := by
    show T.vm.findClass own = _
    rw [X.warmed.alike.findClass]; exact K.own'
  obtain ⟨c1, k1, i1, f1, q1, q2⟩ := Cond.fieldRef_spec hown w'
  obtain ⟨k', hi, -⟩ := State.fieldFound?_setVm (s := Z) hW.alike h2
  cases q1.symm.trans hi
  exact go_by (fun t k => (X.getfieldR K.hx (g := mkF m pc Ls (.ref a :: stk)) rfl q2 h3 rfl (by rw [eT]; exact h1) h4 h7 (hb K.by' hd) (Steps.refl _)).trans k) k
def AA (Z : State) (h : Heap) (a : Addr) (vs : List Value) : Prop := ∃ cl : Cell, Arr Z h a cl (.array .double) ∧ OvrA Z cl.cls .double "[D" ∧ cl.slots = vs.toArray ∧ vs.length < 2 ^ 31
theorem AA.av {a : Addr} {vs : List Value} (F : AA Z h a vs) : AV Z h a (.array .double) vs := by obtain ⟨cl, A, -, r⟩ := F; exact ⟨cl, A, r⟩
theorem AA.lt {a : Addr} {vs : List Value} (F : AA Z h a vs) : a < h.size := F.av.lt
theorem AA.keep {a : Addr} {vs : List Value} {ws : List Addr} (F : AA Z h a vs) (K : Keep h h' ws) (q : a ∉ ws) : AA Z h' a vs := by
  obtain ⟨cl, A, r⟩ := F; exact ⟨cl, ⟨K.2.1 _ _ A.1 q, A.2⟩, r⟩
theorem AA.sto {a y : Addr} {vs : List Value} (F : AA Z h a vs) (I : Ins Z h y "[D" true) : Sto Z h a (.ref y) := by
  obtain ⟨cl, A, O, -⟩ := F; exact Sto.ofVA A rfl O I
theorem go_anewD (K : Ctx p s m meth c Z own nm bytes maxL ret) (X : St p l e R s m args below meth c n0 T cells slots) {index : Nat} (w1 : (Cond.classLink own index "[D").before a0 Z = true) (w2 : (Cond.arrayOver (.array .double)).before a0 Z = true) (eT : T.heap = h) {j : Int32} {i cap : Nat} (hd : decode bytes pc = .ok (.anewarray index, 3)) (hj : j.toInt = (i : Int)) (hcap : i ≤ cap) (hb' : cap * 8 ≤ 536870912) (hp : pc + 3 = pc') (hc' : cells + 1 = cells') (hs' : slots + cap = slots') (hc : cells' ≤ R.cells) (hs : slots' ≤ R.slots)
    (k : ∀ T' h' a, a = h.size → St p l e R s m args below meth c n0 T' cells' slots' → T'.heap = h' → Ext h h' → AA Z h' a (List.replicate i .null) → Go p e below s R n0 Q (T'.setTop (mkF m pc' Ls (.ref a :: stk)))) : Go p e below s R n0 Q (T.setTop (mkF m pc Ls (.int j :: stk))) := by
  subst hp hc' hs'; obtain ⟨locs, X, N⟩ := X
  obtain ⟨h1, h2⟩ := idx_nat hj
  obtain ⟨T', h', cA, X', e', E', A', -, O', st⟩ := newRA X K.hx K.hZ K.own' (ty := .double) (C := "[D") (by decide) w1 w2 eT (g := mkF m pc Ls (.int j :: stk)) rfl (hb K.by' hd) rfl h2 (cap := cap) (by rw [h1]; exact hcap) hb' hc hs rfl
  refine go_by st (k T' h' _ rfl ⟨_, X', N⟩ e' E' ⟨_, A', O', ?_, ?_⟩)
  · show Array.replicate _ _ = _
    rw [h1]; simp [defaultValue]
  · have := j.toInt_lt; rw [hj] at this; simp; omega
theorem go_aastoreD (K : Ctx p s m meth c Z own nm bytes maxL ret) (X : St p l e R s m args below meth c n0 T cells slots) (eT : T.heap = h) {a : Addr} {vs : List Value} {j : Int32} {v : Value} {i : Nat} (F : AA Z h a vs) (hj : j.toInt = (i : Int)) (hi : i < vs.length) (S : Sto Z h a v) (ge : n0 ≤ a) (hd : decode bytes pc = .ok (.aastore, 1)) (hp : pc + 1 = pc')
    (k : ∀ T' h', St p l e R s m args below meth c n0 T' cells slots → T'.heap = h' → Wr h h' a i v → AA Z h' a (vs.set i v) → Go p e below s R n0 Q (T'.setTop (mkF m pc' Ls stk))) : Go p e below s R n0 Q (T.setTop (mkF m pc Ls (v :: .int j :: .ref a :: stk))) := by
  subst hp; obtain ⟨locs, X, N⟩ := X; obtain ⟨cl, A, O, hs, hl⟩ := F
  obtain ⟨T', h', X', e', W', st⟩ := stR X K.hx K.hZ eT A (AV.in (a := a) (ty := .array .double) hs hj hi) rfl S (g := mkF m pc Ls (v :: .int j :: .ref a :: stk)) rfl rfl (hb K.by' hd)
  have W2 := W'; rw [(idx_nat hj).1] at W2
  obtain ⟨cl', A', r⟩ := AV.set A hs hl W2
  have O' : OvrA Z cl'.cls .double "[D" := by
    have q := A.same W2
    have e1 := q.1.symm.trans A'.1
    cases e1; exact O
  exact go_by st (k T' h' ⟨_, X', Fr.snoc X' N ge⟩ e' W2 ⟨cl', A', O', r⟩)
theorem fitB {ty : FieldType} {vs : List Value} (q : (vs.all fun v => fits ty v) = true) : ∀ v ∈ vs, fits ty v = true := List.all_eq_true.mp q
def inc : List Addr → Prop
  | x :: y :: t => x < y ∧ inc (y :: t)
  | _ => True
theorem inc1 {x : Addr} : inc [x] := trivial
theorem inc2 {x y : Addr} {t : List Addr} (q : x < y) (r : inc (y :: t)) : inc (x :: y :: t) := ⟨q, r⟩
theorem inc_head : ∀ {t : List Addr} {x y : Addr} {i : Nat}, inc (x :: t) → t[i]? = some y → x < y
  | [], _, _, _, _, q => by simp at q
  | z :: t, x, y, 0, q, hy => by cases Option.some.inj (show some z = some y from hy); exact q.1
  | z :: t, x, y, i + 1, q, hy => Nat.lt_trans q.1 (inc_head (i := i) q.2 (by simpa using hy))
theorem inc_tail : ∀ {t : List Addr} {x : Addr}, inc (x :: t) → inc t
  | [], _, _ => trivial
  | _ :: _, _, q => q.2
theorem inc_lt : ∀ {t : List Addr} {i j : Nat} {x y : Addr}, inc t → t[i]? = some x → t[j]? = some y → i < j → x < y
  | [], i, _, _, _, _, q, _, _ => by simp at q
  | z :: t, 0, j + 1, x, y, q, hx, hy, _ => by cases Option.some.inj (show some z = some x from hx); exact inc_head (i := j) q (by simpa using hy)
  | z :: t, i + 1, j + 1, x, y, q, hx, hy, r => inc_lt (i := i) (j := j) (inc_tail q) (by simpa using hx) (by simpa using hy) (by omega)
  | _ :: _, _, 0, _, _, _, _, _, r => by omega
theorem inc_ne {t : List Addr} (q : inc t) (i j : Nat) {x y : Addr} (hx : t[i]? = some x) (hy : t[j]? = some y) (r : i < j) : x ≠ y := Nat.ne_of_lt (inc_lt q hx hy r)
theorem inc_ge {t : List Addr} {x : Addr} (q : inc (x :: t)) (ge : n0 ≤ x) (i : Nat) {y : Addr} (hy : t[i]? = some y) : n0 ≤ y := Nat.le_of_lt (Nat.lt_of_le_of_lt ge (inc_head q hy))
end OwnDbl
section OwnPriv
variable {p : Program} {l : Launch} {e : Env} {R : Room} {s : State} {m : MethodId} {args : Array Value} {below : List Frame} {meth : Method} {c : Code} {T : State} {cells slots cells' slots' : Nat} {Z : State} {a0 : Array Value} {h h' : Heap} {n0 : Nat} {Q : Option Value → Heap → Prop} {own nm : String} {bytes : ByteArray} {maxL : Nat} {ret : Option FieldType} {pc pc' pt : Nat} {Ls : Array Slot} {stk : List Value}
theorem own_psel {y : MethodName} {n : Nat} (wi0 : (Cond.instantiable y.cls n).before a0 Z = true) (wp : (Cond.privateMethod y).before a0 Z = true) (wi : (Cond.instanceMethod y).before a0 Z = true) (hy : y.cls ≠ "java/lang/invoke/MethodHandle" ∧ y.cls ≠ "java/lang/invoke/VarHandle") : (Cond.selects y.cls y y).before a0 Z = true := by
  obtain ⟨c, k, h1, h2, -, h4, -⟩ := Cond.instantiable_spec wi0
  exact selects_self_of_private h1 h2 (by simp at h4; exact h4.1) (Cond.privateMethod_at wp) wi hy
theorem go_priv (K : Ctx p s m meth c Z own nm bytes maxL ret) (X : St p l e R s m args below meth c n0 T cells slots) {C : String} {index : Nat} {y : MethodName} {bytes' : ByteArray} {maxL' : Nat} {ret' : Option FieldType} {rm : Room} {Q' : Option Value → Heap → Prop} {a : Addr} {argsL st0 : List Value}
    (w1 : (Cond.methodLink own index y).before a0 Z = true) (w2 : (Cond.instanceMethod y).before a0 Z = true) (wn : (Cond.selects y.cls y y).before a0 Z = true) (wp : (Cond.privateMethod y).before a0 Z = true) (w5 : (Cond.code y bytes' maxL' ret').before a0 Z = true) (w6 : (Cond.initialized y.cls).before a0 Z = true) (hy : y.cls ≠ "java/lang/invoke/MethodHandle" ∧ y.cls ≠ "java/lang/invoke/VarHandle")
    (hlen : ∀ sig, parseMethodDescriptor y.desc = some sig → argsL.length = sig.parameters.length) (eT : T.heap = h) (E : Exa Z h a C) (C0 : Con l Z n0 y bytes' maxL' ret' rm (.ref a :: argsL).toArray h Q') (hst : st0 = argsL.reverse ++ .ref a :: stk) (hsize : Ls.size = maxL) (hd : decode bytes pc = .ok (.invokevirtual index, 3)) (hp : pc + 3 = pc')
    (hf : rm.frames + 1 ≤ R.frames) {W : Nat} (hW : (stk.map fun v => v.category).sum ≤ W) (hl : W + (maxL' + 11) + rm.locals ≤ R.locals) (hc' : cells + rm.cells = cells') (hs' : slots + rm.slots = slots') (hc : cells' ≤ R.cells) (hs : slots' ≤ R.slots)
    (k : ∀ T' h' v, St p l e R s m args below meth c n0 T' cells' slots' → T'.heap = h' → Q' v h' → Go p e below s R n0 Q (T'.setTop (mkF m pc' Ls (v.toList ++ stk)))) : Go p e below s R n0 Q (T.setTop (mkF m pc Ls st0)) := by
  subst hp hc' hs' hst; obtain ⟨locs, X, N⟩ := X
  obtain ⟨cell, hcell, hobj⟩ := E.cell
  obtain ⟨_, _, ⟨T1, L1, k1, n1⟩, -, X1, ⟨Lc1, hQ1, l1, y1, z1⟩, st1⟩ := X.privateBack K.hx K.own' (mvT K.hZ w1) (mvT K.hZ w2) (mvT K.hZ wn) (Cond.privateMethod_at (args := #[]) (mvP K.hZ wp)) (mvT K.hZ w5) hy (backOf (W := W) (Q := fun v u L => Q' v u ∧ Fr n0 L) (C0 []) K.hZ w5 w6 hf hl) (g := mkF m pc Ls (argsL.reverse ++ .ref a :: stk)) rfl (by rw [K.ml]; exact hsize) (Steps.refl _) (by rw [eT]; exact hcell) hobj (argsL := argsL) (rest := stk) hlen rfl (by show 2 * 0 + _ ≤ _; omega) (hb K.by' hd) (fun _ _ => ⟨rfl, eT, hc, hs⟩)
  dsimp only [Pt.U, Pt.locs, Pt.cells, Pt.slots] at X1 l1 y1 z1 st1 hQ1
  subst l1 y1 z1
  exact go_by (fun t k => st1.trans k) (k T1 _ _ ⟨_, X1, Fr.app N hQ1.2⟩ rfl hQ1.1)
end OwnPriv
section OwnRun
abbrev AW := Int32 ⊕ Nat ⊕ UInt64 ⊕ Addr ⊕ Nat
abbrev aI (n : Int32) : AW := .inl n
abbrev aR (k : Nat) : AW := .inr (.inl k)
abbrev aD (d : UInt64) : AW := .inr (.inr (.inl d))
abbrev aA (a : Addr) : AW := .inr (.inr (.inr (.inl a)))
abbrev aU : AW := .inr (.inr (.inr (.inr 0)))
abbrev aS : AW := .inr (.inr (.inr (.inr 1)))
def cv (x : Nat → Addr) : AW → Value
  | .inl n => .int n
  | .inr (.inl k) => .ref (x k)
  | .inr (.inr (.inl d)) => .double d
  | .inr (.inr (.inr (.inl a))) => .ref a
  | .inr (.inr (.inr (.inr _))) => .null
def cs (x : Nat → Addr) : AW → Slot
  | .inr (.inr (.inr (.inr 0))) => .unset
  | .inr (.inr (.inr (.inr (_ + 1)))) => .second
  | .inl n => .val (.int n)
  | .inr (.inl k) => .val (.ref (x k))
  | .inr (.inr (.inl d)) => .val (.double d)
  | .inr (.inr (.inr (.inl a))) => .val (.ref a)
def kd : AW → Nat
  | .inl _ => 0
  | .inr (.inl _) => 1
  | .inr (.inr (.inl _)) => 2
  | .inr (.inr (.inr (.inl _))) => 1
  | .inr (.inr (.inr (.inr _))) => 3
def gL (x : Nat → Addr) (L : List AW) : Array Slot := (L.map (cs x)).toArray
def gS (x : Nat → Addr) (S : List AW) : List Value := S.map (cv x)
abbrev FA (m : MethodId) (x : Nat → Addr) (pc : Nat) (L S : List AW) : JFrame := mkF m pc (gL x L) (gS x S)
theorem cs_val {x : Nat → Addr} : ∀ {w : AW}, kd w ≠ 3 → cs x w = .val (cv x w)
  | .inl _, _ => rfl
  | .inr (.inl _), _ => rfl
  | .inr (.inr (.inl _)), _ => rfl
  | .inr (.inr (.inr (.inl _))), _ => rfl
  | .inr (.inr (.inr (.inr _))), q => absurd rfl q
theorem gL_get {x : Nat → Addr} {L : List AW} {k : Nat} : (gL x L)[k]? = (L[k]?).map (cs x) := by simp [gL]
theorem gL_size {x : Nat → Addr} {L : List AW} : (gL x L).size = L.length := by simp [gL]
theorem gL_set {x : Nat → Addr} {L : List AW} {k : Nat} {w : AW} : (gL x L).setIfInBounds k (cs x w) = gL x (L.set k w) := by simp [gL, List.map_set]
def un (n : Nat) : List AW := List.replicate n aU
def setA (L : List AW) (i : Nat) (w : AW) : Option (List AW) := bif Nat.blt i L.length then some (L.set i w) else none
def selfA (L : List AW) (i : Nat) (w : AW) : Option (List AW) :=
  match setA L i w with
  | none => none
  | some L => match Nat.beq (kd w) 2 with
    | false => some L
    | true => match L[i + 1]? with
      | none => none
      | some o => match Nat.beq (kd o) 2 with
        | true => match setA L (i + 2) aU with | none => none | some L => setA L (i + 1) aS
        | false => setA L (i + 1) aS
def storeA (L : List AW) (i : Nat) (w : AW) : Option (List AW) :=
  match L[i]? with
  | none => none
  | some (.inr (.inr (.inr (.inr 0)))) => selfA L i w
  | some (.inr (.inr (.inr (.inr (_ + 1))))) => match setA L (i - 1) aU with | none => none | some L => selfA L i w
  | some (.inr (.inr (.inl _))) => match setA L (i + 1) aU with | none => none | some L => selfA L i w
  | some _ => selfA L i w
theorem setA_ok {x : Nat → Addr} {L L' : List AW} {i : Nat} {w : AW} (q : setA L i w = some L') : setAt (gL x L) i (cs x w) = some (gL x L') := by
  unfold setA at q
  cases hb : Nat.blt i L.length with
  | false => rw [hb] at q; simp at q
  | true =>
    rw [hb] at q; simp at q; subst q
    have : i < L.length := Nat.blt_eq.mp hb
    unfold setAt; rw [gL_size, if_pos this, gL_set]
theorem cat2 {x : Nat → Addr} : ∀ {w : AW}, kd w ≠ 3 → ((cv x w).category = 2 ↔ kd w = 2)
  | .inl _, _ => by simp [cv, kd, Value.category]
  | .inr (.inl _), _ => by simp [cv, kd, Value.category]
  | .inr (.inr (.inl _)), _ => by simp [cv, kd, Value.category]
  | .inr (.inr (.inr (.inl _))), _ => by simp [cv, kd, Value.category]
  | .inr (.inr (.inr (.inr _))), q => absurd rfl q
theorem selfA_ok {x : Nat → Addr} {L L' : List AW} {i : Nat} {w : AW} (hw : kd w ≠ 3) (q : selfA L i w = some L') : storeSelf (gL x L) i (cv x w) = some (gL x L') := by
  unfold selfA at q
  cases h1 : setA L i w with
  | none => rw [h1] at q; cases q
  | some L1 =>
    rw [h1] at q; simp only at q
    have e1 := setA_ok (x := x) h1
    rw [cs_val hw] at e1
    unfold storeSelf
    rw [e1]; simp only [Option.bind_eq_bind, Option.bind_some]
    cases hk : Nat.beq (kd w) 2 with
    | false =>
      rw [hk] at q; simp only at q
      have : ¬ (cv x w).category = 2 := fun r => by have := (cat2 hw).mp r; rw [this] at hk; cases hk
      rw [if_neg this]; rw [Option.some.inj q]
    | true =>
      rw [hk] at q; simp only at q
      have : (cv x w).category = 2 := (cat2 hw).mpr (Nat.eq_of_beq_eq_true hk)
      rw [if_pos this, gL_get]
      cases ho : L1[i + 1]? with
      | none => rw [ho] at q; cases q
      | some o =>
        rw [ho] at q; simp only at q
        simp only [Option.map_some, Option.bind_some]
        have sec : ∀ {M : List AW}, setA M (i + 1) aS = some L' → setAt (gL x M) (i + 1) .second = some (gL x L') := fun r => setA_ok (x := x) (w := aS) r
        cases hk2 : Nat.beq (kd o) 2 with
        | true =>
          rw [hk2] at q; simp only at q
          cases h2 : setA L1 (i + 2) aU with
          | none => rw [h2] at q; cases q
          | some L2 =>
            rw [h2] at q; simp only at q
            have e2 := setA_ok (x := x) (w := aU) h2
            have ko := Nat.eq_of_beq_eq_true hk2
            rw [cs_val (x := x) (w := o) (by omega)]
            simp only
            rw [if_pos ((cat2 (by omega)).mpr ko), show setAt (gL x L1) (i + 2) .unset = some (gL x L2) from e2]
            exact sec q
        | false =>
          rw [hk2] at q; simp only at q
          have e3 := sec q
          rcases o with n | k | d | a | z
          · simp only [cs, Value.category]; exact e3
          · simp only [cs, Value.category]; exact e3
          · cases hk2
          · simp only [cs, Value.category]; exact e3
          · cases z <;> simp only [cs] <;> exact e3
theorem storeA_ok {x : Nat → Addr} {L L' : List AW} {i : Nat} {w : AW} (hw : kd w ≠ 3) (q : storeA L i w = some L') : storeLocals (gL x L) i (cv x w) = some (gL x L') := by
  unfold storeA at q
  unfold storeLocals
  rw [gL_get]
  cases ho : L[i]? with
  | none => rw [ho] at q; cases q
  | some o =>
    rw [ho] at q
    simp only [Option.map_some, Option.bind_eq_bind, Option.bind_some]
    rcases o with n | k | d | a | z
    · simp only [cs, Value.category] at q ⊢; exact selfA_ok hw q
    · simp only [cs, Value.category] at q ⊢; exact selfA_ok hw q
    · simp only at q
      cases h1 : setA L (i + 1) aU with
      | none => rw [h1] at q; cases q
      | some L1 =>
        rw [h1] at q; simp only at q
        simp only [cs, Value.category]
        rw [if_pos trivial, show setAt (gL x L) (i + 1) .unset = some (gL x L1) from setA_ok (x := x) (w := aU) h1]
        exact selfA_ok hw q
    · simp only [cs, Value.category] at q ⊢; exact selfA_ok hw q
    · cases z with
      | zero => simp only [cs] at q ⊢; exact selfA_ok hw q
      | succ z =>
        simp only at q
        cases h1 : setA L (i - 1) aU with
        | none => rw [h1] at q; cases q
        | some L1 =>
          rw [h1] at q; simp only at q
          simp only [cs]
          rw [show setAt (gL x L) (i - 1) .unset = some (gL x L1) from setA_ok (x := x) (w := aU) h1]
          exact selfA_ok hw q
def lk1 : List (Nat × Instr × Nat) → Nat → Option (Instr × Nat)
  | [], _ => none
  | (a, i, n) :: r, pc => match Nat.beq a pc with | true => some (i, n) | false => lk1 r pc
def lk (t : List (List (Nat × Instr × Nat))) (pc : Nat) : Option (Instr × Nat) := match t[pc / 16]? with | some r => lk1 r pc | none => none
def TB (b : ByteArray) (t : List (List (Nat × Instr × Nat))) : Prop := ∀ {pc i n}, lk t pc = some (i, n) → decode b pc = .ok (i, n)
theorem lk1_mem : ∀ {r : List (Nat × Instr × Nat)} {pc : Nat} {i : Instr} {n : Nat}, lk1 r pc = some (i, n) → (pc, i, n) ∈ r
  | (a, j, k) :: r, pc, i, n, q => by
    unfold lk1 at q
    cases hb : Nat.beq a pc with
    | true => rw [hb] at q; cases q; cases Nat.eq_of_beq_eq_true hb; exact List.mem_cons_self
    | false => rw [hb] at q; exact List.mem_cons_of_mem _ (lk1_mem q)
theorem tb_of {b : ByteArray} {t : List (List (Nat × Instr × Nat))} (q : ∀ r ∈ t, ∀ y ∈ r, decode b y.1 = .ok (y.2.1, y.2.2)) : TB b t := by
  intro pc i n r
  unfold lk at r
  cases ht : t[pc / 16]? with
  | none => rw [ht] at r; cases r
  | some z => rw [ht] at r; have r' : lk1 z pc = some (i, n) := r; exact q z (List.mem_of_getElem? ht) (pc, i, n) (lk1_mem r')
def lkf : List (Nat × String × String × AW) → Nat → Option AW
  | [], _ => none
  | (j, _, _, w) :: r, i => match Nat.beq j i with | true => some w | false => lkf r i
def lki : List (Nat × List Int32) → Nat → Option (List Int32)
  | [], _ => none
  | (j, w) :: r, i => match Nat.beq j i with | true => some w | false => lki r i
def LW (Z : State) (a0 : Array Value) (own : String) : List (Nat × String × String × AW) → Prop
  | [] => True
  | (j, n, d, _) :: r => (Cond.fieldLink own j own n d).before a0 Z = true ∧ LW Z a0 own r
def FD (Z : State) (h : Heap) (a : Addr) (own : String) (x : Nat → Addr) : List (Nat × String × String × AW) → Prop
  | [] => True
  | (_, n, d, w) :: r => Fld Z h a own n d (cv x w) ∧ FD Z h a own x r
theorem FD.get {Z : State} {h : Heap} {a0 : Array Value} {own : String} {a : Addr} {x : Nat → Addr} : ∀ {fe : List (Nat × String × String × AW)} {i : Nat} {w : AW}, LW Z a0 own fe → FD Z h a own x fe → lkf fe i = some w → ∃ n d, (Cond.fieldLink own i own n d).before a0 Z = true ∧ Fld Z h a own n d (cv x w)
  | (j, n, d, v) :: r, i, w, l, f, q => by
    unfold lkf at q
    cases hb : Nat.beq j i with
    | true => rw [hb] at q; cases q; cases Nat.eq_of_beq_eq_true hb; exact ⟨n, d, l.1, f.1⟩
    | false => rw [hb] at q; exact FD.get l.2 f.2 q
theorem FD.keep {Z : State} {h h' : Heap} {own : String} {a : Addr} {x : Nat → Addr} {ws : List Addr} (K : Keep h h' ws) (q : a ∉ ws) : ∀ {fe : List (Nat × String × String × AW)}, FD Z h a own x fe → FD Z h' a own x fe
  | [], _ => trivial
  | _ :: _, f => ⟨f.1.keep K q, FD.keep K q f.2⟩
def EI (Z : State) (h : Heap) (x : Nat → Addr) : List (Nat × List Int32) → Prop
  | [] => True
  | (k, ns) :: r => AV Z h (x k) .int (ns.map .int) ∧ EI Z h x r
theorem EI.get {Z : State} {h : Heap} {x : Nat → Addr} : ∀ {ie : List (Nat × List Int32)} {k : Nat} {ns : List Int32}, EI Z h x ie → lki ie k = some ns → AV Z h (x k) .int (ns.map .int)
  | (j, v) :: r, k, ns, f, q => by
    unfold lki at q
    cases hb : Nat.beq j k with
    | true => rw [hb] at q; cases q; cases Nat.eq_of_beq_eq_true hb; exact f.1
    | false => rw [hb] at q; exact EI.get f.2 q
def EV (Z : State) (h : Heap) (x : Nat → Addr) (ie : List (Nat × List Int32)) : Prop := AA Z h (x 8) [.ref (x 9)] ∧ EI Z h x ie
def NX (n0 : Nat) (x : Nat → Addr) : Prop := n0 ≤ x 0 ∧ ∀ i j, i < j → j < 18 → x i < x j
theorem NX.ge {n0 : Nat} {x : Nat → Addr} (N : NX n0 x) (i : Nat) (q : Nat.blt i 18 = true) : n0 ≤ x i := by
  rcases Nat.eq_zero_or_pos i with r | r
  · rw [r]; exact N.1
  · exact Nat.le_trans N.1 (Nat.le_of_lt (N.2 0 i r (Nat.blt_eq.mp q)))
theorem NX.ne {n0 : Nat} {x : Nat → Addr} (N : NX n0 x) {i j : Nat} (hi : i < 18) (hj : j < 18) (q : i ≠ j) : x i ≠ x j := by
  rcases Nat.lt_or_gt_of_ne q with r | r
  · exact Nat.ne_of_lt (N.2 i j r hj)
  · exact Nat.ne_of_gt (N.2 j i r hi)
theorem nx {n0 : Nat} {x : Nat → Addr} (N : NX n0 x) (i : Nat) {js : List Nat} (q : (Nat.blt i 18 && js.all fun j => Nat.blt j 18 && !Nat.beq i j) = true) : x i ∉ js.map x := by
  simp only [Bool.and_eq_true, List.all_eq_true] at q
  intro r
  obtain ⟨j, hj, e⟩ := List.mem_map.mp r
  have := q.2 j hj
  simp only [Bool.and_eq_true, Bool.not_eq_true'] at this
  exact N.ne (Nat.blt_eq.mp q.1) (Nat.blt_eq.mp this.1) (fun r => by rw [r] at this; simp at this) e.symm
theorem EI.keep {Z : State} {h h' : Heap} {n0 : Nat} {x : Nat → Addr} {js : List Nat} (N : NX n0 x) (K : Keep h h' (js.map x)) : ∀ {ie : List (Nat × List Int32)}, EI Z h x ie → (ie.all fun y => Nat.blt y.1 18 && js.all fun j => Nat.blt j 18 && !Nat.beq y.1 j) = true → EI Z h' x ie
  | [], _, _ => trivial
  | y :: r, f, q => by
    simp only [List.all_cons, Bool.and_eq_true] at q
    exact ⟨f.1.keep K (nx N y.1 (by simp only [Bool.and_eq_true]; exact q.1)), EI.keep N K f.2 q.2⟩
theorem EV.keep {Z : State} {h h' : Heap} {n0 : Nat} {x : Nat → Addr} {js : List Nat} {ie : List (Nat × List Int32)} (V : EV Z h x ie) (N : NX n0 x) (K : Keep h h' (js.map x)) (q : (js.all fun j => Nat.blt j 18 && !Nat.beq 8 j) = true) (q2 : (ie.all fun y => Nat.blt y.1 18 && js.all fun j => Nat.blt j 18 && !Nat.beq y.1 j) = true) : EV Z h' x ie :=
  ⟨V.1.keep K (nx N 8 (by rw [q]; rfl)), EI.keep N K V.2 q2⟩
def updI : List (Nat × List Int32) → Nat → List Int32 → List (Nat × List Int32)
  | [], _, _ => []
  | (j, w) :: r, k, ns => (j, match Nat.beq j k with | true => ns | false => w) :: updI r k ns
theorem EI.one {Z : State} {h h' : Heap} {n0 : Nat} {x : Nat → Addr} {k : Nat} {ns : List Int32} (N : NX n0 x) (K : Keep h h' [x k]) (hk : k < 18) (A : AV Z h' (x k) .int (ns.map .int)) : ∀ {ie : List (Nat × List Int32)}, EI Z h x ie → (ie.all fun y => Nat.blt y.1 18) = true → EI Z h' x (updI ie k ns)
  | [], _, _ => trivial
  | (j, w) :: r, f, q => by
    simp only [List.all_cons, Bool.and_eq_true] at q
    refine ⟨?_, EI.one N K hk A f.2 q.2⟩
    cases hb : Nat.beq j k with
    | true => cases Nat.eq_of_beq_eq_true hb; exact A
    | false => exact f.1.keep K (by intro r; exact N.ne (Nat.blt_eq.mp q.1) hk (fun e => by rw [e] at hb; simp at hb) (List.mem_singleton.mp r))
end OwnRun
section OwnRun2
variable {p : Program} {l : Launch} {e : Env} {R : Room} {s : State} {m : MethodId} {args : Array Value} {below : List Frame} {meth : Method} {c : Code} {T : State} {cells slots cells' slots' : Nat} {Z : State} {a0 : Array Value} {h h' : Heap} {n0 : Nat} {Q : Option Value → Heap → Prop} {own nm : String} {bytes : ByteArray} {maxL : Nat} {ret : Option FieldType} {pc pc' pt : Nat} {Ls : Array Slot} {stk : List Value} {x : Nat → Addr} {t : List (List (Nat × Instr × Nat))} {fe : List (Nat × String × String × AW)} {ie : List (Nat × List Int32)} {L L' S S' : List AW} {h0 : Heap}
def KX (p : Program) (s : State) (m : MethodId) (meth : Method) (c : Code) (Z : State) (a0 : Array Value) (own nm : String) (bytes : ByteArray) (maxL : Nat) (ret : Option FieldType) (t : List (List (Nat × Instr × Nat))) (fe : List (Nat × String × String × AW)) : Prop :=
  Ctx p s m meth c Z own nm bytes maxL ret ∧ TB bytes t ∧ LW Z a0 own fe
theorem KX.d (K : KX p s m meth c Z a0 own nm bytes maxL ret t fe) {pc : Nat} {i : Instr} {n : Nat} (q : lk t pc = some (i, n)) : decode bytes pc = .ok (i, n) := K.2.1 q
def GH (p : Program) (l : Launch) (e : Env) (R : Room) (s : State) (m : MethodId) (args : Array Value) (below : List Frame) (meth : Method) (c : Code) (n0 : Nat) (Q : Option Value → Heap → Prop) (h : Heap) (cells slots : Nat) (f : JFrame) : Prop :=
  ∀ T, St p l e R s m args below meth c n0 T cells slots → T.heap = h → Go p e below s R n0 Q (T.setTop f)
def OB (Z : State) (h : Heap) (x : Nat → Addr) (own : String) (fe : List (Nat × String × String × AW)) : Prop := Exa Z h (x 0) own ∧ FD Z h (x 0) own x fe
theorem OB.keep {ws : List Addr} (O : OB Z h x own fe) (K : Keep h h' ws) (q : x 0 ∉ ws) : OB Z h' x own fe := ⟨O.1.keep K, O.2.keep K q⟩
def ldA (L : List AW) (k q : Nat) : Option AW := match L[k]? with | none => none | some w => match Nat.beq (kd w) q with | true => some w | false => none
theorem ldA_ok {k q : Nat} {w : AW} (r : ldA L k q = some w) : L[k]? = some w ∧ kd w = q := by
  unfold ldA at r
  cases hk : L[k]? with
  | none => rw [hk] at r; cases r
  | some v =>
    rw [hk] at r; simp only at r
    cases hb : Nat.beq (kd v) q with
    | false => rw [hb] at r; cases r
    | true => rw [hb] at r; cases r; exact ⟨rfl, Nat.eq_of_beq_eq_true hb⟩
theorem ld_slot {k q : Nat} {w : AW} (r : ldA L k q = some w) (hq : q ≠ 3) : (gL x L)[k]? = some (.val (cv x w)) := by
  obtain ⟨h1, h2⟩ := ldA_ok r
  rw [gL_get, h1, Option.map_some, cs_val (by rw [h2]; exact hq)]
theorem kd0 : ∀ {w : AW}, kd w = 0 → ∃ n, w = aI n
  | .inl n, _ => ⟨n, rfl⟩
  | .inr (.inl _), q => by cases q
  | .inr (.inr (.inl _)), q => by cases q
  | .inr (.inr (.inr (.inl _))), q => by cases q
  | .inr (.inr (.inr (.inr _))), q => by cases q
theorem kd2 : ∀ {w : AW}, kd w = 2 → ∃ d, w = aD d
  | .inl n, q => by cases q
  | .inr (.inl _), q => by cases q
  | .inr (.inr (.inl d)), _ => ⟨d, rfl⟩
  | .inr (.inr (.inr (.inl _))), q => by cases q
  | .inr (.inr (.inr (.inr _))), q => by cases q
theorem kd1 : ∀ {w : AW}, kd w = 1 → (cv x w).isRef = true
  | .inl n, q => by cases q
  | .inr (.inl _), _ => rfl
  | .inr (.inr (.inl d)), q => by cases q
  | .inr (.inr (.inr (.inl _))), _ => rfl
  | .inr (.inr (.inr (.inr _))), q => by cases q
theorem kdc1 : ∀ {w : AW}, kd w ≠ 2 → (cv x w).category = 1
  | .inl n, _ => rfl
  | .inr (.inl _), _ => rfl
  | .inr (.inr (.inl d)), q => absurd rfl q
  | .inr (.inr (.inr (.inl _))), _ => rfl
  | .inr (.inr (.inr (.inr _))), _ => rfl
def tn : Int → Option Nat
  | .ofNat a => some a
  | .negSucc _ => none
def jmp (pc : Nat) (o : Int) (L S : List AW) : Option (Nat × List AW × List AW) := match tn ((pc : Int) + o) with | none => none | some q => some (q, L, S)
def stq (q n pc k : Nat) (L : List AW) (w : AW) (S : List AW) : Option (Nat × List AW × List AW) := match Nat.beq (kd w) q with | false => none | true => match storeA L k w with | none => none | some L' => some (pc + n, L', S)
def sp (fe : List (Nat × String × String × AW)) (ie : List (Nat × List Int32)) (n pc : Nat) (L : List AW) : Instr → List AW → Option (Nat × List AW × List AW)
  | .aload_n k, S => match ldA L k.val 1 with | none => none | some w => some (pc + n, L, w :: S)
  | .aload k, S => match ldA L k 1 with | none => none | some w => some (pc + n, L, w :: S)
  | .iload_n k, S => match ldA L k.val 0 with | none => none | some w => some (pc + n, L, w :: S)
  | .iload k, S => match ldA L k 0 with | none => none | some w => some (pc + n, L, w :: S)
  | .dload_n k, S => match ldA L k.val 2 with | none => none | some w => some (pc + n, L, w :: S)
  | .dload k, S => match ldA L k 2 with | none => none | some w => some (pc + n, L, w :: S)
  | .astore_n k, w :: S => stq 1 n pc k.val L w S
  | .astore k, w :: S => stq 1 n pc k L w S
  | .istore_n k, w :: S => stq 0 n pc k.val L w S
  | .istore k, w :: S => stq 0 n pc k L w S
  | .dstore_n k, w :: S => stq 2 n pc k.val L w S
  | .dstore k, w :: S => stq 2 n pc k L w S
  | .iconst i, S => some (pc + n, L, aI (Int32.ofInt i) :: S)
  | .bipush i, S => some (pc + n, L, aI (Int8.ofInt i).toInt32 :: S)
  | .sipush i, S => some (pc + n, L, aI (Int16.ofInt i).toInt32 :: S)
  | .dconst 0, S => some (pc + n, L, aD 0 :: S)
  | .dconst 1, S => some (pc + n, L, aD 4607182418800017408 :: S)
  | .iadd, .inl b :: .inl a :: S => some (pc + n, L, aI (a + b) :: S)
  | .isub, .inl b :: .inl a :: S => some (pc + n, L, aI (a - b) :: S)
  | .imul, .inl b :: .inl a :: S => some (pc + n, L, aI (a * b) :: S)
  | .ishl, .inl b :: .inl a :: S => some (pc + n, L, aI (a <<< (b &&& 31)) :: S)
  | .iushr, .inl b :: .inl a :: S => some (pc + n, L, aI (a.toUInt32 >>> (b &&& 31).toUInt32).toInt32 :: S)
  | .iand, .inl b :: .inl a :: S => some (pc + n, L, aI (a &&& b) :: S)
  | .iinc k i, S => match L[k]? with | some (.inl a) => (match storeA L k (aI (a + Int32.ofInt i)) with | none => none | some L' => some (pc + n, L', S)) | _ => none
  | .goto o, S => jmp pc o L S
  | .ifCond cd o, .inl a :: S => match if_icmp.holds cd a 0 with | true => jmp pc o L S | false => some (pc + n, L, S)
  | .if_icmp cd o, .inl b :: .inl a :: S => match if_icmp.holds cd a b with | true => jmp pc o L S | false => some (pc + n, L, S)
  | .dup, w :: S => match Nat.beq (kd w) 2 with | true => none | false => some (pc + n, L, w :: w :: S)
  | .dup2, w :: v :: S => match Nat.beq (kd w) 2, Nat.beq (kd v) 2 with | false, false => some (pc + n, L, w :: v :: w :: v :: S) | _, _ => none
  | .getfield i, .inr (.inl 0) :: S => match lkf fe i with | none => none | some w => some (pc + n, L, w :: S)
  | .iaload, .inl j :: .inr (.inl k) :: S => match lki ie k with | none => none | some ns => (match tn j.toInt with | none => none | some i => match ns[i]? with | none => none | some v => some (pc + n, L, aI v :: S))
  | .aaload, .inl j :: .inr (.inl 8) :: S => match tn j.toInt with | some 0 => some (pc + n, L, aR 9 :: S) | _ => none
  | .arraylength, .inr (.inl k) :: S => match Nat.beq k 8 with | true => some (pc + n, L, aI 1 :: S) | false => match lki ie k with | none => none | some ns => some (pc + n, L, aI ns.length.toInt32 :: S)
  | _, _ => none
def lq : Instr → Nat
  | .iload _ | .aload _ | .dload _ | .istore _ | .astore _ | .dstore _ | .bipush _ => 2
  | .iinc _ _ | .goto _ | .ifCond _ _ | .if_icmp _ _ | .getfield _ | .sipush _ => 3
  | _ => 1
theorem toNat_some {i : Int} {q : Nat} (r : tn i = some q) : i = (q : Int) := by
  cases i with
  | ofNat a => cases r; rfl
  | negSucc a => cases r
theorem gh {f f' : JFrame} {cells slots : Nat} (h1 : ∀ T, St p l e R s m args below meth c n0 T cells slots → T.heap = h → Go p e below s R n0 Q (T.setTop f') → Go p e below s R n0 Q (T.setTop f)) (k : GH p l e R s m args below meth c n0 Q h cells slots f') : GH p l e R s m args below meth c n0 Q h cells slots f := fun T X e => h1 T X e (k T X e)
theorem jmp_ok {pc pc' : Nat} {o : Int} (r : jmp pc o L S = some (pc', L', S')) : (0 ≤ (pc : Int) + o ∧ ((pc : Int) + o).toNat = pc') ∧ L = L' ∧ S = S' := by
  unfold jmp at r
  cases hq : tn ((pc : Int) + o) with
  | none => rw [hq] at r; cases r
  | some q => rw [hq] at r; cases r; have := toNat_some hq; exact ⟨⟨by omega, by omega⟩, rfl, rfl⟩
theorem stq_ok {q n pc k pc' : Nat} {w : AW} (r : stq q n pc k L w S = some (pc', L', S')) (hq : q ≠ 3) : kd w = q ∧ storeLocals (gL x L) k (cv x w) = some (gL x L') ∧ pc + n = pc' ∧ S = S' := by
  unfold stq at r
  cases hb : Nat.beq (kd w) q with
  | false => rw [hb] at r; cases r
  | true =>
    rw [hb] at r; simp only at r
    have hk := Nat.eq_of_beq_eq_true hb
    cases hs : storeA L k w with
    | none => rw [hs] at r; cases r
    | some M => rw [hs] at r; cases r; exact ⟨hk, storeA_ok (by rw [hk]; exact hq) hs, rfl, rfl⟩
set_option maxHeartbeats 4000000 in
theorem sp_ok (K : KX p s m meth c Z a0 own nm bytes maxL ret t fe) (O : OB Z h x own fe) (V : EV Z h x ie) {n pc pc' : Nat} {i : Instr} (hd : decode bytes pc = .ok (i, n)) (r : sp fe ie n pc L i S = some (pc', L', S')) (hn : n = lq i)
    (k : GH p l e R s m args below meth c n0 Q h cells slots (FA m x pc' L' S')) : GH p l e R s m args below meth c n0 Q h cells slots (FA m x pc L S) := by
  unfold sp at r
  split at r
  · simp only [lq] at hn; subst hn
    split at r
    · cases r
    · rename_i w hw; cases r
      exact gh (fun T X e k => go_aloadN K.1 X hd (ld_slot hw (by decide)) (kd1 (ldA_ok hw).2) rfl k) k
  · simp only [lq] at hn; subst hn
    split at r
    · cases r
    · rename_i w hw; cases r
      exact gh (fun T X e k => go_aload K.1 X hd (ld_slot hw (by decide)) (kd1 (ldA_ok hw).2) rfl k) k
  · simp only [lq] at hn; subst hn
    split at r
    · cases r
    · rename_i w hw; cases r; obtain ⟨v, rfl⟩ := kd0 (ldA_ok hw).2
      exact gh (fun T X e k => go_iloadN K.1 X hd (ld_slot hw (by decide)) rfl k) k
  · simp only [lq] at hn; subst hn
    split at r
    · cases r
    · rename_i w hw; cases r; obtain ⟨v, rfl⟩ := kd0 (ldA_ok hw).2
      exact gh (fun T X e k => go_iload K.1 X hd (ld_slot hw (by decide)) rfl k) k
  · simp only [lq] at hn; subst hn
    split at r
    · cases r
    · rename_i w hw; cases r; obtain ⟨v, rfl⟩ := kd2 (ldA_ok hw).2
      exact gh (fun T X e k => go_dloadN K.1 X hd (ld_slot hw (by decide)) rfl k) k
  · simp only [lq] at hn; subst hn
    split at r
    · cases r
    · rename_i w hw; cases r; obtain ⟨v, rfl⟩ := kd2 (ldA_ok hw).2
      exact gh (fun T X e k => go_dload K.1 X hd (ld_slot hw (by decide)) rfl k) k
  · simp only [lq] at hn; subst hn
    obtain ⟨h1, h2, rfl, rfl⟩ := stq_ok (x := x) r (by decide)
    exact gh (fun T X e k => go_astoreN K.1 X _ hd (kd1 h1) h2 rfl k) k
  · simp only [lq] at hn; subst hn
    obtain ⟨h1, h2, rfl, rfl⟩ := stq_ok (x := x) r (by decide)
    exact gh (fun T X e k => go_astore K.1 X _ hd (kd1 h1) h2 rfl k) k
  · simp only [lq] at hn; subst hn
    obtain ⟨h1, h2, rfl, rfl⟩ := stq_ok (x := x) r (by decide); obtain ⟨v, rfl⟩ := kd0 h1
    exact gh (fun T X e k => go_istoreN K.1 X _ hd h2 rfl k) k
  · simp only [lq] at hn; subst hn
    obtain ⟨h1, h2, rfl, rfl⟩ := stq_ok (x := x) r (by decide); obtain ⟨v, rfl⟩ := kd0 h1
    exact gh (fun T X e k => go_istore K.1 X _ hd h2 rfl k) k
  · simp only [lq] at hn; subst hn
    obtain ⟨h1, h2, rfl, rfl⟩ := stq_ok (x := x) r (by decide); obtain ⟨v, rfl⟩ := kd2 h1
    exact gh (fun T X e k => go_dstoreN K.1 X _ hd h2 rfl k) k
  · simp only [lq] at hn; subst hn
    obtain ⟨h1, h2, rfl, rfl⟩ := stq_ok (x := x) r (by decide); obtain ⟨v, rfl⟩ := kd2 h1
    exact gh (fun T X e k => go_dstore K.1 X _ hd h2 rfl k) k
  · simp only [lq] at hn; subst hn; cases r
    exact gh (fun T X e k => go_iconst K.1 X _ hd rfl rfl k) k
  · simp only [lq] at hn; subst hn; cases r
    exact gh (fun T X e k => go_bipush K.1 X _ hd rfl rfl k) k
  · simp only [lq] at hn; subst hn; cases r
    exact gh (fun T X e k => go_sipush K.1 X _ hd rfl rfl k) k
  · simp only [lq] at hn; subst hn; cases r
    exact gh (fun T X e k => go_dconst0 K.1 X hd rfl k) k
  · simp only [lq] at hn; subst hn; cases r
    exact gh (fun T X e k => go_dconst1 K.1 X hd rfl k) k
  · simp only [lq] at hn; subst hn; cases r
    exact gh (fun T X e k => go_iadd K.1 X hd rfl k) k
  · simp only [lq] at hn; subst hn; cases r
    exact gh (fun T X e k => go_isub K.1 X hd rfl k) k
  · simp only [lq] at hn; subst hn; cases r
    exact gh (fun T X e k => go_imul K.1 X hd rfl k) k
  · simp only [lq] at hn; subst hn; cases r
    exact gh (fun T X e k => go_ishl K.1 X hd rfl k) k
  · simp only [lq] at hn; subst hn; cases r
    exact gh (fun T X e k => go_iushr K.1 X hd rfl k) k
  · simp only [lq] at hn; subst hn; cases r
    exact gh (fun T X e k => go_iand K.1 X hd rfl k) k
  · simp only [lq] at hn; subst hn
    split at r
    · rename_i a ha
      split at r
      · cases r
      · rename_i M hM; cases r
        exact gh (fun T X e k => go_iinc K.1 X _ _ hd rfl (by rw [gL_get, ha]; rfl) (storeA_ok (w := aI _) (fun q => by cases q) hM) rfl k) k
    · cases r
  · simp only [lq] at hn; subst hn
    obtain ⟨h1, rfl, rfl⟩ := jmp_ok r
    exact gh (fun T X e k => go_goto K.1 X hd h1.1 h1.2 k) k
  · simp only [lq] at hn; subst hn
    split at r
    · rename_i hc; obtain ⟨h1, rfl, rfl⟩ := jmp_ok r
      exact gh (fun T X e k => by obtain ⟨locs, X, N⟩ := X; exact go_by (fun t k => XS.ifYes X.here K.1.hx rfl (pc0 := pc) rfl (hb K.1.by' hd) rfl ((if0 _ _).trans hc) h1.1 h1.2 k) k) k
    · rename_i hc; cases r
      exact gh (fun T X e k => by obtain ⟨locs, X, N⟩ := X; exact go_by (fun t k => XS.ifNo X.here K.1.hx rfl (hb K.1.by' hd) rfl ((if0 _ _).trans hc) k) k) k
  · simp only [lq] at hn; subst hn
    split at r
    · rename_i hc; obtain ⟨h1, rfl, rfl⟩ := jmp_ok r
      exact gh (fun T X e k => by obtain ⟨locs, X, N⟩ := X; exact go_by (fun t k => XS.icmpYes X.here K.1.hx rfl (pc0 := pc) rfl (hb K.1.by' hd) rfl hc h1.1 h1.2 k) k) k
    · rename_i hc; cases r
      exact gh (fun T X e k => by obtain ⟨locs, X, N⟩ := X; exact go_by (fun t k => XS.icmpNo X.here K.1.hx rfl (hb K.1.by' hd) rfl hc k) k) k
  · simp only [lq] at hn; subst hn
    split at r
    · cases r
    · rename_i hc; cases r
      exact gh (fun T X e k => go_dup K.1 X hd (kdc1 (fun q => by rw [q] at hc; cases hc)) rfl k) k
  · simp only [lq] at hn; subst hn
    split at r
    · rename_i h1 h2; cases r
      exact gh (fun T X e k => go_dup2 K.1 X hd (kdc1 (fun q => by rw [q] at h1; cases h1)) (kdc1 (fun q => by rw [q] at h2; cases h2)) rfl k) k
    · cases r
  · simp only [lq] at hn; subst hn
    split at r
    · cases r
    · rename_i w hw; cases r
      obtain ⟨n, d, l1, f1⟩ := FD.get K.2.2 O.2 hw
      exact fun T X e => go_getF (host := "") K.1 X (Or.inl l1) Via.refl e f1 hd rfl fun T' X' e' => k T' X' e'
  · simp only [lq] at hn; subst hn
    split at r
    · cases r
    · rename_i ns hns
      split at r
      · cases r
      · rename_i i hi
        split at r
        · cases r
        · rename_i v hv; cases r
          exact gh (fun T X e k => go_iaload K.1 X e (EI.get V.2 hns) (toNat_some hi) (by rw [List.getElem?_map, hv]; rfl) hd rfl k) k
  · simp only [lq] at hn; subst hn
    split at r
    · rename_i hi; cases r
      exact gh (fun T X e k => go_aaload K.1 X e V.1.av (i := 0) (toNat_some hi) rfl rfl hd rfl k) k
    · cases r
  · simp only [lq] at hn; subst hn
    split at r
    · rename_i hb; cases r; cases Nat.eq_of_beq_eq_true hb
      exact gh (fun T X e k => go_arraylength K.1 X e V.1.av rfl hd rfl k) k
    · split at r
      · cases r
      · rename_i ns hns; cases r
        exact gh (fun T X e k => go_arraylength K.1 X e (EI.get V.2 hns) (by rw [List.length_map]) hd rfl k) k
  · cases r
def runs (fe : List (Nat × String × String × AW)) (ie : List (Nat × List Int32)) (t : List (List (Nat × Instr × Nat))) : Nat → Nat → List AW → List AW → Nat × List AW × List AW
  | 0, pc, L, S => (pc, L, S)
  | f + 1, pc, L, S => match lk t pc with
    | none => (pc, L, S)
    | some (i, n) => match Nat.beq n (lq i) with
      | false => (pc, L, S)
      | true => match sp fe ie n pc L i S with
        | none => (pc, L, S)
        | some (pc', L', S') => runs fe ie t f pc' L' S'
theorem runs_ok (K : KX p s m meth c Z a0 own nm bytes maxL ret t fe) (O : OB Z h x own fe) (V : EV Z h x ie) : ∀ (f : Nat) {pc pc' : Nat} {L L' S S' : List AW}, runs fe ie t f pc L S = (pc', L', S') → GH p l e R s m args below meth c n0 Q h cells slots (FA m x pc' L' S') → GH p l e R s m args below meth c n0 Q h cells slots (FA m x pc L S)
  | 0, _, _, _, _, _, _, r, k => by cases r; exact k
  | f + 1, pc, pc', L, L', S, S', r, k => by
    unfold runs at r
    cases h1 : lk t pc with
    | none => rw [h1] at r; cases r; exact k
    | some y =>
      obtain ⟨i, n⟩ := y
      rw [h1] at r; simp only at r
      cases h2 : Nat.beq n (lq i) with
      | false => rw [h2] at r; cases r; exact k
      | true =>
        rw [h2] at r; simp only at r
        cases h3 : sp fe ie n pc L i S with
        | none => rw [h3] at r; cases r; exact k
        | some z =>
          obtain ⟨a, b, d⟩ := z
          rw [h3] at r; simp only at r
          exact sp_ok K O V (K.d h1) h3 (Nat.eq_of_beq_eq_true h2) (runs_ok K O V f r k)
theorem gR (K : KX p s m meth c Z a0 own nm bytes maxL ret t fe) (O : OB Z h x own fe) (V : EV Z h x ie) (pc' : Nat) (L' S' : List AW) (r : runs fe ie t 400 pc L S = (pc', L', S')) (k : GH p l e R s m args below meth c n0 Q h cells slots (FA m x pc' L' S')) : GH p l e R s m args below meth c n0 Q h cells slots (FA m x pc L S) := runs_ok K O V 400 r k
theorem gR0 (K : KX p s m meth c Z a0 own nm bytes maxL ret t fe) (O : OB Z h x own fe) (V : EV Z h x ie) (pc' : Nat) (S' : List AW) (r : runs fe ie t 400 pc L S = (pc', L, S')) (k : GH p l e R s m args below meth c n0 Q h cells slots (FA m x pc' L S')) : GH p l e R s m args below meth c n0 Q h cells slots (FA m x pc L S) := runs_ok K O V 400 r k
theorem sh (g : JFrame) {f : JFrame} (q : f = g) (k : GH p l e R s m args below meth c n0 Q h cells slots g) : GH p l e R s m args below meth c n0 Q h cells slots f := q ▸ k
theorem gE {as' : Array Value} (q : entryFrame m as' maxL = FA m x 0 L []) (X : St p l e R s m args below meth c n0 T 0 0) (e0 : T.heap = h) (k : GH p l e R s m args below meth c n0 Q h 0 0 (FA m x 0 L [])) : Go p e below s R n0 Q (T.setTop (entryFrame m as' maxL)) := by rw [q]; exact k T X e0
theorem keep_mo {ws ws' : List Addr} (K : Keep h h' ws) (q : ∀ y ∈ ws, y ∈ ws') : Keep h h' ws' := ⟨K.1, fun y c hc hn => K.2.1 y c hc fun r => hn (q y r), K.2.2⟩
theorem map_sub {js js' : List Nat} (q : (js.all fun j => js'.contains j) = true) : ∀ y ∈ js.map x, y ∈ js'.map x := fun y hy => by
  obtain ⟨j, hj, rfl⟩ := List.mem_map.mp hy
  exact List.mem_map.mpr ⟨j, List.contains_iff_mem.mp (List.all_eq_true.mp q j hj), rfl⟩
theorem kx (js'' : List Nat) {js js' : List Nat} {h'' : Heap} (K : Keep h h' (js.map x)) (K' : Keep h' h'' (js'.map x)) (q : (js.all fun j => js''.contains j) = true) (q' : (js'.all fun j => js''.contains j) = true) : Keep h h'' (js''.map x) := (keep_mo K (map_sub q)).trans K' fun y hy => Or.inl (map_sub q' y hy)
theorem kf {js : List Nat} {h'' : Heap} {b : Addr} (K : Keep h h' (js.map x)) (K' : Keep h' h'' [b]) (q : h.size ≤ b) : Keep h h'' (js.map x) := K.trans K' fun y hy => by cases List.mem_singleton.mp hy; exact Or.inr q
theorem km (js' : List Nat) {js : List Nat} (K : Keep h h' (js.map x)) (q : (js.all fun j => js'.contains j) = true) : Keep h h' (js'.map x) := keep_mo K (map_sub q)
theorem k0 (E : Ext h h') : Keep h h' (([] : List Nat).map x) := Keep.ext (Keep.refl h []) E
theorem gdl (K : KX p s m meth c Z a0 own nm bytes maxL ret t fe) {a : Addr} {zs : List Int} {w : AW} {j : Int32} {z : Int} (i : Nat) (F : AD Z h a zs) (hr : cv x w = .ref a) (hj : j.toInt = (i : Int)) (hz : zs[i]? = some z) (hl : lk t pc = some (.daload, 1)) (k : ∀ d, Dz z d → GH p l e R s m args below meth c n0 Q h cells slots (FA m x (pc + 1) L (aD d :: S))) : GH p l e R s m args below meth c n0 Q h cells slots (FA m x pc L (aI j :: w :: S)) := fun T X e => by
  have q : gS x (aI j :: w :: S) = .int j :: .ref a :: gS x S := by rw [← hr]; rfl
  show Go p _ below s R n0 Q (T.setTop (mkF m pc (gL x L) (gS x (aI j :: w :: S))))
  rw [q]; exact go_daload K.1 X e F hj hz (K.d hl) rfl fun d hd => k d hd T X e
theorem gds (K : KX p s m meth c Z a0 own nm bytes maxL ret t fe) {a : Addr} {zs : List Int} {w : AW} {j : Int32} {d : UInt64} {z : Int} (i : Nat) (F : AD Z h a zs) (hr : cv x w = .ref a) (hj : j.toInt = (i : Int)) (hi : Nat.blt i zs.length = true) (hx : Dz z d) (ge : n0 ≤ a) (hl : lk t pc = some (.dastore, 1)) (k : ∀ h', Keep h h' [a] → AD Z h' a (zs.set i z) → GH p l e R s m args below meth c n0 Q h' cells slots (FA m x (pc + 1) L S)) : GH p l e R s m args below meth c n0 Q h cells slots (FA m x pc L (aD d :: aI j :: w :: S)) := fun T X e => by
  have q : gS x (aD d :: aI j :: w :: S) = .double d :: .int j :: .ref a :: gS x S := by rw [← hr]; rfl
  show Go p _ below s R n0 Q (T.setTop (mkF m pc (gL x L) (gS x (aD d :: aI j :: w :: S))))
  rw [q]; exact go_dastore K.1 X e F hj (Nat.blt_eq.mp hi) hx ge (K.d hl) rfl fun T' h' X' e' W A => k h' (Keep.of_wr W) A T' X' e'
theorem gal (K : KX p s m meth c Z a0 own nm bytes maxL ret t fe) {a : Addr} {zs : List Int} {w : AW} (z : Int32) (F : AD Z h a zs) (hr : cv x w = .ref a) (hz : zs.length.toInt32 = z) (hl : lk t pc = some (.arraylength, 1)) (k : GH p l e R s m args below meth c n0 Q h cells slots (FA m x (pc + 1) L (aI z :: S))) : GH p l e R s m args below meth c n0 Q h cells slots (FA m x pc L (w :: S)) := fun T X e => by
  have q : gS x (w :: S) = .ref a :: gS x S := by rw [← hr]; rfl
  show Go p _ below s R n0 Q (T.setTop (mkF m pc (gL x L) (gS x (w :: S))))
  rw [q]; exact go_arraylengthD K.1 X e F hz (K.d hl) rfl (k T X e)
theorem gist (K : KX p s m meth c Z a0 own nm bytes maxL ret t fe) (V : EV Z h x ie) (N : NX n0 x) {k : Nat} {j v : Int32} {ns : List Int32} (i : Nat) (ie' : List (Nat × List Int32)) (hns : lki ie k = some ns) (hj : j.toInt = (i : Int)) (hi : Nat.blt i ns.length = true) (hk : (Nat.blt k 18 && !Nat.beq 8 k && ie.all fun y => Nat.blt y.1 18) = true) (hie : updI ie k (ns.set i v) = ie') (hl : lk t pc = some (.iastore, 1)) (kk : ∀ h', Keep h h' [x k] → EV Z h' x ie' → GH p l e R s m args below meth c n0 Q h' cells slots (FA m x (pc + 1) L S)) : GH p l e R s m args below meth c n0 Q h cells slots (FA m x pc L (aI v :: aI j :: aR k :: S)) := fun T X e => by
  simp only [Bool.and_eq_true, Bool.not_eq_true'] at hk
  have k18 := Nat.blt_eq.mp hk.1.1
  refine go_iastore K.1 X e (EI.get V.2 hns) hj (by rw [List.length_map]; exact Nat.blt_eq.mp hi) (N.ge k hk.1.1) (K.d hl) rfl fun T' h' X' e' W A => ?_
  have A' : AV Z h' (x k) .int ((ns.set i v).map .int) := by rw [List.map_set]; exact A
  refine kk h' (Keep.of_wr W) ?_ T' X' e'
  rw [← hie]
  exact ⟨V.1.keep (Keep.of_wr W) (fun r => N.ne (i := 8) (j := k) (by decide) k18 (fun q => by rw [← q] at hk; simp at hk) (List.mem_singleton.mp r)), EI.one N (Keep.of_wr W) k18 A' V.2 hk.2⟩
theorem gneg (K : KX p s m meth c Z a0 own nm bytes maxL ret t fe) {d : UInt64} {z : Int} (hv : Dz z (FP.dneg d)) (hl : lk t pc = some (.dneg, 1)) (k : ∀ d, Dz z d → GH p l e R s m args below meth c n0 Q h cells slots (FA m x (pc + 1) L (aD d :: S))) : GH p l e R s m args below meth c n0 Q h cells slots (FA m x pc L (aD d :: S)) := fun T X e => go_dneg K.1 X hv (K.d hl) rfl fun d hd => k d hd T X e
theorem gadd (K : KX p s m meth c Z a0 own nm bytes maxL ret t fe) {a b : UInt64} {z : Int} (hv : Dz z (FP.dadd a b)) (hl : lk t pc = some (.dadd, 1)) (k : ∀ d, Dz z d → GH p l e R s m args below meth c n0 Q h cells slots (FA m x (pc + 1) L (aD d :: S))) : GH p l e R s m args below meth c n0 Q h cells slots (FA m x pc L (aD b :: aD a :: S)) := fun T X e => go_dadd K.1 X hv (K.d hl) rfl fun d hd => k d hd T X e
theorem gaddP (K : KX p s m meth c Z a0 own nm bytes maxL ret t fe) {a b : UInt64} (P : UInt64 → Prop) (hv : P (FP.dadd a b)) (hn : Jvm.FP.Core.val64 (FP.dadd a b) ≠ .nan) (hl : lk t pc = some (.dadd, 1)) (k : ∀ d, P d → GH p l e R s m args below meth c n0 Q h cells slots (FA m x (pc + 1) L (aD d :: S))) : GH p l e R s m args below meth c n0 Q h cells slots (FA m x pc L (aD b :: aD a :: S)) := fun T X e => go_daddP K.1 X hv hn (K.d hl) rfl fun d hd => k d hd T X e
theorem gsub (K : KX p s m meth c Z a0 own nm bytes maxL ret t fe) {a b : UInt64} {z : Int} (hv : Dz z (FP.dsub a b)) (hl : lk t pc = some (.dsub, 1)) (k : ∀ d, Dz z d → GH p l e R s m args below meth c n0 Q h cells slots (FA m x (pc + 1) L (aD d :: S))) : GH p l e R s m args below meth c n0 Q h cells slots (FA m x pc L (aD b :: aD a :: S)) := fun T X e => go_dsub K.1 X hv (K.d hl) rfl fun d hd => k d hd T X e
theorem gmul (K : KX p s m meth c Z a0 own nm bytes maxL ret t fe) {a b : UInt64} {z : Int} (hv : Dz z (FP.dmul a b)) (hl : lk t pc = some (.dmul, 1)) (k : ∀ d, Dz z d → GH p l e R s m args below meth c n0 Q h cells slots (FA m x (pc + 1) L (aD d :: S))) : GH p l e R s m args below meth c n0 Q h cells slots (FA m x pc L (aD b :: aD a :: S)) := fun T X e => go_dmul K.1 X hv (K.d hl) rfl fun d hd => k d hd T X e
theorem gmulP (K : KX p s m meth c Z a0 own nm bytes maxL ret t fe) {a b : UInt64} (P : UInt64 → Prop) (hv : P (FP.dmul a b)) (hn : Jvm.FP.Core.val64 (FP.dmul a b) ≠ .nan) (hl : lk t pc = some (.dmul, 1)) (k : ∀ d, P d → GH p l e R s m args below meth c n0 Q h cells slots (FA m x (pc + 1) L (aD d :: S))) : GH p l e R s m args below meth c n0 Q h cells slots (FA m x pc L (aD b :: aD a :: S)) := fun T X e => go_dmulP K.1 X hv hn (K.d hl) rfl fun d hd => k d hd T X e
theorem gdiv (K : KX p s m meth c Z a0 own nm bytes maxL ret t fe) {a b : UInt64} {z : Int} (hv : Dz z (FP.ddiv a b)) (hl : lk t pc = some (.ddiv, 1)) (k : ∀ d, Dz z d → GH p l e R s m args below meth c n0 Q h cells slots (FA m x (pc + 1) L (aD d :: S))) : GH p l e R s m args below meth c n0 Q h cells slots (FA m x pc L (aD b :: aD a :: S)) := fun T X e => go_ddiv K.1 X hv (K.d hl) rfl fun d hd => k d hd T X e
theorem gdivP (K : KX p s m meth c Z a0 own nm bytes maxL ret t fe) {a b : UInt64} (P : UInt64 → Prop) (hv : P (FP.ddiv a b)) (hn : Jvm.FP.Core.val64 (FP.ddiv a b) ≠ .nan) (hl : lk t pc = some (.ddiv, 1)) (k : ∀ d, P d → GH p l e R s m args below meth c n0 Q h cells slots (FA m x (pc + 1) L (aD d :: S))) : GH p l e R s m args below meth c n0 Q h cells slots (FA m x pc L (aD b :: aD a :: S)) := fun T X e => go_ddivP K.1 X hv hn (K.d hl) rfl fun d hd => k d hd T X e
theorem gldc (K : KX p s m meth c Z a0 own nm bytes maxL ret t fe) {v : UInt64} {index : Nat} (w : (Cond.constantDouble own index v).before a0 Z = true) (hl : lk t pc = some (.ldc2_w index, 3)) (k : GH p l e R s m args below meth c n0 Q h cells slots (FA m x (pc + 3) L (aD v :: S))) : GH p l e R s m args below meth c n0 Q h cells slots (FA m x pc L S) := fun T X e => go_ldc2D K.1 X w (K.d hl) rfl (k T X e)
theorem gcT (K : KX p s m meth c Z a0 own nm bytes maxL ret t fe) {a b : UInt64} {cd : ClassFile.Cond} {cm : CmpOp} {o : Int} (pt : Nat) (q : DT cd a b) (hl1 : lk t pc = some (.dcmp cm, 1)) (hl2 : lk t (pc + 1) = some (.ifCond cd o, 3)) (ht : tn (((pc + 1 : Nat) : Int) + o) = some pt) (k : GH p l e R s m args below meth c n0 Q h cells slots (FA m x pt L S)) : GH p l e R s m args below meth c n0 Q h cells slots (FA m x pc L (aD b :: aD a :: S)) := fun T X e => go_difT K.1 X (K.d hl1) rfl (K.d hl2) (by have := toNat_some ht; omega) (by have := toNat_some ht; omega) q (k T X e)
theorem gcF (K : KX p s m meth c Z a0 own nm bytes maxL ret t fe) {a b : UInt64} {cd : ClassFile.Cond} {cm : CmpOp} {o : Int} (q : DF cd a b) (hl1 : lk t pc = some (.dcmp cm, 1)) (hl2 : lk t (pc + 1) = some (.ifCond cd o, 3)) (k : GH p l e R s m args below meth c n0 Q h cells slots (FA m x (pc + 4) L S)) : GH p l e R s m args below meth c n0 Q h cells slots (FA m x pc L (aD b :: aD a :: S)) := fun T X e => go_difF K.1 X (K.d hl1) rfl (K.d hl2) rfl q (k T X e)
theorem gcX (K : KX p s m meth c Z a0 own nm bytes maxL ret t fe) {a b : UInt64} {i j : Int} {cd : ClassFile.Cond} {cm : CmpOp} {o : Int} (pt : Nat) (ha : Dz i a) (hb : Dz j b) (hl1 : lk t pc = some (.dcmp cm, 1)) (hl2 : lk t (pc + 1) = some (.ifCond cd o, 3)) (ht : tn (((pc + 1 : Nat) : Int) + o) = some pt) (k1 : iT cd i j → GH p l e R s m args below meth c n0 Q h cells slots (FA m x pt L S)) (k2 : iF cd i j → GH p l e R s m args below meth c n0 Q h cells slots (FA m x (pc + 4) L S)) : GH p l e R s m args below meth c n0 Q h cells slots (FA m x pc L (aD b :: aD a :: S)) :=
  (iT_or cd i j).elim (fun q => gcT K pt (Dz.tk ha hb q) hl1 hl2 ht (k1 q)) (fun q => gcF K (Dz.nt ha hb q) hl1 hl2 (k2 q))
theorem gnew (K : KX p s m meth c Z a0 own nm bytes maxL ret t fe) (w : (Cond.arrayClass .double).before a0 Z = true) {j : Int32} (i : Nat) (hj : j.toInt = (i : Int)) (hb' : i * 8 ≤ 536870912) (hl : lk t pc = some (.newarray .double, 2)) (hc : cells + 1 ≤ R.cells) (hs : slots + i ≤ R.slots) (k : ∀ h' b, h.size ≤ b → Keep h h' (([] : List Nat).map x) → AD Z h' b (List.replicate i 0) → Exa Z h' b "[D" → GH p l e R s m args below meth c n0 Q h' (cells + 1) (slots + i) (FA m x (pc + 2) L (aA b :: S))) : GH p l e R s m args below meth c n0 Q h cells slots (FA m x pc L (aI j :: S)) := fun T X e =>
  go_newarrayD K.1 X w e (K.d hl) hj (Nat.le_refl i) hb' rfl rfl rfl hc hs fun T' h' b g X' e' E A C => k h' b (Nat.le_of_eq g.symm) (k0 E) A C T' X' e'
theorem gcl (K : KX p s m meth c Z a0 own nm bytes maxL ret t fe) {index : Nat} {a : Addr} {zs : List Int} {w : AW} (ww : ((Cond.methodLink own index ⟨"[D", "clone", "()Ljava/lang/Object;"⟩).before a0 Z = true ∧ (Cond.sameMethod "[D" "java/lang/Object" "clone" "()Ljava/lang/Object;").before a0 Z = true ∧ (Cond.native ⟨"java/lang/Object", "clone", "()Ljava/lang/Object;"⟩).before a0 Z = true) ∧ (Cond.instanceMethod ⟨"java/lang/Object", "clone", "()Ljava/lang/Object;"⟩).before a0 Z = true ∧ (Cond.selects "[D" ⟨"[D", "clone", "()Ljava/lang/Object;"⟩ ⟨"java/lang/Object", "clone", "()Ljava/lang/Object;"⟩).before a0 Z = true ∧ (Cond.castable "[D" "java/lang/Cloneable").before a0 Z = true) (n W : Nat) (F : AD Z h a zs) (E : Exa Z h a "[D") (hr : cv x w = .ref a) (hn : zs.length = n) (hsize : L.length = maxL) (hl : lk t pc = some (.invokevirtual index, 3)) (hf : 1 ≤ R.frames) (hW : ((gS x S).map fun v => v.category).sum ≤ W) (hlo : W + 14 ≤ R.locals) (hc : cells + 1 ≤ R.cells) (hs : slots + n ≤ R.slots)
    (k : ∀ h' b, h.size ≤ b → Keep h h' (([] : List Nat).map x) → AD Z h' b zs → Exa Z h' b "[D" → GH p l e R s m args below meth c n0 Q h' (cells + 1) (slots + n) (FA m x (pc + 3) L (aA b :: S))) : GH p l e R s m args below meth c n0 Q h cells slots (FA m x pc L (w :: S)) := fun T X e => by
  have q : gS x (w :: S) = .ref a :: gS x S := by rw [← hr]; rfl
  show Go p _ below s R n0 Q (T.setTop (mkF m pc (gL x L) (gS x (w :: S))))
  rw [q]; exact go_cloneD K.1 X ww.1.1 ww.1.2.1 ww.1.2.2 ww.2.1 ww.2.2.1 ww.2.2.2 e F E (by rw [gL_size]; exact hsize) (K.d hl) rfl hf hW hlo (Nat.le_of_eq hn) rfl rfl hc hs fun T' h' b g X' e' E' A C => k h' b (Nat.le_of_eq g.symm) (k0 E') A C T' X' e'
theorem gcc (K : KX p s m meth c Z a0 own nm bytes maxL ret t fe) {index : Nat} {a : Addr} {w : AW} (w1 : (Cond.classLink own index "[D").before a0 Z = true) (E : Exa Z h a "[D") (hr : cv x w = .ref a) (hl : lk t pc = some (.checkcast index, 3)) (k : GH p l e R s m args below meth c n0 Q h cells slots (FA m x (pc + 3) L (w :: S))) : GH p l e R s m args below meth c n0 Q h cells slots (FA m x pc L (w :: S)) := fun T X e => by
  have q : gS x (w :: S) = .ref a :: gS x S := by rw [← hr]; rfl
  show Go p _ below s R n0 Q (T.setTop (mkF m pc (gL x L) (gS x (w :: S))))
  rw [q]; refine go_cast K.1 X w1 e (Ins.self E) (K.d hl) rfl fun T' X' e' => ?_
  rw [← q]; exact k T' X' e'
theorem gcp (K : KX p s m meth c Z a0 own nm bytes maxL ret t fe) {index : Nat} (ww : (Cond.methodLink own index Jvm.Stand.acN).before a0 Z = true ∧ (Cond.native Jvm.Stand.acN).before a0 Z = true ∧ (Cond.static Jvm.Stand.acN).before a0 Z = true ∧ (Cond.initialized "java/lang/System").before a0 Z = true) {u w : AW} {a b : Addr} {zs zd : List Int} (us : List Int) (n W : Nat) {nn : Int32} (F : AD Z h a zs) (G : AD Z h b zd) (hu : cv x u = .ref a) (hw : cv x w = .ref b) (hn : nn.toInt = (n : Int)) (h4 : n ≤ zs.length) (h5 : n ≤ zd.length) (hus : us = zs.take n ++ zd.drop n) (ge : n0 ≤ b) (hsize : L.length = maxL) (hl : lk t pc = some (.invokestatic index, 3)) (hf : 1 ≤ R.frames) (hW : ((gS x S).map fun v => v.category).sum ≤ W) (hlo : W + (nativeFrameWords "java/lang/System" "arraycopy" 5 + 11) ≤ R.locals)
    (k : ∀ h', Keep h h' [b] → AD Z h' b us → GH p l e R s m args below meth c n0 Q h' cells slots (FA m x (pc + 3) L S)) : GH p l e R s m args below meth c n0 Q h cells slots (FA m x pc L (aI nn :: aI 0 :: w :: aI 0 :: u :: S)) := fun T X e => by
  have q : gS x (aI nn :: aI 0 :: w :: aI 0 :: u :: S) = .int nn :: .int 0 :: .ref b :: .int 0 :: .ref a :: gS x S := by rw [← hu, ← hw]; rfl
  show Go p _ below s R n0 Q (T.setTop (mkF m pc (gL x L) (gS x (aI nn :: aI 0 :: w :: aI 0 :: u :: S))))
  rw [q]; exact go_arraycopyD K.1 X ww.1 ww.2.1 ww.2.2.1 ww.2.2.2 e F G (i := 0) (j := 0) rfl rfl hn (by omega) (by omega) (by rw [hus]; simp) ge (by rw [gL_size]; exact hsize) (K.d hl) rfl hf hW hlo fun T' h' X' e' KK A => k h' KK A T' X' e'
def WM (Z : State) (a0 : Array Value) (own : String) (index : Nat) (y : MethodName) (b : ByteArray) (n : Nat) : Prop := (Cond.methodLink own index y).before a0 Z = true ∧ (Cond.static y).before a0 Z = true ∧ (Cond.initialized y.cls).before a0 Z = true ∧ (Cond.code y b n (some .double)).before a0 Z = true
theorem gabs (K : KX p s m meth c Z a0 own nm bytes maxL ret t fe) {index : Nat} (ww : WM Z a0 own index Fl.Abs.absDN Fl.Abs.absDCode 2) {d : UInt64} {z : Int} (z' : Int) (W : Nat) (hx : Dz z d) (hz : (z.natAbs : Int) = z') (hsize : L.length = maxL) (hl : lk t pc = some (.invokestatic index, 3)) (hf : 1 ≤ R.frames) (hW : ((gS x S).map fun v => v.category).sum ≤ W) (hlo : W + 13 ≤ R.locals) (hc : cells ≤ R.cells) (hs : slots ≤ R.slots) (k : ∀ d, Dz z' d → GH p l e R s m args below meth c n0 Q h cells slots (FA m x (pc + 3) L (aD d :: S))) : GH p l e R s m args below meth c n0 Q h cells slots (FA m x pc L (aD d :: S)) := fun T X e =>
  go_absD K.1 X ww.1 ww.2.1 ww.2.2.1 ww.2.2.2 e hx hz (by rw [gL_size]; exact hsize) (K.d hl) rfl hf hW hlo hc hs fun T' d X' e' hd => k d hd T' X' e'
theorem gmax (K : KX p s m meth c Z a0 own nm bytes maxL ret t fe) {index : Nat} (ww : WM Z a0 own index Fl.Abs.maxDN Fl.Abs.maxDCode 4) {a b : UInt64} {i j : Int} (z' : Int) (W : Nat) (ha : Dz i a) (hb : Dz j b) (hz : (if i < j then j else i) = z') (hsize : L.length = maxL) (hl : lk t pc = some (.invokestatic index, 3)) (hf : 1 ≤ R.frames) (hW : ((gS x S).map fun v => v.category).sum ≤ W) (hlo : W + 15 ≤ R.locals) (hc : cells ≤ R.cells) (hs : slots ≤ R.slots) (k : ∀ d, Dz z' d → GH p l e R s m args below meth c n0 Q h cells slots (FA m x (pc + 3) L (aD d :: S))) : GH p l e R s m args below meth c n0 Q h cells slots (FA m x pc L (aD b :: aD a :: S)) := fun T X e =>
  go_maxD K.1 X ww.1 ww.2.1 ww.2.2.1 ww.2.2.2 e ha hb hz (by rw [gL_size]; exact hsize) (K.d hl) rfl hf hW hlo hc hs fun T' d X' e' hd => k d hd T' X' e'
theorem gmin (K : KX p s m meth c Z a0 own nm bytes maxL ret t fe) {index : Nat} (ww : WM Z a0 own index Fl.Abs.minDN Fl.Abs.minDCode 4) {b : UInt64} {i : Int} (W : Nat) (hb : Dge i b) (hsize : L.length = maxL) (hl : lk t pc = some (.invokestatic index, 3)) (hf : 1 ≤ R.frames) (hW : ((gS x S).map fun v => v.category).sum ≤ W) (hlo : W + 15 ≤ R.locals) (hc : cells ≤ R.cells) (hs : slots ≤ R.slots) (k : GH p l e R s m args below meth c n0 Q h cells slots (FA m x (pc + 3) L (aD b :: S))) : GH p l e R s m args below meth c n0 Q h cells slots (FA m x pc L (aD b :: aD 9218868437227405312 :: S)) := fun T X e =>
  go_minD K.1 X ww.1 ww.2.1 ww.2.2.1 ww.2.2.2 e hb (by rw [gL_size]; exact hsize) (K.d hl) rfl hf hW hlo hc hs fun T' X' e' => k T' X' e'
def WP (Z : State) (a0 : Array Value) (own : String) (index : Nat) (y : MethodName) (b : ByteArray) (n : Nat) (r : Option FieldType) (k : Nat) : Prop := ((Cond.methodLink own index y).before a0 Z = true ∧ (Cond.instanceMethod y).before a0 Z = true ∧ (Cond.selects y.cls y y).before a0 Z = true ∧ (Cond.privateMethod y).before a0 Z = true ∧ (Cond.code y b n r).before a0 Z = true ∧ (Cond.initialized y.cls).before a0 Z = true) ∧ (y.cls ≠ "java/lang/invoke/MethodHandle" ∧ y.cls ≠ "java/lang/invoke/VarHandle") ∧ ∀ sig, parseMethodDescriptor y.desc = some sig → k = sig.parameters.length
theorem gP (K : KX p s m meth c Z a0 own nm bytes maxL ret t fe) {index k : Nat} {y : MethodName} {b : ByteArray} {n : Nat} {r : Option FieldType} {rm : Room} {Q' : Option Value → Heap → Prop} {argsL : List Value} {S0 : List AW} (ww : WP Z a0 own index y b n r k) (O : OB Z h x own fe) (C0 : Con l Z n0 y b n r rm (.ref (x 0) :: argsL).toArray h Q') (S : List AW) (W : Nat) (hk : argsL.length = k) (hst : gS x S0 = argsL.reverse ++ .ref (x 0) :: gS x S) (hsize : L.length = maxL) (hl : lk t pc = some (.invokevirtual index, 3)) (hf : rm.frames + 1 ≤ R.frames) (hW : ((gS x S).map fun v => v.category).sum ≤ W) (hlo : W + (n + 11) + rm.locals ≤ R.locals) (hc : cells + rm.cells ≤ R.cells) (hs : slots + rm.slots ≤ R.slots)
    (kk : ∀ h' v, Q' v h' → GH p l e R s m args below meth c n0 Q h' (cells + rm.cells) (slots + rm.slots) (mkF m (pc + 3) (gL x L) (v.toList ++ gS x S))) : GH p l e R s m args below meth c n0 Q h cells slots (FA m x pc L S0) := fun T X e =>
  go_priv K.1 X ww.1.1 ww.1.2.1 ww.1.2.2.1 ww.1.2.2.2.1 ww.1.2.2.2.2.1 ww.1.2.2.2.2.2 ww.2.1 (fun sig q => by rw [hk]; exact ww.2.2 sig q) e O.1 C0 hst (by rw [gL_size]; exact hsize) (K.d hl) rfl hf hW hlo rfl rfl hc hs fun T' h' v X' e' q => kk h' v q T' X' e'
theorem gT (K : KX p s m meth c Z a0 own nm bytes maxL ret t fe) {index k : Nat} {y : MethodName} {b : ByteArray} {n : Nat} {r : Option FieldType} {rm : Room} {Q' : Option Value → Heap → Prop} {argsL : List Value} {S0 : List AW} (ww : ((Cond.methodLink own index y).before a0 Z = true ∧ (Cond.static y).before a0 Z = true ∧ (Cond.initialized y.cls).before a0 Z = true ∧ (Cond.code y b n r).before a0 Z = true) ∧ (y.cls ≠ "java/lang/invoke/MethodHandle" ∧ y.cls ≠ "java/lang/invoke/VarHandle") ∧ ∀ sig, parseMethodDescriptor y.desc = some sig → k = sig.parameters.length) (C0 : Con l Z n0 y b n r rm argsL.toArray h Q') (S : List AW) (W : Nat) (hk : argsL.length = k) (hst : gS x S0 = argsL.reverse ++ gS x S) (hsize : L.length = maxL) (hl : lk t pc = some (.invokestatic index, 3)) (hf : rm.frames + 1 ≤ R.frames) (hW : ((gS x S).map fun v => v.category).sum ≤ W) (hlo : W + (n + 11) + rm.locals ≤ R.locals) (hc : cells + rm.cells ≤ R.cells) (hs : slots + rm.slots ≤ R.slots)
    (kk : ∀ h' v, Q' v h' → GH p l e R s m args below meth c n0 Q h' (cells + rm.cells) (slots + rm.slots) (mkF m (pc + 3) (gL x L) (v.toList ++ gS x S))) : GH p l e R s m args below meth c n0 Q h cells slots (FA m x pc L S0) := fun T X e =>
  go_static K.1 X ww.1.1 ww.1.2.1 ww.1.2.2.1 ww.1.2.2.2 ww.2.1 (fun sig q => by rw [hk]; exact ww.2.2 sig q) e C0 hst (by rw [gL_size]; exact hsize) (K.d hl) rfl hf hW hlo rfl rfl hc hs fun T' h' v X' e' q => kk h' v q T' X' e'
theorem gri (K : KX p s m meth c Z a0 own nm bytes maxL (some .int) t fe) {z : Int32} (hl : lk t pc = some (.ireturn, 1)) (hc : cells ≤ R.cells) (hs : slots ≤ R.slots) (q : Q (some (.int z)) h) : GH p l e R s m args below meth c n0 Q h cells slots (FA m x pc L (aI z :: S)) := fun T X e => go_retI K.1 X (K.d hl) hc hs (by rw [e]; exact q)
theorem grz (K : KX p s m meth c Z a0 own nm bytes maxL (some .boolean) t fe) {z : Int32} (hz : z = 0 ∨ z = 1) (hl : lk t pc = some (.ireturn, 1)) (hc : cells ≤ R.cells) (hs : slots ≤ R.slots) (q : Q (some (.int z)) h) : GH p l e R s m args below meth c n0 Q h cells slots (FA m x pc L (aI z :: S)) := fun T X e => go_retZ K.1 X hz (K.d hl) hc hs (by rw [e]; exact q)
theorem grd (K : KX p s m meth c Z a0 own nm bytes maxL (some .double) t fe) {d : UInt64} (hl : lk t pc = some (.dreturn, 1)) (hc : cells ≤ R.cells) (hs : slots ≤ R.slots) (q : Q (some (.double d)) h) : GH p l e R s m args below meth c n0 Q h cells slots (FA m x pc L (aD d :: S)) := fun T X e => go_retD K.1 X (K.d hl) hc hs (by rw [e]; exact q)
theorem gra {ty : FieldType} (K : KX p s m meth c Z a0 own nm bytes maxL (some ty) t fe) {w : AW} {a : Addr} (hr : cv x w = .ref a) (ht : ty.isReference = true) (hn : narrow ty (.ref a) = .ref a) (hl : lk t pc = some (.areturn, 1)) (hc : cells ≤ R.cells) (hs : slots ≤ R.slots) (q : Q (some (.ref a)) h) : GH p l e R s m args below meth c n0 Q h cells slots (FA m x pc L (w :: S)) := fun T X e => by
  have r : gS x (w :: S) = .ref a :: gS x S := by rw [← hr]; rfl
  show Go p _ below s R n0 Q (T.setTop (mkF m pc (gL x L) (gS x (w :: S))))
  rw [r]; exact go_retA K.1 X ht rfl hn (K.d hl) hc hs (by rw [e]; exact q)
theorem grv (K : KX p s m meth c Z a0 own nm bytes maxL none t fe) (hl : lk t pc = some (.return_, 1)) (hc : cells ≤ R.cells) (hs : slots ≤ R.slots) (q : Q none h) : GH p l e R s m args below meth c n0 Q h cells slots (FA m x pc L []) := fun T X e => go_ret K.1 X (K.d hl) hc hs (by rw [e]; exact q)
theorem gPi (K : KX p s m meth c Z a0 own nm bytes maxL ret t fe) {index k : Nat} {y : MethodName} {b : ByteArray} {n : Nat} {r : Option FieldType} {rm : Room} {argsL : List Value} {S0 : List AW} {z : Int32} (ww : WP Z a0 own index y b n r k) (O : OB Z h x own fe) (C0 : Con l Z n0 y b n r rm (.ref (x 0) :: argsL).toArray h (fun v h' => v = some (.int z) ∧ h' = h)) (S : List AW) (W : Nat) (hk : argsL.length = k) (hst : gS x S0 = argsL.reverse ++ .ref (x 0) :: gS x S) (hsize : L.length = maxL) (hl : lk t pc = some (.invokevirtual index, 3)) (hf : rm.frames + 1 ≤ R.frames) (hW : ((gS x S).map fun v => v.category).sum ≤ W) (hlo : W + (n + 11) + rm.locals ≤ R.locals) (hc : cells + rm.cells ≤ R.cells) (hs : slots + rm.slots ≤ R.slots)
    (kk : GH p l e R s m args below meth c n0 Q h (cells + rm.cells) (slots + rm.slots) (FA m x (pc + 3) L (aI z :: S))) : GH p l e R s m args below meth c n0 Q h cells slots (FA m x pc L S0) :=
  gP K ww O C0 S W hk hst hsize hl hf hW hlo hc hs fun h' v q => by obtain ⟨rfl, rfl⟩ := q; exact kk
theorem gPr (K : KX p s m meth c Z a0 own nm bytes maxL ret t fe) {index k i : Nat} {y : MethodName} {b : ByteArray} {n : Nat} {r : Option FieldType} {rm : Room} {argsL : List Value} {S0 : List AW} (ww : WP Z a0 own index y b n r k) (O : OB Z h x own fe) (C0 : Con l Z n0 y b n r rm (.ref (x 0) :: argsL).toArray h (fun v h' => v = some (.ref (x i)) ∧ h' = h)) (S : List AW) (W : Nat) (hk : argsL.length = k) (hst : gS x S0 = argsL.reverse ++ .ref (x 0) :: gS x S) (hsize : L.length = maxL) (hl : lk t pc = some (.invokevirtual index, 3)) (hf : rm.frames + 1 ≤ R.frames) (hW : ((gS x S).map fun v => v.category).sum ≤ W) (hlo : W + (n + 11) + rm.locals ≤ R.locals) (hc : cells + rm.cells ≤ R.cells) (hs : slots + rm.slots ≤ R.slots)
    (kk : GH p l e R s m args below meth c n0 Q h (cells + rm.cells) (slots + rm.slots) (FA m x (pc + 3) L (aR i :: S))) : GH p l e R s m args below meth c n0 Q h cells slots (FA m x pc L S0) :=
  gP K ww O C0 S W hk hst hsize hl hf hW hlo hc hs fun h' v q => by obtain ⟨rfl, rfl⟩ := q; exact kk
theorem gPd (K : KX p s m meth c Z a0 own nm bytes maxL ret t fe) {index k : Nat} {y : MethodName} {b : ByteArray} {n : Nat} {r : Option FieldType} {rm : Room} {argsL : List Value} {S0 : List AW} {z : Int} (ww : WP Z a0 own index y b n r k) (O : OB Z h x own fe) (C0 : Con l Z n0 y b n r rm (.ref (x 0) :: argsL).toArray h (fun v h' => ∃ d, v = some (.double d) ∧ h' = h ∧ Dz z d)) (S : List AW) (W : Nat) (hk : argsL.length = k) (hst : gS x S0 = argsL.reverse ++ .ref (x 0) :: gS x S) (hsize : L.length = maxL) (hl : lk t pc = some (.invokevirtual index, 3)) (hf : rm.frames + 1 ≤ R.frames) (hW : ((gS x S).map fun v => v.category).sum ≤ W) (hlo : W + (n + 11) + rm.locals ≤ R.locals) (hc : cells + rm.cells ≤ R.cells) (hs : slots + rm.slots ≤ R.slots)
    (kk : ∀ d, Dz z d → GH p l e R s m args below meth c n0 Q h (cells + rm.cells) (slots + rm.slots) (FA m x (pc + 3) L (aD d :: S))) : GH p l e R s m args below meth c n0 Q h cells slots (FA m x pc L S0) :=
  gP K ww O C0 S W hk hst hsize hl hf hW hlo hc hs fun h' v q => by obtain ⟨d, rfl, rfl, hz⟩ := q; exact kk d hz
abbrev KJ (x : Nat → Addr) (h h' : Heap) (js : List Nat) : Prop := Keep h h' (js.map x)
theorem ov (N : NX n0 x) (O : OB Z h x own fe) (V : EV Z h x ie) {js : List Nat} (W : KJ x h h' js) (q : (js.all fun j => Nat.blt j 18 && !Nat.beq 0 j) = true) (q1 : (js.all fun j => Nat.blt j 18 && !Nat.beq 8 j) = true) (q2 : (ie.all fun y => Nat.blt y.1 18 && js.all fun j => Nat.blt j 18 && !Nat.beq y.1 j) = true) : OB Z h' x own fe ∧ EV Z h' x ie :=
  ⟨O.keep W (nx N 0 (by rw [q]; rfl)), V.keep N W q1 q2⟩
theorem nfr {a b n : Nat} (q : a < n) (r : n ≤ b) : b ∉ [a] := fun z => by have := List.mem_singleton.mp z; omega
theorem gPn (K : KX p s m meth c Z a0 own nm bytes maxL ret t fe) {index k : Nat} {y : MethodName} {b : ByteArray} {n : Nat} {r : Option FieldType} {rm : Room} {argsL : List Value} {S0 : List AW} (ww : WP Z a0 own index y b n r k) (O : OB Z h x own fe) (C0 : Con l Z n0 y b n r rm (.ref (x 0) :: argsL).toArray h (fun v h' => v = none ∧ h' = h)) (S : List AW) (W : Nat) (hk : argsL.length = k) (hst : gS x S0 = argsL.reverse ++ .ref (x 0) :: gS x S) (hsize : L.length = maxL) (hl : lk t pc = some (.invokevirtual index, 3)) (hf : rm.frames + 1 ≤ R.frames) (hW : ((gS x S).map fun v => v.category).sum ≤ W) (hlo : W + (n + 11) + rm.locals ≤ R.locals) (hc : cells + rm.cells ≤ R.cells) (hs : slots + rm.slots ≤ R.slots)
    (kk : GH p l e R s m args below meth c n0 Q h (cells + rm.cells) (slots + rm.slots) (FA m x (pc + 3) L S)) : GH p l e R s m args below meth c n0 Q h cells slots (FA m x pc L S0) :=
  gP K ww O C0 S W hk hst hsize hl hf hW hlo hc hs fun h' v q => by obtain ⟨rfl, rfl⟩ := q; exact kk
def xl (t : List Addr) : Nat → Addr := fun i => t.getD i 0
theorem nx_of {a : Addr} {t : List Addr} (q : inc (a :: t)) (g : n0 ≤ a) (hl : (a :: t).length = 18) : NX n0 (xl (a :: t)) := by
  refine ⟨g, fun i j hij hj => ?_⟩
  have e : ∀ i, i < 18 → (a :: t)[i]? = some (xl (a :: t) i) := fun i hi => by simp [xl, List.getD, List.getElem?_eq_getElem (show i < (a :: t).length by omega)]
  exact inc_lt q (e i (by omega)) (e j hj) hij
theorem gex {mm : Nat} (N : NX n0 x) (q : mm ≤ x 0) (i : Nat) (hi : Nat.blt i 18 = true) : mm ≤ x i := by
  rcases Nat.eq_zero_or_pos i with r | r
  · rw [r]; exact q
  · exact Nat.le_trans q (Nat.le_of_lt (N.2 0 i r (Nat.blt_eq.mp hi)))
theorem own_nin {a : Addr} (N : NX n0 x) (q : a < x 0) : a ∉ [x 16] ∧ a ∉ [x 10] ∧ a ∉ [x 12] := by
  have h1 := N.2 0 16 (by decide) (by decide); have h2 := N.2 0 10 (by decide) (by decide); have h3 := N.2 0 12 (by decide) (by decide)
  exact ⟨fun r => Nat.ne_of_lt (Nat.lt_trans q h1) (List.mem_singleton.mp r), fun r => Nat.ne_of_lt (Nat.lt_trans q h2) (List.mem_singleton.mp r), fun r => Nat.ne_of_lt (Nat.lt_trans q h3) (List.mem_singleton.mp r)⟩
theorem ks {h'' : Heap} {ws ws' : List Addr} (K : Keep h h' ws') (K2 : Keep h' h'' ws) (q : ∀ y ∈ ws', y ∈ ws) : Keep h h'' ws := (keep_mo K q).trans K2 fun y hy => Or.inl hy
def fs : List (Nat × String × String × AW) → Nat → AW → List (Nat × String × String × AW)
  | [], _, _ => []
  | (i, n, d, _) :: r, 0, w => (i, n, d, w) :: r
  | y :: r, j + 1, w => y :: fs r j w
theorem fdg : ∀ {fl : List (Nat × String × String × AW)} {a : Addr} (j : Nat) {i : Nat} {n d : String} {w : AW}, FD Z h a own x fl → fl[j]? = some (i, n, d, w) → Fld Z h a own n d (cv x w)
  | [], _, _, _, _, _, _, _, q => by simp at q
  | y :: r, _, 0, _, _, _, _, D, q => by cases q; exact D.1
  | y :: r, _, j + 1, _, _, _, _, D, q => fdg j D.2 (by simpa using q)
end OwnRun2

def ZB (zs0 zs1 zc0 zc2 : Int) : Prop := (-2147483648 ≤ zs0 ∧ zs0 ≤ 2147483647) ∧ (-2147483648 ≤ zs1 ∧ zs1 ≤ 2147483647) ∧ (0 ≤ zc0 ∧ zc0 ≤ 1048575) ∧ (0 ≤ zc2 ∧ zc2 ≤ 1048575) ∧ (-2251799813685248 ≤ zc0 * zs0 ∧ zc0 * zs0 ≤ 2251799813685248) ∧ (-2251799813685248 ≤ zc2 * zs1 ∧ zc2 * zs1 ≤ 2251799813685248)
set_option maxRecDepth 65536
set_option maxHeartbeats 40000000
abbrev HW (Z : State) (a0 : Array Value) : Prop := ∀ d ∈ tables_1, d.before a0 Z = true
def own_max (a b : Int32) : Int32 := if a < b then b else a
theorem own_b32 (a : Int32) : -2147483648 ≤ a.toInt ∧ a.toInt ≤ 2147483647 := by
  have h1 := a.le_toInt; have h2 := a.toInt_lt; omega
theorem own_mask (u : Int32) : 0 ≤ (u &&& 1048575).toInt ∧ (u &&& 1048575).toInt ≤ 1048575 := by
  have h : (u &&& 1048575).toBitVec.toNat ≤ 1048575 := by
    rw [Int32.toBitVec_and, BitVec.toNat_and]; exact Nat.and_le_right
  have e : (u &&& 1048575).toInt = ((u &&& 1048575).toBitVec.toNat : Int) := by
    show (u &&& 1048575).toBitVec.toInt = _
    rw [BitVec.toInt_eq_toNat_cond, if_pos (by omega)]
  rw [e]; omega
theorem own_prod {z c : Int} (h1 : -2147483648 ≤ z) (h2 : z ≤ 2147483647) (h3 : 0 ≤ c) (h4 : c ≤ 1048575) : -2251799813685248 ≤ c * z ∧ c * z ≤ 2251799813685248 := by
  have e1 : c * z ≤ c * 2147483648 := Int.mul_le_mul_of_nonneg_left (by omega) h3
  have e2 : c * (-2147483648) ≤ c * z := Int.mul_le_mul_of_nonneg_left (by omega) h3
  constructor <;> omega
theorem own_zb {a b u v : Int32} {zs0 zs1 zc0 zc2 : Int} (h1 : a.toInt = zs0) (h2 : b.toInt = zs1) (h3 : (u &&& 1048575).toInt = zc0) (h4 : (v &&& 1048575).toInt = zc2) : ZB zs0 zs1 zc0 zc2 := by
  subst h1 h2 h3 h4
  have b1 := own_b32 a; have b2 := own_b32 b; have b3 := own_mask u; have b4 := own_mask v
  exact ⟨b1, b2, b3, b4, own_prod b1.1 b1.2 b3.1 b3.2, own_prod b2.1 b2.2 b4.1 b4.2⟩
theorem own_paths (zs0 zs1 : Int) : (zs0 < 0 ∧ zs1 ≤ -zs0) ∨ (zs0 < 0 ∧ -zs0 < zs1) ∨ (zs0 = 0 ∧ zs1 ≤ 0) ∨ (zs0 = 0 ∧ 0 < zs1) ∨ (0 < zs0 ∧ zs1 ≤ 0) ∨ (0 < zs0 ∧ 0 < zs1 ∧ zs1 ≤ zs0) ∨ (0 < zs0 ∧ zs0 < zs1) := by omega
theorem own_lt0 {a : Int32} {z : Int} (h : a.toInt = z) (q : z < 0) : a < 0 := by rw [Int32.lt_iff_toInt_lt]; simpa [h] using q
theorem own_ge0 {a : Int32} {z : Int} (h : a.toInt = z) (q : 0 ≤ z) : ¬ a < 0 := by rw [Int32.lt_iff_toInt_lt]; simp [h]; exact q
theorem own_i64 (a : Int32) : a.toInt64.toInt = a.toInt := Int32.toInt_toInt64 a
theorem own_lmul {a b : Int64} (h1 : -4503599627370496 ≤ a.toInt * b.toInt) (h2 : a.toInt * b.toInt ≤ 4503599627370496) : (a * b).toInt = a.toInt * b.toInt := by
  rw [Int64.toInt_mul]; exact Int.bmod_eq_of_le (by omega) (by omega)
theorem own_ladd {a b : Int64} (h1 : -4503599627370496 ≤ a.toInt) (h2 : a.toInt ≤ 4503599627370496) (h3 : -4503599627370496 ≤ b.toInt) (h4 : b.toInt ≤ 4503599627370496) : (a + b).toInt = a.toInt + b.toInt := by
  rw [Int64.toInt_add]; exact Int.bmod_eq_of_le (by omega) (by omega)
theorem own_ref {a b u v m : Int32} {zs0 zs1 zc0 zc2 zm : Int} (B : ZB zs0 zs1 zc0 zc2) (h1 : a.toInt = zs0) (h3 : u.toInt = zc0) (h4 : v.toInt = zc2) (hm : m.toInt = zm) (hz : zm = 0 ∨ zm = zs1) : (a.toInt64 * u.toInt64 + m.toInt64 * v.toInt64).toInt = zc0 * zs0 + zc2 * zm := by
  obtain ⟨b1, b2, b3, b4, b5, b6⟩ := B
  have e1 : (a.toInt64 * u.toInt64).toInt = zc0 * zs0 := by
    rw [own_lmul, own_i64, own_i64, h1, h3, Int.mul_comm]
    all_goals rw [own_i64, own_i64, h1, h3, Int.mul_comm]; omega
  have b7 : -2251799813685248 ≤ zc2 * zm ∧ zc2 * zm ≤ 2251799813685248 := by
    rcases hz with rfl | rfl
    · simp
    · exact b6
  have e2 : (m.toInt64 * v.toInt64).toInt = zc2 * zm := by
    rw [own_lmul, own_i64, own_i64, hm, h4, Int.mul_comm]
    all_goals rw [own_i64, own_i64, hm, h4, Int.mul_comm]; omega
  rw [own_ladd, e1, e2]
  all_goals first | rw [e1]; omega | rw [e2]; omega
theorem own_maxP {b : Int32} {z : Int} (h : b.toInt = z) (q : 0 < z) : (own_max b 0).toInt = z := by
  rw [own_max, if_neg (own_ge0 h (by omega))]; exact h
theorem own_maxN {b : Int32} {z : Int} (h : b.toInt = z) (q : z ≤ 0) : (own_max b 0).toInt = 0 := by
  unfold own_max
  split
  · rfl
  · rename_i g; rw [Int32.lt_iff_toInt_lt] at g; simp at g; omega
theorem own_refP {a b u v : Int32} {zs0 zs1 zc0 zc2 : Int} (B : ZB zs0 zs1 zc0 zc2) (h1 : a.toInt = zs0) (h2 : b.toInt = zs1) (h3 : u.toInt = zc0) (h4 : v.toInt = zc2) (q : 0 < zs1) : (a.toInt64 * u.toInt64 + (own_max b 0).toInt64 * v.toInt64).toInt = zc0 * zs0 + zc2 * zs1 :=
  own_ref (b := b) B h1 h3 h4 (own_maxP h2 q) (Or.inr rfl)
theorem own_refN {a b u v : Int32} {zs0 zs1 zc0 zc2 : Int} (B : ZB zs0 zs1 zc0 zc2) (h1 : a.toInt = zs0) (h2 : b.toInt = zs1) (h3 : u.toInt = zc0) (h4 : v.toInt = zc2) (q : zs1 ≤ 0) : (a.toInt64 * u.toInt64 + (own_max b 0).toInt64 * v.toInt64).toInt = zc0 * zs0 := by
  rw [own_ref (b := b) B h1 h3 h4 (own_maxN h2 q) (Or.inl rfl), Int.mul_zero, Int.add_zero]
theorem own_refN0 {a b u v : Int32} {zs0 zs1 zc0 zc2 : Int} (B : ZB zs0 zs1 zc0 zc2) (h1 : a.toInt = zs0) (h2 : b.toInt = zs1) (h3 : u.toInt = zc0) (h4 : v.toInt = zc2) (q : zs0 = 0 ∧ zs1 ≤ 0) : (a.toInt64 * u.toInt64 + (own_max b 0).toInt64 * v.toInt64).toInt = 0 := by
  rw [own_refN B h1 h2 h3 h4 q.2, q.1, Int.mul_zero]
theorem own_refP0 {a b u v : Int32} {zs0 zs1 zc0 zc2 : Int} (B : ZB zs0 zs1 zc0 zc2) (h1 : a.toInt = zs0) (h2 : b.toInt = zs1) (h3 : u.toInt = zc0) (h4 : v.toInt = zc2) (q : zs0 = 0 ∧ 0 < zs1) : (a.toInt64 * u.toInt64 + (own_max b 0).toInt64 * v.toInt64).toInt = zc2 * zs1 := by
  rw [own_refP B h1 h2 h3 h4 q.2, q.1, Int.mul_zero, Int.zero_add]

def t3 : List (List (Nat × Instr × Nat)) := [[(0,.iconst 0,1),(1,.istore_n 2,1),(2,.aload_n 0,1),(3,.arraylength,1),(4,.istore_n 3,1),(5,.iload_n 2,1),(6,.iload_n 3,1),(7,.if_icmp .ge 13,3),(10,.aload_n 0,1),(11,.iload_n 2,1),(12,.iload_n 1,1),(13,.iastore,1),(14,.iinc 2 1,3)],
  [(17,.goto (-12),3),(20,.return_,1)]]
theorem k3 : TB jdk_65_method_103_code t3 := tb_of (by decide +kernel)
theorem pn_java_util_Arrays : plainName "java/util/Arrays" = true := by first | (simp [plainName, overriddenIn]; done) | decide +kernel
theorem ef_rmFI2 (m : MethodId) (a1 : Addr) : entryFrame m #[(.ref a1), (.int (-1 : Int32))] 4 = mkF m 0 #[.val (.ref a1), .val (.int (-1 : Int32)), .unset, .unset] [] := by first | (simp [entryFrame, mkF, argsToLocals, Value.category]; done) | rfl
def Q_rmFI2 (Z : State) (n0 : Nat) (a1 : Addr) (u0 u1 : Int32) (h0 : Heap) (v : Option Value) (h : Heap) : Prop := v = none ∧ Keep h0 h [a1] ∧ AV Z h a1 .int [(.int (-1 : Int32)), (.int (-1 : Int32))]
abbrev R_rmFI2 : Room := { frames := 0, cells := 0, slots := 0, locals := 0 }
variable {l : Launch} {Z : State} {n0 : Nat} {a0 : Array Value}
theorem rmFI2 (hw : HW Z a0) (a1 : Addr) (u0 u1 : Int32) (h0 : Heap) (H0 : n0 ≤ a1) (H1 : AV Z h0 a1 .int [(.int u0), (.int u1)]) :
    Con l Z n0 (⟨"java/util/Arrays", "fill", "([II)V"⟩ : MethodName) jdk_65_method_103_code 4 none R_rmFI2 #[(.ref a1), (.int (-1 : Int32))] h0 (Q_rmFI2 Z n0 a1 u0 u1 h0) := by
 refine con_of (plainFor_of_name pn_java_util_Arrays) ?_
 intro p e s m below meth c T0 K X0 e0
 replace K : Ctx p s m meth c Z "java/util/Arrays" "fill" jdk_65_method_103_code 4 none := K
 refine go_entry (ef_rmFI2 m a1) ?_
 refine go_iconst K X0 (0 : Int32) (k3 rfl) rfl rfl ?_
 refine go_istoreN K X0 #[.val (.ref a1), .val (.int (-1 : Int32)), .val (.int (0 : Int32)), .unset] (k3 rfl) rfl rfl ?_
 refine go_aloadN K X0 (k3 rfl) rfl rfl rfl ?_
 refine go_arraylength K X0 e0 H1 (z := (2 : Int32)) rfl (k3 rfl) rfl ?_
 refine go_istoreN K X0 #[.val (.ref a1), .val (.int (-1 : Int32)), .val (.int (0 : Int32)), .val (.int (2 : Int32))] (k3 rfl) rfl rfl ?_
 refine go_iloadN K X0 (k3 rfl) rfl rfl ?_
 refine go_iloadN K X0 (k3 rfl) rfl rfl ?_
 refine go_icmpF K X0 (k3 rfl) rfl (by decide : (0 : Int32) < (2 : Int32)) ?_
 refine go_aloadN K X0 (k3 rfl) rfl rfl rfl ?_
 refine go_iloadN K X0 (k3 rfl) rfl rfl ?_
 refine go_iloadN K X0 (k3 rfl) rfl rfl ?_
 refine go_iastore K X0 e0 H1 (i := 0) rfl (Nat.le_of_ble_eq_true rfl) H0 (k3 rfl) rfl ?_
 intro T1 h1 X1 e1 W1 A1
 have kp2 : Keep h0 h1 [a1] := (Keep.refl h0 [a1]).trans (Keep.of_wr W1) (allS (Or.inl (List.mem_of_getElem? (i := 0) rfl)) all0)
 have f3 : AV Z h1 a1 .int [(.int (-1 : Int32)), (.int u1)] := A1
 refine go_iinc K X1 (1 : Int32) #[.val (.ref a1), .val (.int (-1 : Int32)), .val (.int ((0 : Int32) + (1 : Int32))), .val (.int (2 : Int32))] (k3 rfl) rfl rfl rfl rfl ?_
 rw [show ((0 : Int32) + (1 : Int32)) = (1 : Int32) from by decide]
 refine go_goto K X1 (k3 rfl) (by decide) rfl ?_
 refine go_iloadN K X1 (k3 rfl) rfl rfl ?_
 refine go_iloadN K X1 (k3 rfl) rfl rfl ?_
 refine go_icmpF K X1 (k3 rfl) rfl (by decide : (1 : Int32) < (2 : Int32)) ?_
 refine go_aloadN K X1 (k3 rfl) rfl rfl rfl ?_
 refine go_iloadN K X1 (k3 rfl) rfl rfl ?_
 refine go_iloadN K X1 (k3 rfl) rfl rfl ?_
 refine go_iastore K X1 e1 f3 (i := 1) rfl (Nat.le_of_ble_eq_true rfl) H0 (k3 rfl) rfl ?_
 intro T4 h4 X4 e4 W4 A4
 have kp5 : Keep h0 h4 [a1] := kp2.trans (Keep.of_wr W4) (allS (Or.inl (List.mem_of_getElem? (i := 0) rfl)) all0)
 have f6 : AV Z h4 a1 .int [(.int (-1 : Int32)), (.int (-1 : Int32))] := A4
 refine go_iinc K X4 (1 : Int32) #[.val (.ref a1), .val (.int (-1 : Int32)), .val (.int ((1 : Int32) + (1 : Int32))), .val (.int (2 : Int32))] (k3 rfl) rfl rfl rfl rfl ?_
 rw [show ((1 : Int32) + (1 : Int32)) = (2 : Int32) from by decide]
 refine go_goto K X4 (k3 rfl) (by decide) rfl ?_
 refine go_iloadN K X4 (k3 rfl) rfl rfl ?_
 refine go_iloadN K X4 (k3 rfl) rfl rfl ?_
 refine go_icmpT K X4 (k3 rfl) (by decide) rfl (by decide : ¬ (2 : Int32) < (2 : Int32)) ?_
 refine go_ret K X4 (k3 rfl) (by decide) (by decide) ?_
 rw [e4]
 exact ⟨rfl, kp5, f6⟩
theorem ef_rmFI5 (m : MethodId) (a1 : Addr) : entryFrame m #[(.ref a1), (.int (-1 : Int32))] 4 = mkF m 0 #[.val (.ref a1), .val (.int (-1 : Int32)), .unset, .unset] [] := by first | (simp [entryFrame, mkF, argsToLocals, Value.category]; done) | rfl
def Q_rmFI5 (Z : State) (n0 : Nat) (a1 : Addr) (u0 u1 u2 u3 u4 : Int32) (h0 : Heap) (v : Option Value) (h : Heap) : Prop := v = none ∧ Keep h0 h [a1] ∧ AV Z h a1 .int [(.int (-1 : Int32)), (.int (-1 : Int32)), (.int (-1 : Int32)), (.int (-1 : Int32)), (.int (-1 : Int32))]
abbrev R_rmFI5 : Room := { frames := 0, cells := 0, slots := 0, locals := 0 }
theorem rmFI5 (hw : HW Z a0) (a1 : Addr) (u0 u1 u2 u3 u4 : Int32) (h0 : Heap) (H0 : n0 ≤ a1) (H1 : AV Z h0 a1 .int [(.int u0), (.int u1), (.int u2), (.int u3), (.int u4)]) :
    Con l Z n0 (⟨"java/util/Arrays", "fill", "([II)V"⟩ : MethodName) jdk_65_method_103_code 4 none R_rmFI5 #[(.ref a1), (.int (-1 : Int32))] h0 (Q_rmFI5 Z n0 a1 u0 u1 u2 u3 u4 h0) := by
 refine con_of (plainFor_of_name pn_java_util_Arrays) ?_
 intro p e s m below meth c T0 K X0 e0
 replace K : Ctx p s m meth c Z "java/util/Arrays" "fill" jdk_65_method_103_code 4 none := K
 refine go_entry (ef_rmFI5 m a1) ?_
 refine go_iconst K X0 (0 : Int32) (k3 rfl) rfl rfl ?_
 refine go_istoreN K X0 #[.val (.ref a1), .val (.int (-1 : Int32)), .val (.int (0 : Int32)), .unset] (k3 rfl) rfl rfl ?_
 refine go_aloadN K X0 (k3 rfl) rfl rfl rfl ?_
 refine go_arraylength K X0 e0 H1 (z := (5 : Int32)) rfl (k3 rfl) rfl ?_
 refine go_istoreN K X0 #[.val (.ref a1), .val (.int (-1 : Int32)), .val (.int (0 : Int32)), .val (.int (5 : Int32))] (k3 rfl) rfl rfl ?_
 refine go_iloadN K X0 (k3 rfl) rfl rfl ?_
 refine go_iloadN K X0 (k3 rfl) rfl rfl ?_
 refine go_icmpF K X0 (k3 rfl) rfl (by decide : (0 : Int32) < (5 : Int32)) ?_
 refine go_aloadN K X0 (k3 rfl) rfl rfl rfl ?_
 refine go_iloadN K X0 (k3 rfl) rfl rfl ?_
 refine go_iloadN K X0 (k3 rfl) rfl rfl ?_
 refine go_iastore K X0 e0 H1 (i := 0) rfl (Nat.le_of_ble_eq_true rfl) H0 (k3 rfl) rfl ?_
 intro T7 h7 X7 e7 W7 A7
 have kp8 : Keep h0 h7 [a1] := (Keep.refl h0 [a1]).trans (Keep.of_wr W7) (allS (Or.inl (List.mem_of_getElem? (i := 0) rfl)) all0)
 have f9 : AV Z h7 a1 .int [(.int (-1 : Int32)), (.int u1), (.int u2), (.int u3), (.int u4)] := A7
 refine go_iinc K X7 (1 : Int32) #[.val (.ref a1), .val (.int (-1 : Int32)), .val (.int ((0 : Int32) + (1 : Int32))), .val (.int (5 : Int32))] (k3 rfl) rfl rfl rfl rfl ?_
 rw [show ((0 : Int32) + (1 : Int32)) = (1 : Int32) from by decide]
 refine go_goto K X7 (k3 rfl) (by decide) rfl ?_
 refine go_iloadN K X7 (k3 rfl) rfl rfl ?_
 refine go_iloadN K X7 (k3 rfl) rfl rfl ?_
 refine go_icmpF K X7 (k3 rfl) rfl (by decide : (1 : Int32) < (5 : Int32)) ?_
 refine go_aloadN K X7 (k3 rfl) rfl rfl rfl ?_
 refine go_iloadN K X7 (k3 rfl) rfl rfl ?_
 refine go_iloadN K X7 (k3 rfl) rfl rfl ?_
 refine go_iastore K X7 e7 f9 (i := 1) rfl (Nat.le_of_ble_eq_true rfl) H0 (k3 rfl) rfl ?_
 intro T10 h10 X10 e10 W10 A10
 have kp11 : Keep h0 h10 [a1] := kp8.trans (Keep.of_wr W10) (allS (Or.inl (List.mem_of_getElem? (i := 0) rfl)) all0)
 have f12 : AV Z h10 a1 .int [(.int (-1 : Int32)), (.int (-1 : Int32)), (.int u2), (.int u3), (.int u4)] := A10
 refine go_iinc K X10 (1 : Int32) #[.val (.ref a1), .val (.int (-1 : Int32)), .val (.int ((1 : Int32) + (1 : Int32))), .val (.int (5 : Int32))] (k3 rfl) rfl rfl rfl rfl ?_
 rw [show ((1 : Int32) + (1 : Int32)) = (2 : Int32) from by decide]
 refine go_goto K X10 (k3 rfl) (by decide) rfl ?_
 refine go_iloadN K X10 (k3 rfl) rfl rfl ?_
 refine go_iloadN K X10 (k3 rfl) rfl rfl ?_
 refine go_icmpF K X10 (k3 rfl) rfl (by decide : (2 : Int32) < (5 : Int32)) ?_
 refine go_aloadN K X10 (k3 rfl) rfl rfl rfl ?_
 refine go_iloadN K X10 (k3 rfl) rfl rfl ?_
 refine go_iloadN K X10 (k3 rfl) rfl rfl ?_
 refine go_iastore K X10 e10 f12 (i := 2) rfl (Nat.le_of_ble_eq_true rfl) H0 (k3 rfl) rfl ?_
 intro T13 h13 X13 e13 W13 A13
 have kp14 : Keep h0 h13 [a1] := kp11.trans (Keep.of_wr W13) (allS (Or.inl (List.mem_of_getElem? (i := 0) rfl)) all0)
 have f15 : AV Z h13 a1 .int [(.int (-1 : Int32)), (.int (-1 : Int32)), (.int (-1 : Int32)), (.int u3), (.int u4)] := A13
 refine go_iinc K X13 (1 : Int32) #[.val (.ref a1), .val (.int (-1 : Int32)), .val (.int ((2 : Int32) + (1 : Int32))), .val (.int (5 : Int32))] (k3 rfl) rfl rfl rfl rfl ?_
 rw [show ((2 : Int32) + (1 : Int32)) = (3 : Int32) from by decide]
 refine go_goto K X13 (k3 rfl) (by decide) rfl ?_
 refine go_iloadN K X13 (k3 rfl) rfl rfl ?_
 refine go_iloadN K X13 (k3 rfl) rfl rfl ?_
 refine go_icmpF K X13 (k3 rfl) rfl (by decide : (3 : Int32) < (5 : Int32)) ?_
 refine go_aloadN K X13 (k3 rfl) rfl rfl rfl ?_
 refine go_iloadN K X13 (k3 rfl) rfl rfl ?_
 refine go_iloadN K X13 (k3 rfl) rfl rfl ?_
 refine go_iastore K X13 e13 f15 (i := 3) rfl (Nat.le_of_ble_eq_true rfl) H0 (k3 rfl) rfl ?_
 intro T16 h16 X16 e16 W16 A16
 have kp17 : Keep h0 h16 [a1] := kp14.trans (Keep.of_wr W16) (allS (Or.inl (List.mem_of_getElem? (i := 0) rfl)) all0)
 have f18 : AV Z h16 a1 .int [(.int (-1 : Int32)), (.int (-1 : Int32)), (.int (-1 : Int32)), (.int (-1 : Int32)), (.int u4)] := A16
 refine go_iinc K X16 (1 : Int32) #[.val (.ref a1), .val (.int (-1 : Int32)), .val (.int ((3 : Int32) + (1 : Int32))), .val (.int (5 : Int32))] (k3 rfl) rfl rfl rfl rfl ?_
 rw [show ((3 : Int32) + (1 : Int32)) = (4 : Int32) from by decide]
 refine go_goto K X16 (k3 rfl) (by decide) rfl ?_
 refine go_iloadN K X16 (k3 rfl) rfl rfl ?_
 refine go_iloadN K X16 (k3 rfl) rfl rfl ?_
 refine go_icmpF K X16 (k3 rfl) rfl (by decide : (4 : Int32) < (5 : Int32)) ?_
 refine go_aloadN K X16 (k3 rfl) rfl rfl rfl ?_
 refine go_iloadN K X16 (k3 rfl) rfl rfl ?_
 refine go_iloadN K X16 (k3 rfl) rfl rfl ?_
 refine go_iastore K X16 e16 f18 (i := 4) rfl (Nat.le_of_ble_eq_true rfl) H0 (k3 rfl) rfl ?_
 intro T19 h19 X19 e19 W19 A19
 have kp20 : Keep h0 h19 [a1] := kp17.trans (Keep.of_wr W19) (allS (Or.inl (List.mem_of_getElem? (i := 0) rfl)) all0)
 have f21 : AV Z h19 a1 .int [(.int (-1 : Int32)), (.int (-1 : Int32)), (.int (-1 : Int32)), (.int (-1 : Int32)), (.int (-1 : Int32))] := A19
 refine go_iinc K X19 (1 : Int32) #[.val (.ref a1), .val (.int (-1 : Int32)), .val (.int ((4 : Int32) + (1 : Int32))), .val (.int (5 : Int32))] (k3 rfl) rfl rfl rfl rfl ?_
 rw [show ((4 : Int32) + (1 : Int32)) = (5 : Int32) from by decide]
 refine go_goto K X19 (k3 rfl) (by decide) rfl ?_
 refine go_iloadN K X19 (k3 rfl) rfl rfl ?_
 refine go_iloadN K X19 (k3 rfl) rfl rfl ?_
 refine go_icmpT K X19 (k3 rfl) (by decide) rfl (by decide : ¬ (5 : Int32) < (5 : Int32)) ?_
 refine go_ret K X19 (k3 rfl) (by decide) (by decide) ?_
 rw [e19]
 exact ⟨rfl, kp20, f21⟩
def t18 : List (List (Nat × Instr × Nat)) := [[(0,.iconst 0,1),(1,.istore_n 3,1),(2,.aload_n 0,1),(3,.arraylength,1),(4,.istore 4,2),(6,.iload_n 3,1),(7,.iload 4,2),(9,.if_icmp .ge 13,3),(12,.aload_n 0,1),(13,.iload_n 3,1),(14,.dload_n 1,1),(15,.dastore,1)],
  [(16,.iinc 3 1,3),(19,.goto (-13),3),(22,.return_,1)]]
theorem k18 : TB jdk_65_method_113_code t18 := tb_of (by decide +kernel)
theorem ef_rmFD4 (m : MethodId) (a1 : Addr) : entryFrame m #[(.ref a1), (.double 0)] 5 = mkF m 0 #[.val (.ref a1), .val (.double 0), .second, .unset, .unset] [] := by first | (simp [entryFrame, mkF, argsToLocals, Value.category]; done) | rfl
def Q_rmFD4 (Z : State) (n0 : Nat) (a1 : Addr) (y0 y1 y2 y3 : Int) (h0 : Heap) (v : Option Value) (h : Heap) : Prop := v = none ∧ Keep h0 h [a1] ∧ AD Z h a1 [0, 0, 0, 0]
abbrev R_rmFD4 : Room := { frames := 0, cells := 0, slots := 0, locals := 0 }
theorem rmFD4 (hw : HW Z a0) (a1 : Addr) (y0 y1 y2 y3 : Int) (h0 : Heap) (H0 : n0 ≤ a1) (H1 : AD Z h0 a1 [y0, y1, y2, y3]) :
    Con l Z n0 (⟨"java/util/Arrays", "fill", "([DD)V"⟩ : MethodName) jdk_65_method_113_code 5 none R_rmFD4 #[(.ref a1), (.double 0)] h0 (Q_rmFD4 Z n0 a1 y0 y1 y2 y3 h0) := by
 refine con_of (plainFor_of_name pn_java_util_Arrays) ?_
 intro p e s m below meth c T0 K X0 e0
 replace K : Ctx p s m meth c Z "java/util/Arrays" "fill" jdk_65_method_113_code 5 none := K
 refine go_entry (ef_rmFD4 m a1) ?_
 refine go_iconst K X0 (0 : Int32) (k18 rfl) rfl rfl ?_
 refine go_istoreN K X0 #[.val (.ref a1), .val (.double 0), .second, .val (.int (0 : Int32)), .unset] (k18 rfl) rfl rfl ?_
 refine go_aloadN K X0 (k18 rfl) rfl rfl rfl ?_
 refine go_arraylengthD K X0 e0 H1 (z := (4 : Int32)) rfl (k18 rfl) rfl ?_
 refine go_istore K X0 #[.val (.ref a1), .val (.double 0), .second, .val (.int (0 : Int32)), .val (.int (4 : Int32))] (k18 rfl) rfl rfl ?_
 refine go_iloadN K X0 (k18 rfl) rfl rfl ?_
 refine go_iload K X0 (k18 rfl) rfl rfl ?_
 refine go_icmpF K X0 (k18 rfl) rfl (by decide : (0 : Int32) < (4 : Int32)) ?_
 refine go_aloadN K X0 (k18 rfl) rfl rfl rfl ?_
 refine go_iloadN K X0 (k18 rfl) rfl rfl ?_
 refine go_dloadN K X0 (k18 rfl) rfl rfl ?_
 refine go_dastore K X0 e0 H1 (i := 0) rfl (Nat.le_of_ble_eq_true rfl) Dz.zero H0 (k18 rfl) rfl ?_
 intro T22 h22 X22 e22 W22 A22
 have kp23 : Keep h0 h22 [a1] := (Keep.refl h0 [a1]).trans (Keep.of_wr W22) (allS (Or.inl (List.mem_of_getElem? (i := 0) rfl)) all0)
 have f24 : AD Z h22 a1 [0, y1, y2, y3] := A22
 refine go_iinc K X22 (1 : Int32) #[.val (.ref a1), .val (.double 0), .second, .val (.int ((0 : Int32) + (1 : Int32))), .val (.int (4 : Int32))] (k18 rfl) rfl rfl rfl rfl ?_
 rw [show ((0 : Int32) + (1 : Int32)) = (1 : Int32) from by decide]
 refine go_goto K X22 (k18 rfl) (by decide) rfl ?_
 refine go_iloadN K X22 (k18 rfl) rfl rfl ?_
 refine go_iload K X22 (k18 rfl) rfl rfl ?_
 refine go_icmpF K X22 (k18 rfl) rfl (by decide : (1 : Int32) < (4 : Int32)) ?_
 refine go_aloadN K X22 (k18 rfl) rfl rfl rfl ?_
 refine go_iloadN K X22 (k18 rfl) rfl rfl ?_
 refine go_dloadN K X22 (k18 rfl) rfl rfl ?_
 refine go_dastore K X22 e22 f24 (i := 1) rfl (Nat.le_of_ble_eq_true rfl) Dz.zero H0 (k18 rfl) rfl ?_
 intro T25 h25 X25 e25 W25 A25
 have kp26 : Keep h0 h25 [a1] := kp23.trans (Keep.of_wr W25) (allS (Or.inl (List.mem_of_getElem? (i := 0) rfl)) all0)
 have f27 : AD Z h25 a1 [0, 0, y2, y3] := A25
 refine go_iinc K X25 (1 : Int32) #[.val (.ref a1), .val (.double 0), .second, .val (.int ((1 : Int32) + (1 : Int32))), .val (.int (4 : Int32))] (k18 rfl) rfl rfl rfl rfl ?_
 rw [show ((1 : Int32) + (1 : Int32)) = (2 : Int32) from by decide]
 refine go_goto K X25 (k18 rfl) (by decide) rfl ?_
 refine go_iloadN K X25 (k18 rfl) rfl rfl ?_
 refine go_iload K X25 (k18 rfl) rfl rfl ?_
 refine go_icmpF K X25 (k18 rfl) rfl (by decide : (2 : Int32) < (4 : Int32)) ?_
 refine go_aloadN K X25 (k18 rfl) rfl rfl rfl ?_
 refine go_iloadN K X25 (k18 rfl) rfl rfl ?_
 refine go_dloadN K X25 (k18 rfl) rfl rfl ?_
 refine go_dastore K X25 e25 f27 (i := 2) rfl (Nat.le_of_ble_eq_true rfl) Dz.zero H0 (k18 rfl) rfl ?_
 intro T28 h28 X28 e28 W28 A28
 have kp29 : Keep h0 h28 [a1] := kp26.trans (Keep.of_wr W28) (allS (Or.inl (List.mem_of_getElem? (i := 0) rfl)) all0)
 have f30 : AD Z h28 a1 [0, 0, 0, y3] := A28
 refine go_iinc K X28 (1 : Int32) #[.val (.ref a1), .val (.double 0), .second, .val (.int ((2 : Int32) + (1 : Int32))), .val (.int (4 : Int32))] (k18 rfl) rfl rfl rfl rfl ?_
 rw [show ((2 : Int32) + (1 : Int32)) = (3 : Int32) from by decide]
 refine go_goto K X28 (k18 rfl) (by decide) rfl ?_
 refine go_iloadN K X28 (k18 rfl) rfl rfl ?_
 refine go_iload K X28 (k18 rfl) rfl rfl ?_
 refine go_icmpF K X28 (k18 rfl) rfl (by decide : (3 : Int32) < (4 : Int32)) ?_
 refine go_aloadN K X28 (k18 rfl) rfl rfl rfl ?_
 refine go_iloadN K X28 (k18 rfl) rfl rfl ?_
 refine go_dloadN K X28 (k18 rfl) rfl rfl ?_
 refine go_dastore K X28 e28 f30 (i := 3) rfl (Nat.le_of_ble_eq_true rfl) Dz.zero H0 (k18 rfl) rfl ?_
 intro T31 h31 X31 e31 W31 A31
 have kp32 : Keep h0 h31 [a1] := kp29.trans (Keep.of_wr W31) (allS (Or.inl (List.mem_of_getElem? (i := 0) rfl)) all0)
 have f33 : AD Z h31 a1 [0, 0, 0, 0] := A31
 refine go_iinc K X31 (1 : Int32) #[.val (.ref a1), .val (.double 0), .second, .val (.int ((3 : Int32) + (1 : Int32))), .val (.int (4 : Int32))] (k18 rfl) rfl rfl rfl rfl ?_
 rw [show ((3 : Int32) + (1 : Int32)) = (4 : Int32) from by decide]
 refine go_goto K X31 (k18 rfl) (by decide) rfl ?_
 refine go_iloadN K X31 (k18 rfl) rfl rfl ?_
 refine go_iload K X31 (k18 rfl) rfl rfl ?_
 refine go_icmpT K X31 (k18 rfl) (by decide) rfl (by decide : ¬ (4 : Int32) < (4 : Int32)) ?_
 refine go_ret K X31 (k18 rfl) (by decide) (by decide) ?_
 rw [e31]
 exact ⟨rfl, kp32, f33⟩
def t1 : List (List (Nat × Instr × Nat)) := [[(0,.aload_n 0,1),(1,.invokespecial 1,3),(4,.aload_n 0,1),(5,.bipush 16,2),(7,.newarray .int,2),(9,.putfield 7,3),(12,.aload_n 0,1),(13,.bipush 64,2),(15,.newarray .int,2)],
  [(17,.putfield 13,3),(20,.aload_n 0,1),(21,.bipush 64,2),(23,.newarray .double,2),(25,.putfield 16,3),(28,.aload_n 0,1),(29,.iload_n 1,1),(30,.putfield 20,3)],
  [(33,.aload_n 0,1),(34,.iload_n 1,1),(35,.newarray .int,2),(37,.putfield 24,3),(40,.aload_n 0,1),(41,.getfield 24,3),(44,.iconst (-1),1),(45,.invokestatic 27,3)],
  [(48,.return_,1)]]
theorem k1 : TB prog_13_method_1_code t1 := tb_of (by decide +kernel)
theorem pd_0 : parseMethodDescriptor "([II)V" = some ⟨[(.array .int), .int], none⟩ := by decide +kernel
theorem pn_com_example_plumbline_plumbline_align_DualSimplex_Columns : plainName "com/example/plumbline/plumbline/align/DualSimplex$Columns" = true := by first | (simp [plainName, overriddenIn]; done) | decide +kernel
theorem ef_rmCI (m : MethodId) (a1 : Addr) : entryFrame m #[(.ref a1), (.int (2 : Int32))] 2 = mkF m 0 #[.val (.ref a1), .val (.int (2 : Int32))] [] := by first | (simp [entryFrame, mkF, argsToLocals, Value.category]; done) | rfl
def Q_rmCI (Z : State) (n0 : Nat) (a1 : Addr) (h0 : Heap) (v : Option Value) (h : Heap) : Prop := ∃ c_st : Addr, ∃ c_er : Addr, ∃ c_ev : Addr, ∃ c_su : Addr, v = none ∧ Keep h0 h [a1] ∧ h0.size ≤ c_st ∧ h0.size ≤ c_er ∧ h0.size ≤ c_ev ∧ h0.size ≤ c_su ∧ Exa Z h a1 "com/example/plumbline/plumbline/align/DualSimplex$Columns" ∧ Fld Z h a1 "com/example/plumbline/plumbline/align/DualSimplex$Columns" "starts" "[I" (.ref c_st) ∧ Fld Z h a1 "com/example/plumbline/plumbline/align/DualSimplex$Columns" "entryRows" "[I" (.ref c_er) ∧ Fld Z h a1 "com/example/plumbline/plumbline/align/DualSimplex$Columns" "entryValues" "[D" (.ref c_ev) ∧ Fld Z h a1 "com/example/plumbline/plumbline/align/DualSimplex$Columns" "rows" "I" (.int (2 : Int32)) ∧ Fld Z h a1 "com/example/plumbline/plumbline/align/DualSimplex$Columns" "surpluses" "[I" (.ref c_su) ∧ Fld Z h a1 "com/example/plumbline/plumbline/align/DualSimplex$Columns" "entries" "I" (.int (0 : Int32)) ∧ Fld Z h a1 "com/example/plumbline/plumbline/align/DualSimplex$Columns" "columns" "I" (.int (0 : Int32)) ∧ AV Z h c_st .int (List.replicate 16 (.int (0 : Int32))) ∧ AV Z h c_er .int (List.replicate 64 (.int (0 : Int32))) ∧ AD Z h c_ev (List.replicate 64 0) ∧ AV Z h c_su .int [(.int (-1 : Int32)), (.int (-1 : Int32))] ∧ Exa Z h c_su "[I" ∧ (inc [a1, c_st, c_er, c_ev, c_su])
abbrev R_rmCI : Room := { frames := 1, cells := 4, slots := 146, locals := 15 }
theorem rmCI (hw : HW Z a0) (a1 : Addr) (h0 : Heap) (H0 : n0 ≤ h0.size) (H1 : n0 ≤ a1) (H2 : Exa Z h0 a1 "com/example/plumbline/plumbline/align/DualSimplex$Columns") (H3 : Fld Z h0 a1 "com/example/plumbline/plumbline/align/DualSimplex$Columns" "starts" "[I" .null) (H4 : Fld Z h0 a1 "com/example/plumbline/plumbline/align/DualSimplex$Columns" "entryRows" "[I" .null) (H5 : Fld Z h0 a1 "com/example/plumbline/plumbline/align/DualSimplex$Columns" "entryValues" "[D" .null) (H6 : Fld Z h0 a1 "com/example/plumbline/plumbline/align/DualSimplex$Columns" "rows" "I" (.int (0 : Int32))) (H7 : Fld Z h0 a1 "com/example/plumbline/plumbline/align/DualSimplex$Columns" "surpluses" "[I" .null) (H8 : Fld Z h0 a1 "com/example/plumbline/plumbline/align/DualSimplex$Columns" "entries" "I" (.int (0 : Int32))) (H9 : Fld Z h0 a1 "com/example/plumbline/plumbline/align/DualSimplex$Columns" "columns" "I" (.int (0 : Int32))) :
    Con l Z n0 (⟨"com/example/plumbline/plumbline/align/DualSimplex$Columns", "<init>", "(I)V"⟩ : MethodName) prog_13_method_1_code 2 none R_rmCI #[(.ref a1), (.int (2 : Int32))] h0 (Q_rmCI Z n0 a1 h0) := by
 refine con_of (plainFor_of_name pn_com_example_plumbline_plumbline_align_DualSimplex_Columns) ?_
 intro p e s m below meth c T0 K X0 e0
 replace K : Ctx p s m meth c Z "com/example/plumbline/plumbline/align/DualSimplex$Columns" "<init>" prog_13_method_1_code 2 none := K
 refine go_entry (ef_rmCI m a1) ?_
 refine go_aloadN K X0 (k1 rfl) rfl rfl rfl ?_
 refine go_initO K X0 (wd hw 7 rfl) (wd hw 8 rfl) (wd hw 9 rfl) e0 rfl (k1 rfl) rfl (by decide) (W := 0) (Nat.le_of_eq rfl) (by decide) ?_
 intro T34 X34 e34
 refine go_aloadN K X34 (k1 rfl) rfl rfl rfl ?_
 refine go_bipush K X34 (16 : Int32) (k1 rfl) rfl rfl ?_
 refine go_newarray K X34 (wd hw 10 rfl) e34 (k1 rfl) (i := 16) (cap := 16) rfl (by decide) (by decide) rfl (cells' := 1) (slots' := 16) rfl rfl (by decide) (by decide) ?_
 intro T35 h35 b35 g35 X35 e35 E35 A35
 have ga36 : n0 ≤ b35 := Nat.le_trans H0 (Nat.le_of_eq g35.symm)
 have gb37 : h0.size ≤ b35 := Nat.le_trans (Keep.refl h0 [a1]).1 (Nat.le_of_eq g35.symm)
 have kp38 : Keep h0 h35 [a1] := (Keep.refl h0 [a1]).trans (Keep.ext (Keep.refl _ []) E35) all0
 have f39 : AV Z h35 b35 .int (List.replicate 16 (.int (0 : Int32))) := A35
 have f40 := (H2.keep (Keep.ext (Keep.refl _ []) E35))
 have f41 := (H3.keep (Keep.ext (Keep.refl _ []) E35) nin0)
 refine go_putF K X35 (host := "") (Or.inl (wd hw 11 rfl)) Via.refl e35 f41 f40 (Or.inl (wd hw 12 rfl)) (wd hw 2 rfl) (ty := (.array .int)) (by decide) rfl rfl H1 (k1 rfl) rfl ?_
 intro T42 h42 X42 e42 W42
 have kp43 : Keep h0 h42 [a1] := kp38.trans (Keep.of_wr W42) (allS (Or.inl (List.mem_of_getElem? (i := 0) rfl)) all0)
 have f44 : Fld Z h42 a1 "com/example/plumbline/plumbline/align/DualSimplex$Columns" "starts" "[I" (.ref b35) := f41.same W42
 refine go_aloadN K X42 (k1 rfl) rfl rfl rfl ?_
 refine go_bipush K X42 (64 : Int32) (k1 rfl) rfl rfl ?_
 refine go_newarray K X42 (wd hw 10 rfl) e42 (k1 rfl) (i := 64) (cap := 64) rfl (by decide) (by decide) rfl (cells' := 2) (slots' := 80) rfl rfl (by decide) (by decide) ?_
 intro T45 h45 b45 g45 X45 e45 E45 A45
 have z47 := (Nat.le_trans (Nat.le_trans H0 (Keep.ext (Keep.refl _ []) E35).1) (Keep.of_wr W42).1)
 have ga46 : n0 ≤ b45 := Nat.le_trans z47 (Nat.le_of_eq g45.symm)
 have gb48 : h0.size ≤ b45 := Nat.le_trans kp43.1 (Nat.le_of_eq g45.symm)
 have kp49 : Keep h0 h45 [a1] := kp43.trans (Keep.ext (Keep.refl _ []) E45) all0
 have f50 : AV Z h45 b45 .int (List.replicate 64 (.int (0 : Int32))) := A45
 have f51 := ((f40.keep (Keep.of_wr W42)).keep (Keep.ext (Keep.refl _ []) E45))
 have f52 := (((H4.keep (Keep.ext (Keep.refl _ []) E35) nin0).other W42 (Or.inr (slot_ne (Or.inl (wd hw 14 rfl)) (Or.inl (wd hw 12 rfl)) (by decide) (t := (.array .int)) (t' := (.array .int)) (by decide) (by decide)))).keep (Keep.ext (Keep.refl _ []) E45) nin0)
 refine go_putF K X45 (host := "") (Or.inl (wd hw 13 rfl)) Via.refl e45 f52 f51 (Or.inl (wd hw 14 rfl)) (wd hw 2 rfl) (ty := (.array .int)) (by decide) rfl rfl H1 (k1 rfl) rfl ?_
 intro T53 h53 X53 e53 W53
 have kp54 : Keep h0 h53 [a1] := kp49.trans (Keep.of_wr W53) (allS (Or.inl (List.mem_of_getElem? (i := 0) rfl)) all0)
 have f55 : Fld Z h53 a1 "com/example/plumbline/plumbline/align/DualSimplex$Columns" "entryRows" "[I" (.ref b45) := f52.same W53
 refine go_aloadN K X53 (k1 rfl) rfl rfl rfl ?_
 refine go_bipush K X53 (64 : Int32) (k1 rfl) rfl rfl ?_
 refine go_newarrayD K X53 (wd hw 15 rfl) e53 (k1 rfl) (i := 64) (cap := 64) rfl (by decide) (by decide) rfl (cells' := 3) (slots' := 144) rfl rfl (by decide) (by decide) ?_
 intro T56 h56 b56 g56 X56 e56 E56 A56 C56
 have z58 := (Nat.le_trans (Nat.le_trans z47 (Keep.ext (Keep.refl _ []) E45).1) (Keep.of_wr W53).1)
 have ga57 : n0 ≤ b56 := Nat.le_trans z58 (Nat.le_of_eq g56.symm)
 have gb59 : h0.size ≤ b56 := Nat.le_trans kp54.1 (Nat.le_of_eq g56.symm)
 have kp60 : Keep h0 h56 [a1] := kp54.trans (Keep.ext (Keep.refl _ []) E56) all0
 have f61 : AD Z h56 b56 (List.replicate 64 0) := A56
 have f62 := ((f51.keep (Keep.of_wr W53)).keep (Keep.ext (Keep.refl _ []) E56))
 have f63 := (((((H5.keep (Keep.ext (Keep.refl _ []) E35) nin0).other W42 (Or.inr (slot_ne (Or.inl (wd hw 17 rfl)) (Or.inl (wd hw 12 rfl)) (by decide) (t := (.array .double)) (t' := (.array .int)) (by decide) (by decide)))).keep (Keep.ext (Keep.refl _ []) E45) nin0).other W53 (Or.inr (slot_ne (Or.inl (wd hw 17 rfl)) (Or.inl (wd hw 14 rfl)) (by decide) (t := (.array .double)) (t' := (.array .int)) (by decide) (by decide)))).keep (Keep.ext (Keep.refl _ []) E56) nin0)
 refine go_putF K X56 (host := "") (Or.inl (wd hw 16 rfl)) Via.refl e56 f63 f62 (Or.inl (wd hw 17 rfl)) (wd hw 2 rfl) (ty := (.array .double)) (by decide) rfl rfl H1 (k1 rfl) rfl ?_
 intro T64 h64 X64 e64 W64
 have kp65 : Keep h0 h64 [a1] := kp60.trans (Keep.of_wr W64) (allS (Or.inl (List.mem_of_getElem? (i := 0) rfl)) all0)
 have f66 : Fld Z h64 a1 "com/example/plumbline/plumbline/align/DualSimplex$Columns" "entryValues" "[D" (.ref b56) := f63.same W64
 refine go_aloadN K X64 (k1 rfl) rfl rfl rfl ?_
 refine go_iloadN K X64 (k1 rfl) rfl rfl ?_
 have f67 := (f62.keep (Keep.of_wr W64))
 have f68 := ((((((H6.keep (Keep.ext (Keep.refl _ []) E35) nin0).other W42 (Or.inr (slot_ne (Or.inr (wd hw 19 rfl)) (Or.inl (wd hw 12 rfl)) (by decide) (t := .int) (t' := (.array .int)) (by decide) (by decide)))).keep (Keep.ext (Keep.refl _ []) E45) nin0).other W53 (Or.inr (slot_ne (Or.inr (wd hw 19 rfl)) (Or.inl (wd hw 14 rfl)) (by decide) (t := .int) (t' := (.array .int)) (by decide) (by decide)))).keep (Keep.ext (Keep.refl _ []) E56) nin0).other W64 (Or.inr (slot_ne (Or.inr (wd hw 19 rfl)) (Or.inl (wd hw 17 rfl)) (by decide) (t := .int) (t' := (.array .double)) (by decide) (by decide))))
 refine go_putF K X64 (host := "") (Or.inl (wd hw 18 rfl)) Via.refl e64 f68 f67 (Or.inr ⟨(wd hw 19 rfl), rfl, rfl⟩) (wd hw 2 rfl) (ty := .int) (by decide) rfl rfl H1 (k1 rfl) rfl ?_
 intro T69 h69 X69 e69 W69
 have kp70 : Keep h0 h69 [a1] := kp65.trans (Keep.of_wr W69) (allS (Or.inl (List.mem_of_getElem? (i := 0) rfl)) all0)
 have f71 : Fld Z h69 a1 "com/example/plumbline/plumbline/align/DualSimplex$Columns" "rows" "I" (.int (2 : Int32)) := f68.same W69
 refine go_aloadN K X69 (k1 rfl) rfl rfl rfl ?_
 refine go_iloadN K X69 (k1 rfl) rfl rfl ?_
 refine go_newarrayE K X69 (ad := "[I") (by decide) (wd hw 10 rfl) e69 (k1 rfl) (i := 2) (cap := 2) rfl (by decide) (by decide) rfl (cells' := 4) (slots' := 146) rfl rfl (by decide) (by decide) ?_
 intro T72 h72 b72 g72 X72 e72 E72 A72 C72
 have z74 := (Nat.le_trans (Nat.le_trans (Nat.le_trans z58 (Keep.ext (Keep.refl _ []) E56).1) (Keep.of_wr W64).1) (Keep.of_wr W69).1)
 have ga73 : n0 ≤ b72 := Nat.le_trans z74 (Nat.le_of_eq g72.symm)
 have gb75 : h0.size ≤ b72 := Nat.le_trans kp70.1 (Nat.le_of_eq g72.symm)
 have kp76 : Keep h0 h72 [a1] := kp70.trans (Keep.ext (Keep.refl _ []) E72) all0
 have f77 : AV Z h72 b72 .int [(.int (0 : Int32)), (.int (0 : Int32))] := A72
 have f78 := ((f67.keep (Keep.of_wr W69)).keep (Keep.ext (Keep.refl _ []) E72))
 have f79 := ((((((((H7.keep (Keep.ext (Keep.refl _ []) E35) nin0).other W42 (Or.inr (slot_ne (Or.inr (wd hw 21 rfl)) (Or.inl (wd hw 12 rfl)) (by decide) (t := (.array .int)) (t' := (.array .int)) (by decide) (by decide)))).keep (Keep.ext (Keep.refl _ []) E45) nin0).other W53 (Or.inr (slot_ne (Or.inr (wd hw 21 rfl)) (Or.inl (wd hw 14 rfl)) (by decide) (t := (.array .int)) (t' := (.array .int)) (by decide) (by decide)))).keep (Keep.ext (Keep.refl _ []) E56) nin0).other W64 (Or.inr (slot_ne (Or.inr (wd hw 21 rfl)) (Or.inl (wd hw 17 rfl)) (by decide) (t := (.array .int)) (t' := (.array .double)) (by decide) (by decide)))).other W69 (Or.inr (slot_ne (Or.inr (wd hw 21 rfl)) (Or.inr (wd hw 19 rfl)) (by decide) (t := (.array .int)) (t' := .int) (by decide) (by decide)))).keep (Keep.ext (Keep.refl _ []) E72) nin0)
 refine go_putF K X72 (host := "") (Or.inl (wd hw 20 rfl)) Via.refl e72 f79 f78 (Or.inr ⟨(wd hw 21 rfl), rfl, rfl⟩) (wd hw 2 rfl) (ty := (.array .int)) (by decide) rfl rfl H1 (k1 rfl) rfl ?_
 intro T80 h80 X80 e80 W80
 have kp81 : Keep h0 h80 [a1] := kp76.trans (Keep.of_wr W80) (allS (Or.inl (List.mem_of_getElem? (i := 0) rfl)) all0)
 have f82 : Fld Z h80 a1 "com/example/plumbline/plumbline/align/DualSimplex$Columns" "surpluses" "[I" (.ref b72) := f79.same W80
 refine go_aloadN K X80 (k1 rfl) rfl rfl rfl ?_
 refine go_getF K X80 (host := "") (Or.inl (wd hw 20 rfl)) Via.refl e80 f82 (k1 rfl) rfl ?_
 intro T83 X83 e83
 refine go_iconst K X83 (-1 : Int32) (k1 rfl) rfl rfl ?_
 have f84 := (f77.keep (Keep.of_wr W80) (ninS (Ne.symm (Nat.ne_of_lt (Nat.lt_of_lt_of_le H2.lt gb75))) nin0))
 refine go_static K X83 (argsL := [(.ref b72), (.int (-1 : Int32))]) (stk := []) (wd hw 22 rfl) (wd hw 23 rfl) (wd hw 24 rfl) (wd hw 25 rfl) (by decide) (lenOf pd_0 rfl) e83 (rmFI2 hw b72 (0 : Int32) (0 : Int32) h80 ga73 f84) rfl rfl (k1 rfl) rfl (by decide) (W := 0) (Nat.le_of_eq rfl) (by decide) (cells' := 4) (slots' := 146) rfl rfl (by decide) (by decide) ?_
 rintro T85 h85 _ X85 e85 ⟨rfl, K85, f86⟩
 show Go _ _ _ _ _ _ _ (T85.setTop (mkF m 48 #[.val (.ref a1), .val (.int (2 : Int32))] []))
 have kp87 : Keep h0 h85 [a1] := kp81.trans K85 (allS (Or.inr gb75) all0)
 have l88 := (Nat.le_trans (Keep.of_wr W64).1 (Keep.of_wr W69).1)
 refine go_ret K X85 (k1 rfl) (by decide) (by decide) ?_
 have f89 := ((f78.keep (Keep.of_wr W80)).keep K85)
 have f90 := ((((((((f44.keep (Keep.ext (Keep.refl _ []) E45) nin0).other W53 (Or.inr (slot_ne (Or.inl (wd hw 12 rfl)) (Or.inl (wd hw 14 rfl)) (by decide) (t := (.array .int)) (t' := (.array .int)) (by decide) (by decide)))).keep (Keep.ext (Keep.refl _ []) E56) nin0).other W64 (Or.inr (slot_ne (Or.inl (wd hw 12 rfl)) (Or.inl (wd hw 17 rfl)) (by decide) (t := (.array .int)) (t' := (.array .double)) (by decide) (by decide)))).other W69 (Or.inr (slot_ne (Or.inl (wd hw 12 rfl)) (Or.inr (wd hw 19 rfl)) (by decide) (t := (.array .int)) (t' := .int) (by decide) (by decide)))).keep (Keep.ext (Keep.refl _ []) E72) nin0).other W80 (Or.inr (slot_ne (Or.inl (wd hw 12 rfl)) (Or.inr (wd hw 21 rfl)) (by decide) (t := (.array .int)) (t' := (.array .int)) (by decide) (by decide)))).keep K85 (ninS (Nat.ne_of_lt (Nat.lt_of_lt_of_le H2.lt gb75)) nin0))
 have f91 := ((((((f55.keep (Keep.ext (Keep.refl _ []) E56) nin0).other W64 (Or.inr (slot_ne (Or.inl (wd hw 14 rfl)) (Or.inl (wd hw 17 rfl)) (by decide) (t := (.array .int)) (t' := (.array .double)) (by decide) (by decide)))).other W69 (Or.inr (slot_ne (Or.inl (wd hw 14 rfl)) (Or.inr (wd hw 19 rfl)) (by decide) (t := (.array .int)) (t' := .int) (by decide) (by decide)))).keep (Keep.ext (Keep.refl _ []) E72) nin0).other W80 (Or.inr (slot_ne (Or.inl (wd hw 14 rfl)) (Or.inr (wd hw 21 rfl)) (by decide) (t := (.array .int)) (t' := (.array .int)) (by decide) (by decide)))).keep K85 (ninS (Nat.ne_of_lt (Nat.lt_of_lt_of_le H2.lt gb75)) nin0))
 have f92 := ((((f66.other W69 (Or.inr (slot_ne (Or.inl (wd hw 17 rfl)) (Or.inr (wd hw 19 rfl)) (by decide) (t := (.array .double)) (t' := .int) (by decide) (by decide)))).keep (Keep.ext (Keep.refl _ []) E72) nin0).other W80 (Or.inr (slot_ne (Or.inl (wd hw 17 rfl)) (Or.inr (wd hw 21 rfl)) (by decide) (t := (.array .double)) (t' := (.array .int)) (by decide) (by decide)))).keep K85 (ninS (Nat.ne_of_lt (Nat.lt_of_lt_of_le H2.lt gb75)) nin0))
 have f93 := (((f71.keep (Keep.ext (Keep.refl _ []) E72) nin0).other W80 (Or.inr (slot_ne (Or.inr (wd hw 19 rfl)) (Or.inr (wd hw 21 rfl)) (by decide) (t := .int) (t' := (.array .int)) (by decide) (by decide)))).keep K85 (ninS (Nat.ne_of_lt (Nat.lt_of_lt_of_le H2.lt gb75)) nin0))
 have f94 := (f82.keep K85 (ninS (Nat.ne_of_lt (Nat.lt_of_lt_of_le H2.lt gb75)) nin0))
 have f95 := ((((((((((H8.keep (Keep.ext (Keep.refl _ []) E35) nin0).other W42 (Or.inr (slot_ne (Or.inl (wd hw 32 rfl)) (Or.inl (wd hw 12 rfl)) (by decide) (t := .int) (t' := (.array .int)) (by decide) (by decide)))).keep (Keep.ext (Keep.refl _ []) E45) nin0).other W53 (Or.inr (slot_ne (Or.inl (wd hw 32 rfl)) (Or.inl (wd hw 14 rfl)) (by decide) (t := .int) (t' := (.array .int)) (by decide) (by decide)))).keep (Keep.ext (Keep.refl _ []) E56) nin0).other W64 (Or.inr (slot_ne (Or.inl (wd hw 32 rfl)) (Or.inl (wd hw 17 rfl)) (by decide) (t := .int) (t' := (.array .double)) (by decide) (by decide)))).other W69 (Or.inr (slot_ne (Or.inl (wd hw 32 rfl)) (Or.inr (wd hw 19 rfl)) (by decide) (t := .int) (t' := .int) (by decide) (by decide)))).keep (Keep.ext (Keep.refl _ []) E72) nin0).other W80 (Or.inr (slot_ne (Or.inl (wd hw 32 rfl)) (Or.inr (wd hw 21 rfl)) (by decide) (t := .int) (t' := (.array .int)) (by decide) (by decide)))).keep K85 (ninS (Nat.ne_of_lt (Nat.lt_of_lt_of_le H2.lt gb75)) nin0))
 have f96 := ((((((((((H9.keep (Keep.ext (Keep.refl _ []) E35) nin0).other W42 (Or.inr (slot_ne (Or.inl (wd hw 39 rfl)) (Or.inl (wd hw 12 rfl)) (by decide) (t := .int) (t' := (.array .int)) (by decide) (by decide)))).keep (Keep.ext (Keep.refl _ []) E45) nin0).other W53 (Or.inr (slot_ne (Or.inl (wd hw 39 rfl)) (Or.inl (wd hw 14 rfl)) (by decide) (t := .int) (t' := (.array .int)) (by decide) (by decide)))).keep (Keep.ext (Keep.refl _ []) E56) nin0).other W64 (Or.inr (slot_ne (Or.inl (wd hw 39 rfl)) (Or.inl (wd hw 17 rfl)) (by decide) (t := .int) (t' := (.array .double)) (by decide) (by decide)))).other W69 (Or.inr (slot_ne (Or.inl (wd hw 39 rfl)) (Or.inr (wd hw 19 rfl)) (by decide) (t := .int) (t' := .int) (by decide) (by decide)))).keep (Keep.ext (Keep.refl _ []) E72) nin0).other W80 (Or.inr (slot_ne (Or.inl (wd hw 39 rfl)) (Or.inr (wd hw 21 rfl)) (by decide) (t := .int) (t' := (.array .int)) (by decide) (by decide)))).keep K85 (ninS (Nat.ne_of_lt (Nat.lt_of_lt_of_le H2.lt gb75)) nin0))
 have l97 := (Nat.le_trans (Nat.le_trans (Nat.le_trans (Nat.le_trans (Nat.le_trans (Keep.of_wr W42).1 (Keep.ext (Keep.refl _ []) E45).1) (Keep.of_wr W53).1) (Keep.ext (Keep.refl _ []) E56).1) (Keep.of_wr W64).1) (Keep.of_wr W69).1)
 have f98 := (((((((((f39.keep (Keep.of_wr W42) (ninS (Ne.symm (Nat.ne_of_lt (Nat.lt_of_lt_of_le H2.lt gb37))) nin0)).keep (Keep.ext (Keep.refl _ []) E45) nin0).keep (Keep.of_wr W53) (ninS (Ne.symm (Nat.ne_of_lt (Nat.lt_of_lt_of_le H2.lt gb37))) nin0)).keep (Keep.ext (Keep.refl _ []) E56) nin0).keep (Keep.of_wr W64) (ninS (Ne.symm (Nat.ne_of_lt (Nat.lt_of_lt_of_le H2.lt gb37))) nin0)).keep (Keep.of_wr W69) (ninS (Ne.symm (Nat.ne_of_lt (Nat.lt_of_lt_of_le H2.lt gb37))) nin0)).keep (Keep.ext (Keep.refl _ []) E72) nin0).keep (Keep.of_wr W80) (ninS (Ne.symm (Nat.ne_of_lt (Nat.lt_of_lt_of_le H2.lt gb37))) nin0)).keep K85 (ninS (Nat.ne_of_lt (Nat.lt_of_lt_of_le (Nat.lt_of_lt_of_le f39.lt l97) (Nat.le_of_eq g72.symm))) nin0))
 have l99 := (Nat.le_trans (Nat.le_trans (Nat.le_trans (Keep.of_wr W53).1 (Keep.ext (Keep.refl _ []) E56).1) (Keep.of_wr W64).1) (Keep.of_wr W69).1)
 have f0a := (((((((f50.keep (Keep.of_wr W53) (ninS (Ne.symm (Nat.ne_of_lt (Nat.lt_of_lt_of_le H2.lt gb48))) nin0)).keep (Keep.ext (Keep.refl _ []) E56) nin0).keep (Keep.of_wr W64) (ninS (Ne.symm (Nat.ne_of_lt (Nat.lt_of_lt_of_le H2.lt gb48))) nin0)).keep (Keep.of_wr W69) (ninS (Ne.symm (Nat.ne_of_lt (Nat.lt_of_lt_of_le H2.lt gb48))) nin0)).keep (Keep.ext (Keep.refl _ []) E72) nin0).keep (Keep.of_wr W80) (ninS (Ne.symm (Nat.ne_of_lt (Nat.lt_of_lt_of_le H2.lt gb48))) nin0)).keep K85 (ninS (Nat.ne_of_lt (Nat.lt_of_lt_of_le (Nat.lt_of_lt_of_le f50.lt l99) (Nat.le_of_eq g72.symm))) nin0))
 have f0b := (((((f61.keep (Keep.of_wr W64) (ninS (Ne.symm (Nat.ne_of_lt (Nat.lt_of_lt_of_le H2.lt gb59))) nin0)).keep (Keep.of_wr W69) (ninS (Ne.symm (Nat.ne_of_lt (Nat.lt_of_lt_of_le H2.lt gb59))) nin0)).keep (Keep.ext (Keep.refl _ []) E72) nin0).keep (Keep.of_wr W80) (ninS (Ne.symm (Nat.ne_of_lt (Nat.lt_of_lt_of_le H2.lt gb59))) nin0)).keep K85 (ninS (Nat.ne_of_lt (Nat.lt_of_lt_of_le (Nat.lt_of_lt_of_le C56.lt l88) (Nat.le_of_eq g72.symm))) nin0))
 have f0c := ((C72.keep (Keep.of_wr W80)).keep K85)
 rw [e85]
 exact ⟨b35, b45, b56, b72, rfl, kp87, gb37, gb48, gb59, gb75, f89, f90, f91, f92, f93, f94, f95, f96, f98, f0a, f0b, f86, f0c, (inc2 (Nat.lt_of_lt_of_le H2.lt (Nat.le_of_eq g35.symm)) (inc2 (Nat.lt_of_lt_of_le (Nat.lt_of_lt_of_le f39.lt (Keep.of_wr W42).1) (Nat.le_of_eq g45.symm)) (inc2 (Nat.lt_of_lt_of_le (Nat.lt_of_lt_of_le f50.lt (Keep.of_wr W53).1) (Nat.le_of_eq g56.symm)) (inc2 (Nat.lt_of_lt_of_le (Nat.lt_of_lt_of_le C56.lt l88) (Nat.le_of_eq g72.symm)) inc1))))⟩
def t4 : List (List (Nat × Instr × Nat)) := [[(0,.iload_n 1,1),(1,.ifCond .lt 11,3),(4,.iload_n 1,1),(5,.aload_n 0,1),(6,.getfield 20,3),(9,.if_icmp .lt 21,3),(12,.new 33,3),(15,.dup,1)],
  [(16,.iload_n 1,1),(17,.aload_n 0,1),(18,.getfield 20,3),(21,.invokedynamic 35,5),(26,.invokespecial 39,3),(29,.athrow,1),(30,.dload_n 2,1),(31,.dconst 0,1)],
  [(32,.dcmp .l,1),(33,.ifCond .ne 4,3),(36,.return_,1),(37,.aload_n 0,1),(38,.getfield 42,3),(41,.aload_n 0,1),(42,.getfield 13,3),(45,.arraylength,1),(46,.if_icmp .ne 37,3)],
  [(49,.aload_n 0,1),(50,.aload_n 0,1),(51,.getfield 13,3),(54,.iconst 2,1),(55,.aload_n 0,1),(56,.getfield 42,3),(59,.imul,1),(60,.invokestatic 45,3),(63,.putfield 13,3)],
  [(66,.aload_n 0,1),(67,.aload_n 0,1),(68,.getfield 16,3),(71,.iconst 2,1),(72,.aload_n 0,1),(73,.getfield 42,3),(76,.imul,1),(77,.invokestatic 49,3)],
  [(80,.putfield 16,3),(83,.aload_n 0,1),(84,.getfield 13,3),(87,.aload_n 0,1),(88,.getfield 42,3),(91,.iload_n 1,1),(92,.iastore,1),(93,.aload_n 0,1),(94,.getfield 16,3)],
  [(97,.aload_n 0,1),(98,.getfield 42,3),(101,.dload_n 2,1),(102,.dastore,1),(103,.aload_n 0,1),(104,.dup,1),(105,.getfield 42,3),(108,.iconst 1,1),(109,.iadd,1),(110,.putfield 42,3)],
  [(113,.return_,1)]]
theorem k4 : TB prog_13_method_2_code t4 := tb_of (by decide +kernel)
theorem ef_rmAdd0 (m : MethodId) (a1 : Addr) : entryFrame m #[(.ref a1), (.int (0 : Int32)), (.double 4607182418800017408)] 4 = mkF m 0 #[.val (.ref a1), .val (.int (0 : Int32)), .val (.double 4607182418800017408), .second] [] := by first | (simp [entryFrame, mkF, argsToLocals, Value.category]; done) | rfl
def Q_rmAdd0 (Z : State) (n0 : Nat) (a1 c_st c_er c_ev c_su : Addr) (vr : List Value) (zr : List Int) (ucol : Value) (h0 : Heap) (v : Option Value) (h : Heap) : Prop := v = none ∧ Keep h0 h [a1, c_er, c_ev] ∧ Exa Z h a1 "com/example/plumbline/plumbline/align/DualSimplex$Columns" ∧ Fld Z h a1 "com/example/plumbline/plumbline/align/DualSimplex$Columns" "starts" "[I" (.ref c_st) ∧ Fld Z h a1 "com/example/plumbline/plumbline/align/DualSimplex$Columns" "entryRows" "[I" (.ref c_er) ∧ Fld Z h a1 "com/example/plumbline/plumbline/align/DualSimplex$Columns" "entryValues" "[D" (.ref c_ev) ∧ Fld Z h a1 "com/example/plumbline/plumbline/align/DualSimplex$Columns" "rows" "I" (.int (2 : Int32)) ∧ Fld Z h a1 "com/example/plumbline/plumbline/align/DualSimplex$Columns" "surpluses" "[I" (.ref c_su) ∧ Fld Z h a1 "com/example/plumbline/plumbline/align/DualSimplex$Columns" "entries" "I" (.int (1 : Int32)) ∧ Fld Z h a1 "com/example/plumbline/plumbline/align/DualSimplex$Columns" "columns" "I" ucol ∧ AV Z h c_er .int (vr.set 0 (.int (0 : Int32))) ∧ AD Z h c_ev (zr.set 0 1)
abbrev R_rmAdd0 : Room := { frames := 0, cells := 0, slots := 0, locals := 0 }
theorem rmAdd0 (hw : HW Z a0) (a1 c_st c_er c_ev c_su : Addr) (vr : List Value) (zr : List Int) (ucol : Value) (h0 : Heap) (H0 : n0 ≤ a1) (H1 : inc [a1, c_st, c_er, c_ev, c_su]) (H2 : Exa Z h0 a1 "com/example/plumbline/plumbline/align/DualSimplex$Columns") (H3 : Fld Z h0 a1 "com/example/plumbline/plumbline/align/DualSimplex$Columns" "starts" "[I" (.ref c_st)) (H4 : Fld Z h0 a1 "com/example/plumbline/plumbline/align/DualSimplex$Columns" "entryRows" "[I" (.ref c_er)) (H5 : Fld Z h0 a1 "com/example/plumbline/plumbline/align/DualSimplex$Columns" "entryValues" "[D" (.ref c_ev)) (H6 : Fld Z h0 a1 "com/example/plumbline/plumbline/align/DualSimplex$Columns" "rows" "I" (.int (2 : Int32))) (H7 : Fld Z h0 a1 "com/example/plumbline/plumbline/align/DualSimplex$Columns" "surpluses" "[I" (.ref c_su)) (H8 : Fld Z h0 a1 "com/example/plumbline/plumbline/align/DualSimplex$Columns" "entries" "I" (.int (0 : Int32))) (H9 : Fld Z h0 a1 "com/example/plumbline/plumbline/align/DualSimplex$Columns" "columns" "I" ucol) (H10 : AV Z h0 c_er .int vr) (H11 : vr.length = 64) (H12 : AD Z h0 c_ev zr) (H13 : zr.length = 64) :
    Con l Z n0 (⟨"com/example/plumbline/plumbline/align/DualSimplex$Columns", "add", "(ID)V"⟩ : MethodName) prog_13_method_2_code 4 none R_rmAdd0 #[(.ref a1), (.int (0 : Int32)), (.double 4607182418800017408)] h0 (Q_rmAdd0 Z n0 a1 c_st c_er c_ev c_su vr zr ucol h0) := by
 refine con_of (plainFor_of_name pn_com_example_plumbline_plumbline_align_DualSimplex_Columns) ?_
 intro p e s m below meth c T0 K X0 e0
 replace K : Ctx p s m meth c Z "com/example/plumbline/plumbline/align/DualSimplex$Columns" "add" prog_13_method_2_code 4 none := K
 refine go_entry (ef_rmAdd0 m a1) ?_
 refine go_iloadN K X0 (k4 rfl) rfl rfl ?_
 refine go_ifF K X0 (k4 rfl) rfl (by decide : ¬ (0 : Int32) < (0 : Int32)) ?_
 refine go_iloadN K X0 (k4 rfl) rfl rfl ?_
 refine go_aloadN K X0 (k4 rfl) rfl rfl rfl ?_
 refine go_getF K X0 (host := "") (Or.inl (wd hw 18 rfl)) Via.refl e0 H6 (k4 rfl) rfl ?_
 intro T0a X0a e0a
 refine go_icmpT K X0a (k4 rfl) (by decide) rfl (by decide : (0 : Int32) < (2 : Int32)) ?_
 refine go_dloadN K X0a (k4 rfl) rfl rfl ?_
 refine go_dconst0 K X0a (k4 rfl) rfl ?_
 refine go_difT K X0a (k4 rfl) rfl (k4 rfl) (by decide) rfl (Dz.tk (cd := .ne) Dz.one Dz.zero (by show ¬ (1 : Int) = (0 : Int); decide)) ?_
 refine go_aloadN K X0a (k4 rfl) rfl rfl rfl ?_
 refine go_getF K X0a (host := "") (Or.inl (wd hw 31 rfl)) Via.refl e0a H8 (k4 rfl) rfl ?_
 intro T0b X0b e0b
 refine go_aloadN K X0b (k4 rfl) rfl rfl rfl ?_
 refine go_getF K X0b (host := "") (Or.inl (wd hw 13 rfl)) Via.refl e0b H4 (k4 rfl) rfl ?_
 intro T0c X0c e0c
 refine go_arraylength K X0c e0c H10 (z := (64 : Int32)) (by rw [H11]; rfl) (k4 rfl) rfl ?_
 refine go_icmpT K X0c (k4 rfl) (by decide) rfl (by decide : ¬ (0 : Int32) = (64 : Int32)) ?_
 refine go_aloadN K X0c (k4 rfl) rfl rfl rfl ?_
 refine go_getF K X0c (host := "") (Or.inl (wd hw 13 rfl)) Via.refl e0c H4 (k4 rfl) rfl ?_
 intro T0d X0d e0d
 refine go_aloadN K X0d (k4 rfl) rfl rfl rfl ?_
 refine go_getF K X0d (host := "") (Or.inl (wd hw 31 rfl)) Via.refl e0d H8 (k4 rfl) rfl ?_
 intro T0e X0e e0e
 refine go_iloadN K X0e (k4 rfl) rfl rfl ?_
 refine go_iastore K X0e e0e H10 (i := 0) rfl (by rw [H11]; decide) (inc_ge H1 H0 1 rfl) (k4 rfl) rfl ?_
 intro T0f h0f X0f e0f W0f A108
 have kp0g : Keep h0 h0f [a1, c_er, c_ev] := (Keep.refl h0 [a1, c_er, c_ev]).trans (Keep.of_wr W0f) (allS (Or.inl (List.mem_of_getElem? (i := 1) rfl)) all0)
 have f0h : AV Z h0f c_er .int (vr.set 0 (.int (0 : Int32))) := A108
 refine go_aloadN K X0f (k4 rfl) rfl rfl rfl ?_
 have f0i := (H5.keep (Keep.of_wr W0f) (ninS (inc_ne H1 0 2 rfl rfl (by decide)) nin0))
 refine go_getF K X0f (host := "") (Or.inl (wd hw 16 rfl)) Via.refl e0f f0i (k4 rfl) rfl ?_
 intro T0j X0j e0j
 refine go_aloadN K X0j (k4 rfl) rfl rfl rfl ?_
 have f0k := (H8.keep (Keep.of_wr W0f) (ninS (inc_ne H1 0 2 rfl rfl (by decide)) nin0))
 refine go_getF K X0j (host := "") (Or.inl (wd hw 31 rfl)) Via.refl e0j f0k (k4 rfl) rfl ?_
 intro T0l X0l e0l
 refine go_dloadN K X0l (k4 rfl) rfl rfl ?_
 have f0m := (H12.keep (Keep.of_wr W0f) (ninS (Ne.symm (inc_ne H1 2 3 rfl rfl (by decide))) nin0))
 refine go_dastore K X0l e0l f0m (i := 0) rfl (by rw [H13]; decide) Dz.one (inc_ge H1 H0 2 rfl) (k4 rfl) rfl ?_
 intro T0n h0n X0n e0n W0n A116
 have kp0o : Keep h0 h0n [a1, c_er, c_ev] := kp0g.trans (Keep.of_wr W0n) (allS (Or.inl (List.mem_of_getElem? (i := 2) rfl)) all0)
 have f0p : AD Z h0n c_ev (zr.set 0 1) := A116
 refine go_aloadN K X0n (k4 rfl) rfl rfl rfl ?_
 refine go_dup K X0n (k4 rfl) rfl rfl ?_
 have f0q := (f0k.keep (Keep.of_wr W0n) (ninS (inc_ne H1 0 3 rfl rfl (by decide)) nin0))
 refine go_getF K X0n (host := "") (Or.inl (wd hw 31 rfl)) Via.refl e0n f0q (k4 rfl) rfl ?_
 intro T0r X0r e0r
 refine go_iconst K X0r (1 : Int32) (k4 rfl) rfl rfl ?_
 refine go_iadd K X0r (k4 rfl) rfl ?_
 rw [show ((0 : Int32) + (1 : Int32)) = (1 : Int32) from by decide]
 have f0s := ((H2.keep (Keep.of_wr W0f)).keep (Keep.of_wr W0n))
 refine go_putF K X0r (host := "") (Or.inl (wd hw 31 rfl)) Via.refl e0r f0q f0s (Or.inl (wd hw 32 rfl)) (wd hw 2 rfl) (ty := .int) (by decide) rfl rfl H0 (k4 rfl) rfl ?_
 intro T0t h0t X0t e0t W0t
 have kp0u : Keep h0 h0t [a1, c_er, c_ev] := kp0o.trans (Keep.of_wr W0t) (allS (Or.inl (List.mem_of_getElem? (i := 0) rfl)) all0)
 have f0v : Fld Z h0t a1 "com/example/plumbline/plumbline/align/DualSimplex$Columns" "entries" "I" (.int (1 : Int32)) := f0q.same W0t
 refine go_ret K X0t (k4 rfl) (by decide) (by decide) ?_
 have f0w := (f0s.keep (Keep.of_wr W0t))
 have f0x := (((H3.keep (Keep.of_wr W0f) (ninS (inc_ne H1 0 2 rfl rfl (by decide)) nin0)).keep (Keep.of_wr W0n) (ninS (inc_ne H1 0 3 rfl rfl (by decide)) nin0)).other W0t (Or.inr (slot_ne (Or.inl (wd hw 12 rfl)) (Or.inl (wd hw 32 rfl)) (by decide) (t := (.array .int)) (t' := .int) (by decide) (by decide))))
 have f0y := (((H4.keep (Keep.of_wr W0f) (ninS (inc_ne H1 0 2 rfl rfl (by decide)) nin0)).keep (Keep.of_wr W0n) (ninS (inc_ne H1 0 3 rfl rfl (by decide)) nin0)).other W0t (Or.inr (slot_ne (Or.inl (wd hw 14 rfl)) (Or.inl (wd hw 32 rfl)) (by decide) (t := (.array .int)) (t' := .int) (by decide) (by decide))))
 have f0z := ((f0i.keep (Keep.of_wr W0n) (ninS (inc_ne H1 0 3 rfl rfl (by decide)) nin0)).other W0t (Or.inr (slot_ne (Or.inl (wd hw 17 rfl)) (Or.inl (wd hw 32 rfl)) (by decide) (t := (.array .double)) (t' := .int) (by decide) (by decide))))
 have f1a := (((H6.keep (Keep.of_wr W0f) (ninS (inc_ne H1 0 2 rfl rfl (by decide)) nin0)).keep (Keep.of_wr W0n) (ninS (inc_ne H1 0 3 rfl rfl (by decide)) nin0)).other W0t (Or.inr (slot_ne (Or.inr (wd hw 19 rfl)) (Or.inl (wd hw 32 rfl)) (by decide) (t := .int) (t' := .int) (by decide) (by decide))))
 have f1b := (((H7.keep (Keep.of_wr W0f) (ninS (inc_ne H1 0 2 rfl rfl (by decide)) nin0)).keep (Keep.of_wr W0n) (ninS (inc_ne H1 0 3 rfl rfl (by decide)) nin0)).other W0t (Or.inr (slot_ne (Or.inr (wd hw 21 rfl)) (Or.inl (wd hw 32 rfl)) (by decide) (t := (.array .int)) (t' := .int) (by decide) (by decide))))
 have f1c := (((H9.keep (Keep.of_wr W0f) (ninS (inc_ne H1 0 2 rfl rfl (by decide)) nin0)).keep (Keep.of_wr W0n) (ninS (inc_ne H1 0 3 rfl rfl (by decide)) nin0)).other W0t (Or.inr (slot_ne (Or.inl (wd hw 39 rfl)) (Or.inl (wd hw 32 rfl)) (by decide) (t := .int) (t' := .int) (by decide) (by decide))))
 have f1d := ((f0h.keep (Keep.of_wr W0n) (ninS (inc_ne H1 2 3 rfl rfl (by decide)) nin0)).keep (Keep.of_wr W0t) (ninS (Ne.symm (inc_ne H1 0 2 rfl rfl (by decide))) nin0))
 have f1e := (f0p.keep (Keep.of_wr W0t) (ninS (Ne.symm (inc_ne H1 0 3 rfl rfl (by decide))) nin0))
 rw [e0t]
 exact ⟨rfl, kp0u, f0w, f0x, f0y, f0z, f1a, f1b, f0v, f1c, f1d, f1e⟩
theorem ef_rmAdd1 (m : MethodId) (a1 : Addr) : entryFrame m #[(.ref a1), (.int (1 : Int32)), (.double 13830554455654793216)] 4 = mkF m 0 #[.val (.ref a1), .val (.int (1 : Int32)), .val (.double 13830554455654793216), .second] [] := by first | (simp [entryFrame, mkF, argsToLocals, Value.category]; done) | rfl
def Q_rmAdd1 (Z : State) (n0 : Nat) (a1 c_st c_er c_ev c_su : Addr) (vr : List Value) (zr : List Int) (ucol : Value) (h0 : Heap) (v : Option Value) (h : Heap) : Prop := v = none ∧ Keep h0 h [a1, c_er, c_ev] ∧ Exa Z h a1 "com/example/plumbline/plumbline/align/DualSimplex$Columns" ∧ Fld Z h a1 "com/example/plumbline/plumbline/align/DualSimplex$Columns" "starts" "[I" (.ref c_st) ∧ Fld Z h a1 "com/example/plumbline/plumbline/align/DualSimplex$Columns" "entryRows" "[I" (.ref c_er) ∧ Fld Z h a1 "com/example/plumbline/plumbline/align/DualSimplex$Columns" "entryValues" "[D" (.ref c_ev) ∧ Fld Z h a1 "com/example/plumbline/plumbline/align/DualSimplex$Columns" "rows" "I" (.int (2 : Int32)) ∧ Fld Z h a1 "com/example/plumbline/plumbline/align/DualSimplex$Columns" "surpluses" "[I" (.ref c_su) ∧ Fld Z h a1 "com/example/plumbline/plumbline/align/DualSimplex$Columns" "entries" "I" (.int (2 : Int32)) ∧ Fld Z h a1 "com/example/plumbline/plumbline/align/DualSimplex$Columns" "columns" "I" ucol ∧ AV Z h c_er .int (vr.set 1 (.int (1 : Int32))) ∧ AD Z h c_ev (zr.set 1 (-1))
abbrev R_rmAdd1 : Room := { frames := 0, cells := 0, slots := 0, locals := 0 }
theorem rmAdd1 (hw : HW Z a0) (a1 c_st c_er c_ev c_su : Addr) (vr : List Value) (zr : List Int) (ucol : Value) (h0 : Heap) (H0 : n0 ≤ a1) (H1 : inc [a1, c_st, c_er, c_ev, c_su]) (H2 : Exa Z h0 a1 "com/example/plumbline/plumbline/align/DualSimplex$Columns") (H3 : Fld Z h0 a1 "com/example/plumbline/plumbline/align/DualSimplex$Columns" "starts" "[I" (.ref c_st)) (H4 : Fld Z h0 a1 "com/example/plumbline/plumbline/align/DualSimplex$Columns" "entryRows" "[I" (.ref c_er)) (H5 : Fld Z h0 a1 "com/example/plumbline/plumbline/align/DualSimplex$Columns" "entryValues" "[D" (.ref c_ev)) (H6 : Fld Z h0 a1 "com/example/plumbline/plumbline/align/DualSimplex$Columns" "rows" "I" (.int (2 : Int32))) (H7 : Fld Z h0 a1 "com/example/plumbline/plumbline/align/DualSimplex$Columns" "surpluses" "[I" (.ref c_su)) (H8 : Fld Z h0 a1 "com/example/plumbline/plumbline/align/DualSimplex$Columns" "entries" "I" (.int (1 : Int32))) (H9 : Fld Z h0 a1 "com/example/plumbline/plumbline/align/DualSimplex$Columns" "columns" "I" ucol) (H10 : AV Z h0 c_er .int vr) (H11 : vr.length = 64) (H12 : AD Z h0 c_ev zr) (H13 : zr.length = 64) :
    Con l Z n0 (⟨"com/example/plumbline/plumbline/align/DualSimplex$Columns", "add", "(ID)V"⟩ : MethodName) prog_13_method_2_code 4 none R_rmAdd1 #[(.ref a1), (.int (1 : Int32)), (.double 13830554455654793216)] h0 (Q_rmAdd1 Z n0 a1 c_st c_er c_ev c_su vr zr ucol h0) := by
 refine con_of (plainFor_of_name pn_com_example_plumbline_plumbline_align_DualSimplex_Columns) ?_
 intro p e s m below meth c T0 K X0 e0
 replace K : Ctx p s m meth c Z "com/example/plumbline/plumbline/align/DualSimplex$Columns" "add" prog_13_method_2_code 4 none := K
 refine go_entry (ef_rmAdd1 m a1) ?_
 refine go_iloadN K X0 (k4 rfl) rfl rfl ?_
 refine go_ifF K X0 (k4 rfl) rfl (by decide : ¬ (1 : Int32) < (0 : Int32)) ?_
 refine go_iloadN K X0 (k4 rfl) rfl rfl ?_
 refine go_aloadN K X0 (k4 rfl) rfl rfl rfl ?_
 refine go_getF K X0 (host := "") (Or.inl (wd hw 18 rfl)) Via.refl e0 H6 (k4 rfl) rfl ?_
 intro T0a X0a e0a
 refine go_icmpT K X0a (k4 rfl) (by decide) rfl (by decide : (1 : Int32) < (2 : Int32)) ?_
 refine go_dloadN K X0a (k4 rfl) rfl rfl ?_
 refine go_dconst0 K X0a (k4 rfl) rfl ?_
 refine go_difT K X0a (k4 rfl) rfl (k4 rfl) (by decide) rfl (Dz.tk (cd := .ne) Dz.mone Dz.zero (by show ¬ (-1 : Int) = (0 : Int); decide)) ?_
 refine go_aloadN K X0a (k4 rfl) rfl rfl rfl ?_
 refine go_getF K X0a (host := "") (Or.inl (wd hw 31 rfl)) Via.refl e0a H8 (k4 rfl) rfl ?_
 intro T0b X0b e0b
 refine go_aloadN K X0b (k4 rfl) rfl rfl rfl ?_
 refine go_getF K X0b (host := "") (Or.inl (wd hw 13 rfl)) Via.refl e0b H4 (k4 rfl) rfl ?_
 intro T0c X0c e0c
 refine go_arraylength K X0c e0c H10 (z := (64 : Int32)) (by rw [H11]; rfl) (k4 rfl) rfl ?_
 refine go_icmpT K X0c (k4 rfl) (by decide) rfl (by decide : ¬ (1 : Int32) = (64 : Int32)) ?_
 refine go_aloadN K X0c (k4 rfl) rfl rfl rfl ?_
 refine go_getF K X0c (host := "") (Or.inl (wd hw 13 rfl)) Via.refl e0c H4 (k4 rfl) rfl ?_
 intro T0d X0d e0d
 refine go_aloadN K X0d (k4 rfl) rfl rfl rfl ?_
 refine go_getF K X0d (host := "") (Or.inl (wd hw 31 rfl)) Via.refl e0d H8 (k4 rfl) rfl ?_
 intro T0e X0e e0e
 refine go_iloadN K X0e (k4 rfl) rfl rfl ?_
 refine go_iastore K X0e e0e H10 (i := 1) rfl (by rw [H11]; decide) (inc_ge H1 H0 1 rfl) (k4 rfl) rfl ?_
 intro T0f h0f X0f e0f W0f A139
 have kp0g : Keep h0 h0f [a1, c_er, c_ev] := (Keep.refl h0 [a1, c_er, c_ev]).trans (Keep.of_wr W0f) (allS (Or.inl (List.mem_of_getElem? (i := 1) rfl)) all0)
 have f0h : AV Z h0f c_er .int (vr.set 1 (.int (1 : Int32))) := A139
 refine go_aloadN K X0f (k4 rfl) rfl rfl rfl ?_
 have f0i := (H5.keep (Keep.of_wr W0f) (ninS (inc_ne H1 0 2 rfl rfl (by decide)) nin0))
 refine go_getF K X0f (host := "") (Or.inl (wd hw 16 rfl)) Via.refl e0f f0i (k4 rfl) rfl ?_
 intro T0j X0j e0j
 refine go_aloadN K X0j (k4 rfl) rfl rfl rfl ?_
 have f0k := (H8.keep (Keep.of_wr W0f) (ninS (inc_ne H1 0 2 rfl rfl (by decide)) nin0))
 refine go_getF K X0j (host := "") (Or.inl (wd hw 31 rfl)) Via.refl e0j f0k (k4 rfl) rfl ?_
 intro T0l X0l e0l
 refine go_dloadN K X0l (k4 rfl) rfl rfl ?_
 have f0m := (H12.keep (Keep.of_wr W0f) (ninS (Ne.symm (inc_ne H1 2 3 rfl rfl (by decide))) nin0))
 refine go_dastore K X0l e0l f0m (i := 1) rfl (by rw [H13]; decide) Dz.mone (inc_ge H1 H0 2 rfl) (k4 rfl) rfl ?_
 intro T0n h0n X0n e0n W0n A147
 have kp0o : Keep h0 h0n [a1, c_er, c_ev] := kp0g.trans (Keep.of_wr W0n) (allS (Or.inl (List.mem_of_getElem? (i := 2) rfl)) all0)
 have f0p : AD Z h0n c_ev (zr.set 1 (-1)) := A147
 refine go_aloadN K X0n (k4 rfl) rfl rfl rfl ?_
 refine go_dup K X0n (k4 rfl) rfl rfl ?_
 have f0q := (f0k.keep (Keep.of_wr W0n) (ninS (inc_ne H1 0 3 rfl rfl (by decide)) nin0))
 refine go_getF K X0n (host := "") (Or.inl (wd hw 31 rfl)) Via.refl e0n f0q (k4 rfl) rfl ?_
 intro T0r X0r e0r
 refine go_iconst K X0r (1 : Int32) (k4 rfl) rfl rfl ?_
 refine go_iadd K X0r (k4 rfl) rfl ?_
 rw [show ((1 : Int32) + (1 : Int32)) = (2 : Int32) from by decide]
 have f0s := ((H2.keep (Keep.of_wr W0f)).keep (Keep.of_wr W0n))
 refine go_putF K X0r (host := "") (Or.inl (wd hw 31 rfl)) Via.refl e0r f0q f0s (Or.inl (wd hw 32 rfl)) (wd hw 2 rfl) (ty := .int) (by decide) rfl rfl H0 (k4 rfl) rfl ?_
 intro T0t h0t X0t e0t W0t
 have kp0u : Keep h0 h0t [a1, c_er, c_ev] := kp0o.trans (Keep.of_wr W0t) (allS (Or.inl (List.mem_of_getElem? (i := 0) rfl)) all0)
 have f0v : Fld Z h0t a1 "com/example/plumbline/plumbline/align/DualSimplex$Columns" "entries" "I" (.int (2 : Int32)) := f0q.same W0t
 refine go_ret K X0t (k4 rfl) (by decide) (by decide) ?_
 have f0w := (f0s.keep (Keep.of_wr W0t))
 have f0x := (((H3.keep (Keep.of_wr W0f) (ninS (inc_ne H1 0 2 rfl rfl (by decide)) nin0)).keep (Keep.of_wr W0n) (ninS (inc_ne H1 0 3 rfl rfl (by decide)) nin0)).other W0t (Or.inr (slot_ne (Or.inl (wd hw 12 rfl)) (Or.inl (wd hw 32 rfl)) (by decide) (t := (.array .int)) (t' := .int) (by decide) (by decide))))
 have f0y := (((H4.keep (Keep.of_wr W0f) (ninS (inc_ne H1 0 2 rfl rfl (by decide)) nin0)).keep (Keep.of_wr W0n) (ninS (inc_ne H1 0 3 rfl rfl (by decide)) nin0)).other W0t (Or.inr (slot_ne (Or.inl (wd hw 14 rfl)) (Or.inl (wd hw 32 rfl)) (by decide) (t := (.array .int)) (t' := .int) (by decide) (by decide))))
 have f0z := ((f0i.keep (Keep.of_wr W0n) (ninS (inc_ne H1 0 3 rfl rfl (by decide)) nin0)).other W0t (Or.inr (slot_ne (Or.inl (wd hw 17 rfl)) (Or.inl (wd hw 32 rfl)) (by decide) (t := (.array .double)) (t' := .int) (by decide) (by decide))))
 have f1a := (((H6.keep (Keep.of_wr W0f) (ninS (inc_ne H1 0 2 rfl rfl (by decide)) nin0)).keep (Keep.of_wr W0n) (ninS (inc_ne H1 0 3 rfl rfl (by decide)) nin0)).other W0t (Or.inr (slot_ne (Or.inr (wd hw 19 rfl)) (Or.inl (wd hw 32 rfl)) (by decide) (t := .int) (t' := .int) (by decide) (by decide))))
 have f1b := (((H7.keep (Keep.of_wr W0f) (ninS (inc_ne H1 0 2 rfl rfl (by decide)) nin0)).keep (Keep.of_wr W0n) (ninS (inc_ne H1 0 3 rfl rfl (by decide)) nin0)).other W0t (Or.inr (slot_ne (Or.inr (wd hw 21 rfl)) (Or.inl (wd hw 32 rfl)) (by decide) (t := (.array .int)) (t' := .int) (by decide) (by decide))))
 have f1c := (((H9.keep (Keep.of_wr W0f) (ninS (inc_ne H1 0 2 rfl rfl (by decide)) nin0)).keep (Keep.of_wr W0n) (ninS (inc_ne H1 0 3 rfl rfl (by decide)) nin0)).other W0t (Or.inr (slot_ne (Or.inl (wd hw 39 rfl)) (Or.inl (wd hw 32 rfl)) (by decide) (t := .int) (t' := .int) (by decide) (by decide))))
 have f1d := ((f0h.keep (Keep.of_wr W0n) (ninS (inc_ne H1 2 3 rfl rfl (by decide)) nin0)).keep (Keep.of_wr W0t) (ninS (Ne.symm (inc_ne H1 0 2 rfl rfl (by decide))) nin0))
 have f1e := (f0p.keep (Keep.of_wr W0t) (ninS (Ne.symm (inc_ne H1 0 3 rfl rfl (by decide))) nin0))
 rw [e0t]
 exact ⟨rfl, kp0u, f0w, f0x, f0y, f0z, f1a, f1b, f0v, f1c, f1d, f1e⟩
theorem ef_rmAdd2 (m : MethodId) (a1 : Addr) : entryFrame m #[(.ref a1), (.int (1 : Int32)), (.double 4607182418800017408)] 4 = mkF m 0 #[.val (.ref a1), .val (.int (1 : Int32)), .val (.double 4607182418800017408), .second] [] := by first | (simp [entryFrame, mkF, argsToLocals, Value.category]; done) | rfl
def Q_rmAdd2 (Z : State) (n0 : Nat) (a1 c_st c_er c_ev c_su : Addr) (vr : List Value) (zr : List Int) (ucol : Value) (h0 : Heap) (v : Option Value) (h : Heap) : Prop := v = none ∧ Keep h0 h [a1, c_er, c_ev] ∧ Exa Z h a1 "com/example/plumbline/plumbline/align/DualSimplex$Columns" ∧ Fld Z h a1 "com/example/plumbline/plumbline/align/DualSimplex$Columns" "starts" "[I" (.ref c_st) ∧ Fld Z h a1 "com/example/plumbline/plumbline/align/DualSimplex$Columns" "entryRows" "[I" (.ref c_er) ∧ Fld Z h a1 "com/example/plumbline/plumbline/align/DualSimplex$Columns" "entryValues" "[D" (.ref c_ev) ∧ Fld Z h a1 "com/example/plumbline/plumbline/align/DualSimplex$Columns" "rows" "I" (.int (2 : Int32)) ∧ Fld Z h a1 "com/example/plumbline/plumbline/align/DualSimplex$Columns" "surpluses" "[I" (.ref c_su) ∧ Fld Z h a1 "com/example/plumbline/plumbline/align/DualSimplex$Columns" "entries" "I" (.int (3 : Int32)) ∧ Fld Z h a1 "com/example/plumbline/plumbline/align/DualSimplex$Columns" "columns" "I" ucol ∧ AV Z h c_er .int (vr.set 2 (.int (1 : Int32))) ∧ AD Z h c_ev (zr.set 2 1)
abbrev R_rmAdd2 : Room := { frames := 0, cells := 0, slots := 0, locals := 0 }
theorem rmAdd2 (hw : HW Z a0) (a1 c_st c_er c_ev c_su : Addr) (vr : List Value) (zr : List Int) (ucol : Value) (h0 : Heap) (H0 : n0 ≤ a1) (H1 : inc [a1, c_st, c_er, c_ev, c_su]) (H2 : Exa Z h0 a1 "com/example/plumbline/plumbline/align/DualSimplex$Columns") (H3 : Fld Z h0 a1 "com/example/plumbline/plumbline/align/DualSimplex$Columns" "starts" "[I" (.ref c_st)) (H4 : Fld Z h0 a1 "com/example/plumbline/plumbline/align/DualSimplex$Columns" "entryRows" "[I" (.ref c_er)) (H5 : Fld Z h0 a1 "com/example/plumbline/plumbline/align/DualSimplex$Columns" "entryValues" "[D" (.ref c_ev)) (H6 : Fld Z h0 a1 "com/example/plumbline/plumbline/align/DualSimplex$Columns" "rows" "I" (.int (2 : Int32))) (H7 : Fld Z h0 a1 "com/example/plumbline/plumbline/align/DualSimplex$Columns" "surpluses" "[I" (.ref c_su)) (H8 : Fld Z h0 a1 "com/example/plumbline/plumbline/align/DualSimplex$Columns" "entries" "I" (.int (2 : Int32))) (H9 : Fld Z h0 a1 "com/example/plumbline/plumbline/align/DualSimplex$Columns" "columns" "I" ucol) (H10 : AV Z h0 c_er .int vr) (H11 : vr.length = 64) (H12 : AD Z h0 c_ev zr) (H13 : zr.length = 64) :
    Con l Z n0 (⟨"com/example/plumbline/plumbline/align/DualSimplex$Columns", "add", "(ID)V"⟩ : MethodName) prog_13_method_2_code 4 none R_rmAdd2 #[(.ref a1), (.int (1 : Int32)), (.double 4607182418800017408)] h0 (Q_rmAdd2 Z n0 a1 c_st c_er c_ev c_su vr zr ucol h0) := by
 refine con_of (plainFor_of_name pn_com_example_plumbline_plumbline_align_DualSimplex_Columns) ?_
 intro p e s m below meth c T0 K X0 e0
 replace K : Ctx p s m meth c Z "com/example/plumbline/plumbline/align/DualSimplex$Columns" "add" prog_13_method_2_code 4 none := K
 refine go_entry (ef_rmAdd2 m a1) ?_
 refine go_iloadN K X0 (k4 rfl) rfl rfl ?_
 refine go_ifF K X0 (k4 rfl) rfl (by decide : ¬ (1 : Int32) < (0 : Int32)) ?_
 refine go_iloadN K X0 (k4 rfl) rfl rfl ?_
 refine go_aloadN K X0 (k4 rfl) rfl rfl rfl ?_
 refine go_getF K X0 (host := "") (Or.inl (wd hw 18 rfl)) Via.refl e0 H6 (k4 rfl) rfl ?_
 intro T0a X0a e0a
 refine go_icmpT K X0a (k4 rfl) (by decide) rfl (by decide : (1 : Int32) < (2 : Int32)) ?_
 refine go_dloadN K X0a (k4 rfl) rfl rfl ?_
 refine go_dconst0 K X0a (k4 rfl) rfl ?_
 refine go_difT K X0a (k4 rfl) rfl (k4 rfl) (by decide) rfl (Dz.tk (cd := .ne) Dz.one Dz.zero (by show ¬ (1 : Int) = (0 : Int); decide)) ?_
 refine go_aloadN K X0a (k4 rfl) rfl rfl rfl ?_
 refine go_getF K X0a (host := "") (Or.inl (wd hw 31 rfl)) Via.refl e0a H8 (k4 rfl) rfl ?_
 intro T0b X0b e0b
 refine go_aloadN K X0b (k4 rfl) rfl rfl rfl ?_
 refine go_getF K X0b (host := "") (Or.inl (wd hw 13 rfl)) Via.refl e0b H4 (k4 rfl) rfl ?_
 intro T0c X0c e0c
 refine go_arraylength K X0c e0c H10 (z := (64 : Int32)) (by rw [H11]; rfl) (k4 rfl) rfl ?_
 refine go_icmpT K X0c (k4 rfl) (by decide) rfl (by decide : ¬ (2 : Int32) = (64 : Int32)) ?_
 refine go_aloadN K X0c (k4 rfl) rfl rfl rfl ?_
 refine go_getF K X0c (host := "") (Or.inl (wd hw 13 rfl)) Via.refl e0c H4 (k4 rfl) rfl ?_
 intro T0d X0d e0d
 refine go_aloadN K X0d (k4 rfl) rfl rfl rfl ?_
 refine go_getF K X0d (host := "") (Or.inl (wd hw 31 rfl)) Via.refl e0d H8 (k4 rfl) rfl ?_
 intro T0e X0e e0e
 refine go_iloadN K X0e (k4 rfl) rfl rfl ?_
 refine go_iastore K X0e e0e H10 (i := 2) rfl (by rw [H11]; decide) (inc_ge H1 H0 1 rfl) (k4 rfl) rfl ?_
 intro T0f h0f X0f e0f W0f A170
 have kp0g : Keep h0 h0f [a1, c_er, c_ev] := (Keep.refl h0 [a1, c_er, c_ev]).trans (Keep.of_wr W0f) (allS (Or.inl (List.mem_of_getElem? (i := 1) rfl)) all0)
 have f0h : AV Z h0f c_er .int (vr.set 2 (.int (1 : Int32))) := A170
 refine go_aloadN K X0f (k4 rfl) rfl rfl rfl ?_
 have f0i := (H5.keep (Keep.of_wr W0f) (ninS (inc_ne H1 0 2 rfl rfl (by decide)) nin0))
 refine go_getF K X0f (host := "") (Or.inl (wd hw 16 rfl)) Via.refl e0f f0i (k4 rfl) rfl ?_
 intro T0j X0j e0j
 refine go_aloadN K X0j (k4 rfl) rfl rfl rfl ?_
 have f0k := (H8.keep (Keep.of_wr W0f) (ninS (inc_ne H1 0 2 rfl rfl (by decide)) nin0))
 refine go_getF K X0j (host := "") (Or.inl (wd hw 31 rfl)) Via.refl e0j f0k (k4 rfl) rfl ?_
 intro T0l X0l e0l
 refine go_dloadN K X0l (k4 rfl) rfl rfl ?_
 have f0m := (H12.keep (Keep.of_wr W0f) (ninS (Ne.symm (inc_ne H1 2 3 rfl rfl (by decide))) nin0))
 refine go_dastore K X0l e0l f0m (i := 2) rfl (by rw [H13]; decide) Dz.one (inc_ge H1 H0 2 rfl) (k4 rfl) rfl ?_
 intro T0n h0n X0n e0n W0n A178
 have kp0o : Keep h0 h0n [a1, c_er, c_ev] := kp0g.trans (Keep.of_wr W0n) (allS (Or.inl (List.mem_of_getElem? (i := 2) rfl)) all0)
 have f0p : AD Z h0n c_ev (zr.set 2 1) := A178
 refine go_aloadN K X0n (k4 rfl) rfl rfl rfl ?_
 refine go_dup K X0n (k4 rfl) rfl rfl ?_
 have f0q := (f0k.keep (Keep.of_wr W0n) (ninS (inc_ne H1 0 3 rfl rfl (by decide)) nin0))
 refine go_getF K X0n (host := "") (Or.inl (wd hw 31 rfl)) Via.refl e0n f0q (k4 rfl) rfl ?_
 intro T0r X0r e0r
 refine go_iconst K X0r (1 : Int32) (k4 rfl) rfl rfl ?_
 refine go_iadd K X0r (k4 rfl) rfl ?_
 rw [show ((2 : Int32) + (1 : Int32)) = (3 : Int32) from by decide]
 have f0s := ((H2.keep (Keep.of_wr W0f)).keep (Keep.of_wr W0n))
 refine go_putF K X0r (host := "") (Or.inl (wd hw 31 rfl)) Via.refl e0r f0q f0s (Or.inl (wd hw 32 rfl)) (wd hw 2 rfl) (ty := .int) (by decide) rfl rfl H0 (k4 rfl) rfl ?_
 intro T0t h0t X0t e0t W0t
 have kp0u : Keep h0 h0t [a1, c_er, c_ev] := kp0o.trans (Keep.of_wr W0t) (allS (Or.inl (List.mem_of_getElem? (i := 0) rfl)) all0)
 have f0v : Fld Z h0t a1 "com/example/plumbline/plumbline/align/DualSimplex$Columns" "entries" "I" (.int (3 : Int32)) := f0q.same W0t
 refine go_ret K X0t (k4 rfl) (by decide) (by decide) ?_
 have f0w := (f0s.keep (Keep.of_wr W0t))
 have f0x := (((H3.keep (Keep.of_wr W0f) (ninS (inc_ne H1 0 2 rfl rfl (by decide)) nin0)).keep (Keep.of_wr W0n) (ninS (inc_ne H1 0 3 rfl rfl (by decide)) nin0)).other W0t (Or.inr (slot_ne (Or.inl (wd hw 12 rfl)) (Or.inl (wd hw 32 rfl)) (by decide) (t := (.array .int)) (t' := .int) (by decide) (by decide))))
 have f0y := (((H4.keep (Keep.of_wr W0f) (ninS (inc_ne H1 0 2 rfl rfl (by decide)) nin0)).keep (Keep.of_wr W0n) (ninS (inc_ne H1 0 3 rfl rfl (by decide)) nin0)).other W0t (Or.inr (slot_ne (Or.inl (wd hw 14 rfl)) (Or.inl (wd hw 32 rfl)) (by decide) (t := (.array .int)) (t' := .int) (by decide) (by decide))))
 have f0z := ((f0i.keep (Keep.of_wr W0n) (ninS (inc_ne H1 0 3 rfl rfl (by decide)) nin0)).other W0t (Or.inr (slot_ne (Or.inl (wd hw 17 rfl)) (Or.inl (wd hw 32 rfl)) (by decide) (t := (.array .double)) (t' := .int) (by decide) (by decide))))
 have f1a := (((H6.keep (Keep.of_wr W0f) (ninS (inc_ne H1 0 2 rfl rfl (by decide)) nin0)).keep (Keep.of_wr W0n) (ninS (inc_ne H1 0 3 rfl rfl (by decide)) nin0)).other W0t (Or.inr (slot_ne (Or.inr (wd hw 19 rfl)) (Or.inl (wd hw 32 rfl)) (by decide) (t := .int) (t' := .int) (by decide) (by decide))))
 have f1b := (((H7.keep (Keep.of_wr W0f) (ninS (inc_ne H1 0 2 rfl rfl (by decide)) nin0)).keep (Keep.of_wr W0n) (ninS (inc_ne H1 0 3 rfl rfl (by decide)) nin0)).other W0t (Or.inr (slot_ne (Or.inr (wd hw 21 rfl)) (Or.inl (wd hw 32 rfl)) (by decide) (t := (.array .int)) (t' := .int) (by decide) (by decide))))
 have f1c := (((H9.keep (Keep.of_wr W0f) (ninS (inc_ne H1 0 2 rfl rfl (by decide)) nin0)).keep (Keep.of_wr W0n) (ninS (inc_ne H1 0 3 rfl rfl (by decide)) nin0)).other W0t (Or.inr (slot_ne (Or.inl (wd hw 39 rfl)) (Or.inl (wd hw 32 rfl)) (by decide) (t := .int) (t' := .int) (by decide) (by decide))))
 have f1d := ((f0h.keep (Keep.of_wr W0n) (ninS (inc_ne H1 2 3 rfl rfl (by decide)) nin0)).keep (Keep.of_wr W0t) (ninS (Ne.symm (inc_ne H1 0 2 rfl rfl (by decide))) nin0))
 have f1e := (f0p.keep (Keep.of_wr W0t) (ninS (Ne.symm (inc_ne H1 0 3 rfl rfl (by decide))) nin0))
 rw [e0t]
 exact ⟨rfl, kp0u, f0w, f0x, f0y, f0z, f1a, f1b, f0v, f1c, f1d, f1e⟩
def t5 : List (List (Nat × Instr × Nat)) := [[(0,.aload_n 0,1),(1,.dup,1),(2,.getfield 55,3),(5,.iconst 1,1),(6,.iadd,1),(7,.putfield 55,3),(10,.aload_n 0,1),(11,.getfield 55,3),(14,.aload_n 0,1),(15,.getfield 7,3)],
  [(18,.arraylength,1),(19,.if_icmp .ne 20,3),(22,.aload_n 0,1),(23,.aload_n 0,1),(24,.getfield 7,3),(27,.iconst 2,1),(28,.aload_n 0,1),(29,.getfield 55,3)],
  [(32,.imul,1),(33,.invokestatic 45,3),(36,.putfield 7,3),(39,.aload_n 0,1),(40,.getfield 7,3),(43,.aload_n 0,1),(44,.getfield 55,3),(47,.aload_n 0,1)],
  [(48,.getfield 42,3),(51,.iastore,1),(52,.return_,1)]]
theorem k5 : TB prog_13_method_4_code t5 := tb_of (by decide +kernel)
theorem ef_rmEnd0 (m : MethodId) (a1 : Addr) : entryFrame m #[(.ref a1)] 1 = mkF m 0 #[.val (.ref a1)] [] := by first | (simp [entryFrame, mkF, argsToLocals, Value.category]; done) | rfl
def Q_rmEnd0 (Z : State) (n0 : Nat) (a1 c_st c_er c_ev c_su : Addr) (vst : List Value) (h0 : Heap) (v : Option Value) (h : Heap) : Prop := v = none ∧ Keep h0 h [a1, c_st] ∧ Exa Z h a1 "com/example/plumbline/plumbline/align/DualSimplex$Columns" ∧ Fld Z h a1 "com/example/plumbline/plumbline/align/DualSimplex$Columns" "starts" "[I" (.ref c_st) ∧ Fld Z h a1 "com/example/plumbline/plumbline/align/DualSimplex$Columns" "entryRows" "[I" (.ref c_er) ∧ Fld Z h a1 "com/example/plumbline/plumbline/align/DualSimplex$Columns" "entryValues" "[D" (.ref c_ev) ∧ Fld Z h a1 "com/example/plumbline/plumbline/align/DualSimplex$Columns" "rows" "I" (.int (2 : Int32)) ∧ Fld Z h a1 "com/example/plumbline/plumbline/align/DualSimplex$Columns" "surpluses" "[I" (.ref c_su) ∧ Fld Z h a1 "com/example/plumbline/plumbline/align/DualSimplex$Columns" "entries" "I" (.int (1 : Int32)) ∧ Fld Z h a1 "com/example/plumbline/plumbline/align/DualSimplex$Columns" "columns" "I" (.int (1 : Int32)) ∧ AV Z h c_st .int (vst.set 1 (.int (1 : Int32)))
abbrev R_rmEnd0 : Room := { frames := 0, cells := 0, slots := 0, locals := 0 }
theorem rmEnd0 (hw : HW Z a0) (a1 c_st c_er c_ev c_su : Addr) (vst : List Value) (h0 : Heap) (H0 : n0 ≤ a1) (H1 : inc [a1, c_st, c_er, c_ev, c_su]) (H2 : Exa Z h0 a1 "com/example/plumbline/plumbline/align/DualSimplex$Columns") (H3 : Fld Z h0 a1 "com/example/plumbline/plumbline/align/DualSimplex$Columns" "starts" "[I" (.ref c_st)) (H4 : Fld Z h0 a1 "com/example/plumbline/plumbline/align/DualSimplex$Columns" "entryRows" "[I" (.ref c_er)) (H5 : Fld Z h0 a1 "com/example/plumbline/plumbline/align/DualSimplex$Columns" "entryValues" "[D" (.ref c_ev)) (H6 : Fld Z h0 a1 "com/example/plumbline/plumbline/align/DualSimplex$Columns" "rows" "I" (.int (2 : Int32))) (H7 : Fld Z h0 a1 "com/example/plumbline/plumbline/align/DualSimplex$Columns" "surpluses" "[I" (.ref c_su)) (H8 : Fld Z h0 a1 "com/example/plumbline/plumbline/align/DualSimplex$Columns" "entries" "I" (.int (1 : Int32))) (H9 : Fld Z h0 a1 "com/example/plumbline/plumbline/align/DualSimplex$Columns" "columns" "I" (.int (0 : Int32))) (H10 : AV Z h0 c_st .int vst) (H11 : vst.length = 16) :
    Con l Z n0 (⟨"com/example/plumbline/plumbline/align/DualSimplex$Columns", "end", "()V"⟩ : MethodName) prog_13_method_4_code 1 none R_rmEnd0 #[(.ref a1)] h0 (Q_rmEnd0 Z n0 a1 c_st c_er c_ev c_su vst h0) := by
 refine con_of (plainFor_of_name pn_com_example_plumbline_plumbline_align_DualSimplex_Columns) ?_
 intro p e s m below meth c T0 K X0 e0
 replace K : Ctx p s m meth c Z "com/example/plumbline/plumbline/align/DualSimplex$Columns" "end" prog_13_method_4_code 1 none := K
 refine go_entry (ef_rmEnd0 m a1) ?_
 refine go_aloadN K X0 (k5 rfl) rfl rfl rfl ?_
 refine go_dup K X0 (k5 rfl) rfl rfl ?_
 refine go_getF K X0 (host := "") (Or.inl (wd hw 38 rfl)) Via.refl e0 H9 (k5 rfl) rfl ?_
 intro T0a X0a e0a
 refine go_iconst K X0a (1 : Int32) (k5 rfl) rfl rfl ?_
 refine go_iadd K X0a (k5 rfl) rfl ?_
 rw [show ((0 : Int32) + (1 : Int32)) = (1 : Int32) from by decide]
 refine go_putF K X0a (host := "") (Or.inl (wd hw 38 rfl)) Via.refl e0a H9 H2 (Or.inl (wd hw 39 rfl)) (wd hw 2 rfl) (ty := .int) (by decide) rfl rfl H0 (k5 rfl) rfl ?_
 intro T0b h0b X0b e0b W0b
 have kp0c : Keep h0 h0b [a1, c_st] := (Keep.refl h0 [a1, c_st]).trans (Keep.of_wr W0b) (allS (Or.inl (List.mem_of_getElem? (i := 0) rfl)) all0)
 have f0d : Fld Z h0b a1 "com/example/plumbline/plumbline/align/DualSimplex$Columns" "columns" "I" (.int (1 : Int32)) := H9.same W0b
 refine go_aloadN K X0b (k5 rfl) rfl rfl rfl ?_
 refine go_getF K X0b (host := "") (Or.inl (wd hw 38 rfl)) Via.refl e0b f0d (k5 rfl) rfl ?_
 intro T0e X0e e0e
 refine go_aloadN K X0e (k5 rfl) rfl rfl rfl ?_
 have f0f := (H3.other W0b (Or.inr (slot_ne (Or.inl (wd hw 12 rfl)) (Or.inl (wd hw 39 rfl)) (by decide) (t := (.array .int)) (t' := .int) (by decide) (by decide))))
 refine go_getF K X0e (host := "") (Or.inl (wd hw 11 rfl)) Via.refl e0e f0f (k5 rfl) rfl ?_
 intro T0g X0g e0g
 have f0h := (H10.keep (Keep.of_wr W0b) (ninS (Ne.symm (inc_ne H1 0 1 rfl rfl (by decide))) nin0))
 refine go_arraylength K X0g e0g f0h (z := (16 : Int32)) (by rw [H11]; rfl) (k5 rfl) rfl ?_
 refine go_icmpT K X0g (k5 rfl) (by decide) rfl (by decide : ¬ (1 : Int32) = (16 : Int32)) ?_
 refine go_aloadN K X0g (k5 rfl) rfl rfl rfl ?_
 refine go_getF K X0g (host := "") (Or.inl (wd hw 11 rfl)) Via.refl e0g f0f (k5 rfl) rfl ?_
 intro T0i X0i e0i
 refine go_aloadN K X0i (k5 rfl) rfl rfl rfl ?_
 refine go_getF K X0i (host := "") (Or.inl (wd hw 38 rfl)) Via.refl e0i f0d (k5 rfl) rfl ?_
 intro T0j X0j e0j
 refine go_aloadN K X0j (k5 rfl) rfl rfl rfl ?_
 have f0k := (H8.other W0b (Or.inr (slot_ne (Or.inl (wd hw 32 rfl)) (Or.inl (wd hw 39 rfl)) (by decide) (t := .int) (t' := .int) (by decide) (by decide))))
 refine go_getF K X0j (host := "") (Or.inl (wd hw 31 rfl)) Via.refl e0j f0k (k5 rfl) rfl ?_
 intro T0l X0l e0l
 refine go_iastore K X0l e0l f0h (i := 1) rfl (by rw [H11]; decide) (inc_ge H1 H0 0 rfl) (k5 rfl) rfl ?_
 intro T0m h0m X0m e0m W0m A208
 have kp0n : Keep h0 h0m [a1, c_st] := kp0c.trans (Keep.of_wr W0m) (allS (Or.inl (List.mem_of_getElem? (i := 1) rfl)) all0)
 have f0o : AV Z h0m c_st .int (vst.set 1 (.int (1 : Int32))) := A208
 refine go_ret K X0m (k5 rfl) (by decide) (by decide) ?_
 have f0p := ((H2.keep (Keep.of_wr W0b)).keep (Keep.of_wr W0m))
 have f0q := (f0f.keep (Keep.of_wr W0m) (ninS (inc_ne H1 0 1 rfl rfl (by decide)) nin0))
 have f0r := ((H4.other W0b (Or.inr (slot_ne (Or.inl (wd hw 14 rfl)) (Or.inl (wd hw 39 rfl)) (by decide) (t := (.array .int)) (t' := .int) (by decide) (by decide)))).keep (Keep.of_wr W0m) (ninS (inc_ne H1 0 1 rfl rfl (by decide)) nin0))
 have f0s := ((H5.other W0b (Or.inr (slot_ne (Or.inl (wd hw 17 rfl)) (Or.inl (wd hw 39 rfl)) (by decide) (t := (.array .double)) (t' := .int) (by decide) (by decide)))).keep (Keep.of_wr W0m) (ninS (inc_ne H1 0 1 rfl rfl (by decide)) nin0))
 have f0t := ((H6.other W0b (Or.inr (slot_ne (Or.inr (wd hw 19 rfl)) (Or.inl (wd hw 39 rfl)) (by decide) (t := .int) (t' := .int) (by decide) (by decide)))).keep (Keep.of_wr W0m) (ninS (inc_ne H1 0 1 rfl rfl (by decide)) nin0))
 have f0u := ((H7.other W0b (Or.inr (slot_ne (Or.inr (wd hw 21 rfl)) (Or.inl (wd hw 39 rfl)) (by decide) (t := (.array .int)) (t' := .int) (by decide) (by decide)))).keep (Keep.of_wr W0m) (ninS (inc_ne H1 0 1 rfl rfl (by decide)) nin0))
 have f0v := (f0k.keep (Keep.of_wr W0m) (ninS (inc_ne H1 0 1 rfl rfl (by decide)) nin0))
 have f0w := (f0d.keep (Keep.of_wr W0m) (ninS (inc_ne H1 0 1 rfl rfl (by decide)) nin0))
 rw [e0m]
 exact ⟨rfl, kp0n, f0p, f0q, f0r, f0s, f0t, f0u, f0v, f0w, f0o⟩
theorem ef_rmEnd1 (m : MethodId) (a1 : Addr) : entryFrame m #[(.ref a1)] 1 = mkF m 0 #[.val (.ref a1)] [] := by first | (simp [entryFrame, mkF, argsToLocals, Value.category]; done) | rfl
def Q_rmEnd1 (Z : State) (n0 : Nat) (a1 c_st c_er c_ev c_su : Addr) (vst : List Value) (h0 : Heap) (v : Option Value) (h : Heap) : Prop := v = none ∧ Keep h0 h [a1, c_st] ∧ Exa Z h a1 "com/example/plumbline/plumbline/align/DualSimplex$Columns" ∧ Fld Z h a1 "com/example/plumbline/plumbline/align/DualSimplex$Columns" "starts" "[I" (.ref c_st) ∧ Fld Z h a1 "com/example/plumbline/plumbline/align/DualSimplex$Columns" "entryRows" "[I" (.ref c_er) ∧ Fld Z h a1 "com/example/plumbline/plumbline/align/DualSimplex$Columns" "entryValues" "[D" (.ref c_ev) ∧ Fld Z h a1 "com/example/plumbline/plumbline/align/DualSimplex$Columns" "rows" "I" (.int (2 : Int32)) ∧ Fld Z h a1 "com/example/plumbline/plumbline/align/DualSimplex$Columns" "surpluses" "[I" (.ref c_su) ∧ Fld Z h a1 "com/example/plumbline/plumbline/align/DualSimplex$Columns" "entries" "I" (.int (2 : Int32)) ∧ Fld Z h a1 "com/example/plumbline/plumbline/align/DualSimplex$Columns" "columns" "I" (.int (2 : Int32)) ∧ AV Z h c_st .int (vst.set 2 (.int (2 : Int32)))
abbrev R_rmEnd1 : Room := { frames := 0, cells := 0, slots := 0, locals := 0 }
theorem rmEnd1 (hw : HW Z a0) (a1 c_st c_er c_ev c_su : Addr) (vst : List Value) (h0 : Heap) (H0 : n0 ≤ a1) (H1 : inc [a1, c_st, c_er, c_ev, c_su]) (H2 : Exa Z h0 a1 "com/example/plumbline/plumbline/align/DualSimplex$Columns") (H3 : Fld Z h0 a1 "com/example/plumbline/plumbline/align/DualSimplex$Columns" "starts" "[I" (.ref c_st)) (H4 : Fld Z h0 a1 "com/example/plumbline/plumbline/align/DualSimplex$Columns" "entryRows" "[I" (.ref c_er)) (H5 : Fld Z h0 a1 "com/example/plumbline/plumbline/align/DualSimplex$Columns" "entryValues" "[D" (.ref c_ev)) (H6 : Fld Z h0 a1 "com/example/plumbline/plumbline/align/DualSimplex$Columns" "rows" "I" (.int (2 : Int32))) (H7 : Fld Z h0 a1 "com/example/plumbline/plumbline/align/DualSimplex$Columns" "surpluses" "[I" (.ref c_su)) (H8 : Fld Z h0 a1 "com/example/plumbline/plumbline/align/DualSimplex$Columns" "entries" "I" (.int (2 : Int32))) (H9 : Fld Z h0 a1 "com/example/plumbline/plumbline/align/DualSimplex$Columns" "columns" "I" (.int (1 : Int32))) (H10 : AV Z h0 c_st .int vst) (H11 : vst.length = 16) :
    Con l Z n0 (⟨"com/example/plumbline/plumbline/align/DualSimplex$Columns", "end", "()V"⟩ : MethodName) prog_13_method_4_code 1 none R_rmEnd1 #[(.ref a1)] h0 (Q_rmEnd1 Z n0 a1 c_st c_er c_ev c_su vst h0) := by
 refine con_of (plainFor_of_name pn_com_example_plumbline_plumbline_align_DualSimplex_Columns) ?_
 intro p e s m below meth c T0 K X0 e0
 replace K : Ctx p s m meth c Z "com/example/plumbline/plumbline/align/DualSimplex$Columns" "end" prog_13_method_4_code 1 none := K
 refine go_entry (ef_rmEnd1 m a1) ?_
 refine go_aloadN K X0 (k5 rfl) rfl rfl rfl ?_
 refine go_dup K X0 (k5 rfl) rfl rfl ?_
 refine go_getF K X0 (host := "") (Or.inl (wd hw 38 rfl)) Via.refl e0 H9 (k5 rfl) rfl ?_
 intro T0a X0a e0a
 refine go_iconst K X0a (1 : Int32) (k5 rfl) rfl rfl ?_
 refine go_iadd K X0a (k5 rfl) rfl ?_
 rw [show ((1 : Int32) + (1 : Int32)) = (2 : Int32) from by decide]
 refine go_putF K X0a (host := "") (Or.inl (wd hw 38 rfl)) Via.refl e0a H9 H2 (Or.inl (wd hw 39 rfl)) (wd hw 2 rfl) (ty := .int) (by decide) rfl rfl H0 (k5 rfl) rfl ?_
 intro T0b h0b X0b e0b W0b
 have kp0c : Keep h0 h0b [a1, c_st] := (Keep.refl h0 [a1, c_st]).trans (Keep.of_wr W0b) (allS (Or.inl (List.mem_of_getElem? (i := 0) rfl)) all0)
 have f0d : Fld Z h0b a1 "com/example/plumbline/plumbline/align/DualSimplex$Columns" "columns" "I" (.int (2 : Int32)) := H9.same W0b
 refine go_aloadN K X0b (k5 rfl) rfl rfl rfl ?_
 refine go_getF K X0b (host := "") (Or.inl (wd hw 38 rfl)) Via.refl e0b f0d (k5 rfl) rfl ?_
 intro T0e X0e e0e
 refine go_aloadN K X0e (k5 rfl) rfl rfl rfl ?_
 have f0f := (H3.other W0b (Or.inr (slot_ne (Or.inl (wd hw 12 rfl)) (Or.inl (wd hw 39 rfl)) (by decide) (t := (.array .int)) (t' := .int) (by decide) (by decide))))
 refine go_getF K X0e (host := "") (Or.inl (wd hw 11 rfl)) Via.refl e0e f0f (k5 rfl) rfl ?_
 intro T0g X0g e0g
 have f0h := (H10.keep (Keep.of_wr W0b) (ninS (Ne.symm (inc_ne H1 0 1 rfl rfl (by decide))) nin0))
 refine go_arraylength K X0g e0g f0h (z := (16 : Int32)) (by rw [H11]; rfl) (k5 rfl) rfl ?_
 refine go_icmpT K X0g (k5 rfl) (by decide) rfl (by decide : ¬ (2 : Int32) = (16 : Int32)) ?_
 refine go_aloadN K X0g (k5 rfl) rfl rfl rfl ?_
 refine go_getF K X0g (host := "") (Or.inl (wd hw 11 rfl)) Via.refl e0g f0f (k5 rfl) rfl ?_
 intro T0i X0i e0i
 refine go_aloadN K X0i (k5 rfl) rfl rfl rfl ?_
 refine go_getF K X0i (host := "") (Or.inl (wd hw 38 rfl)) Via.refl e0i f0d (k5 rfl) rfl ?_
 intro T0j X0j e0j
 refine go_aloadN K X0j (k5 rfl) rfl rfl rfl ?_
 have f0k := (H8.other W0b (Or.inr (slot_ne (Or.inl (wd hw 32 rfl)) (Or.inl (wd hw 39 rfl)) (by decide) (t := .int) (t' := .int) (by decide) (by decide))))
 refine go_getF K X0j (host := "") (Or.inl (wd hw 31 rfl)) Via.refl e0j f0k (k5 rfl) rfl ?_
 intro T0l X0l e0l
 refine go_iastore K X0l e0l f0h (i := 2) rfl (by rw [H11]; decide) (inc_ge H1 H0 0 rfl) (k5 rfl) rfl ?_
 intro T0m h0m X0m e0m W0m A231
 have kp0n : Keep h0 h0m [a1, c_st] := kp0c.trans (Keep.of_wr W0m) (allS (Or.inl (List.mem_of_getElem? (i := 1) rfl)) all0)
 have f0o : AV Z h0m c_st .int (vst.set 2 (.int (2 : Int32))) := A231
 refine go_ret K X0m (k5 rfl) (by decide) (by decide) ?_
 have f0p := ((H2.keep (Keep.of_wr W0b)).keep (Keep.of_wr W0m))
 have f0q := (f0f.keep (Keep.of_wr W0m) (ninS (inc_ne H1 0 1 rfl rfl (by decide)) nin0))
 have f0r := ((H4.other W0b (Or.inr (slot_ne (Or.inl (wd hw 14 rfl)) (Or.inl (wd hw 39 rfl)) (by decide) (t := (.array .int)) (t' := .int) (by decide) (by decide)))).keep (Keep.of_wr W0m) (ninS (inc_ne H1 0 1 rfl rfl (by decide)) nin0))
 have f0s := ((H5.other W0b (Or.inr (slot_ne (Or.inl (wd hw 17 rfl)) (Or.inl (wd hw 39 rfl)) (by decide) (t := (.array .double)) (t' := .int) (by decide) (by decide)))).keep (Keep.of_wr W0m) (ninS (inc_ne H1 0 1 rfl rfl (by decide)) nin0))
 have f0t := ((H6.other W0b (Or.inr (slot_ne (Or.inr (wd hw 19 rfl)) (Or.inl (wd hw 39 rfl)) (by decide) (t := .int) (t' := .int) (by decide) (by decide)))).keep (Keep.of_wr W0m) (ninS (inc_ne H1 0 1 rfl rfl (by decide)) nin0))
 have f0u := ((H7.other W0b (Or.inr (slot_ne (Or.inr (wd hw 21 rfl)) (Or.inl (wd hw 39 rfl)) (by decide) (t := (.array .int)) (t' := .int) (by decide) (by decide)))).keep (Keep.of_wr W0m) (ninS (inc_ne H1 0 1 rfl rfl (by decide)) nin0))
 have f0v := (f0k.keep (Keep.of_wr W0m) (ninS (inc_ne H1 0 1 rfl rfl (by decide)) nin0))
 have f0w := (f0d.keep (Keep.of_wr W0m) (ninS (inc_ne H1 0 1 rfl rfl (by decide)) nin0))
 rw [e0m]
 exact ⟨rfl, kp0n, f0p, f0q, f0r, f0s, f0t, f0u, f0v, f0w, f0o⟩
theorem ef_rmEnd2 (m : MethodId) (a1 : Addr) : entryFrame m #[(.ref a1)] 1 = mkF m 0 #[.val (.ref a1)] [] := by first | (simp [entryFrame, mkF, argsToLocals, Value.category]; done) | rfl
def Q_rmEnd2 (Z : State) (n0 : Nat) (a1 c_st c_er c_ev c_su : Addr) (vst : List Value) (h0 : Heap) (v : Option Value) (h : Heap) : Prop := v = none ∧ Keep h0 h [a1, c_st] ∧ Exa Z h a1 "com/example/plumbline/plumbline/align/DualSimplex$Columns" ∧ Fld Z h a1 "com/example/plumbline/plumbline/align/DualSimplex$Columns" "starts" "[I" (.ref c_st) ∧ Fld Z h a1 "com/example/plumbline/plumbline/align/DualSimplex$Columns" "entryRows" "[I" (.ref c_er) ∧ Fld Z h a1 "com/example/plumbline/plumbline/align/DualSimplex$Columns" "entryValues" "[D" (.ref c_ev) ∧ Fld Z h a1 "com/example/plumbline/plumbline/align/DualSimplex$Columns" "rows" "I" (.int (2 : Int32)) ∧ Fld Z h a1 "com/example/plumbline/plumbline/align/DualSimplex$Columns" "surpluses" "[I" (.ref c_su) ∧ Fld Z h a1 "com/example/plumbline/plumbline/align/DualSimplex$Columns" "entries" "I" (.int (3 : Int32)) ∧ Fld Z h a1 "com/example/plumbline/plumbline/align/DualSimplex$Columns" "columns" "I" (.int (3 : Int32)) ∧ AV Z h c_st .int (vst.set 3 (.int (3 : Int32)))
abbrev R_rmEnd2 : Room := { frames := 0, cells := 0, slots := 0, locals := 0 }
theorem rmEnd2 (hw : HW Z a0) (a1 c_st c_er c_ev c_su : Addr) (vst : List Value) (h0 : Heap) (H0 : n0 ≤ a1) (H1 : inc [a1, c_st, c_er, c_ev, c_su]) (H2 : Exa Z h0 a1 "com/example/plumbline/plumbline/align/DualSimplex$Columns") (H3 : Fld Z h0 a1 "com/example/plumbline/plumbline/align/DualSimplex$Columns" "starts" "[I" (.ref c_st)) (H4 : Fld Z h0 a1 "com/example/plumbline/plumbline/align/DualSimplex$Columns" "entryRows" "[I" (.ref c_er)) (H5 : Fld Z h0 a1 "com/example/plumbline/plumbline/align/DualSimplex$Columns" "entryValues" "[D" (.ref c_ev)) (H6 : Fld Z h0 a1 "com/example/plumbline/plumbline/align/DualSimplex$Columns" "rows" "I" (.int (2 : Int32))) (H7 : Fld Z h0 a1 "com/example/plumbline/plumbline/align/DualSimplex$Columns" "surpluses" "[I" (.ref c_su)) (H8 : Fld Z h0 a1 "com/example/plumbline/plumbline/align/DualSimplex$Columns" "entries" "I" (.int (3 : Int32))) (H9 : Fld Z h0 a1 "com/example/plumbline/plumbline/align/DualSimplex$Columns" "columns" "I" (.int (2 : Int32))) (H10 : AV Z h0 c_st .int vst) (H11 : vst.length = 16) :
    Con l Z n0 (⟨"com/example/plumbline/plumbline/align/DualSimplex$Columns", "end", "()V"⟩ : MethodName) prog_13_method_4_code 1 none R_rmEnd2 #[(.ref a1)] h0 (Q_rmEnd2 Z n0 a1 c_st c_er c_ev c_su vst h0) := by
 refine con_of (plainFor_of_name pn_com_example_plumbline_plumbline_align_DualSimplex_Columns) ?_
 intro p e s m below meth c T0 K X0 e0
 replace K : Ctx p s m meth c Z "com/example/plumbline/plumbline/align/DualSimplex$Columns" "end" prog_13_method_4_code 1 none := K
 refine go_entry (ef_rmEnd2 m a1) ?_
 refine go_aloadN K X0 (k5 rfl) rfl rfl rfl ?_
 refine go_dup K X0 (k5 rfl) rfl rfl ?_
 refine go_getF K X0 (host := "") (Or.inl (wd hw 38 rfl)) Via.refl e0 H9 (k5 rfl) rfl ?_
 intro T0a X0a e0a
 refine go_iconst K X0a (1 : Int32) (k5 rfl) rfl rfl ?_
 refine go_iadd K X0a (k5 rfl) rfl ?_
 rw [show ((2 : Int32) + (1 : Int32)) = (3 : Int32) from by decide]
 refine go_putF K X0a (host := "") (Or.inl (wd hw 38 rfl)) Via.refl e0a H9 H2 (Or.inl (wd hw 39 rfl)) (wd hw 2 rfl) (ty := .int) (by decide) rfl rfl H0 (k5 rfl) rfl ?_
 intro T0b h0b X0b e0b W0b
 have kp0c : Keep h0 h0b [a1, c_st] := (Keep.refl h0 [a1, c_st]).trans (Keep.of_wr W0b) (allS (Or.inl (List.mem_of_getElem? (i := 0) rfl)) all0)
 have f0d : Fld Z h0b a1 "com/example/plumbline/plumbline/align/DualSimplex$Columns" "columns" "I" (.int (3 : Int32)) := H9.same W0b
 refine go_aloadN K X0b (k5 rfl) rfl rfl rfl ?_
 refine go_getF K X0b (host := "") (Or.inl (wd hw 38 rfl)) Via.refl e0b f0d (k5 rfl) rfl ?_
 intro T0e X0e e0e
 refine go_aloadN K X0e (k5 rfl) rfl rfl rfl ?_
 have f0f := (H3.other W0b (Or.inr (slot_ne (Or.inl (wd hw 12 rfl)) (Or.inl (wd hw 39 rfl)) (by decide) (t := (.array .int)) (t' := .int) (by decide) (by decide))))
 refine go_getF K X0e (host := "") (Or.inl (wd hw 11 rfl)) Via.refl e0e f0f (k5 rfl) rfl ?_
 intro T0g X0g e0g
 have f0h := (H10.keep (Keep.of_wr W0b) (ninS (Ne.symm (inc_ne H1 0 1 rfl rfl (by decide))) nin0))
 refine go_arraylength K X0g e0g f0h (z := (16 : Int32)) (by rw [H11]; rfl) (k5 rfl) rfl ?_
 refine go_icmpT K X0g (k5 rfl) (by decide) rfl (by decide : ¬ (3 : Int32) = (16 : Int32)) ?_
 refine go_aloadN K X0g (k5 rfl) rfl rfl rfl ?_
 refine go_getF K X0g (host := "") (Or.inl (wd hw 11 rfl)) Via.refl e0g f0f (k5 rfl) rfl ?_
 intro T0i X0i e0i
 refine go_aloadN K X0i (k5 rfl) rfl rfl rfl ?_
 refine go_getF K X0i (host := "") (Or.inl (wd hw 38 rfl)) Via.refl e0i f0d (k5 rfl) rfl ?_
 intro T0j X0j e0j
 refine go_aloadN K X0j (k5 rfl) rfl rfl rfl ?_
 have f0k := (H8.other W0b (Or.inr (slot_ne (Or.inl (wd hw 32 rfl)) (Or.inl (wd hw 39 rfl)) (by decide) (t := .int) (t' := .int) (by decide) (by decide))))
 refine go_getF K X0j (host := "") (Or.inl (wd hw 31 rfl)) Via.refl e0j f0k (k5 rfl) rfl ?_
 intro T0l X0l e0l
 refine go_iastore K X0l e0l f0h (i := 3) rfl (by rw [H11]; decide) (inc_ge H1 H0 0 rfl) (k5 rfl) rfl ?_
 intro T0m h0m X0m e0m W0m A254
 have kp0n : Keep h0 h0m [a1, c_st] := kp0c.trans (Keep.of_wr W0m) (allS (Or.inl (List.mem_of_getElem? (i := 1) rfl)) all0)
 have f0o : AV Z h0m c_st .int (vst.set 3 (.int (3 : Int32))) := A254
 refine go_ret K X0m (k5 rfl) (by decide) (by decide) ?_
 have f0p := ((H2.keep (Keep.of_wr W0b)).keep (Keep.of_wr W0m))
 have f0q := (f0f.keep (Keep.of_wr W0m) (ninS (inc_ne H1 0 1 rfl rfl (by decide)) nin0))
 have f0r := ((H4.other W0b (Or.inr (slot_ne (Or.inl (wd hw 14 rfl)) (Or.inl (wd hw 39 rfl)) (by decide) (t := (.array .int)) (t' := .int) (by decide) (by decide)))).keep (Keep.of_wr W0m) (ninS (inc_ne H1 0 1 rfl rfl (by decide)) nin0))
 have f0s := ((H5.other W0b (Or.inr (slot_ne (Or.inl (wd hw 17 rfl)) (Or.inl (wd hw 39 rfl)) (by decide) (t := (.array .double)) (t' := .int) (by decide) (by decide)))).keep (Keep.of_wr W0m) (ninS (inc_ne H1 0 1 rfl rfl (by decide)) nin0))
 have f0t := ((H6.other W0b (Or.inr (slot_ne (Or.inr (wd hw 19 rfl)) (Or.inl (wd hw 39 rfl)) (by decide) (t := .int) (t' := .int) (by decide) (by decide)))).keep (Keep.of_wr W0m) (ninS (inc_ne H1 0 1 rfl rfl (by decide)) nin0))
 have f0u := ((H7.other W0b (Or.inr (slot_ne (Or.inr (wd hw 21 rfl)) (Or.inl (wd hw 39 rfl)) (by decide) (t := (.array .int)) (t' := .int) (by decide) (by decide)))).keep (Keep.of_wr W0m) (ninS (inc_ne H1 0 1 rfl rfl (by decide)) nin0))
 have f0v := (f0k.keep (Keep.of_wr W0m) (ninS (inc_ne H1 0 1 rfl rfl (by decide)) nin0))
 have f0w := (f0d.keep (Keep.of_wr W0m) (ninS (inc_ne H1 0 1 rfl rfl (by decide)) nin0))
 rw [e0m]
 exact ⟨rfl, kp0n, f0p, f0q, f0r, f0s, f0t, f0u, f0v, f0w, f0o⟩
def t6 : List (List (Nat × Instr × Nat)) := [[(0,.iload_n 1,1),(1,.ifCond .lt 20,3),(4,.iload_n 1,1),(5,.aload_n 0,1),(6,.getfield 20,3),(9,.if_icmp .ge 12,3),(12,.aload_n 0,1),(13,.getfield 24,3)],
  [(16,.iload_n 1,1),(17,.iaload,1),(18,.ifCond .lt 17,3),(21,.new 33,3),(24,.dup,1),(25,.iload_n 1,1),(26,.invokedynamic 52,5),(31,.invokespecial 39,3)],
  [(34,.athrow,1),(35,.aload_n 0,1),(36,.getfield 42,3),(39,.aload_n 0,1),(40,.getfield 7,3),(43,.aload_n 0,1),(44,.getfield 55,3),(47,.iaload,1)],
  [(48,.if_icmp .eq 13,3),(51,.new 33,3),(54,.dup,1),(55,.ldc 58,2),(57,.invokespecial 39,3),(60,.athrow,1),(61,.aload_n 0,1),(62,.getfield 24,3)],
  [(65,.iload_n 1,1),(66,.aload_n 0,1),(67,.getfield 55,3),(70,.iastore,1),(71,.aload_n 0,1),(72,.iload_n 1,1),(73,.ldc2_w 60,3),(76,.invokevirtual 62,3),(79,.aload_n 0,1)],
  [(80,.invokevirtual 66,3),(83,.return_,1)]]
theorem k6 : TB prog_13_method_3_code t6 := tb_of (by decide +kernel)
theorem pd_1 : parseMethodDescriptor "(ID)V" = some ⟨[.int, .double], none⟩ := by decide +kernel
theorem pd_2 : parseMethodDescriptor "()V" = some ⟨[], none⟩ := by decide +kernel
theorem ef_rmSur (m : MethodId) (a1 : Addr) : entryFrame m #[(.ref a1), (.int (1 : Int32))] 2 = mkF m 0 #[.val (.ref a1), .val (.int (1 : Int32))] [] := by first | (simp [entryFrame, mkF, argsToLocals, Value.category]; done) | rfl
def Q_rmSur (Z : State) (n0 : Nat) (a1 c_st c_er c_ev c_su : Addr) (vr : List Value) (zr : List Int) (vst : List Value) (h0 : Heap) (v : Option Value) (h : Heap) : Prop := v = none ∧ Keep h0 h [a1, c_er, c_ev, c_st, c_su] ∧ Exa Z h a1 "com/example/plumbline/plumbline/align/DualSimplex$Columns" ∧ Fld Z h a1 "com/example/plumbline/plumbline/align/DualSimplex$Columns" "starts" "[I" (.ref c_st) ∧ Fld Z h a1 "com/example/plumbline/plumbline/align/DualSimplex$Columns" "entryRows" "[I" (.ref c_er) ∧ Fld Z h a1 "com/example/plumbline/plumbline/align/DualSimplex$Columns" "entryValues" "[D" (.ref c_ev) ∧ Fld Z h a1 "com/example/plumbline/plumbline/align/DualSimplex$Columns" "rows" "I" (.int (2 : Int32)) ∧ Fld Z h a1 "com/example/plumbline/plumbline/align/DualSimplex$Columns" "surpluses" "[I" (.ref c_su) ∧ Fld Z h a1 "com/example/plumbline/plumbline/align/DualSimplex$Columns" "entries" "I" (.int (2 : Int32)) ∧ Fld Z h a1 "com/example/plumbline/plumbline/align/DualSimplex$Columns" "columns" "I" (.int (2 : Int32)) ∧ AV Z h c_er .int (vr.set 1 (.int (1 : Int32))) ∧ AD Z h c_ev (zr.set 1 (-1)) ∧ AV Z h c_st .int (vst.set 2 (.int (2 : Int32))) ∧ AV Z h c_su .int [(.int (-1 : Int32)), (.int (1 : Int32))]
abbrev R_rmSur : Room := { frames := 1, cells := 0, slots := 0, locals := 15 }
theorem rmSur (hw : HW Z a0) (a1 c_st c_er c_ev c_su : Addr) (vr : List Value) (zr : List Int) (vst : List Value) (h0 : Heap) (H0 : n0 ≤ a1) (H1 : inc [a1, c_st, c_er, c_ev, c_su]) (H2 : Exa Z h0 a1 "com/example/plumbline/plumbline/align/DualSimplex$Columns") (H3 : Fld Z h0 a1 "com/example/plumbline/plumbline/align/DualSimplex$Columns" "starts" "[I" (.ref c_st)) (H4 : Fld Z h0 a1 "com/example/plumbline/plumbline/align/DualSimplex$Columns" "entryRows" "[I" (.ref c_er)) (H5 : Fld Z h0 a1 "com/example/plumbline/plumbline/align/DualSimplex$Columns" "entryValues" "[D" (.ref c_ev)) (H6 : Fld Z h0 a1 "com/example/plumbline/plumbline/align/DualSimplex$Columns" "rows" "I" (.int (2 : Int32))) (H7 : Fld Z h0 a1 "com/example/plumbline/plumbline/align/DualSimplex$Columns" "surpluses" "[I" (.ref c_su)) (H8 : Fld Z h0 a1 "com/example/plumbline/plumbline/align/DualSimplex$Columns" "entries" "I" (.int (1 : Int32))) (H9 : Fld Z h0 a1 "com/example/plumbline/plumbline/align/DualSimplex$Columns" "columns" "I" (.int (1 : Int32))) (H10 : AV Z h0 c_er .int vr) (H11 : vr.length = 64) (H12 : AD Z h0 c_ev zr) (H13 : zr.length = 64) (H14 : AV Z h0 c_st .int vst) (H15 : vst.length = 16) (H16 : vst[1]? = some (.int (1 : Int32))) (H17 : AV Z h0 c_su .int [(.int (-1 : Int32)), (.int (-1 : Int32))]) :
    Con l Z n0 (⟨"com/example/plumbline/plumbline/align/DualSimplex$Columns", "addSurplus", "(I)V"⟩ : MethodName) prog_13_method_3_code 2 none R_rmSur #[(.ref a1), (.int (1 : Int32))] h0 (Q_rmSur Z n0 a1 c_st c_er c_ev c_su vr zr vst h0) := by
 refine con_of (plainFor_of_name pn_com_example_plumbline_plumbline_align_DualSimplex_Columns) ?_
 intro p e s m below meth c T0 K X0 e0
 replace K : Ctx p s m meth c Z "com/example/plumbline/plumbline/align/DualSimplex$Columns" "addSurplus" prog_13_method_3_code 2 none := K
 refine go_entry (ef_rmSur m a1) ?_
 refine go_iloadN K X0 (k6 rfl) rfl rfl ?_
 refine go_ifF K X0 (k6 rfl) rfl (by decide : ¬ (1 : Int32) < (0 : Int32)) ?_
 refine go_iloadN K X0 (k6 rfl) rfl rfl ?_
 refine go_aloadN K X0 (k6 rfl) rfl rfl rfl ?_
 refine go_getF K X0 (host := "") (Or.inl (wd hw 18 rfl)) Via.refl e0 H6 (k6 rfl) rfl ?_
 intro T0a X0a e0a
 refine go_icmpF K X0a (k6 rfl) rfl (by decide : (1 : Int32) < (2 : Int32)) ?_
 refine go_aloadN K X0a (k6 rfl) rfl rfl rfl ?_
 refine go_getF K X0a (host := "") (Or.inl (wd hw 20 rfl)) Via.refl e0a H7 (k6 rfl) rfl ?_
 intro T0b X0b e0b
 refine go_iloadN K X0b (k6 rfl) rfl rfl ?_
 refine go_iaload K X0b e0b H17 (i := 1) rfl rfl (k6 rfl) rfl ?_
 refine go_ifT K X0b (k6 rfl) (by decide) rfl (by decide : (-1 : Int32) < (0 : Int32)) ?_
 refine go_aloadN K X0b (k6 rfl) rfl rfl rfl ?_
 refine go_getF K X0b (host := "") (Or.inl (wd hw 31 rfl)) Via.refl e0b H8 (k6 rfl) rfl ?_
 intro T0c X0c e0c
 refine go_aloadN K X0c (k6 rfl) rfl rfl rfl ?_
 refine go_getF K X0c (host := "") (Or.inl (wd hw 11 rfl)) Via.refl e0c H3 (k6 rfl) rfl ?_
 intro T0d X0d e0d
 refine go_aloadN K X0d (k6 rfl) rfl rfl rfl ?_
 refine go_getF K X0d (host := "") (Or.inl (wd hw 38 rfl)) Via.refl e0d H9 (k6 rfl) rfl ?_
 intro T0e X0e e0e
 refine go_iaload K X0e e0e H14 (i := 1) rfl H16 (k6 rfl) rfl ?_
 refine go_icmpT K X0e (k6 rfl) (by decide) rfl (by decide : (1 : Int32) = (1 : Int32)) ?_
 refine go_aloadN K X0e (k6 rfl) rfl rfl rfl ?_
 refine go_getF K X0e (host := "") (Or.inl (wd hw 20 rfl)) Via.refl e0e H7 (k6 rfl) rfl ?_
 intro T0f X0f e0f
 refine go_iloadN K X0f (k6 rfl) rfl rfl ?_
 refine go_aloadN K X0f (k6 rfl) rfl rfl rfl ?_
 refine go_getF K X0f (host := "") (Or.inl (wd hw 38 rfl)) Via.refl e0f H9 (k6 rfl) rfl ?_
 intro T0g X0g e0g
 refine go_iastore K X0g e0g H17 (i := 1) rfl (Nat.le_of_ble_eq_true rfl) (inc_ge H1 H0 3 rfl) (k6 rfl) rfl ?_
 intro T0h h0h X0h e0h W0h A272
 have kp0i : Keep h0 h0h [a1, c_er, c_ev, c_st, c_su] := (Keep.refl h0 [a1, c_er, c_ev, c_st, c_su]).trans (Keep.of_wr W0h) (allS (Or.inl (List.mem_of_getElem? (i := 4) rfl)) all0)
 have f0j : AV Z h0h c_su .int [(.int (-1 : Int32)), (.int (1 : Int32))] := A272
 refine go_aloadN K X0h (k6 rfl) rfl rfl rfl ?_
 refine go_iloadN K X0h (k6 rfl) rfl rfl ?_
 refine go_ldc2D K X0h (wd hw 45 rfl) (k6 rfl) rfl ?_
 have f0k := (H2.keep (Keep.of_wr W0h))
 have f0l := (H3.keep (Keep.of_wr W0h) (ninS (inc_ne H1 0 4 rfl rfl (by decide)) nin0))
 have f0m := (H4.keep (Keep.of_wr W0h) (ninS (inc_ne H1 0 4 rfl rfl (by decide)) nin0))
 have f0n := (H5.keep (Keep.of_wr W0h) (ninS (inc_ne H1 0 4 rfl rfl (by decide)) nin0))
 have f0o := (H6.keep (Keep.of_wr W0h) (ninS (inc_ne H1 0 4 rfl rfl (by decide)) nin0))
 have f0p := (H7.keep (Keep.of_wr W0h) (ninS (inc_ne H1 0 4 rfl rfl (by decide)) nin0))
 have f0q := (H8.keep (Keep.of_wr W0h) (ninS (inc_ne H1 0 4 rfl rfl (by decide)) nin0))
 have f0r := (H9.keep (Keep.of_wr W0h) (ninS (inc_ne H1 0 4 rfl rfl (by decide)) nin0))
 have f0s := (H10.keep (Keep.of_wr W0h) (ninS (inc_ne H1 2 4 rfl rfl (by decide)) nin0))
 have f0t := (H12.keep (Keep.of_wr W0h) (ninS (inc_ne H1 3 4 rfl rfl (by decide)) nin0))
 refine go_virt K X0h (a := a1) (argsL := [(.int (1 : Int32)), (.double 13830554455654793216)]) (stk := []) (wd hw 46 rfl) (wd hw 27 rfl) (wd hw 29 rfl) (wd hw 29 rfl) (wd hw 28 rfl) (wd hw 30 rfl) (wd hw 3 rfl) (by decide) (lenOf pd_1 rfl) e0h f0k (rmAdd1 hw a1 c_st c_er c_ev c_su vr zr (.int (1 : Int32)) h0h H0 H1 f0k f0l f0m f0n f0o f0p f0q f0r f0s H11 f0t H13) rfl rfl (k6 rfl) rfl (by decide) (W := 0) (Nat.le_of_eq rfl) (by decide) (cells' := 0) (slots' := 0) rfl rfl (by decide) (by decide) ?_
 rintro T0u h0u _ X0u e0u ⟨rfl, K0u, f0v, f0w, f0x, f0y, f0z, f1a, f1b, f1c, f1d, f1e⟩
 show Go _ _ _ _ _ _ _ (T0u.setTop (mkF m 79 #[.val (.ref a1), .val (.int (1 : Int32))] []))
 have kp1f : Keep h0 h0u [a1, c_er, c_ev, c_st, c_su] := kp0i.trans K0u (allS (Or.inl (List.mem_of_getElem? (i := 0) rfl)) (allS (Or.inl (List.mem_of_getElem? (i := 1) rfl)) (allS (Or.inl (List.mem_of_getElem? (i := 2) rfl)) all0)))
 refine go_aloadN K X0u (k6 rfl) rfl rfl rfl ?_
 have f1g := ((H14.keep (Keep.of_wr W0h) (ninS (inc_ne H1 1 4 rfl rfl (by decide)) nin0)).keep K0u (ninS (Ne.symm (inc_ne H1 0 1 rfl rfl (by decide))) (ninS (inc_ne H1 1 2 rfl rfl (by decide)) (ninS (inc_ne H1 1 3 rfl rfl (by decide)) nin0))))
 refine go_virt K X0u (a := a1) (argsL := []) (stk := []) (wd hw 47 rfl) (wd hw 34 rfl) (wd hw 36 rfl) (wd hw 36 rfl) (wd hw 35 rfl) (wd hw 37 rfl) (wd hw 3 rfl) (by decide) (lenOf pd_2 rfl) e0u f0v (rmEnd1 hw a1 c_st c_er c_ev c_su vst h0u H0 H1 f0v f0w f0x f0y f0z f1a f1b f1c f1g H15) rfl rfl (k6 rfl) rfl (by decide) (W := 0) (Nat.le_of_eq rfl) (by decide) (cells' := 0) (slots' := 0) rfl rfl (by decide) (by decide) ?_
 rintro T1h h1h _ X1h e1h ⟨rfl, K1h, f1i, f1j, f1k, f1l, f1m, f1n, f1o, f1p, f1q⟩
 show Go _ _ _ _ _ _ _ (T1h.setTop (mkF m 83 #[.val (.ref a1), .val (.int (1 : Int32))] []))
 have kp1r : Keep h0 h1h [a1, c_er, c_ev, c_st, c_su] := kp1f.trans K1h (allS (Or.inl (List.mem_of_getElem? (i := 0) rfl)) (allS (Or.inl (List.mem_of_getElem? (i := 3) rfl)) all0))
 refine go_ret K X1h (k6 rfl) (by decide) (by decide) ?_
 have f1s := (f1d.keep K1h (ninS (Ne.symm (inc_ne H1 0 2 rfl rfl (by decide))) (ninS (Ne.symm (inc_ne H1 1 2 rfl rfl (by decide))) nin0)))
 have f1t := (f1e.keep K1h (ninS (Ne.symm (inc_ne H1 0 3 rfl rfl (by decide))) (ninS (Ne.symm (inc_ne H1 1 3 rfl rfl (by decide))) nin0)))
 have f1u := ((f0j.keep K0u (ninS (Ne.symm (inc_ne H1 0 4 rfl rfl (by decide))) (ninS (Ne.symm (inc_ne H1 2 4 rfl rfl (by decide))) (ninS (Ne.symm (inc_ne H1 3 4 rfl rfl (by decide))) nin0)))).keep K1h (ninS (Ne.symm (inc_ne H1 0 4 rfl rfl (by decide))) (ninS (Ne.symm (inc_ne H1 1 4 rfl rfl (by decide))) nin0)))
 rw [e1h]
 exact ⟨rfl, kp1r, f1i, f1j, f1k, f1l, f1m, f1n, f1o, f1p, f1s, f1t, f1q, f1u⟩
def t8 : List (List (Nat × Instr × Nat)) := [[(0,.iload_n 1,1),(1,.aload_n 0,1),(2,.arraylength,1),(3,.if_icmp .ne 11,3),(6,.aload_n 0,1),(7,.invokevirtual 316,3),(10,.checkcast 317,3),(13,.areturn,1),(14,.iload_n 1,1),(15,.newarray .int,2)],
  [(17,.astore_n 2,1),(18,.aload_n 0,1),(19,.iconst 0,1),(20,.aload_n 2,1),(21,.iconst 0,1),(22,.aload_n 0,1),(23,.arraylength,1),(24,.iload_n 1,1),(25,.invokestatic 304,3),(28,.invokestatic 150,3),(31,.aload_n 2,1)],
  [(32,.areturn,1)]]
theorem k8 : TB jdk_65_method_123_code t8 := tb_of (by decide +kernel)
theorem ef_rmCpy2 (m : MethodId) (a1 : Addr) : entryFrame m #[(.ref a1), (.int (2 : Int32))] 3 = mkF m 0 #[.val (.ref a1), .val (.int (2 : Int32)), .unset] [] := by first | (simp [entryFrame, mkF, argsToLocals, Value.category]; done) | rfl
def Q_rmCpy2 (Z : State) (n0 : Nat) (a1 : Addr) (u0 u1 : Int32) (h0 : Heap) (v : Option Value) (h : Heap) : Prop := ∃ r : Addr, v = some (.ref r) ∧ Keep h0 h [] ∧ h0.size ≤ r ∧ AV Z h r .int [(.int u0), (.int u1)]
abbrev R_rmCpy2 : Room := { frames := 1, cells := 1, slots := 2, locals := 14 }
theorem rmCpy2 (hw : HW Z a0) (a1 : Addr) (u0 u1 : Int32) (h0 : Heap) (H0 : n0 ≤ h0.size) (H1 : Exa Z h0 a1 "[I") (H2 : AV Z h0 a1 .int [(.int u0), (.int u1)]) :
    Con l Z n0 (⟨"java/util/Arrays", "copyOf", "([II)[I"⟩ : MethodName) jdk_65_method_123_code 3 (some (.array .int)) R_rmCpy2 #[(.ref a1), (.int (2 : Int32))] h0 (Q_rmCpy2 Z n0 a1 u0 u1 h0) := by
 refine con_of (plainFor_of_name pn_java_util_Arrays) ?_
 intro p e s m below meth c T0 K X0 e0
 replace K : Ctx p s m meth c Z "java/util/Arrays" "copyOf" jdk_65_method_123_code 3 (some (.array .int)) := K
 refine go_entry (ef_rmCpy2 m a1) ?_
 refine go_iloadN K X0 (k8 rfl) rfl rfl ?_
 refine go_aloadN K X0 (k8 rfl) rfl rfl rfl ?_
 refine go_arraylength K X0 e0 H2 (z := (2 : Int32)) rfl (k8 rfl) rfl ?_
 refine go_icmpF K X0 (k8 rfl) rfl (by decide : (2 : Int32) = (2 : Int32)) ?_
 refine go_aloadN K X0 (k8 rfl) rfl rfl rfl ?_
 refine go_clone K X0 (wd hw 76 rfl) (wd hw 77 rfl) (wd hw 65 rfl) (wd hw 63 rfl) (wd hw 78 rfl) (wd hw 79 rfl) e0 H2 H1 (fitB rfl) rfl (k8 rfl) rfl (by decide) (W := 0) (Nat.le_of_eq rfl) (by decide) (cap := 2) (Nat.le_of_ble_eq_true rfl) (cells' := 1) (slots' := 2) rfl rfl (by decide) (by decide) ?_
 intro T0a h0a b0a g0a X0a e0a E0a A312 C0a
 have ga313 : n0 ≤ b0a := Nat.le_trans H0 (Nat.le_of_eq g0a.symm)
 have gb0b : h0.size ≤ b0a := Nat.le_trans (Keep.refl h0 []).1 (Nat.le_of_eq g0a.symm)
 have kp0c : Keep h0 h0a [] := (Keep.refl h0 []).trans (Keep.ext (Keep.refl _ []) E0a) all0
 refine go_cast K X0a (wd hw 80 rfl) e0a (Ins.self C0a) (k8 rfl) rfl ?_
 intro T0d X0d e0d
 refine go_retA K X0d rfl rfl rfl (k8 rfl) (by decide) (by decide) ?_
 rw [e0d]
 exact ⟨b0a, rfl, kp0c, gb0b, A312⟩
def t9 : List (List (Nat × Instr × Nat)) := [[(0,.iload_n 0,1),(1,.iload_n 1,1),(2,.if_icmp .gt 7,3),(5,.iload_n 0,1),(6,.goto 4,3),(9,.iload_n 1,1),(10,.ireturn,1)]]
theorem k9 : TB jdk_29_method_69_code t9 := tb_of (by decide +kernel)
theorem ef_rmmin0 (m : MethodId)  : entryFrame m #[(.int (16 : Int32)), (.int (4 : Int32))] 2 = mkF m 0 #[.val (.int (16 : Int32)), .val (.int (4 : Int32))] [] := by first | (simp [entryFrame, mkF, argsToLocals, Value.category]; done) | rfl
def Q_rmmin0 (Z : State) (n0 : Nat)  (h0 : Heap) (v : Option Value) (h : Heap) : Prop := v = some (.int (4 : Int32)) ∧ h = h0
abbrev R_rmmin0 : Room := { frames := 0, cells := 0, slots := 0, locals := 0 }
theorem rmmin0 (hw : HW Z a0)  (h0 : Heap) :
    Con l Z n0 (⟨"java/lang/Math", "min", "(II)I"⟩ : MethodName) jdk_29_method_69_code 2 (some .int) R_rmmin0 #[(.int (16 : Int32)), (.int (4 : Int32))] h0 (Q_rmmin0 Z n0  h0) := by
 refine con_of (Jvm.Free.JP.mathPlain rfl (by decide +kernel)) ?_
 intro p e s m below meth c T0 K X0 e0
 replace K : Ctx p s m meth c Z "java/lang/Math" "min" jdk_29_method_69_code 2 (some .int) := K
 refine go_entry (ef_rmmin0 m ) ?_
 refine go_iloadN K X0 (k9 rfl) rfl rfl ?_
 refine go_iloadN K X0 (k9 rfl) rfl rfl ?_
 refine go_icmpT K X0 (k9 rfl) (by decide) rfl (by decide : (4 : Int32) < (16 : Int32)) ?_
 refine go_iloadN K X0 (k9 rfl) rfl rfl ?_
 refine go_retI K X0 (k9 rfl) (by decide) (by decide) ?_
 rw [e0]
 exact ⟨rfl, rfl⟩
theorem pd_3 : parseMethodDescriptor "(II)I" = some ⟨[.int, .int], some .int⟩ := by decide +kernel
theorem ef_rmCpyS (m : MethodId) (a1 : Addr) : entryFrame m #[(.ref a1), (.int (4 : Int32))] 3 = mkF m 0 #[.val (.ref a1), .val (.int (4 : Int32)), .unset] [] := by first | (simp [entryFrame, mkF, argsToLocals, Value.category]; done) | rfl
def Q_rmCpyS (Z : State) (n0 : Nat) (a1 : Addr) (vs : List Value) (h0 : Heap) (v : Option Value) (h : Heap) : Prop := ∃ r : Addr, v = some (.ref r) ∧ Keep h0 h [] ∧ h0.size ≤ r ∧ AV Z h r .int (vs.take 4)
abbrev R_rmCpyS : Room := { frames := 1, cells := 1, slots := 4, locals := 60 }
theorem rmCpyS (hw : HW Z a0) (a1 : Addr) (vs : List Value) (h0 : Heap) (H0 : n0 ≤ h0.size) (H1 : AV Z h0 a1 .int vs) (H2 : vs.length = 16) (H3 : ∀ v ∈ vs, fits .int v = true) :
    Con l Z n0 (⟨"java/util/Arrays", "copyOf", "([II)[I"⟩ : MethodName) jdk_65_method_123_code 3 (some (.array .int)) R_rmCpyS #[(.ref a1), (.int (4 : Int32))] h0 (Q_rmCpyS Z n0 a1 vs h0) := by
 refine con_of (plainFor_of_name pn_java_util_Arrays) ?_
 intro p e s m below meth c T0 K X0 e0
 replace K : Ctx p s m meth c Z "java/util/Arrays" "copyOf" jdk_65_method_123_code 3 (some (.array .int)) := K
 refine go_entry (ef_rmCpyS m a1) ?_
 refine go_iloadN K X0 (k8 rfl) rfl rfl ?_
 refine go_aloadN K X0 (k8 rfl) rfl rfl rfl ?_
 refine go_arraylength K X0 e0 H1 (z := (16 : Int32)) (by rw [H2]; rfl) (k8 rfl) rfl ?_
 refine go_icmpT K X0 (k8 rfl) (by decide) rfl (by decide : ¬ (4 : Int32) = (16 : Int32)) ?_
 refine go_iloadN K X0 (k8 rfl) rfl rfl ?_
 refine go_newarray K X0 (wd hw 10 rfl) e0 (k8 rfl) (i := 4) (cap := 4) rfl (by decide) (by decide) rfl (cells' := 1) (slots' := 4) rfl rfl (by decide) (by decide) ?_
 intro T0a h0a b0a g0a X0a e0a E0a A317
 have ga318 : n0 ≤ b0a := Nat.le_trans H0 (Nat.le_of_eq g0a.symm)
 have gb0b : h0.size ≤ b0a := Nat.le_trans (Keep.refl h0 []).1 (Nat.le_of_eq g0a.symm)
 have kp0c : Keep h0 h0a [] := (Keep.refl h0 []).trans (Keep.ext (Keep.refl _ []) E0a) all0
 have f0d : AV Z h0a b0a .int [(.int (0 : Int32)), (.int (0 : Int32)), (.int (0 : Int32)), (.int (0 : Int32))] := A317
 refine go_astoreN K X0a #[.val (.ref a1), .val (.int (4 : Int32)), .val (.ref b0a)] (k8 rfl) rfl rfl rfl ?_
 refine go_aloadN K X0a (k8 rfl) rfl rfl rfl ?_
 refine go_iconst K X0a (0 : Int32) (k8 rfl) rfl rfl ?_
 refine go_aloadN K X0a (k8 rfl) rfl rfl rfl ?_
 refine go_iconst K X0a (0 : Int32) (k8 rfl) rfl rfl ?_
 refine go_aloadN K X0a (k8 rfl) rfl rfl rfl ?_
 have f0e := (H1.keep (Keep.ext (Keep.refl _ []) E0a) nin0)
 refine go_arraylength K X0a e0a f0e (z := (16 : Int32)) (by rw [H2]; rfl) (k8 rfl) rfl ?_
 refine go_iloadN K X0a (k8 rfl) rfl rfl ?_
 refine go_static K X0a (argsL := [(.int (16 : Int32)), (.int (4 : Int32))]) (stk := [(.int (0 : Int32)), (.ref b0a), (.int (0 : Int32)), (.ref a1)]) (wd hw 85 rfl) (wd hw 86 rfl) (wd hw 87 rfl) (wd hw 88 rfl) (by decide) (lenOf pd_3 rfl) e0a (rmmin0 hw  h0a ) rfl rfl (k8 rfl) rfl (by decide) (W := 4) (Nat.le_of_eq rfl) (by decide) (cells' := 1) (slots' := 4) rfl rfl (by decide) (by decide) ?_
 rintro T0f h0f _ X0f e0f ⟨rfl, qe323⟩
 show Go _ _ _ _ _ _ _ (T0f.setTop (mkF m 28 #[.val (.ref a1), .val (.int (4 : Int32)), .val (.ref b0a)] [(.int (4 : Int32)), (.int (0 : Int32)), (.ref b0a), (.int (0 : Int32)), (.ref a1)]))
 replace e0f := e0f.trans qe323
 refine go_arraycopy K X0f (wd hw 89 rfl) (wd hw 92 rfl) (wd hw 90 rfl) (wd hw 91 rfl) e0f (us := (vs.take 4)) f0e f0d rfl H3 (fitB rfl) (i := 0) (j := 0) (n := 4) rfl rfl rfl (by rw [H2]; decide) (Nat.le_of_ble_eq_true rfl) (by simp) ga318 rfl (k8 rfl) rfl (by decide) (W := 0) (Nat.le_of_eq rfl) (by decide) ?_
 intro T0g h0g X0g e0g K0g A324
 have kp0h : Keep h0 h0g [] := kp0c.trans K0g (allS (Or.inr gb0b) all0)
 refine go_aloadN K X0g (k8 rfl) rfl rfl rfl ?_
 refine go_retA K X0g rfl rfl rfl (k8 rfl) (by decide) (by decide) ?_
 rw [e0g]
 exact ⟨b0a, rfl, kp0h, gb0b, A324⟩
theorem ef_rmmin1 (m : MethodId)  : entryFrame m #[(.int (64 : Int32)), (.int (3 : Int32))] 2 = mkF m 0 #[.val (.int (64 : Int32)), .val (.int (3 : Int32))] [] := by first | (simp [entryFrame, mkF, argsToLocals, Value.category]; done) | rfl
def Q_rmmin1 (Z : State) (n0 : Nat)  (h0 : Heap) (v : Option Value) (h : Heap) : Prop := v = some (.int (3 : Int32)) ∧ h = h0
abbrev R_rmmin1 : Room := { frames := 0, cells := 0, slots := 0, locals := 0 }
theorem rmmin1 (hw : HW Z a0)  (h0 : Heap) :
    Con l Z n0 (⟨"java/lang/Math", "min", "(II)I"⟩ : MethodName) jdk_29_method_69_code 2 (some .int) R_rmmin1 #[(.int (64 : Int32)), (.int (3 : Int32))] h0 (Q_rmmin1 Z n0  h0) := by
 refine con_of (Jvm.Free.JP.mathPlain rfl (by decide +kernel)) ?_
 intro p e s m below meth c T0 K X0 e0
 replace K : Ctx p s m meth c Z "java/lang/Math" "min" jdk_29_method_69_code 2 (some .int) := K
 refine go_entry (ef_rmmin1 m ) ?_
 refine go_iloadN K X0 (k9 rfl) rfl rfl ?_
 refine go_iloadN K X0 (k9 rfl) rfl rfl ?_
 refine go_icmpT K X0 (k9 rfl) (by decide) rfl (by decide : (3 : Int32) < (64 : Int32)) ?_
 refine go_iloadN K X0 (k9 rfl) rfl rfl ?_
 refine go_retI K X0 (k9 rfl) (by decide) (by decide) ?_
 rw [e0]
 exact ⟨rfl, rfl⟩
theorem ef_rmCpyR (m : MethodId) (a1 : Addr) : entryFrame m #[(.ref a1), (.int (3 : Int32))] 3 = mkF m 0 #[.val (.ref a1), .val (.int (3 : Int32)), .unset] [] := by first | (simp [entryFrame, mkF, argsToLocals, Value.category]; done) | rfl
def Q_rmCpyR (Z : State) (n0 : Nat) (a1 : Addr) (vs : List Value) (h0 : Heap) (v : Option Value) (h : Heap) : Prop := ∃ r : Addr, v = some (.ref r) ∧ Keep h0 h [] ∧ h0.size ≤ r ∧ AV Z h r .int (vs.take 3)
abbrev R_rmCpyR : Room := { frames := 1, cells := 1, slots := 3, locals := 60 }
theorem rmCpyR (hw : HW Z a0) (a1 : Addr) (vs : List Value) (h0 : Heap) (H0 : n0 ≤ h0.size) (H1 : AV Z h0 a1 .int vs) (H2 : vs.length = 64) (H3 : ∀ v ∈ vs, fits .int v = true) :
    Con l Z n0 (⟨"java/util/Arrays", "copyOf", "([II)[I"⟩ : MethodName) jdk_65_method_123_code 3 (some (.array .int)) R_rmCpyR #[(.ref a1), (.int (3 : Int32))] h0 (Q_rmCpyR Z n0 a1 vs h0) := by
 refine con_of (plainFor_of_name pn_java_util_Arrays) ?_
 intro p e s m below meth c T0 K X0 e0
 replace K : Ctx p s m meth c Z "java/util/Arrays" "copyOf" jdk_65_method_123_code 3 (some (.array .int)) := K
 refine go_entry (ef_rmCpyR m a1) ?_
 refine go_iloadN K X0 (k8 rfl) rfl rfl ?_
 refine go_aloadN K X0 (k8 rfl) rfl rfl rfl ?_
 refine go_arraylength K X0 e0 H1 (z := (64 : Int32)) (by rw [H2]; rfl) (k8 rfl) rfl ?_
 refine go_icmpT K X0 (k8 rfl) (by decide) rfl (by decide : ¬ (3 : Int32) = (64 : Int32)) ?_
 refine go_iloadN K X0 (k8 rfl) rfl rfl ?_
 refine go_newarray K X0 (wd hw 10 rfl) e0 (k8 rfl) (i := 3) (cap := 3) rfl (by decide) (by decide) rfl (cells' := 1) (slots' := 3) rfl rfl (by decide) (by decide) ?_
 intro T0a h0a b0a g0a X0a e0a E0a A326
 have ga327 : n0 ≤ b0a := Nat.le_trans H0 (Nat.le_of_eq g0a.symm)
 have gb0b : h0.size ≤ b0a := Nat.le_trans (Keep.refl h0 []).1 (Nat.le_of_eq g0a.symm)
 have kp0c : Keep h0 h0a [] := (Keep.refl h0 []).trans (Keep.ext (Keep.refl _ []) E0a) all0
 have f0d : AV Z h0a b0a .int [(.int (0 : Int32)), (.int (0 : Int32)), (.int (0 : Int32))] := A326
 refine go_astoreN K X0a #[.val (.ref a1), .val (.int (3 : Int32)), .val (.ref b0a)] (k8 rfl) rfl rfl rfl ?_
 refine go_aloadN K X0a (k8 rfl) rfl rfl rfl ?_
 refine go_iconst K X0a (0 : Int32) (k8 rfl) rfl rfl ?_
 refine go_aloadN K X0a (k8 rfl) rfl rfl rfl ?_
 refine go_iconst K X0a (0 : Int32) (k8 rfl) rfl rfl ?_
 refine go_aloadN K X0a (k8 rfl) rfl rfl rfl ?_
 have f0e := (H1.keep (Keep.ext (Keep.refl _ []) E0a) nin0)
 refine go_arraylength K X0a e0a f0e (z := (64 : Int32)) (by rw [H2]; rfl) (k8 rfl) rfl ?_
 refine go_iloadN K X0a (k8 rfl) rfl rfl ?_
 refine go_static K X0a (argsL := [(.int (64 : Int32)), (.int (3 : Int32))]) (stk := [(.int (0 : Int32)), (.ref b0a), (.int (0 : Int32)), (.ref a1)]) (wd hw 85 rfl) (wd hw 86 rfl) (wd hw 87 rfl) (wd hw 88 rfl) (by decide) (lenOf pd_3 rfl) e0a (rmmin1 hw  h0a ) rfl rfl (k8 rfl) rfl (by decide) (W := 4) (Nat.le_of_eq rfl) (by decide) (cells' := 1) (slots' := 3) rfl rfl (by decide) (by decide) ?_
 rintro T0f h0f _ X0f e0f ⟨rfl, qe332⟩
 show Go _ _ _ _ _ _ _ (T0f.setTop (mkF m 28 #[.val (.ref a1), .val (.int (3 : Int32)), .val (.ref b0a)] [(.int (3 : Int32)), (.int (0 : Int32)), (.ref b0a), (.int (0 : Int32)), (.ref a1)]))
 replace e0f := e0f.trans qe332
 refine go_arraycopy K X0f (wd hw 89 rfl) (wd hw 92 rfl) (wd hw 90 rfl) (wd hw 91 rfl) e0f (us := (vs.take 3)) f0e f0d rfl H3 (fitB rfl) (i := 0) (j := 0) (n := 3) rfl rfl rfl (by rw [H2]; decide) (Nat.le_of_ble_eq_true rfl) (by simp) ga327 rfl (k8 rfl) rfl (by decide) (W := 0) (Nat.le_of_eq rfl) (by decide) ?_
 intro T0g h0g X0g e0g K0g A333
 have kp0h : Keep h0 h0g [] := kp0c.trans K0g (allS (Or.inr gb0b) all0)
 refine go_aloadN K X0g (k8 rfl) rfl rfl rfl ?_
 refine go_retA K X0g rfl rfl rfl (k8 rfl) (by decide) (by decide) ?_
 rw [e0g]
 exact ⟨b0a, rfl, kp0h, gb0b, A333⟩
def t10 : List (List (Nat × Instr × Nat)) := [[(0,.iload_n 1,1),(1,.aload_n 0,1),(2,.arraylength,1),(3,.if_icmp .ne 11,3),(6,.aload_n 0,1),(7,.invokevirtual 328,3),(10,.checkcast 329,3),(13,.areturn,1),(14,.iload_n 1,1),(15,.newarray .double,2)],
  [(17,.astore_n 2,1),(18,.aload_n 0,1),(19,.iconst 0,1),(20,.aload_n 2,1),(21,.iconst 0,1),(22,.aload_n 0,1),(23,.arraylength,1),(24,.iload_n 1,1),(25,.invokestatic 304,3),(28,.invokestatic 150,3),(31,.aload_n 2,1)],
  [(32,.areturn,1)]]
theorem k10 : TB jdk_65_method_127_code t10 := tb_of (by decide +kernel)
theorem ef_rmCpyD (m : MethodId) (a1 : Addr) : entryFrame m #[(.ref a1), (.int (3 : Int32))] 3 = mkF m 0 #[.val (.ref a1), .val (.int (3 : Int32)), .unset] [] := by first | (simp [entryFrame, mkF, argsToLocals, Value.category]; done) | rfl
def Q_rmCpyD (Z : State) (n0 : Nat) (a1 : Addr) (zr : List Int) (h0 : Heap) (v : Option Value) (h : Heap) : Prop := ∃ r : Addr, v = some (.ref r) ∧ Keep h0 h [] ∧ h0.size ≤ r ∧ AD Z h r (zr.take 3)
abbrev R_rmCpyD : Room := { frames := 1, cells := 1, slots := 3, locals := 60 }
theorem rmCpyD (hw : HW Z a0) (a1 : Addr) (zr : List Int) (h0 : Heap) (H0 : n0 ≤ h0.size) (H1 : AD Z h0 a1 zr) (H2 : zr.length = 64) :
    Con l Z n0 (⟨"java/util/Arrays", "copyOf", "([DI)[D"⟩ : MethodName) jdk_65_method_127_code 3 (some (.array .double)) R_rmCpyD #[(.ref a1), (.int (3 : Int32))] h0 (Q_rmCpyD Z n0 a1 zr h0) := by
 refine con_of (plainFor_of_name pn_java_util_Arrays) ?_
 intro p e s m below meth c T0 K X0 e0
 replace K : Ctx p s m meth c Z "java/util/Arrays" "copyOf" jdk_65_method_127_code 3 (some (.array .double)) := K
 refine go_entry (ef_rmCpyD m a1) ?_
 refine go_iloadN K X0 (k10 rfl) rfl rfl ?_
 refine go_aloadN K X0 (k10 rfl) rfl rfl rfl ?_
 refine go_arraylengthD K X0 e0 H1 (z := (64 : Int32)) (by rw [H2]; rfl) (k10 rfl) rfl ?_
 refine go_icmpT K X0 (k10 rfl) (by decide) rfl (by decide : ¬ (3 : Int32) = (64 : Int32)) ?_
 refine go_iloadN K X0 (k10 rfl) rfl rfl ?_
 refine go_newarrayD K X0 (wd hw 15 rfl) e0 (k10 rfl) (i := 3) (cap := 3) rfl (by decide) (by decide) rfl (cells' := 1) (slots' := 3) rfl rfl (by decide) (by decide) ?_
 intro T0a h0a b0a g0a X0a e0a E0a A335 C0a
 have ga336 : n0 ≤ b0a := Nat.le_trans H0 (Nat.le_of_eq g0a.symm)
 have gb0b : h0.size ≤ b0a := Nat.le_trans (Keep.refl h0 []).1 (Nat.le_of_eq g0a.symm)
 have kp0c : Keep h0 h0a [] := (Keep.refl h0 []).trans (Keep.ext (Keep.refl _ []) E0a) all0
 have f0d : AD Z h0a b0a [0, 0, 0] := A335
 refine go_astoreN K X0a #[.val (.ref a1), .val (.int (3 : Int32)), .val (.ref b0a)] (k10 rfl) rfl rfl rfl ?_
 refine go_aloadN K X0a (k10 rfl) rfl rfl rfl ?_
 refine go_iconst K X0a (0 : Int32) (k10 rfl) rfl rfl ?_
 refine go_aloadN K X0a (k10 rfl) rfl rfl rfl ?_
 refine go_iconst K X0a (0 : Int32) (k10 rfl) rfl rfl ?_
 refine go_aloadN K X0a (k10 rfl) rfl rfl rfl ?_
 have f0e := (H1.keep (Keep.ext (Keep.refl _ []) E0a) nin0)
 refine go_arraylengthD K X0a e0a f0e (z := (64 : Int32)) (by rw [H2]; rfl) (k10 rfl) rfl ?_
 refine go_iloadN K X0a (k10 rfl) rfl rfl ?_
 refine go_static K X0a (argsL := [(.int (64 : Int32)), (.int (3 : Int32))]) (stk := [(.int (0 : Int32)), (.ref b0a), (.int (0 : Int32)), (.ref a1)]) (wd hw 85 rfl) (wd hw 86 rfl) (wd hw 87 rfl) (wd hw 88 rfl) (by decide) (lenOf pd_3 rfl) e0a (rmmin1 hw  h0a ) rfl rfl (k10 rfl) rfl (by decide) (W := 4) (Nat.le_of_eq rfl) (by decide) (cells' := 1) (slots' := 3) rfl rfl (by decide) (by decide) ?_
 rintro T0f h0f _ X0f e0f ⟨rfl, qe341⟩
 show Go _ _ _ _ _ _ _ (T0f.setTop (mkF m 28 #[.val (.ref a1), .val (.int (3 : Int32)), .val (.ref b0a)] [(.int (3 : Int32)), (.int (0 : Int32)), (.ref b0a), (.int (0 : Int32)), (.ref a1)]))
 replace e0f := e0f.trans qe341
 refine go_arraycopyD K X0f (wd hw 89 rfl) (wd hw 92 rfl) (wd hw 90 rfl) (wd hw 91 rfl) e0f (us := (zr.take 3)) f0e f0d (i := 0) (j := 0) (n := 3) rfl rfl rfl (by rw [H2]; decide) (Nat.le_of_ble_eq_true rfl) (by simp) ga336 rfl (k10 rfl) rfl (by decide) (W := 0) (Nat.le_of_eq rfl) (by decide) ?_
 intro T0g h0g X0g e0g K0g A342
 have kp0h : Keep h0 h0g [] := kp0c.trans K0g (allS (Or.inr gb0b) all0)
 refine go_aloadN K X0g (k10 rfl) rfl rfl rfl ?_
 refine go_retA K X0g rfl rfl rfl (k10 rfl) (by decide) (by decide) ?_
 rw [e0g]
 exact ⟨b0a, rfl, kp0h, gb0b, A342⟩
def t12 : List (List (Nat × Instr × Nat)) := [[(0,.ldc2_w 29,3),(3,.iload_n 0,1),(4,.i2l,1),(5,.ldiv,1),(6,.l2i,1),(7,.ireturn,1)]]
theorem k12 : TB prog_86_method_4_code t12 := tb_of (by decide +kernel)
theorem pn_com_example_plumbline_plumbline_model_HeapBytes : plainName "com/example/plumbline/plumbline/model/HeapBytes" = true := by first | (simp [plainName, overriddenIn]; done) | decide +kernel
theorem ef_rmMov (m : MethodId)  : entryFrame m #[(.int (8 : Int32))] 1 = mkF m 0 #[.val (.int (8 : Int32))] [] := by first | (simp [entryFrame, mkF, argsToLocals, Value.category]; done) | rfl
def Q_rmMov (Z : State) (n0 : Nat)  (h0 : Heap) (v : Option Value) (h : Heap) : Prop := v = some (.int (65534 : Int32)) ∧ h = h0
abbrev R_rmMov : Room := { frames := 0, cells := 0, slots := 0, locals := 0 }
theorem rmMov (hw : HW Z a0)  (h0 : Heap) :
    Con l Z n0 (⟨"com/example/plumbline/plumbline/model/HeapBytes", "movableLength", "(I)I"⟩ : MethodName) prog_86_method_4_code 1 (some .int) R_rmMov #[(.int (8 : Int32))] h0 (Q_rmMov Z n0  h0) := by
 refine con_of (plainFor_of_name pn_com_example_plumbline_plumbline_model_HeapBytes) ?_
 intro p e s m below meth c T0 K X0 e0
 replace K : Ctx p s m meth c Z "com/example/plumbline/plumbline/model/HeapBytes" "movableLength" prog_86_method_4_code 1 (some .int) := K
 refine go_entry (ef_rmMov m ) ?_
 refine go_ldc2J K X0 (wd hw 116 rfl) (k12 rfl) rfl ?_
 refine go_iloadN K X0 (k12 rfl) rfl rfl ?_
 refine go_i2l K X0 (k12 rfl) rfl ?_
 rw [show ((8 : Int32).toInt64) = (8 : Int64) from by decide]
 refine go_ldiv K X0 (k12 rfl) (by decide) rfl ?_
 rw [show ((524272 : Int64) / (8 : Int64)) = (65534 : Int64) from by decide]
 refine go_l2i K X0 (k12 rfl) rfl ?_
 rw [show ((65534 : Int64).toInt32) = (65534 : Int32) from by decide]
 refine go_retI K X0 (k12 rfl) (by decide) (by decide) ?_
 rw [e0]
 exact ⟨rfl, rfl⟩
def t15 : List (List (Nat × Instr × Nat)) := [[(0,.iload_n 0,1),(1,.ifCond .gt 14,3),(4,.iload_n 0,1),(5,.ifCond .ne 8,3),(8,.bipush 32,2),(10,.goto 4,3),(13,.iconst 0,1),(14,.ireturn,1),(15,.bipush 31,2)],
  [(17,.istore_n 1,1),(18,.iload_n 0,1),(19,.ldc_w 264,3),(22,.if_icmp .lt 11,3),(25,.iinc 1 (-16),3),(28,.iload_n 0,1),(29,.bipush 16,2),(31,.iushr,1)],
  [(32,.istore_n 0,1),(33,.iload_n 0,1),(34,.sipush 256,3),(37,.if_icmp .lt 11,3),(40,.iinc 1 (-8),3),(43,.iload_n 0,1),(44,.bipush 8,2),(46,.iushr,1),(47,.istore_n 0,1)],
  [(48,.iload_n 0,1),(49,.bipush 16,2),(51,.if_icmp .lt 10,3),(54,.iinc 1 (-4),3),(57,.iload_n 0,1),(58,.iconst 4,1),(59,.iushr,1),(60,.istore_n 0,1),(61,.iload_n 0,1),(62,.iconst 4,1),(63,.if_icmp .lt 10,3)],
  [(66,.iinc 1 (-2),3),(69,.iload_n 0,1),(70,.iconst 2,1),(71,.iushr,1),(72,.istore_n 0,1),(73,.iload_n 1,1),(74,.iload_n 0,1),(75,.iconst 1,1),(76,.iushr,1),(77,.isub,1),(78,.ireturn,1)]]
theorem k15 : TB jdk_33_method_47_code t15 := tb_of (by decide +kernel)
theorem pn_java_lang_Integer : plainName "java/lang/Integer" = true := by first | (simp [plainName, overriddenIn]; done) | decide +kernel
theorem ef_rmNlz (m : MethodId)  : entryFrame m #[(.int (32767 : Int32))] 2 = mkF m 0 #[.val (.int (32767 : Int32)), .unset] [] := by first | (simp [entryFrame, mkF, argsToLocals, Value.category]; done) | rfl
def Q_rmNlz (Z : State) (n0 : Nat)  (h0 : Heap) (v : Option Value) (h : Heap) : Prop := v = some (.int (17 : Int32)) ∧ h = h0
abbrev R_rmNlz : Room := { frames := 0, cells := 0, slots := 0, locals := 0 }
theorem rmNlz (hw : HW Z a0)  (h0 : Heap) :
    Con l Z n0 (⟨"java/lang/Integer", "numberOfLeadingZeros", "(I)I"⟩ : MethodName) jdk_33_method_47_code 2 (some .int) R_rmNlz #[(.int (32767 : Int32))] h0 (Q_rmNlz Z n0  h0) := by
 refine con_of (plainFor_of_name pn_java_lang_Integer) ?_
 intro p e s m below meth c T0 K X0 e0
 replace K : Ctx p s m meth c Z "java/lang/Integer" "numberOfLeadingZeros" jdk_33_method_47_code 2 (some .int) := K
 refine go_entry (ef_rmNlz m ) ?_
 refine go_iloadN K X0 (k15 rfl) rfl rfl ?_
 refine go_ifT K X0 (k15 rfl) (by decide) rfl (by decide : (0 : Int32) < (32767 : Int32)) ?_
 refine go_bipush K X0 (31 : Int32) (k15 rfl) rfl rfl ?_
 refine go_istoreN K X0 #[.val (.int (32767 : Int32)), .val (.int (31 : Int32))] (k15 rfl) rfl rfl ?_
 refine go_iloadN K X0 (k15 rfl) rfl rfl ?_
 refine go_ldcWI K X0 (wd hw 128 rfl) (k15 rfl) rfl ?_
 refine go_icmpT K X0 (k15 rfl) (by decide) rfl (by decide : (32767 : Int32) < (65536 : Int32)) ?_
 refine go_iloadN K X0 (k15 rfl) rfl rfl ?_
 refine go_sipush K X0 (256 : Int32) (k15 rfl) rfl rfl ?_
 refine go_icmpF K X0 (k15 rfl) rfl (by decide : ¬ (32767 : Int32) < (256 : Int32)) ?_
 refine go_iinc K X0 (-8 : Int32) #[.val (.int (32767 : Int32)), .val (.int ((31 : Int32) + (-8 : Int32)))] (k15 rfl) rfl rfl rfl rfl ?_
 rw [show ((31 : Int32) + (-8 : Int32)) = (23 : Int32) from by decide]
 refine go_iloadN K X0 (k15 rfl) rfl rfl ?_
 refine go_bipush K X0 (8 : Int32) (k15 rfl) rfl rfl ?_
 refine go_iushr K X0 (k15 rfl) rfl ?_
 rw [show (((32767 : Int32).toUInt32 >>> ((8 : Int32) &&& 31).toUInt32).toInt32) = (127 : Int32) from by decide]
 refine go_istoreN K X0 #[.val (.int (127 : Int32)), .val (.int (23 : Int32))] (k15 rfl) rfl rfl ?_
 refine go_iloadN K X0 (k15 rfl) rfl rfl ?_
 refine go_bipush K X0 (16 : Int32) (k15 rfl) rfl rfl ?_
 refine go_icmpF K X0 (k15 rfl) rfl (by decide : ¬ (127 : Int32) < (16 : Int32)) ?_
 refine go_iinc K X0 (-4 : Int32) #[.val (.int (127 : Int32)), .val (.int ((23 : Int32) + (-4 : Int32)))] (k15 rfl) rfl rfl rfl rfl ?_
 rw [show ((23 : Int32) + (-4 : Int32)) = (19 : Int32) from by decide]
 refine go_iloadN K X0 (k15 rfl) rfl rfl ?_
 refine go_iconst K X0 (4 : Int32) (k15 rfl) rfl rfl ?_
 refine go_iushr K X0 (k15 rfl) rfl ?_
 rw [show (((127 : Int32).toUInt32 >>> ((4 : Int32) &&& 31).toUInt32).toInt32) = (7 : Int32) from by decide]
 refine go_istoreN K X0 #[.val (.int (7 : Int32)), .val (.int (19 : Int32))] (k15 rfl) rfl rfl ?_
 refine go_iloadN K X0 (k15 rfl) rfl rfl ?_
 refine go_iconst K X0 (4 : Int32) (k15 rfl) rfl rfl ?_
 refine go_icmpF K X0 (k15 rfl) rfl (by decide : ¬ (7 : Int32) < (4 : Int32)) ?_
 refine go_iinc K X0 (-2 : Int32) #[.val (.int (7 : Int32)), .val (.int ((19 : Int32) + (-2 : Int32)))] (k15 rfl) rfl rfl rfl rfl ?_
 rw [show ((19 : Int32) + (-2 : Int32)) = (17 : Int32) from by decide]
 refine go_iloadN K X0 (k15 rfl) rfl rfl ?_
 refine go_iconst K X0 (2 : Int32) (k15 rfl) rfl rfl ?_
 refine go_iushr K X0 (k15 rfl) rfl ?_
 rw [show (((7 : Int32).toUInt32 >>> ((2 : Int32) &&& 31).toUInt32).toInt32) = (1 : Int32) from by decide]
 refine go_istoreN K X0 #[.val (.int (1 : Int32)), .val (.int (17 : Int32))] (k15 rfl) rfl rfl ?_
 refine go_iloadN K X0 (k15 rfl) rfl rfl ?_
 refine go_iloadN K X0 (k15 rfl) rfl rfl ?_
 refine go_iconst K X0 (1 : Int32) (k15 rfl) rfl rfl ?_
 refine go_iushr K X0 (k15 rfl) rfl ?_
 rw [show (((1 : Int32).toUInt32 >>> ((1 : Int32) &&& 31).toUInt32).toInt32) = (0 : Int32) from by decide]
 refine go_isub K X0 (k15 rfl) rfl ?_
 rw [show ((17 : Int32) - (0 : Int32)) = (17 : Int32) from by decide]
 refine go_retI K X0 (k15 rfl) (by decide) (by decide) ?_
 rw [e0]
 exact ⟨rfl, rfl⟩
def t16 : List (List (Nat × Instr × Nat)) := [[(0,.iload_n 0,1),(1,.iconst (-1),1),(2,.ixor,1),(3,.iload_n 0,1),(4,.iconst 1,1),(5,.isub,1),(6,.iand,1),(7,.istore_n 0,1),(8,.iload_n 0,1),(9,.ifCond .gt 8,3),(12,.iload_n 0,1),(13,.bipush 32,2),(15,.iand,1)],
  [(16,.ireturn,1),(17,.iconst 1,1),(18,.istore_n 1,1),(19,.iload_n 0,1),(20,.ldc_w 264,3),(23,.if_icmp .le 11,3),(26,.iinc 1 16,3),(29,.iload_n 0,1),(30,.bipush 16,2)],
  [(32,.iushr,1),(33,.istore_n 0,1),(34,.iload_n 0,1),(35,.sipush 256,3),(38,.if_icmp .le 11,3),(41,.iinc 1 8,3),(44,.iload_n 0,1),(45,.bipush 8,2),(47,.iushr,1)],
  [(48,.istore_n 0,1),(49,.iload_n 0,1),(50,.bipush 16,2),(52,.if_icmp .le 10,3),(55,.iinc 1 4,3),(58,.iload_n 0,1),(59,.iconst 4,1),(60,.iushr,1),(61,.istore_n 0,1),(62,.iload_n 0,1),(63,.iconst 4,1)],
  [(64,.if_icmp .le 10,3),(67,.iinc 1 2,3),(70,.iload_n 0,1),(71,.iconst 2,1),(72,.iushr,1),(73,.istore_n 0,1),(74,.iload_n 1,1),(75,.iload_n 0,1),(76,.iconst 1,1),(77,.iushr,1),(78,.iadd,1),(79,.ireturn,1)]]
theorem k16 : TB jdk_33_method_48_code t16 := tb_of (by decide +kernel)
theorem ef_rmNtz (m : MethodId)  : entryFrame m #[(.int (16384 : Int32))] 2 = mkF m 0 #[.val (.int (16384 : Int32)), .unset] [] := by first | (simp [entryFrame, mkF, argsToLocals, Value.category]; done) | rfl
def Q_rmNtz (Z : State) (n0 : Nat)  (h0 : Heap) (v : Option Value) (h : Heap) : Prop := v = some (.int (14 : Int32)) ∧ h = h0
abbrev R_rmNtz : Room := { frames := 0, cells := 0, slots := 0, locals := 0 }
theorem rmNtz (hw : HW Z a0)  (h0 : Heap) :
    Con l Z n0 (⟨"java/lang/Integer", "numberOfTrailingZeros", "(I)I"⟩ : MethodName) jdk_33_method_48_code 2 (some .int) R_rmNtz #[(.int (16384 : Int32))] h0 (Q_rmNtz Z n0  h0) := by
 refine con_of (plainFor_of_name pn_java_lang_Integer) ?_
 intro p e s m below meth c T0 K X0 e0
 replace K : Ctx p s m meth c Z "java/lang/Integer" "numberOfTrailingZeros" jdk_33_method_48_code 2 (some .int) := K
 refine go_entry (ef_rmNtz m ) ?_
 refine go_iloadN K X0 (k16 rfl) rfl rfl ?_
 refine go_iconst K X0 (-1 : Int32) (k16 rfl) rfl rfl ?_
 refine go_ixor K X0 (k16 rfl) rfl ?_
 rw [show ((16384 : Int32) ^^^ (-1 : Int32)) = (-16385 : Int32) from by decide]
 refine go_iloadN K X0 (k16 rfl) rfl rfl ?_
 refine go_iconst K X0 (1 : Int32) (k16 rfl) rfl rfl ?_
 refine go_isub K X0 (k16 rfl) rfl ?_
 rw [show ((16384 : Int32) - (1 : Int32)) = (16383 : Int32) from by decide]
 refine go_iand K X0 (k16 rfl) rfl ?_
 rw [show ((-16385 : Int32) &&& (16383 : Int32)) = (16383 : Int32) from by decide]
 refine go_istoreN K X0 #[.val (.int (16383 : Int32)), .unset] (k16 rfl) rfl rfl ?_
 refine go_iloadN K X0 (k16 rfl) rfl rfl ?_
 refine go_ifT K X0 (k16 rfl) (by decide) rfl (by decide : (0 : Int32) < (16383 : Int32)) ?_
 refine go_iconst K X0 (1 : Int32) (k16 rfl) rfl rfl ?_
 refine go_istoreN K X0 #[.val (.int (16383 : Int32)), .val (.int (1 : Int32))] (k16 rfl) rfl rfl ?_
 refine go_iloadN K X0 (k16 rfl) rfl rfl ?_
 refine go_ldcWI K X0 (wd hw 128 rfl) (k16 rfl) rfl ?_
 refine go_icmpT K X0 (k16 rfl) (by decide) rfl (by decide : ¬ (65536 : Int32) < (16383 : Int32)) ?_
 refine go_iloadN K X0 (k16 rfl) rfl rfl ?_
 refine go_sipush K X0 (256 : Int32) (k16 rfl) rfl rfl ?_
 refine go_icmpF K X0 (k16 rfl) rfl (by decide : (256 : Int32) < (16383 : Int32)) ?_
 refine go_iinc K X0 (8 : Int32) #[.val (.int (16383 : Int32)), .val (.int ((1 : Int32) + (8 : Int32)))] (k16 rfl) rfl rfl rfl rfl ?_
 rw [show ((1 : Int32) + (8 : Int32)) = (9 : Int32) from by decide]
 refine go_iloadN K X0 (k16 rfl) rfl rfl ?_
 refine go_bipush K X0 (8 : Int32) (k16 rfl) rfl rfl ?_
 refine go_iushr K X0 (k16 rfl) rfl ?_
 rw [show (((16383 : Int32).toUInt32 >>> ((8 : Int32) &&& 31).toUInt32).toInt32) = (63 : Int32) from by decide]
 refine go_istoreN K X0 #[.val (.int (63 : Int32)), .val (.int (9 : Int32))] (k16 rfl) rfl rfl ?_
 refine go_iloadN K X0 (k16 rfl) rfl rfl ?_
 refine go_bipush K X0 (16 : Int32) (k16 rfl) rfl rfl ?_
 refine go_icmpF K X0 (k16 rfl) rfl (by decide : (16 : Int32) < (63 : Int32)) ?_
 refine go_iinc K X0 (4 : Int32) #[.val (.int (63 : Int32)), .val (.int ((9 : Int32) + (4 : Int32)))] (k16 rfl) rfl rfl rfl rfl ?_
 rw [show ((9 : Int32) + (4 : Int32)) = (13 : Int32) from by decide]
 refine go_iloadN K X0 (k16 rfl) rfl rfl ?_
 refine go_iconst K X0 (4 : Int32) (k16 rfl) rfl rfl ?_
 refine go_iushr K X0 (k16 rfl) rfl ?_
 rw [show (((63 : Int32).toUInt32 >>> ((4 : Int32) &&& 31).toUInt32).toInt32) = (3 : Int32) from by decide]
 refine go_istoreN K X0 #[.val (.int (3 : Int32)), .val (.int (13 : Int32))] (k16 rfl) rfl rfl ?_
 refine go_iloadN K X0 (k16 rfl) rfl rfl ?_
 refine go_iconst K X0 (4 : Int32) (k16 rfl) rfl rfl ?_
 refine go_icmpT K X0 (k16 rfl) (by decide) rfl (by decide : ¬ (4 : Int32) < (3 : Int32)) ?_
 refine go_iloadN K X0 (k16 rfl) rfl rfl ?_
 refine go_iloadN K X0 (k16 rfl) rfl rfl ?_
 refine go_iconst K X0 (1 : Int32) (k16 rfl) rfl rfl ?_
 refine go_iushr K X0 (k16 rfl) rfl ?_
 rw [show (((3 : Int32).toUInt32 >>> ((1 : Int32) &&& 31).toUInt32).toInt32) = (1 : Int32) from by decide]
 refine go_iadd K X0 (k16 rfl) rfl ?_
 rw [show ((13 : Int32) + (1 : Int32)) = (14 : Int32) from by decide]
 refine go_retI K X0 (k16 rfl) (by decide) (by decide) ?_
 rw [e0]
 exact ⟨rfl, rfl⟩
def t14 : List (List (Nat × Instr × Nat)) := [[(0,.iload_n 0,1),(1,.ldc 127,2),(3,.iload_n 0,1),(4,.invokestatic 51,3),(7,.iushr,1),(8,.iand,1),(9,.ireturn,1)]]
theorem k14 : TB jdk_33_method_45_code t14 := tb_of (by decide +kernel)
theorem pd_4 : parseMethodDescriptor "(I)I" = some ⟨[.int], some .int⟩ := by decide +kernel
theorem ef_rmHob (m : MethodId)  : entryFrame m #[(.int (32767 : Int32))] 1 = mkF m 0 #[.val (.int (32767 : Int32))] [] := by first | (simp [entryFrame, mkF, argsToLocals, Value.category]; done) | rfl
def Q_rmHob (Z : State) (n0 : Nat)  (h0 : Heap) (v : Option Value) (h : Heap) : Prop := v = some (.int (16384 : Int32)) ∧ h = h0
abbrev R_rmHob : Room := { frames := 1, cells := 0, slots := 0, locals := 15 }
theorem rmHob (hw : HW Z a0)  (h0 : Heap) :
    Con l Z n0 (⟨"java/lang/Integer", "highestOneBit", "(I)I"⟩ : MethodName) jdk_33_method_45_code 1 (some .int) R_rmHob #[(.int (32767 : Int32))] h0 (Q_rmHob Z n0  h0) := by
 refine con_of (plainFor_of_name pn_java_lang_Integer) ?_
 intro p e s m below meth c T0 K X0 e0
 replace K : Ctx p s m meth c Z "java/lang/Integer" "highestOneBit" jdk_33_method_45_code 1 (some .int) := K
 refine go_entry (ef_rmHob m ) ?_
 refine go_iloadN K X0 (k14 rfl) rfl rfl ?_
 refine go_ldcI K X0 (wd hw 124 rfl) (k14 rfl) rfl ?_
 refine go_iloadN K X0 (k14 rfl) rfl rfl ?_
 refine go_static K X0 (argsL := [(.int (32767 : Int32))]) (stk := [(.int (-2147483648 : Int32)), (.int (32767 : Int32))]) (wd hw 125 rfl) (wd hw 126 rfl) (wd hw 122 rfl) (wd hw 127 rfl) (by decide) (lenOf pd_4 rfl) e0 (rmNlz hw  h0 ) rfl rfl (k14 rfl) rfl (by decide) (W := 2) (Nat.le_of_eq rfl) (by decide) (cells' := 0) (slots' := 0) rfl rfl (by decide) (by decide) ?_
 rintro T0a h0a _ X0a e0a ⟨rfl, qe344⟩
 show Go _ _ _ _ _ _ _ (T0a.setTop (mkF m 7 #[.val (.int (32767 : Int32))] [(.int (17 : Int32)), (.int (-2147483648 : Int32)), (.int (32767 : Int32))]))
 replace e0a := e0a.trans qe344
 refine go_iushr K X0a (k14 rfl) rfl ?_
 rw [show (((-2147483648 : Int32).toUInt32 >>> ((17 : Int32) &&& 31).toUInt32).toInt32) = (16384 : Int32) from by decide]
 refine go_iand K X0a (k14 rfl) rfl ?_
 rw [show ((32767 : Int32) &&& (16384 : Int32)) = (16384 : Int32) from by decide]
 refine go_retI K X0a (k14 rfl) (by decide) (by decide) ?_
 rw [e0a]
 exact ⟨rfl, rfl⟩
def t11 : List (List (Nat × Instr × Nat)) := [[(0,.iconst 1,1),(1,.bipush 8,2),(3,.invokestatic 157,3),(6,.iconst 1,1),(7,.iload_n 0,1),(8,.invokestatic 160,3),(11,.idiv,1),(12,.invokestatic 160,3),(15,.invokestatic 163,3)],
  [(18,.ireturn,1)]]
theorem k11 : TB prog_12_method_6_code t11 := tb_of (by decide +kernel)
def t13 : List (List (Nat × Instr × Nat)) := [[(0,.iload_n 0,1),(1,.iload_n 1,1),(2,.if_icmp .lt 7,3),(5,.iload_n 0,1),(6,.goto 4,3),(9,.iload_n 1,1),(10,.ireturn,1)]]
theorem k13 : TB jdk_29_method_65_code t13 := tb_of (by decide +kernel)
theorem ef_rmmax2 (m : MethodId)  : entryFrame m #[(.int (1 : Int32)), (.int (2 : Int32))] 2 = mkF m 0 #[.val (.int (1 : Int32)), .val (.int (2 : Int32))] [] := by first | (simp [entryFrame, mkF, argsToLocals, Value.category]; done) | rfl
def Q_rmmax2 (Z : State) (n0 : Nat)  (h0 : Heap) (v : Option Value) (h : Heap) : Prop := v = some (.int (2 : Int32)) ∧ h = h0
abbrev R_rmmax2 : Room := { frames := 0, cells := 0, slots := 0, locals := 0 }
theorem rmmax2 (hw : HW Z a0)  (h0 : Heap) :
    Con l Z n0 (⟨"java/lang/Math", "max", "(II)I"⟩ : MethodName) jdk_29_method_65_code 2 (some .int) R_rmmax2 #[(.int (1 : Int32)), (.int (2 : Int32))] h0 (Q_rmmax2 Z n0  h0) := by
 refine con_of (Jvm.Free.JP.mathPlain rfl (by decide +kernel)) ?_
 intro p e s m below meth c T0 K X0 e0
 replace K : Ctx p s m meth c Z "java/lang/Math" "max" jdk_29_method_65_code 2 (some .int) := K
 refine go_entry (ef_rmmax2 m ) ?_
 refine go_iloadN K X0 (k13 rfl) rfl rfl ?_
 refine go_iloadN K X0 (k13 rfl) rfl rfl ?_
 refine go_icmpT K X0 (k13 rfl) (by decide) rfl (by decide : (1 : Int32) < (2 : Int32)) ?_
 refine go_iloadN K X0 (k13 rfl) rfl rfl ?_
 refine go_retI K X0 (k13 rfl) (by decide) (by decide) ?_
 rw [e0]
 exact ⟨rfl, rfl⟩
theorem ef_rmmax3 (m : MethodId)  : entryFrame m #[(.int (1 : Int32)), (.int (32767 : Int32))] 2 = mkF m 0 #[.val (.int (1 : Int32)), .val (.int (32767 : Int32))] [] := by first | (simp [entryFrame, mkF, argsToLocals, Value.category]; done) | rfl
def Q_rmmax3 (Z : State) (n0 : Nat)  (h0 : Heap) (v : Option Value) (h : Heap) : Prop := v = some (.int (32767 : Int32)) ∧ h = h0
abbrev R_rmmax3 : Room := { frames := 0, cells := 0, slots := 0, locals := 0 }
theorem rmmax3 (hw : HW Z a0)  (h0 : Heap) :
    Con l Z n0 (⟨"java/lang/Math", "max", "(II)I"⟩ : MethodName) jdk_29_method_65_code 2 (some .int) R_rmmax3 #[(.int (1 : Int32)), (.int (32767 : Int32))] h0 (Q_rmmax3 Z n0  h0) := by
 refine con_of (Jvm.Free.JP.mathPlain rfl (by decide +kernel)) ?_
 intro p e s m below meth c T0 K X0 e0
 replace K : Ctx p s m meth c Z "java/lang/Math" "max" jdk_29_method_65_code 2 (some .int) := K
 refine go_entry (ef_rmmax3 m ) ?_
 refine go_iloadN K X0 (k13 rfl) rfl rfl ?_
 refine go_iloadN K X0 (k13 rfl) rfl rfl ?_
 refine go_icmpT K X0 (k13 rfl) (by decide) rfl (by decide : (1 : Int32) < (32767 : Int32)) ?_
 refine go_iloadN K X0 (k13 rfl) rfl rfl ?_
 refine go_retI K X0 (k13 rfl) (by decide) (by decide) ?_
 rw [e0]
 exact ⟨rfl, rfl⟩
theorem pn_com_example_plumbline_plumbline_align_DualSimplex : plainName "com/example/plumbline/plumbline/align/DualSimplex" = true := by first | (simp [plainName, overriddenIn]; done) | decide +kernel
theorem ef_rmBrw (m : MethodId)  : entryFrame m #[(.int (2 : Int32))] 1 = mkF m 0 #[.val (.int (2 : Int32))] [] := by first | (simp [entryFrame, mkF, argsToLocals, Value.category]; done) | rfl
def Q_rmBrw (Z : State) (n0 : Nat)  (h0 : Heap) (v : Option Value) (h : Heap) : Prop := v = some (.int (16384 : Int32)) ∧ h = h0
abbrev R_rmBrw : Room := { frames := 2, cells := 0, slots := 0, locals := 27 }
theorem rmBrw (hw : HW Z a0)  (h0 : Heap) :
    Con l Z n0 (⟨"com/example/plumbline/plumbline/align/DualSimplex", "blockRows", "(I)I"⟩ : MethodName) prog_12_method_6_code 1 (some .int) R_rmBrw #[(.int (2 : Int32))] h0 (Q_rmBrw Z n0  h0) := by
 refine con_of (plainFor_of_name pn_com_example_plumbline_plumbline_align_DualSimplex) ?_
 intro p e s m below meth c T0 K X0 e0
 replace K : Ctx p s m meth c Z "com/example/plumbline/plumbline/align/DualSimplex" "blockRows" prog_12_method_6_code 1 (some .int) := K
 refine go_entry (ef_rmBrw m ) ?_
 refine go_iconst K X0 (1 : Int32) (k11 rfl) rfl rfl ?_
 refine go_bipush K X0 (8 : Int32) (k11 rfl) rfl rfl ?_
 refine go_static K X0 (argsL := [(.int (8 : Int32))]) (stk := [(.int (1 : Int32))]) (wd hw 112 rfl) (wd hw 113 rfl) (wd hw 114 rfl) (wd hw 115 rfl) (by decide) (lenOf pd_4 rfl) e0 (rmMov hw  h0 ) rfl rfl (k11 rfl) rfl (by decide) (W := 1) (Nat.le_of_eq rfl) (by decide) (cells' := 0) (slots' := 0) rfl rfl (by decide) (by decide) ?_
 rintro T0a h0a _ X0a e0a ⟨rfl, qe345⟩
 show Go _ _ _ _ _ _ _ (T0a.setTop (mkF m 6 #[.val (.int (2 : Int32))] [(.int (65534 : Int32)), (.int (1 : Int32))]))
 replace e0a := e0a.trans qe345
 refine go_iconst K X0a (1 : Int32) (k11 rfl) rfl rfl ?_
 refine go_iloadN K X0a (k11 rfl) rfl rfl ?_
 refine go_static K X0a (argsL := [(.int (1 : Int32)), (.int (2 : Int32))]) (stk := [(.int (65534 : Int32)), (.int (1 : Int32))]) (wd hw 117 rfl) (wd hw 118 rfl) (wd hw 87 rfl) (wd hw 119 rfl) (by decide) (lenOf pd_3 rfl) e0a (rmmax2 hw  h0 ) rfl rfl (k11 rfl) rfl (by decide) (W := 2) (Nat.le_of_eq rfl) (by decide) (cells' := 0) (slots' := 0) rfl rfl (by decide) (by decide) ?_
 rintro T0b h0b _ X0b e0b ⟨rfl, qe346⟩
 show Go _ _ _ _ _ _ _ (T0b.setTop (mkF m 11 #[.val (.int (2 : Int32))] [(.int (2 : Int32)), (.int (65534 : Int32)), (.int (1 : Int32))]))
 replace e0b := e0b.trans qe346
 refine go_idiv K X0b (k11 rfl) (by decide) rfl ?_
 rw [show ((65534 : Int32) / (2 : Int32)) = (32767 : Int32) from by decide]
 refine go_static K X0b (argsL := [(.int (1 : Int32)), (.int (32767 : Int32))]) (stk := []) (wd hw 117 rfl) (wd hw 118 rfl) (wd hw 87 rfl) (wd hw 119 rfl) (by decide) (lenOf pd_3 rfl) e0b (rmmax3 hw  h0 ) rfl rfl (k11 rfl) rfl (by decide) (W := 0) (Nat.le_of_eq rfl) (by decide) (cells' := 0) (slots' := 0) rfl rfl (by decide) (by decide) ?_
 rintro T0c h0c _ X0c e0c ⟨rfl, qe347⟩
 show Go _ _ _ _ _ _ _ (T0c.setTop (mkF m 15 #[.val (.int (2 : Int32))] [(.int (32767 : Int32))]))
 replace e0c := e0c.trans qe347
 refine go_static K X0c (argsL := [(.int (32767 : Int32))]) (stk := []) (wd hw 120 rfl) (wd hw 121 rfl) (wd hw 122 rfl) (wd hw 123 rfl) (by decide) (lenOf pd_4 rfl) e0c (rmHob hw  h0 ) rfl rfl (k11 rfl) rfl (by decide) (W := 0) (Nat.le_of_eq rfl) (by decide) (cells' := 0) (slots' := 0) rfl rfl (by decide) (by decide) ?_
 rintro T0d h0d _ X0d e0d ⟨rfl, qe348⟩
 show Go _ _ _ _ _ _ _ (T0d.setTop (mkF m 18 #[.val (.int (2 : Int32))] [(.int (16384 : Int32))]))
 replace e0d := e0d.trans qe348
 refine go_retI K X0d (k11 rfl) (by decide) (by decide) ?_
 rw [e0d]
 exact ⟨rfl, rfl⟩
theorem pd_5 : parseMethodDescriptor "([DD)V" = some ⟨[(.array .double), .double], none⟩ := by decide +kernel
abbrev DSn : String := "com/example/plumbline/plumbline/align/DualSimplex"
theorem pn_DS : plainName DSn = true := by first | (simp [plainName, overriddenIn]; done) | decide +kernel
theorem lenK {d : String} {sg : MethodDescriptor} {k : Nat} (q : parseMethodDescriptor d = some sg) (e : k = sg.parameters.length) : ∀ sig, parseMethodDescriptor d = some sig → k = sig.parameters.length := fun sig r => by rw [q] at r; cases r; exact e
def fe (u r : Int32) : List (Nat × String × String × AW) := [(13, "rows", "I", aI 2), (16, "columns", "I", aI 3), (25, "costs", "[D", aR 1), (51, "surpluses", "[I", aR 2), (56, "starts", "[I", aR 3), (63, "entryRows", "[I", aR 4), (70, "entryValues", "[D", aR 5), (71, "basis", "[I", aR 6), (74, "basicIn", "[I", aR 7), (86, "blockShift", "I", aI 14), (89, "inverse", "[[D", aR 8), (99, "values", "[D", aR 10), (102, "reduced", "[D", aR 11), (105, "sides", "[D", aR 12), (108, "pivotRow", "[D", aR 13), (111, "pivotColumn", "[D", aR 14), (114, "stepColumn", "[D", aR 15), (117, "picked", "[I", aR 16), (120, "pivotRows", "[I", aR 17), (174, "pivotsSinceReinversion", "I", aI u), (206, "reducedCostsChecked", "Z", aI r)]
theorem lw {Z : State} {a0 : Array Value} (hw : HW Z a0) (u r : Int32) : LW Z a0 DSn (fe u r) := And.intro (wd hw 56 rfl) (And.intro (wd hw 58 rfl) (And.intro (wd hw 69 rfl) (And.intro (wd hw 82 rfl) (And.intro (wd hw 93 rfl) (And.intro (wd hw 97 rfl) (And.intro (wd hw 103 rfl) (And.intro (wd hw 105 rfl) (And.intro (wd hw 107 rfl) (And.intro (wd hw 132 rfl) (And.intro (wd hw 135 rfl) (And.intro (wd hw 138 rfl) (And.intro (wd hw 140 rfl) (And.intro (wd hw 142 rfl) (And.intro (wd hw 144 rfl) (And.intro (wd hw 146 rfl) (And.intro (wd hw 148 rfl) (And.intro (wd hw 150 rfl) (And.intro (wd hw 152 rfl) (And.intro (wd hw 172 rfl) (And.intro (wd hw 174 rfl) (trivial)))))))))))))))))))))
def FLD : List (String × String) := [("rows", "I"), ("columns", "I"), ("costs", "[D"), ("surpluses", "[I"), ("starts", "[I"), ("entryRows", "[I"), ("entryValues", "[D"), ("basis", "[I"), ("basicIn", "[I"), ("blockShift", "I"), ("inverse", "[[D"), ("values", "[D"), ("reduced", "[D"), ("sides", "[D"), ("pivotRow", "[D"), ("pivotColumn", "[D"), ("stepColumn", "[D"), ("picked", "[I"), ("pivotRows", "[I"), ("pivotsSinceReinversion", "I"), ("reducedCostsChecked", "Z")]
theorem ldF {Z : State} {a0 : Array Value} (hw : HW Z a0) : ∀ (i : Nat) (f d : String), FLD[i]? = some (f, d) → Laid Z a0 DSn DSn f d ∧ ∃ t, parseFieldDescriptor d = some t
  | 0, _, _, q => by cases q; exact ⟨(Or.inr (wd hw 57 rfl)), .int, by decide⟩
  | 1, _, _, q => by cases q; exact ⟨(Or.inr (wd hw 59 rfl)), .int, by decide⟩
  | 2, _, _, q => by cases q; exact ⟨(Or.inr (wd hw 70 rfl)), (.array .double), by decide⟩
  | 3, _, _, q => by cases q; exact ⟨(Or.inr (wd hw 83 rfl)), (.array .int), by decide⟩
  | 4, _, _, q => by cases q; exact ⟨(Or.inr (wd hw 94 rfl)), (.array .int), by decide⟩
  | 5, _, _, q => by cases q; exact ⟨(Or.inr (wd hw 98 rfl)), (.array .int), by decide⟩
  | 6, _, _, q => by cases q; exact ⟨(Or.inr (wd hw 104 rfl)), (.array .double), by decide⟩
  | 7, _, _, q => by cases q; exact ⟨(Or.inr (wd hw 106 rfl)), (.array .int), by decide⟩
  | 8, _, _, q => by cases q; exact ⟨(Or.inr (wd hw 108 rfl)), (.array .int), by decide⟩
  | 9, _, _, q => by cases q; exact ⟨(Or.inr (wd hw 133 rfl)), .int, by decide⟩
  | 10, _, _, q => by cases q; exact ⟨(Or.inr (wd hw 136 rfl)), (.array (.array .double)), by decide⟩
  | 11, _, _, q => by cases q; exact ⟨(Or.inr (wd hw 139 rfl)), (.array .double), by decide⟩
  | 12, _, _, q => by cases q; exact ⟨(Or.inr (wd hw 141 rfl)), (.array .double), by decide⟩
  | 13, _, _, q => by cases q; exact ⟨(Or.inr (wd hw 143 rfl)), (.array .double), by decide⟩
  | 14, _, _, q => by cases q; exact ⟨(Or.inr (wd hw 145 rfl)), (.array .double), by decide⟩
  | 15, _, _, q => by cases q; exact ⟨(Or.inr (wd hw 147 rfl)), (.array .double), by decide⟩
  | 16, _, _, q => by cases q; exact ⟨(Or.inr (wd hw 149 rfl)), (.array .double), by decide⟩
  | 17, _, _, q => by cases q; exact ⟨(Or.inr (wd hw 151 rfl)), (.array .int), by decide⟩
  | 18, _, _, q => by cases q; exact ⟨(Or.inr (wd hw 153 rfl)), (.array .int), by decide⟩
  | 19, _, _, q => by cases q; exact ⟨(Or.inl (wd hw 173 rfl)), .int, by decide⟩
  | 20, _, _, q => by cases q; exact ⟨(Or.inl (wd hw 175 rfl)), .boolean, by decide⟩
  | _ + 21, _, _, q => by simp [FLD] at q
theorem oth {Z : State} {a0 : Array Value} {h h' : Heap} {a : Addr} {v v' : Value} (hw : HW Z a0) (i j : Nat) {f d f' d' : String} (hi : FLD[i]? = some (f, d)) (hj : FLD[j]? = some (f', d')) (hne : f ≠ f') (F : Fld Z h a DSn f d v) (W : Wr h h' a (Jvm.RoadKit.slotOf Z DSn f' d') v') : Fld Z h' a DSn f d v := by
  obtain ⟨l1, t1, p1⟩ := ldF hw i f d hi
  obtain ⟨l2, t2, p2⟩ := ldF hw j f' d' hj
  exact Fld.other W F (Or.inr (slot_ne l1 l2 hne p1 p2))
theorem fld_ne {i j : Nat} {f d f' d' : String} (hi : FLD[i]? = some (f, d)) (hj : FLD[j]? = some (f', d')) (q : i ≠ j) : f ≠ f' := by
  intro e
  have h1 : (FLD.map (·.1))[i]? = some f := by rw [List.getElem?_map, hi]; rfl
  have h2 : (FLD.map (·.1))[j]? = some f := by rw [List.getElem?_map, hj, e]; rfl
  exact q ((List.getElem?_inj (List.getElem?_eq_some_iff.mp h1).1 (by decide)).mp (h1.trans h2.symm))
theorem fdp_rest {Z : State} {a0 : Array Value} {h h' : Heap} {a : Addr} {v : Value} {x : Nat → Addr} (hw : HW Z a0) {j : Nat} {f' d' : String} (hj : FLD[j]? = some (f', d')) (W : Wr h h' a (Jvm.RoadKit.slotOf Z DSn f' d') v) : ∀ {fl : List (Nat × String × String × AW)} {k : Nat}, (∀ i y, fl[i]? = some y → FLD[k + i]? = some (y.2.1, y.2.2.1)) → j < k → FD Z h a DSn x fl → FD Z h' a DSn x fl
  | [], _, _, _, _ => trivial
  | y :: r, k, q, g, D => ⟨oth hw k j (q 0 y rfl) hj (fld_ne (q 0 y rfl) hj (by omega)) D.1 W, fdp_rest hw hj W (k := k + 1) (fun i z hz => by have := q (i + 1) z (by simpa using hz); rwa [Nat.add_right_comm, Nat.add_assoc]) (by omega) D.2⟩
theorem fdp_at {Z : State} {a0 : Array Value} {h h' : Heap} {a : Addr} {w : AW} {x : Nat → Addr} (hw : HW Z a0) {j : Nat} {f' d' : String} (hj : FLD[j]? = some (f', d')) (W : Wr h h' a (Jvm.RoadKit.slotOf Z DSn f' d') (cv x w)) : ∀ {fl : List (Nat × String × String × AW)} {k m : Nat}, (∀ i y, fl[i]? = some y → FLD[k + i]? = some (y.2.1, y.2.2.1)) → k + m = j → FD Z h a DSn x fl → FD Z h' a DSn x (fs fl m w)
  | [], _, _, _, _, _ => trivial
  | (i, n, d, u) :: r, k, 0, q, g, D => by
    have e := (q 0 _ rfl).symm.trans (show FLD[k + 0]? = some (f', d') by rw [g]; exact hj)
    cases e
    exact ⟨D.1.same W, fdp_rest hw hj W (k := k + 1) (fun i z hz => by have := q (i + 1) z (by simpa using hz); rwa [Nat.add_right_comm, Nat.add_assoc]) (by omega) D.2⟩
  | y :: r, k, m + 1, q, g, D => ⟨oth hw k j (q 0 y rfl) hj (fld_ne (q 0 y rfl) hj (by omega)) D.1 W, fdp_at hw hj W (k := k + 1) (m := m) (fun i z hz => by have := q (i + 1) z (by simpa using hz); rwa [Nat.add_right_comm, Nat.add_assoc]) (by omega) D.2⟩
theorem fdp {Z : State} {a0 : Array Value} {h h' : Heap} {a : Addr} {x : Nat → Addr} (hw : HW Z a0) (j : Nat) (w : AW) {f' d' : String} {fl : List (Nat × String × String × AW)} (D : FD Z h a DSn x fl) (q : fl.map (fun y => (y.2.1, y.2.2.1)) = FLD) (hj : FLD[j]? = some (f', d')) (W : Wr h h' a (Jvm.RoadKit.slotOf Z DSn f' d') (cv x w)) : FD Z h' a DSn x (fs fl j w) :=
  fdp_at hw hj W (k := 0) (fun i y hy => by rw [Nat.zero_add, ← q, List.getElem?_map, hy]; rfl) (by omega) D
theorem OB_w1 {Z : State} {a0 : Array Value} {h h' : Heap} {x : Nat → Addr} {u r v : Int32} (hw : HW Z a0) (O : OB Z h x DSn (fe u r)) (W : Wr h h' (x 0) (Jvm.RoadKit.slotOf Z DSn "pivotsSinceReinversion" "I") (.int v)) : OB Z h' x DSn (fe v r) := by
  obtain ⟨E, f0, f1, f2, f3, f4, f5, f6, f7, f8, f9, f10, f11, f12, f13, f14, f15, f16, f17, f18, f19, f20, -⟩ := O
  exact And.intro (E.keep (Keep.of_wr W)) (And.intro (oth hw 0 19 rfl rfl (by decide) f0 W) (And.intro (oth hw 1 19 rfl rfl (by decide) f1 W) (And.intro (oth hw 2 19 rfl rfl (by decide) f2 W) (And.intro (oth hw 3 19 rfl rfl (by decide) f3 W) (And.intro (oth hw 4 19 rfl rfl (by decide) f4 W) (And.intro (oth hw 5 19 rfl rfl (by decide) f5 W) (And.intro (oth hw 6 19 rfl rfl (by decide) f6 W) (And.intro (oth hw 7 19 rfl rfl (by decide) f7 W) (And.intro (oth hw 8 19 rfl rfl (by decide) f8 W) (And.intro (oth hw 9 19 rfl rfl (by decide) f9 W) (And.intro (oth hw 10 19 rfl rfl (by decide) f10 W) (And.intro (oth hw 11 19 rfl rfl (by decide) f11 W) (And.intro (oth hw 12 19 rfl rfl (by decide) f12 W) (And.intro (oth hw 13 19 rfl rfl (by decide) f13 W) (And.intro (oth hw 14 19 rfl rfl (by decide) f14 W) (And.intro (oth hw 15 19 rfl rfl (by decide) f15 W) (And.intro (oth hw 16 19 rfl rfl (by decide) f16 W) (And.intro (oth hw 17 19 rfl rfl (by decide) f17 W) (And.intro (oth hw 18 19 rfl rfl (by decide) f18 W) (And.intro (f19.same W) (And.intro (oth hw 20 19 rfl rfl (by decide) f20 W) (trivial))))))))))))))))))))))
section Ownw1
variable {p : Program} {l : Launch} {e : Env} {R : Room} {s : State} {m : MethodId} {args : Array Value} {below : List Frame} {meth : Method} {c : Code} {T : State} {cells slots cells' slots' : Nat} {Z : State} {a0 : Array Value} {h h' : Heap} {n0 : Nat} {Q : Option Value → Heap → Prop} {own nm : String} {bytes : ByteArray} {maxL : Nat} {ret : Option FieldType} {pc pc' pt : Nat} {Ls : Array Slot} {stk : List Value} {x : Nat → Addr} {t : List (List (Nat × Instr × Nat))} {fe0 : List (Nat × String × String × AW)} {ie : List (Nat × List Int32)} {L L' S S' : List AW} {h0 : Heap}
theorem gpsr (K : KX p s m meth c Z a0 DSn nm bytes maxL ret t fe0) (hw : HW Z a0) {u r v : Int32} (O : OB Z h x DSn (fe u r)) (N : NX n0 x) (hl : lk t pc = some (.putfield 174, 3)) (k : ∀ h', Keep h h' [x 0] → OB Z h' x DSn (fe v r) → GH p l e R s m args below meth c n0 Q h' cells slots (FA m x (pc + 3) L S)) : GH p l e R s m args below meth c n0 Q h cells slots (FA m x pc L (aI v :: aR 0 :: S)) := fun T X e => by
  have O' := O
  obtain ⟨E, f0, f1, f2, f3, f4, f5, f6, f7, f8, f9, f10, f11, f12, f13, f14, f15, f16, f17, f18, f19, f20, -⟩ := O
  exact go_putF (host := "") K.1 X (Or.inl (wd hw 172 rfl)) Via.refl e f19 E (Or.inl ((wd hw 173 rfl))) (wd hw 49 rfl) (ty := .int) (by decide) rfl rfl N.1 (K.d hl) rfl fun T' h' X' e' W => k h' (Keep.of_wr W) (OB_w1 hw O' W) T' X' e'
end Ownw1
theorem OB_w2 {Z : State} {a0 : Array Value} {h h' : Heap} {x : Nat → Addr} {u r v : Int32} (hw : HW Z a0) (O : OB Z h x DSn (fe u r)) (W : Wr h h' (x 0) (Jvm.RoadKit.slotOf Z DSn "reducedCostsChecked" "Z") (.int v)) : OB Z h' x DSn (fe u v) := by
  obtain ⟨E, f0, f1, f2, f3, f4, f5, f6, f7, f8, f9, f10, f11, f12, f13, f14, f15, f16, f17, f18, f19, f20, -⟩ := O
  exact And.intro (E.keep (Keep.of_wr W)) (And.intro (oth hw 0 20 rfl rfl (by decide) f0 W) (And.intro (oth hw 1 20 rfl rfl (by decide) f1 W) (And.intro (oth hw 2 20 rfl rfl (by decide) f2 W) (And.intro (oth hw 3 20 rfl rfl (by decide) f3 W) (And.intro (oth hw 4 20 rfl rfl (by decide) f4 W) (And.intro (oth hw 5 20 rfl rfl (by decide) f5 W) (And.intro (oth hw 6 20 rfl rfl (by decide) f6 W) (And.intro (oth hw 7 20 rfl rfl (by decide) f7 W) (And.intro (oth hw 8 20 rfl rfl (by decide) f8 W) (And.intro (oth hw 9 20 rfl rfl (by decide) f9 W) (And.intro (oth hw 10 20 rfl rfl (by decide) f10 W) (And.intro (oth hw 11 20 rfl rfl (by decide) f11 W) (And.intro (oth hw 12 20 rfl rfl (by decide) f12 W) (And.intro (oth hw 13 20 rfl rfl (by decide) f13 W) (And.intro (oth hw 14 20 rfl rfl (by decide) f14 W) (And.intro (oth hw 15 20 rfl rfl (by decide) f15 W) (And.intro (oth hw 16 20 rfl rfl (by decide) f16 W) (And.intro (oth hw 17 20 rfl rfl (by decide) f17 W) (And.intro (oth hw 18 20 rfl rfl (by decide) f18 W) (And.intro (oth hw 19 20 rfl rfl (by decide) f19 W) (And.intro (f20.same W) (trivial))))))))))))))))))))))
section Ownw2
variable {p : Program} {l : Launch} {e : Env} {R : Room} {s : State} {m : MethodId} {args : Array Value} {below : List Frame} {meth : Method} {c : Code} {T : State} {cells slots cells' slots' : Nat} {Z : State} {a0 : Array Value} {h h' : Heap} {n0 : Nat} {Q : Option Value → Heap → Prop} {own nm : String} {bytes : ByteArray} {maxL : Nat} {ret : Option FieldType} {pc pc' pt : Nat} {Ls : Array Slot} {stk : List Value} {x : Nat → Addr} {t : List (List (Nat × Instr × Nat))} {fe0 : List (Nat × String × String × AW)} {ie : List (Nat × List Int32)} {L L' S S' : List AW} {h0 : Heap}
theorem grcc (K : KX p s m meth c Z a0 DSn nm bytes maxL ret t fe0) (hw : HW Z a0) {u r v : Int32} (O : OB Z h x DSn (fe u r)) (N : NX n0 x) (hz : v = 0 ∨ v = 1) (hl : lk t pc = some (.putfield 206, 3)) (k : ∀ h', Keep h h' [x 0] → OB Z h' x DSn (fe u v) → GH p l e R s m args below meth c n0 Q h' cells slots (FA m x (pc + 3) L S)) : GH p l e R s m args below meth c n0 Q h cells slots (FA m x pc L (aI v :: aR 0 :: S)) := fun T X e => by
  have O' := O
  obtain ⟨E, f0, f1, f2, f3, f4, f5, f6, f7, f8, f9, f10, f11, f12, f13, f14, f15, f16, f17, f18, f19, f20, -⟩ := O
  exact go_putF (host := "") K.1 X (Or.inl (wd hw 174 rfl)) Via.refl e f20 E (Or.inl ((wd hw 175 rfl))) (wd hw 49 rfl) (ty := .boolean) (by decide) (by rcases hz with rfl | rfl <;> rfl) (by rcases hz with rfl | rfl <;> rfl) N.1 (K.d hl) rfl fun T' h' X' e' W => k h' (Keep.of_wr W) (OB_w2 hw O' W) T' X' e'
end Ownw2
theorem KX.re {p : Program} {s : State} {m : MethodId} {meth : Method} {c : Code} {Z : State} {a0 : Array Value} {nm : String} {bytes : ByteArray} {maxL : Nat} {ret : Option FieldType} {t : List (List (Nat × Instr × Nat))} {f0 : List (Nat × String × String × AW)} (K : KX p s m meth c Z a0 DSn nm bytes maxL ret t f0) (hw : HW Z a0) (u r : Int32) : KX p s m meth c Z a0 DSn nm bytes maxL ret t (fe u r) := ⟨K.1, K.2.1, lw hw u r⟩
theorem wabs {Z : State} {a0 : Array Value} (hw : HW Z a0) : WM Z a0 DSn 139 Fl.Abs.absDN Fl.Abs.absDCode 2 := ⟨(wd hw 198 rfl), (wd hw 199 rfl), (wd hw 87 rfl), wd hw 200 rfl⟩
theorem wmax {Z : State} {a0 : Array Value} (hw : HW Z a0) : WM Z a0 DSn 199 Fl.Abs.maxDN Fl.Abs.maxDCode 4 := ⟨(wd hw 206 rfl), (wd hw 207 rfl), (wd hw 87 rfl), wd hw 208 rfl⟩
theorem wmin {Z : State} {a0 : Array Value} (hw : HW Z a0) : WM Z a0 DSn 202 Fl.Abs.minDN Fl.Abs.minDCode 4 := ⟨(wd hw 209 rfl), (wd hw 210 rfl), (wd hw 87 rfl), wd hw 211 rfl⟩
theorem wclone {Z : State} {a0 : Array Value} (hw : HW Z a0) : ((Cond.methodLink DSn 19 ⟨"[D", "clone", "()Ljava/lang/Object;"⟩).before a0 Z = true ∧ (Cond.sameMethod "[D" "java/lang/Object" "clone" "()Ljava/lang/Object;").before a0 Z = true ∧ (Cond.native ⟨"java/lang/Object", "clone", "()Ljava/lang/Object;"⟩).before a0 Z = true) ∧ (Cond.instanceMethod ⟨"java/lang/Object", "clone", "()Ljava/lang/Object;"⟩).before a0 Z = true ∧ (Cond.selects "[D" ⟨"[D", "clone", "()Ljava/lang/Object;"⟩ ⟨"java/lang/Object", "clone", "()Ljava/lang/Object;"⟩).before a0 Z = true ∧ (Cond.castable "[D" "java/lang/Cloneable").before a0 Z = true := ⟨⟨(wd hw 60 rfl), (wd hw 61 rfl), (wd hw 65 rfl)⟩, (wd hw 63 rfl), (wd hw 64 rfl), (wd hw 66 rfl)⟩
theorem wcopy {Z : State} {a0 : Array Value} (hw : HW Z a0) : (Cond.methodLink DSn 220 Jvm.Stand.acN).before a0 Z = true ∧ (Cond.native Jvm.Stand.acN).before a0 Z = true ∧ (Cond.static Jvm.Stand.acN).before a0 Z = true ∧ (Cond.initialized "java/lang/System").before a0 Z = true := ⟨(wd hw 171 rfl), (wd hw 92 rfl), (wd hw 90 rfl), (wd hw 91 rfl)⟩
theorem w_filli {Z : State} {a0 : Array Value} (hw : HW Z a0) : ((Cond.methodLink DSn 242 ⟨"java/util/Arrays", "fill", "([II)V"⟩).before a0 Z = true ∧ (Cond.static ⟨"java/util/Arrays", "fill", "([II)V"⟩).before a0 Z = true ∧ (Cond.initialized "java/util/Arrays").before a0 Z = true ∧ (Cond.code ⟨"java/util/Arrays", "fill", "([II)V"⟩ jdk_65_method_103_code 4 none).before a0 Z = true) ∧ ((⟨"java/util/Arrays", "fill", "([II)V"⟩ : MethodName).cls ≠ "java/lang/invoke/MethodHandle" ∧ (⟨"java/util/Arrays", "fill", "([II)V"⟩ : MethodName).cls ≠ "java/lang/invoke/VarHandle") ∧ ∀ sig, parseMethodDescriptor (⟨"java/util/Arrays", "fill", "([II)V"⟩ : MethodName).desc = some sig → 2 = sig.parameters.length := ⟨⟨(wd hw 158 rfl), (wd hw 23 rfl), (wd hw 24 rfl), wd hw 25 rfl⟩, by decide, lenK pd_0 rfl⟩
theorem w_filld {Z : State} {a0 : Array Value} (hw : HW Z a0) : ((Cond.methodLink DSn 226 ⟨"java/util/Arrays", "fill", "([DD)V"⟩).before a0 Z = true ∧ (Cond.static ⟨"java/util/Arrays", "fill", "([DD)V"⟩).before a0 Z = true ∧ (Cond.initialized "java/util/Arrays").before a0 Z = true ∧ (Cond.code ⟨"java/util/Arrays", "fill", "([DD)V"⟩ jdk_65_method_113_code 5 none).before a0 Z = true) ∧ ((⟨"java/util/Arrays", "fill", "([DD)V"⟩ : MethodName).cls ≠ "java/lang/invoke/MethodHandle" ∧ (⟨"java/util/Arrays", "fill", "([DD)V"⟩ : MethodName).cls ≠ "java/lang/invoke/VarHandle") ∧ ∀ sig, parseMethodDescriptor (⟨"java/util/Arrays", "fill", "([DD)V"⟩ : MethodName).desc = some sig → 2 = sig.parameters.length := ⟨⟨(wd hw 159 rfl), (wd hw 160 rfl), (wd hw 24 rfl), wd hw 161 rfl⟩, by decide, lenK pd_5 rfl⟩
def t19 : List (List (Nat × Instr × Nat)) := [[(0,.aload_n 0,1),(1,.getfield 89,3),(4,.iload_n 1,1),(5,.aload_n 0,1),(6,.getfield 86,3),(9,.iushr,1),(10,.aaload,1),(11,.areturn,1)]]
theorem k19 : TB prog_12_method_7_code t19 := tb_of (by decide +kernel)
theorem pd_6 : parseMethodDescriptor "(I)[D" = some ⟨[.int], some (.array .double)⟩ := by decide +kernel
theorem w_block {Z : State} {a0 : Array Value} (hw : HW Z a0) : WP Z a0 DSn 188 ⟨DSn, "block", "(I)[D"⟩ prog_12_method_7_code 2 (some (.array .double)) 1 := ⟨⟨(wd hw 162 rfl), (wd hw 163 rfl), own_psel (wd hw 49 rfl) (wd hw 164 rfl) (wd hw 163 rfl) (by decide), (wd hw 164 rfl), wd hw 165 rfl, (wd hw 50 rfl)⟩, by decide, lenK pd_6 rfl⟩
theorem rmBlk0 (hw : HW Z a0) (x : Nat → Addr) (uu rr u6_0 u6_1 u7_0 u7_1 u7_2 u7_3 u7_4 u16_0 u16_1 u17_0 u17_1 : Int32) (zs0 zs1 zc0 zc2 : Int) (h0 : Heap) (N : NX n0 x) (O : OB Z h0 x DSn (fe uu rr)) (V : EV Z h0 x [(2,[-1,1]),(3,[0,1,2,3]),(4,[0,1,1]),(6,[u6_0,u6_1]),(7,[u7_0,u7_1,u7_2,u7_3,u7_4]),(16,[u16_0,u16_1]),(17,[u17_0,u17_1])]) (B : ZB zs0 zs1 zc0 zc2) :
    Con l Z n0 ⟨DSn, "block", "(I)[D"⟩ prog_12_method_7_code 2 (some (.array .double)) ⟨0, 0, 0, 0⟩ #[(.ref (x 0)), (.int 0)] h0 (fun v h => v = some (.ref (x 9)) ∧ h = h0) := by
 refine con_of (plainFor_of_name pn_DS) ?_
 intro p e s m below meth c T0 K0 X0 e0
 have K : KX p s m meth c Z a0 DSn "block" prog_12_method_7_code 2 (some (.array .double)) t19 (fe uu rr) := ⟨K0, k19, lw hw uu rr⟩
 refine gE (x := x) (L := [aR 0,aI 0]) (by simp [entryFrame, mkF, argsToLocals, Value.category, gL, gS, cs, cv]) X0 e0 ?_
 refine gR0 K O V 11 [aR 9] rfl ?_
 exact gra K rfl rfl rfl rfl (by decide) (by decide) ⟨rfl, rfl⟩
def t20 : List (List (Nat × Instr × Nat)) := [[(0,.iload_n 1,1),(1,.iconst 1,1),(2,.aload_n 0,1),(3,.getfield 86,3),(6,.ishl,1),(7,.iconst 1,1),(8,.isub,1),(9,.iand,1),(10,.aload_n 0,1),(11,.getfield 13,3),(14,.imul,1),(15,.ireturn,1)]]
theorem k20 : TB prog_12_method_8_code t20 := tb_of (by decide +kernel)
theorem w_first {Z : State} {a0 : Array Value} (hw : HW Z a0) : WP Z a0 DSn 192 ⟨DSn, "first", "(I)I"⟩ prog_12_method_8_code 2 (some .int) 1 := ⟨⟨(wd hw 166 rfl), (wd hw 167 rfl), own_psel (wd hw 49 rfl) (wd hw 168 rfl) (wd hw 167 rfl) (by decide), (wd hw 168 rfl), wd hw 169 rfl, (wd hw 50 rfl)⟩, by decide, lenK pd_4 rfl⟩
theorem rmFst0 (hw : HW Z a0) (x : Nat → Addr) (uu rr u6_0 u6_1 u7_0 u7_1 u7_2 u7_3 u7_4 u16_0 u16_1 u17_0 u17_1 : Int32) (zs0 zs1 zc0 zc2 : Int) (h0 : Heap) (N : NX n0 x) (O : OB Z h0 x DSn (fe uu rr)) (V : EV Z h0 x [(2,[-1,1]),(3,[0,1,2,3]),(4,[0,1,1]),(6,[u6_0,u6_1]),(7,[u7_0,u7_1,u7_2,u7_3,u7_4]),(16,[u16_0,u16_1]),(17,[u17_0,u17_1])]) (B : ZB zs0 zs1 zc0 zc2) :
    Con l Z n0 ⟨DSn, "first", "(I)I"⟩ prog_12_method_8_code 2 (some .int) ⟨0, 0, 0, 0⟩ #[(.ref (x 0)), (.int 0)] h0 (fun v h => v = some (.int 0) ∧ h = h0) := by
 refine con_of (plainFor_of_name pn_DS) ?_
 intro p e s m below meth c T0 K0 X0 e0
 have K : KX p s m meth c Z a0 DSn "first" prog_12_method_8_code 2 (some .int) t20 (fe uu rr) := ⟨K0, k20, lw hw uu rr⟩
 refine gE (x := x) (L := [aR 0,aI 0]) (by simp [entryFrame, mkF, argsToLocals, Value.category, gL, gS, cs, cv]) X0 e0 ?_
 refine gR0 K O V 15 [aI 0] rfl ?_
 exact gri K rfl (by decide) (by decide) ⟨rfl, rfl⟩
theorem rmBlk1 (hw : HW Z a0) (x : Nat → Addr) (uu rr u6_0 u6_1 u7_0 u7_1 u7_2 u7_3 u7_4 u16_0 u16_1 u17_0 u17_1 : Int32) (zs0 zs1 zc0 zc2 : Int) (h0 : Heap) (N : NX n0 x) (O : OB Z h0 x DSn (fe uu rr)) (V : EV Z h0 x [(2,[-1,1]),(3,[0,1,2,3]),(4,[0,1,1]),(6,[u6_0,u6_1]),(7,[u7_0,u7_1,u7_2,u7_3,u7_4]),(16,[u16_0,u16_1]),(17,[u17_0,u17_1])]) (B : ZB zs0 zs1 zc0 zc2) :
    Con l Z n0 ⟨DSn, "block", "(I)[D"⟩ prog_12_method_7_code 2 (some (.array .double)) ⟨0, 0, 0, 0⟩ #[(.ref (x 0)), (.int 1)] h0 (fun v h => v = some (.ref (x 9)) ∧ h = h0) := by
 refine con_of (plainFor_of_name pn_DS) ?_
 intro p e s m below meth c T0 K0 X0 e0
 have K : KX p s m meth c Z a0 DSn "block" prog_12_method_7_code 2 (some (.array .double)) t19 (fe uu rr) := ⟨K0, k19, lw hw uu rr⟩
 refine gE (x := x) (L := [aR 0,aI 1]) (by simp [entryFrame, mkF, argsToLocals, Value.category, gL, gS, cs, cv]) X0 e0 ?_
 refine gR0 K O V 11 [aR 9] rfl ?_
 exact gra K rfl rfl rfl rfl (by decide) (by decide) ⟨rfl, rfl⟩
theorem rmFst1 (hw : HW Z a0) (x : Nat → Addr) (uu rr u6_0 u6_1 u7_0 u7_1 u7_2 u7_3 u7_4 u16_0 u16_1 u17_0 u17_1 : Int32) (zs0 zs1 zc0 zc2 : Int) (h0 : Heap) (N : NX n0 x) (O : OB Z h0 x DSn (fe uu rr)) (V : EV Z h0 x [(2,[-1,1]),(3,[0,1,2,3]),(4,[0,1,1]),(6,[u6_0,u6_1]),(7,[u7_0,u7_1,u7_2,u7_3,u7_4]),(16,[u16_0,u16_1]),(17,[u17_0,u17_1])]) (B : ZB zs0 zs1 zc0 zc2) :
    Con l Z n0 ⟨DSn, "first", "(I)I"⟩ prog_12_method_8_code 2 (some .int) ⟨0, 0, 0, 0⟩ #[(.ref (x 0)), (.int 1)] h0 (fun v h => v = some (.int 2) ∧ h = h0) := by
 refine con_of (plainFor_of_name pn_DS) ?_
 intro p e s m below meth c T0 K0 X0 e0
 have K : KX p s m meth c Z a0 DSn "first" prog_12_method_8_code 2 (some .int) t20 (fe uu rr) := ⟨K0, k20, lw hw uu rr⟩
 refine gE (x := x) (L := [aR 0,aI 1]) (by simp [entryFrame, mkF, argsToLocals, Value.category, gL, gS, cs, cv]) X0 e0 ?_
 refine gR0 K O V 15 [aI 2] rfl ?_
 exact gri K rfl (by decide) (by decide) ⟨rfl, rfl⟩
def t17 : List (List (Nat × Instr × Nat)) := [[(0,.aload_n 0,1),(1,.getfield 74,3),(4,.iconst (-1),1),(5,.invokestatic 242,3),(8,.aload_n 0,1),(9,.getfield 89,3),(12,.astore_n 1,1),(13,.aload_n 1,1),(14,.arraylength,1),(15,.istore_n 2,1)],
  [(16,.iconst 0,1),(17,.istore_n 3,1),(18,.iload_n 3,1),(19,.iload_n 2,1),(20,.if_icmp .ge 20,3),(23,.aload_n 1,1),(24,.iload_n 3,1),(25,.aaload,1),(26,.astore 4,2),(28,.aload 4,2),(30,.dconst 0,1),(31,.invokestatic 226,3)],
  [(34,.iinc 3 1,3),(37,.goto (-19),3),(40,.iconst 0,1),(41,.istore_n 1,1),(42,.iload_n 1,1),(43,.aload_n 0,1),(44,.getfield 13,3),(47,.if_icmp .ge 72,3)],
  [(50,.aload_n 0,1),(51,.getfield 51,3),(54,.iload_n 1,1),(55,.iaload,1),(56,.istore_n 2,1),(57,.aload_n 0,1),(58,.getfield 71,3),(61,.iload_n 1,1),(62,.iload_n 2,1),(63,.ifCond .lt 7,3)],
  [(66,.iload_n 2,1),(67,.goto 9,3),(70,.aload_n 0,1),(71,.getfield 16,3),(74,.iload_n 1,1),(75,.iadd,1),(76,.iastore,1),(77,.aload_n 0,1),(78,.getfield 74,3)],
  [(81,.aload_n 0,1),(82,.getfield 71,3),(85,.iload_n 1,1),(86,.iaload,1),(87,.iload_n 1,1),(88,.iastore,1),(89,.aload_n 0,1),(90,.iload_n 1,1),(91,.invokevirtual 188,3),(94,.aload_n 0,1),(95,.iload_n 1,1)],
  [(96,.invokevirtual 192,3),(99,.iload_n 1,1),(100,.iadd,1),(101,.iload_n 2,1),(102,.ifCond .lt 9,3),(105,.ldc2_w 195,3),(108,.goto 4,3),(111,.dconst 1,1)],
  [(112,.dastore,1),(113,.iinc 1 1,3),(116,.goto (-74),3),(119,.aload_n 0,1),(120,.getfield 25,3),(123,.iconst 0,1),(124,.aload_n 0,1),(125,.getfield 102,3)],
  [(128,.iconst 0,1),(129,.aload_n 0,1),(130,.getfield 16,3),(133,.invokestatic 220,3),(136,.aload_n 0,1),(137,.getfield 51,3),(140,.astore_n 1,1),(141,.aload_n 1,1),(142,.arraylength,1),(143,.istore_n 2,1)],
  [(144,.iconst 0,1),(145,.istore_n 3,1),(146,.iload_n 3,1),(147,.iload_n 2,1),(148,.if_icmp .ge 27,3),(151,.aload_n 1,1),(152,.iload_n 3,1),(153,.iaload,1),(154,.istore 4,2),(156,.iload 4,2),(158,.ifCond .lt 11,3)],
  [(161,.aload_n 0,1),(162,.getfield 102,3),(165,.iload 4,2),(167,.dconst 0,1),(168,.dastore,1),(169,.iinc 3 1,3),(172,.goto (-26),3),(175,.aload_n 0,1)],
  [(176,.iconst 0,1),(177,.putfield 174,3),(180,.aload_n 0,1),(181,.iconst 0,1),(182,.putfield 206,3),(185,.aload_n 0,1),(186,.invokevirtual 239,3),(189,.return_,1)]]
theorem k17 : TB prog_12_method_21_code t17 := tb_of (by decide +kernel)
def t21 : List (List (Nat × Instr × Nat)) := [[(0,.iconst 0,1),(1,.istore_n 1,1),(2,.iconst 0,1),(3,.istore_n 2,1),(4,.iload_n 2,1),(5,.aload_n 0,1),(6,.getfield 13,3),(9,.if_icmp .ge 30,3),(12,.aload_n 0,1),(13,.getfield 105,3)],
  [(16,.iload_n 2,1),(17,.daload,1),(18,.dconst 0,1),(19,.dcmp .l,1),(20,.ifCond .eq 13,3),(23,.aload_n 0,1),(24,.getfield 117,3),(27,.iload_n 1,1),(28,.iinc 1 1,3),(31,.iload_n 2,1)],
  [(32,.iastore,1),(33,.iinc 2 1,3),(36,.goto (-32),3),(39,.iconst 0,1),(40,.istore_n 2,1),(41,.aload_n 0,1),(42,.getfield 89,3),(45,.astore_n 3,1),(46,.aload_n 3,1),(47,.arraylength,1)],
  [(48,.istore 4,2),(50,.iconst 0,1),(51,.istore 5,2),(53,.iload 5,2),(55,.iload 4,2),(57,.if_icmp .ge 97,3),(60,.aload_n 3,1),(61,.iload 5,2),(63,.aaload,1)],
  [(64,.astore 6,2),(66,.iconst 0,1),(67,.istore 7,2),(69,.iload 7,2),(71,.aload 6,2),(73,.arraylength,1),(74,.if_icmp .ge 74,3),(77,.dconst 0,1),(78,.dstore 8,2)],
  [(80,.iconst 0,1),(81,.istore 10,2),(83,.iload 10,2),(85,.iload_n 1,1),(86,.if_icmp .ge 39,3),(89,.aload_n 0,1),(90,.getfield 117,3),(93,.iload 10,2),(95,.iaload,1)],
  [(96,.istore 11,2),(98,.dload 8,2),(100,.aload 6,2),(102,.iload 7,2),(104,.iload 11,2),(106,.iadd,1),(107,.daload,1),(108,.aload_n 0,1),(109,.getfield 105,3)],
  [(112,.iload 11,2),(114,.daload,1),(115,.dmul,1),(116,.dadd,1),(117,.dstore 8,2),(119,.iinc 10 1,3),(122,.goto (-39),3),(125,.aload_n 0,1),(126,.getfield 99,3)],
  [(129,.iload_n 2,1),(130,.dload 8,2),(132,.dastore,1),(133,.iload 7,2),(135,.aload_n 0,1),(136,.getfield 13,3),(139,.iadd,1),(140,.istore 7,2),(142,.iinc 2 1,3)],
  [(145,.goto (-76),3),(148,.iinc 5 1,3),(151,.goto (-98),3),(154,.return_,1)]]
theorem k21 : TB prog_12_method_17_code t21 := tb_of (by decide +kernel)
theorem w_computeValues {Z : State} {a0 : Array Value} (hw : HW Z a0) : WP Z a0 DSn 239 ⟨DSn, "computeValues", "()V"⟩ prog_12_method_17_code 12 none 0 := ⟨⟨(wd hw 176 rfl), (wd hw 177 rfl), own_psel (wd hw 49 rfl) (wd hw 178 rfl) (wd hw 177 rfl) (by decide), (wd hw 178 rfl), wd hw 179 rfl, (wd hw 50 rfl)⟩, by decide, lenK pd_2 rfl⟩
theorem rmCV0 (hw : HW Z a0) (x : Nat → Addr) (uu rr u6_0 u6_1 u7_0 u7_1 u7_2 u7_3 u7_4 u16_0 u16_1 u17_0 u17_1 : Int32) (y10_0 y10_1 : Int) (zs0 zs1 zc0 zc2 : Int) (h0 : Heap) (N : NX n0 x) (O : OB Z h0 x DSn (fe uu rr)) (V : EV Z h0 x [(2,[-1,1]),(3,[0,1,2,3]),(4,[0,1,1]),(6,[u6_0,u6_1]),(7,[u7_0,u7_1,u7_2,u7_3,u7_4]),(16,[u16_0,u16_1]),(17,[u17_0,u17_1])]) (B : ZB zs0 zs1 zc0 zc2) (F9 : AD Z h0 (x 9) [1, 0, 0, (-1)]) (F10 : AD Z h0 (x 10) [y10_0, y10_1]) (F12 : AD Z h0 (x 12) [0, 0]) :
    Con l Z n0 ⟨DSn, "computeValues", "()V"⟩ prog_12_method_17_code 12 none ⟨0, 0, 0, 0⟩ #[(.ref (x 0))] h0 (fun v h => v = none ∧ KJ x h0 h [10,16] ∧ OB Z h x DSn (fe uu rr) ∧ EV Z h x [(2,[-1,1]),(3,[0,1,2,3]),(4,[0,1,1]),(6,[u6_0,u6_1]),(7,[u7_0,u7_1,u7_2,u7_3,u7_4]),(16,[u16_0,u16_1]),(17,[u17_0,u17_1])] ∧ AD Z h (x 10) [0, 0]) := by
 refine con_of (plainFor_of_name pn_DS) ?_
 intro p e s m below meth c T0 K0 X0 e0
 have K : KX p s m meth c Z a0 DSn "computeValues" prog_12_method_17_code 12 none t21 (fe uu rr) := ⟨K0, k21, lw hw uu rr⟩
 refine gE (x := x) (L := [aR 0,aU,aU,aU,aU,aU,aU,aU,aU,aU,aU,aU]) (by simp [entryFrame, mkF, argsToLocals, Value.category, gL, gS, cs, cv]) X0 e0 ?_
 refine gR K O V 17 ([aR 0,aI 0,aI 0]++un 9) [aI 0,aR 12] rfl ?_
 refine gdl K 0 F12 rfl rfl rfl rfl fun d0a q0a => ?_
 refine gR0 K O V 19 [aD 0,aD d0a] rfl ?_
 refine gcT K 33 (Dz.tk (cd := .eq) q0a Dz.zero (by show (0 : Int) = (0 : Int); decide)) rfl rfl rfl ?_
 refine gR K O V 17 ([aR 0,aI 0,aI 1]++un 9) [aI 1,aR 12] rfl ?_
 refine gdl K 1 F12 rfl rfl rfl rfl fun d0b q0b => ?_
 refine gR0 K O V 19 [aD 0,aD d0b] rfl ?_
 refine gcT K 33 (Dz.tk (cd := .eq) q0b Dz.zero (by show (0 : Int) = (0 : Int); decide)) rfl rfl rfl ?_
 refine gR K O V 73 ([aR 0,aI 0,aI 0,aR 8,aI 1,aI 0,aR 9,aI 0]++un 4) [aR 9,aI 0] rfl ?_
 refine gal K 4 F9 rfl rfl rfl ?_
 refine gR K O V 132 [aR 0,aI 0,aI 0,aR 8,aI 1,aI 0,aR 9,aI 0,aD 0,aS,aI 0,aU] [aD 0,aI 0,aR 10] rfl ?_
 refine gds K 0 F10 rfl rfl rfl Dz.zero (N.ge 10 rfl) rfl fun h0c (W0c : KJ x h0 h0c [10]) (f0c : AD Z h0c (x 10) [0, y10_1]) => ?_
 obtain ⟨O0d, V0d⟩ := ov N O V (js := [10]) W0c rfl rfl rfl
 refine gR K O0d V0d 73 [aR 0,aI 0,aI 1,aR 8,aI 1,aI 0,aR 9,aI 2,aD 0,aS,aI 0,aU] [aR 9,aI 2] rfl ?_
 have f0e := F9.keep W0c (nx N 9 rfl)
 refine gal K 4 f0e rfl rfl rfl ?_
 refine gR0 K O0d V0d 132 [aD 0,aI 1,aR 10] rfl ?_
 refine gds K 1 f0c rfl rfl rfl Dz.zero (N.ge 10 rfl) rfl fun h0f (W0f : KJ x h0c h0f [10]) (f0f : AD Z h0f (x 10) [0, 0]) => ?_
 have k0g := kx [10] (js' := [10]) W0c W0f rfl rfl
 obtain ⟨O0h, V0h⟩ := ov N O V (js := [10]) k0g rfl rfl rfl
 refine gR K O0h V0h 73 [aR 0,aI 0,aI 2,aR 8,aI 1,aI 0,aR 9,aI 4,aD 0,aS,aI 0,aU] [aR 9,aI 4] rfl ?_
 have f0i := F9.keep k0g (nx N 9 rfl)
 refine gal K 4 f0i rfl rfl rfl ?_
 refine gR K O0h V0h 154 [aR 0,aI 0,aI 2,aR 8,aI 1,aI 1,aR 9,aI 4,aD 0,aS,aI 0,aU] [] rfl ?_
 have k0j := km [10,16] (js := [10]) k0g rfl
 exact grv K rfl (by decide) (by decide) ⟨rfl, k0j, O0h, V0h, f0f⟩
theorem w_startOver {Z : State} {a0 : Array Value} (hw : HW Z a0) : WP Z a0 DSn 123 ⟨DSn, "startOver", "()V"⟩ prog_12_method_21_code 5 none 0 := ⟨⟨(wd hw 154 rfl), (wd hw 155 rfl), own_psel (wd hw 49 rfl) (wd hw 156 rfl) (wd hw 155 rfl) (by decide), (wd hw 156 rfl), wd hw 157 rfl, (wd hw 50 rfl)⟩, by decide, lenK pd_2 rfl⟩
theorem rmSto (hw : HW Z a0) (x : Nat → Addr) (zs0 zs1 zc0 zc2 : Int) (h0 : Heap) (N : NX n0 x) (O : OB Z h0 x DSn (fe 0 0)) (V : EV Z h0 x [(2,[-1,1]),(3,[0,1,2,3]),(4,[0,1,1]),(6,[0,0]),(7,[0,0,0,0,0]),(16,[0,0]),(17,[0,0])]) (B : ZB zs0 zs1 zc0 zc2) (F1 : AD Z h0 (x 1) [zc0, 0, zc2]) (F5 : AD Z h0 (x 5) [1, (-1), 1]) (F9 : AD Z h0 (x 9) [0, 0, 0, 0]) (F10 : AD Z h0 (x 10) [0, 0]) (F11 : AD Z h0 (x 11) [0, 0, 0]) (F12 : AD Z h0 (x 12) [0, 0]) (F13 : AD Z h0 (x 13) [0, 0, 0]) (F14 : AD Z h0 (x 14) [0, 0]) (F15 : AD Z h0 (x 15) [0, 0]) (E12 : Exa Z h0 (x 12) "[D") :
    Con l Z n0 ⟨DSn, "startOver", "()V"⟩ prog_12_method_21_code 5 none ⟨1, 0, 0, 60⟩ #[(.ref (x 0))] h0 (fun v h => v = none ∧ KJ x h0 h [0,6,7,9,10,11,16] ∧ OB Z h x DSn (fe 0 0) ∧ EV Z h x [(2,[-1,1]),(3,[0,1,2,3]),(4,[0,1,1]),(6,[3,1]),(7,[-1,1,-1,0,-1]),(16,[0,0]),(17,[0,0])] ∧ AD Z h (x 1) [zc0, 0, zc2] ∧ AD Z h (x 5) [1, (-1), 1] ∧ AD Z h (x 9) [1, 0, 0, (-1)] ∧ AD Z h (x 10) [0, 0] ∧ AD Z h (x 11) [zc0, 0, zc2] ∧ AD Z h (x 12) [0, 0] ∧ AD Z h (x 13) [0, 0, 0] ∧ AD Z h (x 14) [0, 0] ∧ AD Z h (x 15) [0, 0] ∧ Exa Z h (x 12) "[D") := by
 refine con_of (plainFor_of_name pn_DS) ?_
 intro p e s m below meth c T0 K0 X0 e0
 have K : KX p s m meth c Z a0 DSn "startOver" prog_12_method_21_code 5 none t17 (fe 0 0) := ⟨K0, k17, lw hw 0 0⟩
 refine gE (x := x) (L := [aR 0,aU,aU,aU,aU]) (by simp [entryFrame, mkF, argsToLocals, Value.category, gL, gS, cs, cv]) X0 e0 ?_
 refine gR0 K O V 5 [aI (-1),aR 7] rfl ?_
 refine gT K (w_filli hw) (rmFI5 hw (x 7) 0 0 0 0 0 h0 (N.ge 7 rfl) (EI.get (k := 7) V.2 rfl)) [] 0 rfl rfl rfl rfl (by decide) (Nat.le_of_eq rfl) (by decide) (by decide) (by decide) ?_
 rintro h0a _ ⟨rfl, (W0a : KJ x h0 h0a [7]), f0a⟩
 have O0a := O.keep W0a (nx N 0 (js := [7]) rfl)
 have V0a : EV Z h0a x [(2,[-1,1]),(3,[0,1,2,3]),(4,[0,1,1]),(6,[0,0]),(7,[-1,-1,-1,-1,-1]),(16,[0,0]),(17,[0,0])] := ⟨V.1.keep W0a (nx N 8 (js := [7]) rfl), EI.one N W0a (k := 7) (ns := [-1,-1,-1,-1,-1]) (by decide) f0a V.2 rfl⟩
 refine sh (FA m x 8 ([aR 0]++un 4) []) rfl ?_
 refine gR K O0a V0a 31 [aR 0,aR 8,aI 1,aI 0,aR 9] [aD 0,aR 9] rfl ?_
 have f0b := F9.keep W0a (nx N 9 rfl)
 refine gT K (w_filld hw) (rmFD4 hw (x 9) 0 0 0 0 h0a (N.ge 9 rfl) f0b) [] 0 rfl rfl rfl rfl (by decide) (Nat.le_of_eq rfl) (by decide) (by decide) (by decide) ?_
 rintro h0c _ ⟨rfl, (W0c : KJ x h0a h0c [9]), f0c⟩
 refine sh (FA m x 34 [aR 0,aR 8,aI 1,aI 0,aR 9] []) rfl ?_
 obtain ⟨O0d, V0d⟩ := ov N O0a V0a (js := [9]) W0c rfl rfl rfl
 refine gR K O0d V0d 76 [aR 0,aI 0,aI (-1),aI 1,aR 9] [aI 3,aI 0,aR 6] rfl ?_
 refine gist K V0d N 0 [(2,[-1,1]),(3,[0,1,2,3]),(4,[0,1,1]),(6,[3,0]),(7,[-1,-1,-1,-1,-1]),(16,[0,0]),(17,[0,0])] rfl rfl rfl rfl rfl rfl fun h0e (W0e : KJ x h0c h0e [6]) V0e => ?_
 have O0e := O0d.keep W0e (nx N 0 (js := [6]) rfl)
 refine gR0 K O0e V0e 88 [aI 0,aI 3,aR 7] rfl ?_
 refine gist K V0e N 3 [(2,[-1,1]),(3,[0,1,2,3]),(4,[0,1,1]),(6,[3,0]),(7,[-1,-1,-1,0,-1]),(16,[0,0]),(17,[0,0])] rfl rfl rfl rfl rfl rfl fun h0f (W0f : KJ x h0e h0f [7]) V0f => ?_
 have O0f := O0e.keep W0f (nx N 0 (js := [7]) rfl)
 refine gR0 K O0f V0f 91 [aI 0,aR 0] rfl ?_
 refine gPr K (w_block hw) O0f (rmBlk0 hw x 0 0 3 0 (-1) (-1) (-1) 0 (-1) 0 0 0 0 zs0 zs1 zc0 zc2 h0f N O0f V0f B) [] 0 rfl rfl rfl rfl (by decide) (Nat.le_of_eq rfl) (by decide) (by decide) (by decide) ?_
 refine gR0 K O0f V0f 96 [aI 0,aR 0,aR 9] rfl ?_
 refine gPi K (w_first hw) O0f (rmFst0 hw x 0 0 3 0 (-1) (-1) (-1) 0 (-1) 0 0 0 0 zs0 zs1 zc0 zc2 h0f N O0f V0f B) [aR 9] 1 rfl rfl rfl rfl (by decide) (Nat.le_of_eq rfl) (by decide) (by decide) (by decide) ?_
 refine gR0 K O0f V0f 112 [aD 4607182418800017408,aI 0,aR 9] rfl ?_
 have k0g := kx [6,7] (js' := [7]) W0e W0f rfl rfl
 have f0h := f0c.keep k0g (nx N 9 rfl)
 refine gds K 0 f0h rfl rfl rfl Dz.one (N.ge 9 rfl) rfl fun h0i (W0i : KJ x h0f h0i [9]) (f0i : AD Z h0i (x 9) [1, 0, 0, 0]) => ?_
 obtain ⟨O0j, V0j⟩ := ov N O0f V0f (js := [9]) W0i rfl rfl rfl
 refine gR K O0j V0j 76 [aR 0,aI 1,aI 1,aI 1,aR 9] [aI 1,aI 1,aR 6] rfl ?_
 refine gist K V0j N 1 [(2,[-1,1]),(3,[0,1,2,3]),(4,[0,1,1]),(6,[3,1]),(7,[-1,-1,-1,0,-1]),(16,[0,0]),(17,[0,0])] rfl rfl rfl rfl rfl rfl fun h0k (W0k : KJ x h0i h0k [6]) V0k => ?_
 have O0k := O0j.keep W0k (nx N 0 (js := [6]) rfl)
 refine gR0 K O0k V0k 88 [aI 1,aI 1,aR 7] rfl ?_
 refine gist K V0k N 1 [(2,[-1,1]),(3,[0,1,2,3]),(4,[0,1,1]),(6,[3,1]),(7,[-1,1,-1,0,-1]),(16,[0,0]),(17,[0,0])] rfl rfl rfl rfl rfl rfl fun h0l (W0l : KJ x h0k h0l [7]) V0l => ?_
 have O0l := O0k.keep W0l (nx N 0 (js := [7]) rfl)
 refine gR0 K O0l V0l 91 [aI 1,aR 0] rfl ?_
 refine gPr K (w_block hw) O0l (rmBlk1 hw x 0 0 3 1 (-1) 1 (-1) 0 (-1) 0 0 0 0 zs0 zs1 zc0 zc2 h0l N O0l V0l B) [] 0 rfl rfl rfl rfl (by decide) (Nat.le_of_eq rfl) (by decide) (by decide) (by decide) ?_
 refine gR0 K O0l V0l 96 [aI 1,aR 0,aR 9] rfl ?_
 refine gPi K (w_first hw) O0l (rmFst1 hw x 0 0 3 1 (-1) 1 (-1) 0 (-1) 0 0 0 0 zs0 zs1 zc0 zc2 h0l N O0l V0l B) [aR 9] 1 rfl rfl rfl rfl (by decide) (Nat.le_of_eq rfl) (by decide) (by decide) (by decide) ?_
 refine gR0 K O0l V0l 105 [aI 3,aR 9] rfl ?_
 refine gldc K (wd hw 170 rfl) rfl ?_
 refine gR0 K O0l V0l 112 [aD 13830554455654793216,aI 3,aR 9] rfl ?_
 have k0m := kx [6,7] (js' := [7]) W0k W0l rfl rfl
 have f0n := f0i.keep k0m (nx N 9 rfl)
 refine gds K 3 f0n rfl rfl rfl Dz.mone (N.ge 9 rfl) rfl fun h0o (W0o : KJ x h0l h0o [9]) (f0o : AD Z h0o (x 9) [1, 0, 0, (-1)]) => ?_
 obtain ⟨O0p, V0p⟩ := ov N O0l V0l (js := [9]) W0o rfl rfl rfl
 refine gR K O0p V0p 133 [aR 0,aI 2,aI 1,aI 1,aR 9] [aI 3,aI 0,aR 11,aI 0,aR 1] rfl ?_
 have k0q := kx [7,9] (js' := [9]) W0a W0c rfl rfl
 have k0r := kx [6,7,9] (js' := [6]) k0q W0e rfl rfl
 have k0s := kx [6,7,9] (js' := [7]) k0r W0f rfl rfl
 have k0t := kx [6,7,9] (js' := [9]) k0s W0i rfl rfl
 have k0u := kx [6,7,9] (js' := [6]) k0t W0k rfl rfl
 have k0v := kx [6,7,9] (js' := [7]) k0u W0l rfl rfl
 have k0w := kx [6,7,9] (js' := [9]) k0v W0o rfl rfl
 have f0x := F1.keep k0w (nx N 1 rfl)
 have f0y := F11.keep k0w (nx N 11 rfl)
 refine gcp K (wcopy hw) [zc0, 0, zc2] 3 0 f0x f0y rfl rfl rfl (Nat.le_of_ble_eq_true rfl) (Nat.le_of_ble_eq_true rfl) rfl (N.ge 11 rfl) rfl rfl (by decide) (Nat.le_of_eq rfl) (by decide) fun h0z (W0z : KJ x h0o h0z [11]) f0z => ?_
 have k1a := kx [9,11] (js' := [11]) W0o W0z rfl rfl
 obtain ⟨O1b, V1b⟩ := ov N O0l V0l (js := [9,11]) k1a rfl rfl rfl
 refine gR K O1b V1b 168 [aR 0,aR 2,aI 2,aI 1,aI 1] [aD 0,aI 1,aR 11] rfl ?_
 refine gds K 1 f0z rfl rfl rfl Dz.zero (N.ge 11 rfl) rfl fun h1c (W1c : KJ x h0z h1c [11]) (f1c : AD Z h1c (x 11) [zc0, 0, zc2]) => ?_
 have k1d := kx [9,11] (js' := [11]) k1a W1c rfl rfl
 obtain ⟨O1e, V1e⟩ := ov N O0l V0l (js := [9,11]) k1d rfl rfl rfl
 refine gR K O1e V1e 177 [aR 0,aR 2,aI 2,aI 2,aI 1] [aI 0,aR 0] rfl ?_
 refine gpsr K hw O1e N rfl fun h1f (W1f : KJ x h1c h1f [0]) O1f => ?_
 have K := K.re hw 0 0
 have V1f := V1e.keep N (js := [0]) W1f rfl rfl
 refine gR0 K O1f V1f 182 [aI 0,aR 0] rfl ?_
 refine grcc K hw O1f N (Or.inl rfl) rfl fun h1g (W1g : KJ x h1f h1g [0]) O1g => ?_
 have K := K.re hw 0 0
 have V1g := V1f.keep N (js := [0]) W1g rfl rfl
 refine gR0 K O1g V1g 186 [aR 0] rfl ?_
 have k1h := kx [11] (js' := [11]) W0z W1c rfl rfl
 have k1i := kx [0,11] (js' := [0]) k1h W1f rfl rfl
 have k1j := kx [0,11] (js' := [0]) k1i W1g rfl rfl
 have f1k := f0o.keep k1j (nx N 9 rfl)
 have k1l := kx [6,7,9,11] (js' := [11]) k0w W0z rfl rfl
 have k1m := kx [6,7,9,11] (js' := [11]) k1l W1c rfl rfl
 have k1n := kx [0,6,7,9,11] (js' := [0]) k1m W1f rfl rfl
 have k1o := kx [0,6,7,9,11] (js' := [0]) k1n W1g rfl rfl
 have f1p := F10.keep k1o (nx N 10 rfl)
 have f1q := F12.keep k1o (nx N 12 rfl)
 refine gP K (w_computeValues hw) O1g (rmCV0 hw x 0 0 3 1 (-1) 1 (-1) 0 (-1) 0 0 0 0 0 0 zs0 zs1 zc0 zc2 h1g N O1g V1g B f1k f1p f1q) [] 0 rfl rfl rfl rfl (by decide) (Nat.le_of_eq rfl) (by decide) (by decide) (by decide) ?_
 rintro h1r _ ⟨rfl, W1r, O1r, V1r, f1r_10⟩
 refine sh (FA m x 189 [aR 0,aR 2,aI 2,aI 2,aI 1] []) rfl ?_
 have k1s := kx [0,6,7,9,10,11,16] (js' := [10,16]) k1o W1r rfl rfl
 have f1t := F1.keep k1s (nx N 1 rfl)
 have f1u := F5.keep k1s (nx N 5 rfl)
 have k1v := kx [0,10,11,16] (js' := [10,16]) k1j W1r rfl rfl
 have f1w := f0o.keep k1v (nx N 9 rfl)
 have k1x := kx [0] (js' := [0]) W1f W1g rfl rfl
 have k1y := kx [0,10,16] (js' := [10,16]) k1x W1r rfl rfl
 have f1z := f1c.keep k1y (nx N 11 rfl)
 have f2a := F12.keep k1s (nx N 12 rfl)
 have f2b := F13.keep k1s (nx N 13 rfl)
 have f2c := F14.keep k1s (nx N 14 rfl)
 have f2d := F15.keep k1s (nx N 15 rfl)
 have e2e := (((((((((((((E12.keep W0a).keep W0c).keep W0e).keep W0f).keep W0i).keep W0k).keep W0l).keep W0o).keep W0z).keep W1c).keep W1f).keep W1g).keep W1r)
 exact grv K rfl (by decide) (by decide) ⟨rfl, k1s, O1r, V1r, f1t, f1u, f1w, f1r_10, f1z, f2a, f2b, f2c, f2d, e2e⟩
def t23 : List (List (Nat × Instr × Nat)) := [[(0,.iconst 0,1),(1,.istore_n 2,1),(2,.iconst 0,1),(3,.istore_n 3,1),(4,.iload_n 3,1),(5,.aload_n 0,1),(6,.getfield 13,3),(9,.if_icmp .ge 32,3),(12,.aload_n 1,1),(13,.iload_n 3,1),(14,.daload,1),(15,.aload_n 0,1)],
  [(16,.getfield 105,3),(19,.iload_n 3,1),(20,.daload,1),(21,.dcmp .l,1),(22,.ifCond .eq 13,3),(25,.aload_n 0,1),(26,.getfield 117,3),(29,.iload_n 2,1),(30,.iinc 2 1,3)],
  [(33,.iload_n 3,1),(34,.iastore,1),(35,.iinc 3 1,3),(38,.goto (-34),3),(41,.iconst 0,1),(42,.istore_n 3,1),(43,.aload_n 0,1),(44,.getfield 89,3),(47,.astore 4,2)],
  [(49,.aload 4,2),(51,.arraylength,1),(52,.istore 5,2),(54,.iconst 0,1),(55,.istore 6,2),(57,.iload 6,2),(59,.iload 5,2),(61,.if_icmp .ge 108,3)],
  [(64,.aload 4,2),(66,.iload 6,2),(68,.aaload,1),(69,.astore 7,2),(71,.iconst 0,1),(72,.istore 8,2),(74,.iload 8,2),(76,.aload 7,2),(78,.arraylength,1),(79,.if_icmp .ge 84,3)],
  [(82,.aload_n 0,1),(83,.getfield 99,3),(86,.iload_n 3,1),(87,.daload,1),(88,.dstore 9,2),(90,.iconst 0,1),(91,.istore 11,2),(93,.iload 11,2),(95,.iload_n 2,1)],
  [(96,.if_icmp .ge 44,3),(99,.aload_n 0,1),(100,.getfield 117,3),(103,.iload 11,2),(105,.iaload,1),(106,.istore 12,2),(108,.dload 9,2),(110,.aload 7,2)],
  [(112,.iload 8,2),(114,.iload 12,2),(116,.iadd,1),(117,.daload,1),(118,.aload_n 1,1),(119,.iload 12,2),(121,.daload,1),(122,.aload_n 0,1),(123,.getfield 105,3),(126,.iload 12,2)],
  [(128,.daload,1),(129,.dsub,1),(130,.dmul,1),(131,.dadd,1),(132,.dstore 9,2),(134,.iinc 11 1,3),(137,.goto (-44),3),(140,.aload_n 0,1),(141,.getfield 99,3)],
  [(144,.iload_n 3,1),(145,.dload 9,2),(147,.dastore,1),(148,.iload 8,2),(150,.aload_n 0,1),(151,.getfield 13,3),(154,.iadd,1),(155,.istore 8,2),(157,.iinc 3 1,3)],
  [(160,.goto (-86),3),(163,.iinc 6 1,3),(166,.goto (-109),3),(169,.aload_n 1,1),(170,.iconst 0,1),(171,.aload_n 0,1),(172,.getfield 105,3),(175,.iconst 0,1)],
  [(176,.aload_n 0,1),(177,.getfield 13,3),(180,.invokestatic 220,3),(183,.return_,1)]]
theorem k23 : TB prog_12_method_16_code t23 := tb_of (by decide +kernel)
theorem zeq_1 {zs1 : Int} : (zs1 - 0 : Int) = zs1 := by omega
theorem zbd_2 {zs0 zs1 zc0 zc2 : Int} (B : ZB zs0 zs1 zc0 zc2) : -9007199254740992 ≤ zs1 ∧ zs1 ≤ 9007199254740992 := by unfold ZB at B; obtain ⟨b1, b2, b3, b4, b5, b6⟩ := B; omega
theorem zeq_3 {zs1 : Int} : (0 * zs1 : Int) = 0 := by omega
theorem zeq_5 {zs1 : Int} : ((-1) * zs1 : Int) = (-zs1) := by omega
theorem zbd_6 {zs0 zs1 zc0 zc2 : Int} (B : ZB zs0 zs1 zc0 zc2) : -9007199254740992 ≤ (-zs1) ∧ (-zs1) ≤ 9007199254740992 := by unfold ZB at B; obtain ⟨b1, b2, b3, b4, b5, b6⟩ := B; omega
theorem zeq_7 {zs1 : Int} : (0 + (-zs1) : Int) = (-zs1) := by omega
theorem zeq_8 {zs0 : Int} : (zs0 - 0 : Int) = zs0 := by omega
theorem zbd_9 {zs0 zs1 zc0 zc2 : Int} (B : ZB zs0 zs1 zc0 zc2) : -9007199254740992 ≤ zs0 ∧ zs0 ≤ 9007199254740992 := by unfold ZB at B; obtain ⟨b1, b2, b3, b4, b5, b6⟩ := B; omega
theorem zeq_10 {zs0 : Int} : (1 * zs0 : Int) = zs0 := by omega
theorem zeq_11 {zs0 : Int} : (0 + zs0 : Int) = zs0 := by omega
theorem zeq_12 {zs0 : Int} : (0 * zs0 : Int) = 0 := by omega
theorem zeq_14 {zs0 : Int} : (zs0 + 0 : Int) = zs0 := by omega
theorem pd_7 : parseMethodDescriptor "([D)V" = some ⟨[(.array .double)], none⟩ := by decide +kernel
theorem w_moveValues {Z : State} {a0 : Array Value} (hw : HW Z a0) : WP Z a0 DSn 127 ⟨DSn, "moveValues", "([D)V"⟩ prog_12_method_16_code 13 none 1 := ⟨⟨(wd hw 185 rfl), (wd hw 186 rfl), own_psel (wd hw 49 rfl) (wd hw 187 rfl) (wd hw 186 rfl) (by decide), (wd hw 187 rfl), wd hw 188 rfl, (wd hw 50 rfl)⟩, by decide, lenK pd_7 rfl⟩
theorem rmMv (hw : HW Z a0) (x : Nat → Addr) (uu rr u6_0 u6_1 u7_0 u7_1 u7_2 u7_3 u7_4 u17_0 u17_1 : Int32) (xin : Addr) (zs0 zs1 zc0 zc2 : Int) (h0 : Heap) (N : NX n0 x) (O : OB Z h0 x DSn (fe uu rr)) (V : EV Z h0 x [(2,[-1,1]),(3,[0,1,2,3]),(4,[0,1,1]),(6,[u6_0,u6_1]),(7,[u7_0,u7_1,u7_2,u7_3,u7_4]),(16,[0,0]),(17,[u17_0,u17_1])]) (B : ZB zs0 zs1 zc0 zc2) (Fxin : AD Z h0 xin [zs0, zs1]) (F9 : AD Z h0 (x 9) [1, 0, 0, (-1)]) (F10 : AD Z h0 (x 10) [0, 0]) (F12 : AD Z h0 (x 12) [0, 0]) (I : xin ∉ [x 16] ∧ xin ∉ [x 10] ∧ xin ∉ [x 12]) :
    Con l Z n0 ⟨DSn, "moveValues", "([D)V"⟩ prog_12_method_16_code 13 none ⟨1, 0, 0, 60⟩ #[(.ref (x 0)), (.ref xin)] h0 (fun v h => v = none ∧ ∃ ka kb : Int32, KJ x h0 h [10,12,16] ∧ OB Z h x DSn (fe uu rr) ∧ EV Z h x [(2,[-1,1]),(3,[0,1,2,3]),(4,[0,1,1]),(6,[u6_0,u6_1]),(7,[u7_0,u7_1,u7_2,u7_3,u7_4]),(16,[ka,kb]),(17,[u17_0,u17_1])] ∧ AD Z h (x 10) [zs0, (-zs1)] ∧ AD Z h (x 12) [zs0, zs1]) := by
 refine con_of (plainFor_of_name pn_DS) ?_
 intro p e s m below meth c T0 K0 X0 e0
 have K : KX p s m meth c Z a0 DSn "moveValues" prog_12_method_16_code 13 none t23 (fe uu rr) := ⟨K0, k23, lw hw uu rr⟩
 refine gE (x := x) (L := [aR 0,aA xin,aU,aU,aU,aU,aU,aU,aU,aU,aU,aU,aU]) (by simp [entryFrame, mkF, argsToLocals, Value.category, gL, gS, cs, cv]) X0 e0 ?_
 refine gR K O V 14 ([aR 0,aA xin,aI 0,aI 0]++un 9) [aI 0,aA xin] rfl ?_
 refine gdl K 0 Fxin rfl rfl rfl rfl fun d0a q0a => ?_
 refine gR0 K O V 20 [aI 0,aR 12,aD d0a] rfl ?_
 refine gdl K 0 F12 rfl rfl rfl rfl fun d0b q0b => ?_
 refine gcX K 35 q0a q0b rfl rfl rfl ?_ ?_
 · intro (c425 : zs0 = 0)
   refine gR K O V 14 ([aR 0,aA xin,aI 0,aI 1]++un 9) [aI 1,aA xin] rfl ?_
   refine gdl K 1 Fxin rfl rfl rfl rfl fun d0c q0c => ?_
   refine gR0 K O V 20 [aI 1,aR 12,aD d0c] rfl ?_
   refine gdl K 1 F12 rfl rfl rfl rfl fun d0d q0d => ?_
   refine gcX K 35 q0c q0d rfl rfl rfl ?_ ?_
   · intro (c428 : zs1 = 0)
     refine gR K O V 78 ([aR 0,aA xin,aI 0,aI 0,aR 8,aI 1,aI 0,aR 9,aI 0]++un 4) [aR 9,aI 0] rfl ?_
     refine gal K 4 F9 rfl rfl rfl ?_
     refine gR0 K O V 87 [aI 0,aR 10] rfl ?_
     refine gdl K 0 F10 rfl rfl rfl rfl fun d0e q0e => ?_
     refine gR K O V 147 [aR 0,aA xin,aI 0,aI 0,aR 8,aI 1,aI 0,aR 9,aI 0,aD d0e,aS,aI 0,aU] [aD d0e,aI 0,aR 10] rfl ?_
     refine gds K 0 F10 rfl rfl rfl q0e (N.ge 10 rfl) rfl fun h0f (W0f : KJ x h0 h0f [10]) (f0f : AD Z h0f (x 10) [0, 0]) => ?_
     obtain ⟨O0g, V0g⟩ := ov N O V (js := [10]) W0f rfl rfl rfl
     refine gR K O0g V0g 78 [aR 0,aA xin,aI 0,aI 1,aR 8,aI 1,aI 0,aR 9,aI 2,aD d0e,aS,aI 0,aU] [aR 9,aI 2] rfl ?_
     have f0h := F9.keep W0f (nx N 9 rfl)
     refine gal K 4 f0h rfl rfl rfl ?_
     refine gR0 K O0g V0g 87 [aI 1,aR 10] rfl ?_
     refine gdl K 1 f0f rfl rfl rfl rfl fun d0i q0i => ?_
     refine gR K O0g V0g 147 [aR 0,aA xin,aI 0,aI 1,aR 8,aI 1,aI 0,aR 9,aI 2,aD d0i,aS,aI 0,aU] [aD d0i,aI 1,aR 10] rfl ?_
     refine gds K 1 f0f rfl rfl rfl q0i (N.ge 10 rfl) rfl fun h0j (W0j : KJ x h0f h0j [10]) (f0j : AD Z h0j (x 10) [0, 0]) => ?_
     have k0k := kx [10] (js' := [10]) W0f W0j rfl rfl
     obtain ⟨O0l, V0l⟩ := ov N O V (js := [10]) k0k rfl rfl rfl
     refine gR K O0l V0l 78 [aR 0,aA xin,aI 0,aI 2,aR 8,aI 1,aI 0,aR 9,aI 4,aD d0i,aS,aI 0,aU] [aR 9,aI 4] rfl ?_
     have f0m := F9.keep k0k (nx N 9 rfl)
     refine gal K 4 f0m rfl rfl rfl ?_
     refine gR K O0l V0l 180 [aR 0,aA xin,aI 0,aI 2,aR 8,aI 1,aI 1,aR 9,aI 4,aD d0i,aS,aI 0,aU] [aI 2,aI 0,aR 12,aI 0,aA xin] rfl ?_
     have f0n := ((Fxin.keep W0f I.2.1).keep W0j I.2.1)
     have f0o := F12.keep k0k (nx N 12 rfl)
     refine gcp K (wcopy hw) [zs0, zs1] 2 0 f0n f0o rfl rfl rfl (Nat.le_of_ble_eq_true rfl) (Nat.le_of_ble_eq_true rfl) rfl (N.ge 12 rfl) rfl rfl (by decide) (Nat.le_of_eq rfl) (by decide) fun h0p (W0p : KJ x h0j h0p [12]) f0p => ?_
     have f0q := f0j.keep W0p (nx N 10 rfl)
     have f0r : AD Z h0p (x 10) [zs0, (-zs1)] := by simp only [c425, c428, Int.neg_zero]; exact f0q
     have k0s := kx [10,12] (js' := [12]) k0k W0p rfl rfl
     obtain ⟨O0t, V0t⟩ := ov N O V (js := [10,12]) k0s rfl rfl rfl
     have k0u := km [10,12,16] (js := [10,12]) k0s rfl
     exact grv K rfl (by decide) (by decide) ⟨rfl, 0, 0, k0u, O0t, V0t, f0r, f0p⟩
   · intro (c428 : ¬ zs1 = 0)
     refine gR K O V 34 ([aR 0,aA xin,aI 1,aI 1]++un 9) [aI 1,aI 0,aR 16] rfl ?_
     refine gist K V N 0 [(2,[-1,1]),(3,[0,1,2,3]),(4,[0,1,1]),(6,[u6_0,u6_1]),(7,[u7_0,u7_1,u7_2,u7_3,u7_4]),(16,[1,0]),(17,[u17_0,u17_1])] rfl rfl rfl rfl rfl rfl fun h0v (W0v : KJ x h0 h0v [16]) V0v => ?_
     have O0v := O.keep W0v (nx N 0 (js := [16]) rfl)
     refine gR K O0v V0v 78 ([aR 0,aA xin,aI 1,aI 0,aR 8,aI 1,aI 0,aR 9,aI 0]++un 4) [aR 9,aI 0] rfl ?_
     have f0w := F9.keep W0v (nx N 9 rfl)
     refine gal K 4 f0w rfl rfl rfl ?_
     refine gR0 K O0v V0v 87 [aI 0,aR 10] rfl ?_
     have f0x := F10.keep W0v (nx N 10 rfl)
     refine gdl K 0 f0x rfl rfl rfl rfl fun d0y q0y => ?_
     refine gR K O0v V0v 117 [aR 0,aA xin,aI 1,aI 0,aR 8,aI 1,aI 0,aR 9,aI 0,aD d0y,aS,aI 0,aI 1] [aI 1,aR 9,aD d0y] rfl ?_
     refine gdl K 1 f0w rfl rfl rfl rfl fun d0z q0z => ?_
     refine gR0 K O0v V0v 121 [aI 1,aA xin,aD d0z,aD d0y] rfl ?_
     have f1a := (Fxin.keep W0v I.1)
     refine gdl K 1 f1a rfl rfl rfl rfl fun d1b q1b => ?_
     refine gR0 K O0v V0v 128 [aI 1,aR 12,aD d1b,aD d0z,aD d0y] rfl ?_
     have f1c := F12.keep W0v (nx N 12 rfl)
     refine gdl K 1 f1c rfl rfl rfl rfl fun d1d q1d => ?_
     refine gsub K (z := zs1) (Dz.sub q1b q1d zeq_1 (zbd_2 B)) rfl fun d1e q1e => ?_
     refine gmul K (z := 0) (Dz.mul q0z q1e zeq_3 (by decide)) rfl fun d1f q1f => ?_
     refine gadd K (z := 0) (Dz.add q0y q1f rfl (by decide)) rfl fun d1g q1g => ?_
     refine gR K O0v V0v 147 [aR 0,aA xin,aI 1,aI 0,aR 8,aI 1,aI 0,aR 9,aI 0,aD d1g,aS,aI 1,aI 1] [aD d1g,aI 0,aR 10] rfl ?_
     refine gds K 0 f0x rfl rfl rfl q1g (N.ge 10 rfl) rfl fun h1h (W1h : KJ x h0v h1h [10]) (f1h : AD Z h1h (x 10) [0, 0]) => ?_
     obtain ⟨O1i, V1i⟩ := ov N O0v V0v (js := [10]) W1h rfl rfl rfl
     refine gR K O1i V1i 78 [aR 0,aA xin,aI 1,aI 1,aR 8,aI 1,aI 0,aR 9,aI 2,aD d1g,aS,aI 1,aI 1] [aR 9,aI 2] rfl ?_
     have k1j := kx [10,16] (js' := [10]) W0v W1h rfl rfl
     have f1k := F9.keep k1j (nx N 9 rfl)
     refine gal K 4 f1k rfl rfl rfl ?_
     refine gR0 K O1i V1i 87 [aI 1,aR 10] rfl ?_
     refine gdl K 1 f1h rfl rfl rfl rfl fun d1l q1l => ?_
     refine gR K O1i V1i 117 [aR 0,aA xin,aI 1,aI 1,aR 8,aI 1,aI 0,aR 9,aI 2,aD d1l,aS,aI 0,aI 1] [aI 3,aR 9,aD d1l] rfl ?_
     refine gdl K 3 f1k rfl rfl rfl rfl fun d1m q1m => ?_
     refine gR0 K O1i V1i 121 [aI 1,aA xin,aD d1m,aD d1l] rfl ?_
     have f1n := ((Fxin.keep W0v I.1).keep W1h I.2.1)
     refine gdl K 1 f1n rfl rfl rfl rfl fun d1o q1o => ?_
     refine gR0 K O1i V1i 128 [aI 1,aR 12,aD d1o,aD d1m,aD d1l] rfl ?_
     have f1p := F12.keep k1j (nx N 12 rfl)
     refine gdl K 1 f1p rfl rfl rfl rfl fun d1q q1q => ?_
     refine gsub K (z := zs1) (Dz.sub q1o q1q zeq_1 (zbd_2 B)) rfl fun d1r q1r => ?_
     refine gmul K (z := (-zs1)) (Dz.mul q1m q1r zeq_5 (zbd_6 B)) rfl fun d1s q1s => ?_
     refine gadd K (z := (-zs1)) (Dz.add q1l q1s zeq_7 (zbd_6 B)) rfl fun d1t q1t => ?_
     refine gR K O1i V1i 147 [aR 0,aA xin,aI 1,aI 1,aR 8,aI 1,aI 0,aR 9,aI 2,aD d1t,aS,aI 1,aI 1] [aD d1t,aI 1,aR 10] rfl ?_
     refine gds K 1 f1h rfl rfl rfl q1t (N.ge 10 rfl) rfl fun h1u (W1u : KJ x h1h h1u [10]) (f1u : AD Z h1u (x 10) [0, (-zs1)]) => ?_
     have k1v := kx [10] (js' := [10]) W1h W1u rfl rfl
     obtain ⟨O1w, V1w⟩ := ov N O0v V0v (js := [10]) k1v rfl rfl rfl
     refine gR K O1w V1w 78 [aR 0,aA xin,aI 1,aI 2,aR 8,aI 1,aI 0,aR 9,aI 4,aD d1t,aS,aI 1,aI 1] [aR 9,aI 4] rfl ?_
     have k1x := kx [10,16] (js' := [10]) k1j W1u rfl rfl
     have f1y := F9.keep k1x (nx N 9 rfl)
     refine gal K 4 f1y rfl rfl rfl ?_
     refine gR K O1w V1w 180 [aR 0,aA xin,aI 1,aI 2,aR 8,aI 1,aI 1,aR 9,aI 4,aD d1t,aS,aI 1,aI 1] [aI 2,aI 0,aR 12,aI 0,aA xin] rfl ?_
     have f1z := (((Fxin.keep W0v I.1).keep W1h I.2.1).keep W1u I.2.1)
     have f2a := F12.keep k1x (nx N 12 rfl)
     refine gcp K (wcopy hw) [zs0, zs1] 2 0 f1z f2a rfl rfl rfl (Nat.le_of_ble_eq_true rfl) (Nat.le_of_ble_eq_true rfl) rfl (N.ge 12 rfl) rfl rfl (by decide) (Nat.le_of_eq rfl) (by decide) fun h2b (W2b : KJ x h1u h2b [12]) f2b => ?_
     have f2c := f1u.keep W2b (nx N 10 rfl)
     have f2d : AD Z h2b (x 10) [zs0, (-zs1)] := by simp only [c425, Int.neg_zero]; exact f2c
     have k2e := kx [10,12] (js' := [12]) k1v W2b rfl rfl
     obtain ⟨O2f, V2f⟩ := ov N O0v V0v (js := [10,12]) k2e rfl rfl rfl
     have k2g := kx [10,12,16] (js' := [12]) k1x W2b rfl rfl
     exact grv K rfl (by decide) (by decide) ⟨rfl, 1, 0, k2g, O2f, V2f, f2d, f2b⟩
 · intro (c425 : ¬ zs0 = 0)
   refine gR K O V 34 ([aR 0,aA xin,aI 1,aI 0]++un 9) [aI 0,aI 0,aR 16] rfl ?_
   refine gist K V N 0 [(2,[-1,1]),(3,[0,1,2,3]),(4,[0,1,1]),(6,[u6_0,u6_1]),(7,[u7_0,u7_1,u7_2,u7_3,u7_4]),(16,[0,0]),(17,[u17_0,u17_1])] rfl rfl rfl rfl rfl rfl fun h2h (W2h : KJ x h0 h2h [16]) V2h => ?_
   have O2h := O.keep W2h (nx N 0 (js := [16]) rfl)
   refine gR K O2h V2h 14 ([aR 0,aA xin,aI 1,aI 1]++un 9) [aI 1,aA xin] rfl ?_
   have f2i := (Fxin.keep W2h I.1)
   refine gdl K 1 f2i rfl rfl rfl rfl fun d2j q2j => ?_
   refine gR0 K O2h V2h 20 [aI 1,aR 12,aD d2j] rfl ?_
   have f2k := F12.keep W2h (nx N 12 rfl)
   refine gdl K 1 f2k rfl rfl rfl rfl fun d2l q2l => ?_
   refine gcX K 35 q2j q2l rfl rfl rfl ?_ ?_
   · intro (c489 : zs1 = 0)
     refine gR K O2h V2h 78 ([aR 0,aA xin,aI 1,aI 0,aR 8,aI 1,aI 0,aR 9,aI 0]++un 4) [aR 9,aI 0] rfl ?_
     have f2m := F9.keep W2h (nx N 9 rfl)
     refine gal K 4 f2m rfl rfl rfl ?_
     refine gR0 K O2h V2h 87 [aI 0,aR 10] rfl ?_
     have f2n := F10.keep W2h (nx N 10 rfl)
     refine gdl K 0 f2n rfl rfl rfl rfl fun d2o q2o => ?_
     refine gR K O2h V2h 117 [aR 0,aA xin,aI 1,aI 0,aR 8,aI 1,aI 0,aR 9,aI 0,aD d2o,aS,aI 0,aI 0] [aI 0,aR 9,aD d2o] rfl ?_
     refine gdl K 0 f2m rfl rfl rfl rfl fun d2p q2p => ?_
     refine gR0 K O2h V2h 121 [aI 0,aA xin,aD d2p,aD d2o] rfl ?_
     refine gdl K 0 f2i rfl rfl rfl rfl fun d2q q2q => ?_
     refine gR0 K O2h V2h 128 [aI 0,aR 12,aD d2q,aD d2p,aD d2o] rfl ?_
     refine gdl K 0 f2k rfl rfl rfl rfl fun d2r q2r => ?_
     refine gsub K (z := zs0) (Dz.sub q2q q2r zeq_8 (zbd_9 B)) rfl fun d2s q2s => ?_
     refine gmul K (z := zs0) (Dz.mul q2p q2s zeq_10 (zbd_9 B)) rfl fun d2t q2t => ?_
     refine gadd K (z := zs0) (Dz.add q2o q2t zeq_11 (zbd_9 B)) rfl fun d2u q2u => ?_
     refine gR K O2h V2h 147 [aR 0,aA xin,aI 1,aI 0,aR 8,aI 1,aI 0,aR 9,aI 0,aD d2u,aS,aI 1,aI 0] [aD d2u,aI 0,aR 10] rfl ?_
     refine gds K 0 f2n rfl rfl rfl q2u (N.ge 10 rfl) rfl fun h2v (W2v : KJ x h2h h2v [10]) (f2v : AD Z h2v (x 10) [zs0, 0]) => ?_
     obtain ⟨O2w, V2w⟩ := ov N O2h V2h (js := [10]) W2v rfl rfl rfl
     refine gR K O2w V2w 78 [aR 0,aA xin,aI 1,aI 1,aR 8,aI 1,aI 0,aR 9,aI 2,aD d2u,aS,aI 1,aI 0] [aR 9,aI 2] rfl ?_
     have k2x := kx [10,16] (js' := [10]) W2h W2v rfl rfl
     have f2y := F9.keep k2x (nx N 9 rfl)
     refine gal K 4 f2y rfl rfl rfl ?_
     refine gR0 K O2w V2w 87 [aI 1,aR 10] rfl ?_
     refine gdl K 1 f2v rfl rfl rfl rfl fun d2z q2z => ?_
     refine gR K O2w V2w 117 [aR 0,aA xin,aI 1,aI 1,aR 8,aI 1,aI 0,aR 9,aI 2,aD d2z,aS,aI 0,aI 0] [aI 2,aR 9,aD d2z] rfl ?_
     refine gdl K 2 f2y rfl rfl rfl rfl fun d3a q3a => ?_
     refine gR0 K O2w V2w 121 [aI 0,aA xin,aD d3a,aD d2z] rfl ?_
     have f3b := ((Fxin.keep W2h I.1).keep W2v I.2.1)
     refine gdl K 0 f3b rfl rfl rfl rfl fun d3c q3c => ?_
     refine gR0 K O2w V2w 128 [aI 0,aR 12,aD d3c,aD d3a,aD d2z] rfl ?_
     have f3d := F12.keep k2x (nx N 12 rfl)
     refine gdl K 0 f3d rfl rfl rfl rfl fun d3e q3e => ?_
     refine gsub K (z := zs0) (Dz.sub q3c q3e zeq_8 (zbd_9 B)) rfl fun d3f q3f => ?_
     refine gmul K (z := 0) (Dz.mul q3a q3f zeq_12 (by decide)) rfl fun d3g q3g => ?_
     refine gadd K (z := 0) (Dz.add q2z q3g rfl (by decide)) rfl fun d3h q3h => ?_
     refine gR K O2w V2w 147 [aR 0,aA xin,aI 1,aI 1,aR 8,aI 1,aI 0,aR 9,aI 2,aD d3h,aS,aI 1,aI 0] [aD d3h,aI 1,aR 10] rfl ?_
     refine gds K 1 f2v rfl rfl rfl q3h (N.ge 10 rfl) rfl fun h3i (W3i : KJ x h2v h3i [10]) (f3i : AD Z h3i (x 10) [zs0, 0]) => ?_
     have k3j := kx [10] (js' := [10]) W2v W3i rfl rfl
     obtain ⟨O3k, V3k⟩ := ov N O2h V2h (js := [10]) k3j rfl rfl rfl
     refine gR K O3k V3k 78 [aR 0,aA xin,aI 1,aI 2,aR 8,aI 1,aI 0,aR 9,aI 4,aD d3h,aS,aI 1,aI 0] [aR 9,aI 4] rfl ?_
     have k3l := kx [10,16] (js' := [10]) k2x W3i rfl rfl
     have f3m := F9.keep k3l (nx N 9 rfl)
     refine gal K 4 f3m rfl rfl rfl ?_
     refine gR K O3k V3k 180 [aR 0,aA xin,aI 1,aI 2,aR 8,aI 1,aI 1,aR 9,aI 4,aD d3h,aS,aI 1,aI 0] [aI 2,aI 0,aR 12,aI 0,aA xin] rfl ?_
     have f3n := (((Fxin.keep W2h I.1).keep W2v I.2.1).keep W3i I.2.1)
     have f3o := F12.keep k3l (nx N 12 rfl)
     refine gcp K (wcopy hw) [zs0, zs1] 2 0 f3n f3o rfl rfl rfl (Nat.le_of_ble_eq_true rfl) (Nat.le_of_ble_eq_true rfl) rfl (N.ge 12 rfl) rfl rfl (by decide) (Nat.le_of_eq rfl) (by decide) fun h3p (W3p : KJ x h3i h3p [12]) f3p => ?_
     have f3q := f3i.keep W3p (nx N 10 rfl)
     have f3r : AD Z h3p (x 10) [zs0, (-zs1)] := by simp only [c489, Int.neg_zero]; exact f3q
     have k3s := kx [10,12] (js' := [12]) k3j W3p rfl rfl
     obtain ⟨O3t, V3t⟩ := ov N O2h V2h (js := [10,12]) k3s rfl rfl rfl
     have k3u := kx [10,12,16] (js' := [12]) k3l W3p rfl rfl
     exact grv K rfl (by decide) (by decide) ⟨rfl, 0, 0, k3u, O3t, V3t, f3r, f3p⟩
   · intro (c489 : ¬ zs1 = 0)
     refine gR K O2h V2h 34 ([aR 0,aA xin,aI 2,aI 1]++un 9) [aI 1,aI 1,aR 16] rfl ?_
     refine gist K V2h N 1 [(2,[-1,1]),(3,[0,1,2,3]),(4,[0,1,1]),(6,[u6_0,u6_1]),(7,[u7_0,u7_1,u7_2,u7_3,u7_4]),(16,[0,1]),(17,[u17_0,u17_1])] rfl rfl rfl rfl rfl rfl fun h3v (W3v : KJ x h2h h3v [16]) V3v => ?_
     have O3v := O2h.keep W3v (nx N 0 (js := [16]) rfl)
     refine gR K O3v V3v 78 ([aR 0,aA xin,aI 2,aI 0,aR 8,aI 1,aI 0,aR 9,aI 0]++un 4) [aR 9,aI 0] rfl ?_
     have k3w := kx [16] (js' := [16]) W2h W3v rfl rfl
     have f3x := F9.keep k3w (nx N 9 rfl)
     refine gal K 4 f3x rfl rfl rfl ?_
     refine gR0 K O3v V3v 87 [aI 0,aR 10] rfl ?_
     have f3y := F10.keep k3w (nx N 10 rfl)
     refine gdl K 0 f3y rfl rfl rfl rfl fun d3z q3z => ?_
     refine gR K O3v V3v 117 [aR 0,aA xin,aI 2,aI 0,aR 8,aI 1,aI 0,aR 9,aI 0,aD d3z,aS,aI 0,aI 0] [aI 0,aR 9,aD d3z] rfl ?_
     refine gdl K 0 f3x rfl rfl rfl rfl fun d4a q4a => ?_
     refine gR0 K O3v V3v 121 [aI 0,aA xin,aD d4a,aD d3z] rfl ?_
     have f4b := ((Fxin.keep W2h I.1).keep W3v I.1)
     refine gdl K 0 f4b rfl rfl rfl rfl fun d4c q4c => ?_
     refine gR0 K O3v V3v 128 [aI 0,aR 12,aD d4c,aD d4a,aD d3z] rfl ?_
     have f4d := F12.keep k3w (nx N 12 rfl)
     refine gdl K 0 f4d rfl rfl rfl rfl fun d4e q4e => ?_
     refine gsub K (z := zs0) (Dz.sub q4c q4e zeq_8 (zbd_9 B)) rfl fun d4f q4f => ?_
     refine gmul K (z := zs0) (Dz.mul q4a q4f zeq_10 (zbd_9 B)) rfl fun d4g q4g => ?_
     refine gadd K (z := zs0) (Dz.add q3z q4g zeq_11 (zbd_9 B)) rfl fun d4h q4h => ?_
     refine gR K O3v V3v 117 [aR 0,aA xin,aI 2,aI 0,aR 8,aI 1,aI 0,aR 9,aI 0,aD d4h,aS,aI 1,aI 1] [aI 1,aR 9,aD d4h] rfl ?_
     refine gdl K 1 f3x rfl rfl rfl rfl fun d4i q4i => ?_
     refine gR0 K O3v V3v 121 [aI 1,aA xin,aD d4i,aD d4h] rfl ?_
     refine gdl K 1 f4b rfl rfl rfl rfl fun d4j q4j => ?_
     refine gR0 K O3v V3v 128 [aI 1,aR 12,aD d4j,aD d4i,aD d4h] rfl ?_
     refine gdl K 1 f4d rfl rfl rfl rfl fun d4k q4k => ?_
     refine gsub K (z := zs1) (Dz.sub q4j q4k zeq_1 (zbd_2 B)) rfl fun d4l q4l => ?_
     refine gmul K (z := 0) (Dz.mul q4i q4l zeq_3 (by decide)) rfl fun d4m q4m => ?_
     refine gadd K (z := zs0) (Dz.add q4h q4m zeq_14 (zbd_9 B)) rfl fun d4n q4n => ?_
     refine gR K O3v V3v 147 [aR 0,aA xin,aI 2,aI 0,aR 8,aI 1,aI 0,aR 9,aI 0,aD d4n,aS,aI 2,aI 1] [aD d4n,aI 0,aR 10] rfl ?_
     refine gds K 0 f3y rfl rfl rfl q4n (N.ge 10 rfl) rfl fun h4o (W4o : KJ x h3v h4o [10]) (f4o : AD Z h4o (x 10) [zs0, 0]) => ?_
     obtain ⟨O4p, V4p⟩ := ov N O3v V3v (js := [10]) W4o rfl rfl rfl
     refine gR K O4p V4p 78 [aR 0,aA xin,aI 2,aI 1,aR 8,aI 1,aI 0,aR 9,aI 2,aD d4n,aS,aI 2,aI 1] [aR 9,aI 2] rfl ?_
     have k4q := kx [10,16] (js' := [10]) k3w W4o rfl rfl
     have f4r := F9.keep k4q (nx N 9 rfl)
     refine gal K 4 f4r rfl rfl rfl ?_
     refine gR0 K O4p V4p 87 [aI 1,aR 10] rfl ?_
     refine gdl K 1 f4o rfl rfl rfl rfl fun d4s q4s => ?_
     refine gR K O4p V4p 117 [aR 0,aA xin,aI 2,aI 1,aR 8,aI 1,aI 0,aR 9,aI 2,aD d4s,aS,aI 0,aI 0] [aI 2,aR 9,aD d4s] rfl ?_
     refine gdl K 2 f4r rfl rfl rfl rfl fun d4t q4t => ?_
     refine gR0 K O4p V4p 121 [aI 0,aA xin,aD d4t,aD d4s] rfl ?_
     have f4u := (((Fxin.keep W2h I.1).keep W3v I.1).keep W4o I.2.1)
     refine gdl K 0 f4u rfl rfl rfl rfl fun d4v q4v => ?_
     refine gR0 K O4p V4p 128 [aI 0,aR 12,aD d4v,aD d4t,aD d4s] rfl ?_
     have f4w := F12.keep k4q (nx N 12 rfl)
     refine gdl K 0 f4w rfl rfl rfl rfl fun d4x q4x => ?_
     refine gsub K (z := zs0) (Dz.sub q4v q4x zeq_8 (zbd_9 B)) rfl fun d4y q4y => ?_
     refine gmul K (z := 0) (Dz.mul q4t q4y zeq_12 (by decide)) rfl fun d4z q4z => ?_
     refine gadd K (z := 0) (Dz.add q4s q4z rfl (by decide)) rfl fun d5a q5a => ?_
     refine gR K O4p V4p 117 [aR 0,aA xin,aI 2,aI 1,aR 8,aI 1,aI 0,aR 9,aI 2,aD d5a,aS,aI 1,aI 1] [aI 3,aR 9,aD d5a] rfl ?_
     refine gdl K 3 f4r rfl rfl rfl rfl fun d5b q5b => ?_
     refine gR0 K O4p V4p 121 [aI 1,aA xin,aD d5b,aD d5a] rfl ?_
     refine gdl K 1 f4u rfl rfl rfl rfl fun d5c q5c => ?_
     refine gR0 K O4p V4p 128 [aI 1,aR 12,aD d5c,aD d5b,aD d5a] rfl ?_
     refine gdl K 1 f4w rfl rfl rfl rfl fun d5d q5d => ?_
     refine gsub K (z := zs1) (Dz.sub q5c q5d zeq_1 (zbd_2 B)) rfl fun d5e q5e => ?_
     refine gmul K (z := (-zs1)) (Dz.mul q5b q5e zeq_5 (zbd_6 B)) rfl fun d5f q5f => ?_
     refine gadd K (z := (-zs1)) (Dz.add q5a q5f zeq_7 (zbd_6 B)) rfl fun d5g q5g => ?_
     refine gR K O4p V4p 147 [aR 0,aA xin,aI 2,aI 1,aR 8,aI 1,aI 0,aR 9,aI 2,aD d5g,aS,aI 2,aI 1] [aD d5g,aI 1,aR 10] rfl ?_
     refine gds K 1 f4o rfl rfl rfl q5g (N.ge 10 rfl) rfl fun h5h (W5h : KJ x h4o h5h [10]) (f5h : AD Z h5h (x 10) [zs0, (-zs1)]) => ?_
     have k5i := kx [10] (js' := [10]) W4o W5h rfl rfl
     obtain ⟨O5j, V5j⟩ := ov N O3v V3v (js := [10]) k5i rfl rfl rfl
     refine gR K O5j V5j 78 [aR 0,aA xin,aI 2,aI 2,aR 8,aI 1,aI 0,aR 9,aI 4,aD d5g,aS,aI 2,aI 1] [aR 9,aI 4] rfl ?_
     have k5k := kx [10,16] (js' := [10]) k4q W5h rfl rfl
     have f5l := F9.keep k5k (nx N 9 rfl)
     refine gal K 4 f5l rfl rfl rfl ?_
     refine gR K O5j V5j 180 [aR 0,aA xin,aI 2,aI 2,aR 8,aI 1,aI 1,aR 9,aI 4,aD d5g,aS,aI 2,aI 1] [aI 2,aI 0,aR 12,aI 0,aA xin] rfl ?_
     have f5m := ((((Fxin.keep W2h I.1).keep W3v I.1).keep W4o I.2.1).keep W5h I.2.1)
     have f5n := F12.keep k5k (nx N 12 rfl)
     refine gcp K (wcopy hw) [zs0, zs1] 2 0 f5m f5n rfl rfl rfl (Nat.le_of_ble_eq_true rfl) (Nat.le_of_ble_eq_true rfl) rfl (N.ge 12 rfl) rfl rfl (by decide) (Nat.le_of_eq rfl) (by decide) fun h5o (W5o : KJ x h5h h5o [12]) f5o => ?_
     have f5p := f5h.keep W5o (nx N 10 rfl)
     have k5q := kx [10,12] (js' := [12]) k5i W5o rfl rfl
     obtain ⟨O5r, V5r⟩ := ov N O3v V3v (js := [10,12]) k5q rfl rfl rfl
     have k5s := kx [10,12,16] (js' := [12]) k5k W5o rfl rfl
     exact grv K rfl (by decide) (by decide) ⟨rfl, 0, 1, k5s, O5r, V5r, f5p, f5o⟩
def t24 : List (List (Nat × Instr × Nat)) := [[(0,.aload_n 0,1),(1,.getfield 13,3),(4,.aload_n 0,1),(5,.getfield 16,3),(8,.iadd,1),(9,.istore_n 1,1),(10,.iconst 0,1),(11,.istore_n 2,1),(12,.iconst 0,1),(13,.istore_n 3,1),(14,.iload_n 3,1),(15,.sipush 1000,3)],
  [(18,.iload_n 1,1),(19,.imul,1),(20,.if_icmp .ge 118,3),(23,.iload_n 2,1),(24,.ifCond .ne 11,3),(27,.iload_n 3,1),(28,.bipush 10,2),(30,.iload_n 1,1),(31,.imul,1)],
  [(32,.if_icmp .lt 7,3),(35,.iconst 1,1),(36,.goto 4,3),(39,.iconst 0,1),(40,.istore_n 2,1),(41,.aload_n 0,1),(42,.iload_n 2,1),(43,.invokevirtual 166,3),(46,.istore 4,2)],
  [(48,.iload 4,2),(50,.ifCond .ge 28,3),(53,.aload_n 0,1),(54,.invokevirtual 170,3),(57,.ifCond .eq 5,3),(60,.iconst 0,1),(61,.ireturn,1),(62,.aload_n 0,1),(63,.getfield 174,3)],
  [(66,.ifCond .ne 5,3),(69,.iconst 2,1),(70,.ireturn,1),(71,.aload_n 0,1),(72,.invokevirtual 177,3),(75,.goto 57,3),(78,.aload_n 0,1),(79,.iload 4,2)],
  [(81,.iload_n 2,1),(82,.invokevirtual 180,3),(85,.istore 5,2),(87,.iload 5,2),(89,.ifCond .ge 19,3),(92,.aload_n 0,1),(93,.getfield 174,3)],
  [(96,.ifCond .ne 5,3),(99,.iconst 1,1),(100,.ireturn,1),(101,.aload_n 0,1),(102,.invokevirtual 177,3),(105,.goto 27,3),(108,.aload_n 0,1),(109,.iload 4,2),(111,.iload 5,2)],
  [(113,.invokevirtual 184,3),(116,.ifCond .ne 16,3),(119,.aload_n 0,1),(120,.getfield 174,3),(123,.ifCond .ne 5,3),(126,.iconst 2,1),(127,.ireturn,1)],
  [(128,.aload_n 0,1),(129,.invokevirtual 177,3),(132,.iinc 3 1,3),(135,.goto (-121),3),(138,.iconst 2,1),(139,.ireturn,1)]]
theorem k24 : TB prog_12_method_9_code t24 := tb_of (by decide +kernel)
def t25 : List (List (Nat × Instr × Nat)) := [[(0,.iconst (-1),1),(1,.istore_n 2,1),(2,.ldc2_w 143,3),(5,.dstore_n 3,1),(6,.iconst 0,1),(7,.istore 5,2),(9,.iload 5,2),(11,.aload_n 0,1),(12,.getfield 13,3),(15,.if_icmp .ge 97,3)],
  [(18,.aload_n 0,1),(19,.getfield 99,3),(22,.iload 5,2),(24,.daload,1),(25,.dstore 6,2),(27,.aload_n 0,1),(28,.getfield 71,3),(31,.iload 5,2)],
  [(33,.iaload,1),(34,.aload_n 0,1),(35,.getfield 16,3),(38,.if_icmp .ge 9,3),(41,.dload 6,2),(43,.dneg,1),(44,.goto 8,3),(47,.dload 6,2)],
  [(49,.invokestatic 139,3),(52,.dstore 8,2),(54,.iload_n 1,1),(55,.ifCond .eq 38,3),(58,.dload 8,2),(60,.ldc2_w 143,3),(63,.dcmp .l,1)],
  [(64,.ifCond .le 42,3),(67,.iload_n 2,1),(68,.ifCond .lt 19,3),(71,.aload_n 0,1),(72,.getfield 71,3),(75,.iload 5,2),(77,.iaload,1),(78,.aload_n 0,1),(79,.getfield 71,3)],
  [(82,.iload_n 2,1),(83,.iaload,1),(84,.if_icmp .ge 22,3),(87,.iload 5,2),(89,.istore_n 2,1),(90,.goto 16,3),(93,.dload 8,2),(95,.dload_n 3,1)],
  [(96,.dcmp .l,1),(97,.ifCond .le 9,3),(100,.dload 8,2),(102,.dstore_n 3,1),(103,.iload 5,2),(105,.istore_n 2,1),(106,.iinc 5 1,3),(109,.goto (-100),3)],
  [(112,.iload_n 2,1),(113,.ireturn,1)]]
theorem k25 : TB prog_12_method_10_code t25 := tb_of (by decide +kernel)
theorem zab_16 {zs0 zs1 zc0 zc2 : Int} (B : ZB zs0 zs1 zc0 zc2) (q0 : zs0 < 0 ∧ zs1 ≤ -zs0) : ((zs0).natAbs : Int) = (-zs0) := by unfold ZB at B; obtain ⟨b1, b2, b3, b4, b5, b6⟩ := B; omega
theorem zep_17 {zs0 zs1 zc0 zc2 : Int} (B : ZB zs0 zs1 zc0 zc2) (q0 : zs0 < 0 ∧ zs1 ≤ -zs0) : 0 < (-zs0) := by unfold ZB at B; obtain ⟨b1, b2, b3, b4, b5, b6⟩ := B; omega
theorem zeq_18 {zs1 : Int} : (-(-zs1) : Int) = zs1 := by omega
theorem zcm_19 {zs0 zs1 zc0 zc2 : Int} (B : ZB zs0 zs1 zc0 zc2) (q0 : zs0 < 0 ∧ zs1 ≤ -zs0) : ¬ (-zs0) < zs1 := by unfold ZB at B; obtain ⟨b1, b2, b3, b4, b5, b6⟩ := B; omega
theorem pd_8 : parseMethodDescriptor "(Z)I" = some ⟨[.boolean], some .int⟩ := by decide +kernel
theorem w_leavingRow {Z : State} {a0 : Array Value} (hw : HW Z a0) : WP Z a0 DSn 166 ⟨DSn, "leavingRow", "(Z)I"⟩ prog_12_method_10_code 10 (some .int) 1 := ⟨⟨(wd hw 193 rfl), (wd hw 194 rfl), own_psel (wd hw 49 rfl) (wd hw 195 rfl) (wd hw 194 rfl) (by decide), (wd hw 195 rfl), wd hw 196 rfl, (wd hw 50 rfl)⟩, by decide, lenK pd_8 rfl⟩
theorem rmLR0 (hw : HW Z a0) (x : Nat → Addr) (uu rr u7_0 u7_1 u7_2 u7_3 u7_4 u16_0 u16_1 u17_0 u17_1 : Int32) (zs0 zs1 zc0 zc2 : Int) (h0 : Heap) (N : NX n0 x) (O : OB Z h0 x DSn (fe uu rr)) (V : EV Z h0 x [(2,[-1,1]),(3,[0,1,2,3]),(4,[0,1,1]),(6,[3,1]),(7,[u7_0,u7_1,u7_2,u7_3,u7_4]),(16,[u16_0,u16_1]),(17,[u17_0,u17_1])]) (B : ZB zs0 zs1 zc0 zc2) (q : zs0 < 0 ∧ zs1 ≤ -zs0) (F10 : AD Z h0 (x 10) [zs0, (-zs1)]) :
    Con l Z n0 ⟨DSn, "leavingRow", "(Z)I"⟩ prog_12_method_10_code 10 (some .int) ⟨1, 0, 0, 15⟩ #[(.ref (x 0)), (.int 0)] h0 (fun v h => v = some (.int 0) ∧ h = h0) := by
 refine con_of (plainFor_of_name pn_DS) ?_
 intro p e s m below meth c T0 K0 X0 e0
 have K : KX p s m meth c Z a0 DSn "leavingRow" prog_12_method_10_code 10 (some .int) t25 (fe uu rr) := ⟨K0, k25, lw hw uu rr⟩
 refine gE (x := x) (L := [aR 0,aI 0,aU,aU,aU,aU,aU,aU,aU,aU]) (by simp [entryFrame, mkF, argsToLocals, Value.category, gL, gS, cs, cv]) X0 e0 ?_
 refine gR K O V 2 ([aR 0,aI 0,aI (-1)]++un 7) [] rfl ?_
 refine gldc K (wd hw 197 rfl) rfl ?_
 refine gR K O V 24 ([aR 0,aI 0,aI (-1),aD 4472406533629990549,aS,aI 0]++un 4) [aI 0,aR 10] rfl ?_
 refine gdl K 0 F10 rfl rfl rfl rfl fun d0a q0a => ?_
 refine gR K O V 49 [aR 0,aI 0,aI (-1),aD 4472406533629990549,aS,aI 0,aD d0a,aS,aU,aU] [aD d0a] rfl ?_
 refine gabs K (wabs hw) (-zs0) 0 q0a (zab_16 B q) rfl rfl (by decide) (Nat.le_of_eq rfl) (by decide) (by decide) (by decide) fun d0b q0b => ?_
 refine gR K O V 96 [aR 0,aI 0,aI (-1),aD 4472406533629990549,aS,aI 0,aD d0a,aS,aD d0b,aS] [aD 4472406533629990549,aD d0b] rfl ?_
 refine gcF K ⟨_, Ep.gt q0b ep_9 (zep_17 B q), rfl⟩ rfl rfl ?_
 refine gR K O V 24 [aR 0,aI 0,aI 0,aD d0b,aS,aI 1,aD d0a,aS,aD d0b,aS] [aI 1,aR 10] rfl ?_
 refine gdl K 1 F10 rfl rfl rfl rfl fun d0c q0c => ?_
 refine gR K O V 43 [aR 0,aI 0,aI 0,aD d0b,aS,aI 1,aD d0c,aS,aD d0b,aS] [aD d0c] rfl ?_
 refine gneg K (z := zs1) (Dz.neg q0c zeq_18) rfl fun d0d q0d => ?_
 refine gR K O V 96 [aR 0,aI 0,aI 0,aD d0b,aS,aI 1,aD d0c,aS,aD d0d,aS] [aD d0b,aD d0d] rfl ?_
 refine gcT K 106 (Dz.tk (cd := .le) q0d q0b (zcm_19 B q)) rfl rfl rfl ?_
 refine gR K O V 113 [aR 0,aI 0,aI 0,aD d0b,aS,aI 2,aD d0c,aS,aD d0d,aS] [aI 0] rfl ?_
 exact gri K rfl (by decide) (by decide) ⟨rfl, rfl⟩
def t27 : List (List (Nat × Instr × Nat)) := [[(0,.aload_n 0,1),(1,.iload_n 1,1),(2,.invokevirtual 188,3),(5,.astore_n 3,1),(6,.aload_n 0,1),(7,.iload_n 1,1),(8,.invokevirtual 192,3),(11,.istore 4,2),(13,.iconst 0,1),(14,.istore 5,2)],
  [(16,.iload 5,2),(18,.aload_n 0,1),(19,.getfield 16,3),(22,.if_icmp .ge 85,3),(25,.dconst 0,1),(26,.dstore 6,2),(28,.aload_n 0,1),(29,.getfield 74,3)],
  [(32,.iload 5,2),(34,.iaload,1),(35,.ifCond .ge 57,3),(38,.aload_n 0,1),(39,.getfield 56,3),(42,.iload 5,2),(44,.iaload,1),(45,.istore 8,2),(47,.iload 8,2)],
  [(49,.aload_n 0,1),(50,.getfield 56,3),(53,.iload 5,2),(55,.iconst 1,1),(56,.iadd,1),(57,.iaload,1),(58,.if_icmp .ge 34,3),(61,.dload 6,2),(63,.aload_n 3,1)],
  [(64,.iload 4,2),(66,.aload_n 0,1),(67,.getfield 63,3),(70,.iload 8,2),(72,.iaload,1),(73,.iadd,1),(74,.daload,1),(75,.aload_n 0,1),(76,.getfield 70,3),(79,.iload 8,2)],
  [(81,.daload,1),(82,.dmul,1),(83,.dadd,1),(84,.dstore 6,2),(86,.iinc 8 1,3),(89,.goto (-42),3),(92,.aload_n 0,1),(93,.getfield 108,3)],
  [(96,.iload 5,2),(98,.dload 6,2),(100,.dastore,1),(101,.iinc 5 1,3),(104,.goto (-88),3),(107,.aload_n 0,1),(108,.getfield 99,3),(111,.iload_n 1,1)],
  [(112,.daload,1),(113,.dconst 0,1),(114,.dcmp .g,1),(115,.ifCond .ge 9,3),(118,.ldc2_w 195,3),(121,.goto 4,3),(124,.dconst 1,1),(125,.dstore 5,2),(127,.iload_n 2,1)],
  [(128,.ifCond .eq 7,3),(131,.dconst 0,1),(132,.goto 6,3),(135,.ldc2_w 143,3),(138,.dstore 7,2),(140,.ldc2_w 197,3),(143,.dstore 9,2)],
  [(145,.iconst 0,1),(146,.istore 11,2),(148,.iload 11,2),(150,.aload_n 0,1),(151,.getfield 16,3),(154,.if_icmp .ge 54,3),(157,.dload 5,2),(159,.aload_n 0,1)],
  [(160,.getfield 108,3),(163,.iload 11,2),(165,.daload,1),(166,.dmul,1),(167,.dstore 12,2),(169,.dload 12,2),(171,.ldc2_w 143,3),(174,.dcmp .l,1),(175,.ifCond .le 27,3)],
  [(178,.dload 9,2),(180,.dconst 0,1),(181,.aload_n 0,1),(182,.getfield 102,3),(185,.iload 11,2),(187,.daload,1),(188,.invokestatic 199,3),(191,.dload 7,2)],
  [(193,.dadd,1),(194,.dload 12,2),(196,.ddiv,1),(197,.invokestatic 202,3),(200,.dstore 9,2),(202,.iinc 11 1,3),(205,.goto (-57),3)],
  [(208,.iconst (-1),1),(209,.istore 11,2),(211,.dconst 0,1),(212,.dstore 12,2),(214,.iconst 0,1),(215,.istore 14,2),(217,.iload 14,2),(219,.aload_n 0,1),(220,.getfield 16,3),(223,.if_icmp .ge 73,3)],
  [(226,.dload 5,2),(228,.aload_n 0,1),(229,.getfield 108,3),(232,.iload 14,2),(234,.daload,1),(235,.dmul,1),(236,.dstore 15,2),(238,.dload 15,2)],
  [(240,.ldc2_w 143,3),(243,.dcmp .l,1),(244,.ifCond .le 46,3),(247,.dconst 0,1),(248,.aload_n 0,1),(249,.getfield 102,3),(252,.iload 14,2),(254,.daload,1),(255,.invokestatic 199,3)],
  [(258,.dload 15,2),(260,.ddiv,1),(261,.dload 9,2),(263,.dcmp .g,1),(264,.ifCond .gt 26,3),(267,.iload_n 2,1),(268,.ifCond .eq 6,3),(271,.iload 14,2)],
  [(273,.ireturn,1),(274,.dload 15,2),(276,.dload 12,2),(278,.dcmp .l,1),(279,.ifCond .le 11,3),(282,.dload 15,2),(284,.dstore 12,2),(286,.iload 14,2)],
  [(288,.istore 11,2),(290,.iinc 14 1,3),(293,.goto (-76),3),(296,.iload 11,2),(298,.ireturn,1)]]
theorem k27 : TB prog_12_method_11_code t27 := tb_of (by decide +kernel)
theorem zcm_24 {zs0 zs1 zc0 zc2 : Int} (B : ZB zs0 zs1 zc0 zc2) (q0 : zs0 < 0) : zs0 < 0 := by unfold ZB at B; obtain ⟨b1, b2, b3, b4, b5, b6⟩ := B; omega
theorem pd_9 : parseMethodDescriptor "(IZ)I" = some ⟨[.int, .boolean], some .int⟩ := by decide +kernel
theorem w_enteringColumn {Z : State} {a0 : Array Value} (hw : HW Z a0) : WP Z a0 DSn 180 ⟨DSn, "enteringColumn", "(IZ)I"⟩ prog_12_method_11_code 17 (some .int) 2 := ⟨⟨(wd hw 201 rfl), (wd hw 202 rfl), own_psel (wd hw 49 rfl) (wd hw 203 rfl) (wd hw 202 rfl) (by decide), (wd hw 203 rfl), wd hw 204 rfl, (wd hw 50 rfl)⟩, by decide, lenK pd_9 rfl⟩
theorem rmEC0 (hw : HW Z a0) (x : Nat → Addr) (uu rr u6_0 u6_1 u16_0 u16_1 u17_0 u17_1 : Int32) (y13_0 y13_1 y13_2 : Int) (zs0 zs1 zc0 zc2 : Int) (h0 : Heap) (N : NX n0 x) (O : OB Z h0 x DSn (fe uu rr)) (V : EV Z h0 x [(2,[-1,1]),(3,[0,1,2,3]),(4,[0,1,1]),(6,[u6_0,u6_1]),(7,[-1,1,-1,0,-1]),(16,[u16_0,u16_1]),(17,[u17_0,u17_1])]) (B : ZB zs0 zs1 zc0 zc2) (q : zs0 < 0) (F5 : AD Z h0 (x 5) [1, (-1), 1]) (F9 : AD Z h0 (x 9) [1, 0, 0, (-1)]) (F10 : AD Z h0 (x 10) [zs0, (-zs1)]) (F11 : AD Z h0 (x 11) [zc0, 0, zc2]) (F13 : AD Z h0 (x 13) [y13_0, y13_1, y13_2]) :
    Con l Z n0 ⟨DSn, "enteringColumn", "(IZ)I"⟩ prog_12_method_11_code 17 (some .int) ⟨1, 0, 0, 13⟩ #[(.ref (x 0)), (.int 0), (.int 0)] h0 (fun v h => v = some (.int (-1)) ∧ KJ x h0 h [13] ∧ AD Z h (x 13) [1, 0, 0]) := by
 refine con_of (plainFor_of_name pn_DS) ?_
 intro p e s m below meth c T0 K0 X0 e0
 have K : KX p s m meth c Z a0 DSn "enteringColumn" prog_12_method_11_code 17 (some .int) t27 (fe uu rr) := ⟨K0, k27, lw hw uu rr⟩
 refine gE (x := x) (L := [aR 0,aI 0,aI 0,aU,aU,aU,aU,aU,aU,aU,aU,aU,aU,aU,aU,aU,aU]) (by simp [entryFrame, mkF, argsToLocals, Value.category, gL, gS, cs, cv]) X0 e0 ?_
 refine gR0 K O V 2 [aI 0,aR 0] rfl ?_
 refine gPr K (w_block hw) O (rmBlk0 hw x uu rr u6_0 u6_1 (-1) 1 (-1) 0 (-1) u16_0 u16_1 u17_0 u17_1 zs0 zs1 zc0 zc2 h0 N O V B) [] 0 rfl rfl rfl rfl (by decide) (Nat.le_of_eq rfl) (by decide) (by decide) (by decide) ?_
 refine gR K O V 8 ([aR 0,aI 0,aI 0,aR 9]++un 13) [aI 0,aR 0] rfl ?_
 refine gPi K (w_first hw) O (rmFst0 hw x uu rr u6_0 u6_1 (-1) 1 (-1) 0 (-1) u16_0 u16_1 u17_0 u17_1 zs0 zs1 zc0 zc2 h0 N O V B) [] 0 rfl rfl rfl rfl (by decide) (Nat.le_of_eq rfl) (by decide) (by decide) (by decide) ?_
 refine gR K O V 74 ([aR 0,aI 0,aI 0,aR 9,aI 0,aI 0,aD 0,aS,aI 0]++un 8) [aI 0,aR 9,aD 0] rfl ?_
 refine gdl K 0 F9 rfl rfl rfl rfl fun d0a q0a => ?_
 refine gR0 K O V 81 [aI 0,aR 5,aD d0a,aD 0] rfl ?_
 refine gdl K 0 F5 rfl rfl rfl rfl fun d0b q0b => ?_
 refine gmul K (z := 1) (Dz.mul q0a q0b rfl (by decide)) rfl fun d0c q0c => ?_
 refine gadd K (z := 1) (Dz.add Dz.zero q0c rfl (by decide)) rfl fun d0d q0d => ?_
 refine gR K O V 100 ([aR 0,aI 0,aI 0,aR 9,aI 0,aI 0,aD d0d,aS,aI 1]++un 8) [aD d0d,aI 0,aR 13] rfl ?_
 refine gds K 0 F13 rfl rfl rfl q0d (N.ge 13 rfl) rfl fun h0e (W0e : KJ x h0 h0e [13]) (f0e : AD Z h0e (x 13) [1, y13_1, y13_2]) => ?_
 obtain ⟨O0f, V0f⟩ := ov N O V (js := [13]) W0e rfl rfl rfl
 refine gR K O0f V0f 100 ([aR 0,aI 0,aI 0,aR 9,aI 0,aI 1,aD 0,aS,aI 1]++un 8) [aD 0,aI 1,aR 13] rfl ?_
 refine gds K 1 f0e rfl rfl rfl Dz.zero (N.ge 13 rfl) rfl fun h0g (W0g : KJ x h0e h0g [13]) (f0g : AD Z h0g (x 13) [1, 0, y13_2]) => ?_
 have k0h := kx [13] (js' := [13]) W0e W0g rfl rfl
 obtain ⟨O0i, V0i⟩ := ov N O V (js := [13]) k0h rfl rfl rfl
 refine gR K O0i V0i 74 ([aR 0,aI 0,aI 0,aR 9,aI 0,aI 2,aD 0,aS,aI 2]++un 8) [aI 1,aR 9,aD 0] rfl ?_
 have f0j := F9.keep k0h (nx N 9 rfl)
 refine gdl K 1 f0j rfl rfl rfl rfl fun d0k q0k => ?_
 refine gR0 K O0i V0i 81 [aI 2,aR 5,aD d0k,aD 0] rfl ?_
 have f0l := F5.keep k0h (nx N 5 rfl)
 refine gdl K 2 f0l rfl rfl rfl rfl fun d0m q0m => ?_
 refine gmul K (z := 0) (Dz.mul q0k q0m rfl (by decide)) rfl fun d0n q0n => ?_
 refine gadd K (z := 0) (Dz.add Dz.zero q0n rfl (by decide)) rfl fun d0o q0o => ?_
 refine gR K O0i V0i 100 ([aR 0,aI 0,aI 0,aR 9,aI 0,aI 2,aD d0o,aS,aI 3]++un 8) [aD d0o,aI 2,aR 13] rfl ?_
 refine gds K 2 f0g rfl rfl rfl q0o (N.ge 13 rfl) rfl fun h0p (W0p : KJ x h0g h0p [13]) (f0p : AD Z h0p (x 13) [1, 0, 0]) => ?_
 have k0q := kx [13] (js' := [13]) k0h W0p rfl rfl
 obtain ⟨O0r, V0r⟩ := ov N O V (js := [13]) k0q rfl rfl rfl
 refine gR K O0r V0r 112 ([aR 0,aI 0,aI 0,aR 9,aI 0,aI 3,aD d0o,aS,aI 3]++un 8) [aI 0,aR 10] rfl ?_
 have f0s := F10.keep k0q (nx N 10 rfl)
 refine gdl K 0 f0s rfl rfl rfl rfl fun d0t q0t => ?_
 refine gR0 K O0r V0r 114 [aD 0,aD d0t] rfl ?_
 refine gcF K (Dz.nt (cd := .ge) q0t Dz.zero (zcm_24 B q)) rfl rfl ?_
 refine gldc K (wd hw 170 rfl) rfl ?_
 refine gR K O0r V0r 135 ([aR 0,aI 0,aI 0,aR 9,aI 0,aD 13830554455654793216,aS,aU,aI 3]++un 8) [] rfl ?_
 refine gldc K (wd hw 197 rfl) rfl ?_
 refine gR K O0r V0r 140 ([aR 0,aI 0,aI 0,aR 9,aI 0,aD 13830554455654793216,aS,aD 4472406533629990549,aS]++un 8) [] rfl ?_
 refine gldc K (wd hw 205 rfl) rfl ?_
 refine gR K O0r V0r 165 ([aR 0,aI 0,aI 0,aR 9,aI 0,aD 13830554455654793216,aS,aD 4472406533629990549,aS,aD 9218868437227405312,aS,aI 0]++un 5) [aI 0,aR 13,aD 13830554455654793216] rfl ?_
 refine gdl K 0 f0p rfl rfl rfl rfl fun d0u q0u => ?_
 refine gmul K (z := (-1)) (Dz.mul Dz.mone q0u rfl (by decide)) rfl fun d0v q0v => ?_
 refine gR K O0r V0r 171 [aR 0,aI 0,aI 0,aR 9,aI 0,aD 13830554455654793216,aS,aD 4472406533629990549,aS,aD 9218868437227405312,aS,aI 0,aD d0v,aS,aU,aU,aU] [aD d0v] rfl ?_
 refine gldc K (wd hw 197 rfl) rfl ?_
 refine gcT K 202 ⟨_, Ep.lt q0v ep_9 (by decide), rfl⟩ rfl rfl rfl ?_
 refine gR K O0r V0r 165 [aR 0,aI 0,aI 0,aR 9,aI 0,aD 13830554455654793216,aS,aD 4472406533629990549,aS,aD 9218868437227405312,aS,aI 1,aD d0v,aS,aU,aU,aU] [aI 1,aR 13,aD 13830554455654793216] rfl ?_
 refine gdl K 1 f0p rfl rfl rfl rfl fun d0w q0w => ?_
 refine gmul K (z := 0) (Dz.mul Dz.mone q0w rfl (by decide)) rfl fun d0x q0x => ?_
 refine gR K O0r V0r 171 [aR 0,aI 0,aI 0,aR 9,aI 0,aD 13830554455654793216,aS,aD 4472406533629990549,aS,aD 9218868437227405312,aS,aI 1,aD d0x,aS,aU,aU,aU] [aD d0x] rfl ?_
 refine gldc K (wd hw 197 rfl) rfl ?_
 refine gcT K 202 ⟨_, Ep.lt q0x ep_9 (by decide), rfl⟩ rfl rfl rfl ?_
 refine gR K O0r V0r 165 [aR 0,aI 0,aI 0,aR 9,aI 0,aD 13830554455654793216,aS,aD 4472406533629990549,aS,aD 9218868437227405312,aS,aI 2,aD d0x,aS,aU,aU,aU] [aI 2,aR 13,aD 13830554455654793216] rfl ?_
 refine gdl K 2 f0p rfl rfl rfl rfl fun d0y q0y => ?_
 refine gmul K (z := 0) (Dz.mul Dz.mone q0y rfl (by decide)) rfl fun d0z q0z => ?_
 refine gR K O0r V0r 171 [aR 0,aI 0,aI 0,aR 9,aI 0,aD 13830554455654793216,aS,aD 4472406533629990549,aS,aD 9218868437227405312,aS,aI 2,aD d0z,aS,aU,aU,aU] [aD d0z] rfl ?_
 refine gldc K (wd hw 197 rfl) rfl ?_
 refine gcT K 202 ⟨_, Ep.lt q0z ep_9 (by decide), rfl⟩ rfl rfl rfl ?_
 refine gR K O0r V0r 234 [aR 0,aI 0,aI 0,aR 9,aI 0,aD 13830554455654793216,aS,aD 4472406533629990549,aS,aD 9218868437227405312,aS,aI (-1),aD 0,aS,aI 0,aU,aU] [aI 0,aR 13,aD 13830554455654793216] rfl ?_
 refine gdl K 0 f0p rfl rfl rfl rfl fun d1a q1a => ?_
 refine gmul K (z := (-1)) (Dz.mul Dz.mone q1a rfl (by decide)) rfl fun d1b q1b => ?_
 refine gR K O0r V0r 240 [aR 0,aI 0,aI 0,aR 9,aI 0,aD 13830554455654793216,aS,aD 4472406533629990549,aS,aD 9218868437227405312,aS,aI (-1),aD 0,aS,aI 0,aD d1b,aS] [aD d1b] rfl ?_
 refine gldc K (wd hw 197 rfl) rfl ?_
 refine gcT K 290 ⟨_, Ep.lt q1b ep_9 (by decide), rfl⟩ rfl rfl rfl ?_
 refine gR K O0r V0r 234 [aR 0,aI 0,aI 0,aR 9,aI 0,aD 13830554455654793216,aS,aD 4472406533629990549,aS,aD 9218868437227405312,aS,aI (-1),aD 0,aS,aI 1,aD d1b,aS] [aI 1,aR 13,aD 13830554455654793216] rfl ?_
 refine gdl K 1 f0p rfl rfl rfl rfl fun d1c q1c => ?_
 refine gmul K (z := 0) (Dz.mul Dz.mone q1c rfl (by decide)) rfl fun d1d q1d => ?_
 refine gR K O0r V0r 240 [aR 0,aI 0,aI 0,aR 9,aI 0,aD 13830554455654793216,aS,aD 4472406533629990549,aS,aD 9218868437227405312,aS,aI (-1),aD 0,aS,aI 1,aD d1d,aS] [aD d1d] rfl ?_
 refine gldc K (wd hw 197 rfl) rfl ?_
 refine gcT K 290 ⟨_, Ep.lt q1d ep_9 (by decide), rfl⟩ rfl rfl rfl ?_
 refine gR K O0r V0r 234 [aR 0,aI 0,aI 0,aR 9,aI 0,aD 13830554455654793216,aS,aD 4472406533629990549,aS,aD 9218868437227405312,aS,aI (-1),aD 0,aS,aI 2,aD d1d,aS] [aI 2,aR 13,aD 13830554455654793216] rfl ?_
 refine gdl K 2 f0p rfl rfl rfl rfl fun d1e q1e => ?_
 refine gmul K (z := 0) (Dz.mul Dz.mone q1e rfl (by decide)) rfl fun d1f q1f => ?_
 refine gR K O0r V0r 240 [aR 0,aI 0,aI 0,aR 9,aI 0,aD 13830554455654793216,aS,aD 4472406533629990549,aS,aD 9218868437227405312,aS,aI (-1),aD 0,aS,aI 2,aD d1f,aS] [aD d1f] rfl ?_
 refine gldc K (wd hw 197 rfl) rfl ?_
 refine gcT K 290 ⟨_, Ep.lt q1f ep_9 (by decide), rfl⟩ rfl rfl rfl ?_
 refine gR K O0r V0r 298 [aR 0,aI 0,aI 0,aR 9,aI 0,aD 13830554455654793216,aS,aD 4472406533629990549,aS,aD 9218868437227405312,aS,aI (-1),aD 0,aS,aI 3,aD d1f,aS] [aI (-1)] rfl ?_
 exact gri K rfl (by decide) (by decide) ⟨rfl, k0q, f0p⟩
theorem zph_31 {zs0 zs1 zc0 zc2 : Int} (B : ZB zs0 zs1 zc0 zc2) (q0 : zs0 < 0 ∧ zs1 ≤ -zs0) : zs0 < 0 := by unfold ZB at B; obtain ⟨b1, b2, b3, b4, b5, b6⟩ := B; omega
theorem pd_10 : parseMethodDescriptor "()I" = some ⟨[], some .int⟩ := by decide +kernel
theorem w_pivots {Z : State} {a0 : Array Value} (hw : HW Z a0) : WP Z a0 DSn 131 ⟨DSn, "pivots", "()I"⟩ prog_12_method_9_code 6 (some .int) 0 := ⟨⟨(wd hw 189 rfl), (wd hw 190 rfl), own_psel (wd hw 49 rfl) (wd hw 191 rfl) (wd hw 190 rfl) (by decide), (wd hw 191 rfl), wd hw 192 rfl, (wd hw 50 rfl)⟩, by decide, lenK pd_10 rfl⟩
theorem rmPvs1 (hw : HW Z a0) (x : Nat → Addr) (u16_0 u16_1 : Int32) (zs0 zs1 zc0 zc2 : Int) (h0 : Heap) (N : NX n0 x) (O : OB Z h0 x DSn (fe 0 0)) (V : EV Z h0 x [(2,[-1,1]),(3,[0,1,2,3]),(4,[0,1,1]),(6,[3,1]),(7,[-1,1,-1,0,-1]),(16,[u16_0,u16_1]),(17,[0,0])]) (B : ZB zs0 zs1 zc0 zc2) (q : zs0 < 0 ∧ zs1 ≤ -zs0) (Z0 : n0 ≤ h0.size) (F1 : AD Z h0 (x 1) [zc0, 0, zc2]) (F5 : AD Z h0 (x 5) [1, (-1), 1]) (F9 : AD Z h0 (x 9) [1, 0, 0, (-1)]) (F10 : AD Z h0 (x 10) [zs0, (-zs1)]) (F11 : AD Z h0 (x 11) [zc0, 0, zc2]) (F12 : AD Z h0 (x 12) [zs0, zs1]) (F13 : AD Z h0 (x 13) [0, 0, 0]) (F14 : AD Z h0 (x 14) [0, 0]) (F15 : AD Z h0 (x 15) [0, 0]) (E12 : Exa Z h0 (x 12) "[D") :
    Con l Z n0 ⟨DSn, "pivots", "()I"⟩ prog_12_method_9_code 6 (some .int) ⟨2, 0, 0, 41⟩ #[(.ref (x 0))] h0 (fun v h => v = some (.int 1) ∧ KJ x h0 h [13] ∧ OB Z h x DSn (fe 0 0) ∧ EV Z h x [(2,[-1,1]),(3,[0,1,2,3]),(4,[0,1,1]),(6,[3,1]),(7,[-1,1,-1,0,-1]),(16,[u16_0,u16_1]),(17,[0,0])] ∧ AD Z h (x 10) [zs0, (-zs1)]) := by
 refine con_of (plainFor_of_name pn_DS) ?_
 intro p e s m below meth c T0 K0 X0 e0
 have K : KX p s m meth c Z a0 DSn "pivots" prog_12_method_9_code 6 (some .int) t24 (fe 0 0) := ⟨K0, k24, lw hw 0 0⟩
 refine gE (x := x) (L := [aR 0,aU,aU,aU,aU,aU]) (by simp [entryFrame, mkF, argsToLocals, Value.category, gL, gS, cs, cv]) X0 e0 ?_
 refine gR K O V 43 [aR 0,aI 5,aI 0,aI 0,aU,aU] [aI 0,aR 0] rfl ?_
 refine gPi K (w_leavingRow hw) O (rmLR0 hw x 0 0 (-1) 1 (-1) 0 (-1) u16_0 u16_1 0 0 zs0 zs1 zc0 zc2 h0 N O V B q F10) [] 0 rfl rfl rfl rfl (by decide) (Nat.le_of_eq rfl) (by decide) (by decide) (by decide) ?_
 refine gR K O V 82 [aR 0,aI 5,aI 0,aI 0,aI 0,aU] [aI 0,aI 0,aR 0] rfl ?_
 refine gP K (w_enteringColumn hw) O (rmEC0 hw x 0 0 3 1 u16_0 u16_1 0 0 0 0 0 zs0 zs1 zc0 zc2 h0 N O V B (zph_31 B q) F5 F9 F10 F11 F13) [] 0 rfl rfl rfl rfl (by decide) (Nat.le_of_eq rfl) (by decide) (by decide) (by decide) ?_
 rintro h0a _ ⟨rfl, W0a, f0a⟩
 refine sh (FA m x 85 [aR 0,aI 5,aI 0,aI 0,aI 0,aU] [aI (-1)]) rfl ?_
 obtain ⟨O0b, V0b⟩ := ov N O V (js := [13]) W0a rfl rfl rfl
 refine gR K O0b V0b 100 [aR 0,aI 5,aI 0,aI 0,aI 0,aI (-1)] [aI 1] rfl ?_
 have f0c := F10.keep W0a (nx N 10 rfl)
 exact gri K rfl (by decide) (by decide) ⟨rfl, W0a, O0b, V0b, f0c⟩
def t22 : List (List (Nat × Instr × Nat)) := [[(0,.aload_n 1,1),(1,.arraylength,1),(2,.aload_n 0,1),(3,.getfield 13,3),(6,.if_icmp .eq 22,3),(9,.new 28,3),(12,.dup,1),(13,.aload_n 1,1),(14,.arraylength,1),(15,.aload_n 0,1)],
  [(16,.getfield 13,3),(19,.invokedynamic 126,5),(24,.invokespecial 34,3),(27,.athrow,1),(28,.aload_n 0,1),(29,.aload_n 1,1),(30,.invokevirtual 127,3)],
  [(33,.aload_n 0,1),(34,.invokevirtual 131,3),(37,.istore_n 2,1),(38,.iload_n 2,1),(39,.iconst 2,1),(40,.if_icmp .ne 12,3),(43,.aload_n 0,1),(44,.invokevirtual 123,3),(47,.aload_n 0,1)],
  [(48,.invokevirtual 131,3),(51,.istore_n 2,1),(52,.iload_n 2,1),(53,.iconst 2,1),(54,.if_icmp .ne 24,3),(57,.new 135,3),(60,.dup,1),(61,.aload_n 0,1),(62,.getfield 13,3)],
  [(65,.aload_n 0,1),(66,.getfield 16,3),(69,.invokedynamic 137,5),(74,.invokespecial 138,3),(77,.athrow,1),(78,.iload_n 2,1),(79,.ifCond .ne 7,3)],
  [(82,.iconst 1,1),(83,.goto 4,3),(86,.iconst 0,1),(87,.ireturn,1)]]
theorem k22 : TB prog_12_method_2_code t22 := tb_of (by decide +kernel)
theorem rmSol1 (hw : HW Z a0) (x : Nat → Addr) (xin : Addr) (zs0 zs1 zc0 zc2 : Int) (h0 : Heap) (N : NX n0 x) (O : OB Z h0 x DSn (fe 0 0)) (V : EV Z h0 x [(2,[-1,1]),(3,[0,1,2,3]),(4,[0,1,1]),(6,[3,1]),(7,[-1,1,-1,0,-1]),(16,[0,0]),(17,[0,0])]) (B : ZB zs0 zs1 zc0 zc2) (q : zs0 < 0 ∧ zs1 ≤ -zs0) (Z0 : n0 ≤ h0.size) (Fxin : AD Z h0 xin [zs0, zs1]) (F1 : AD Z h0 (x 1) [zc0, 0, zc2]) (F5 : AD Z h0 (x 5) [1, (-1), 1]) (F9 : AD Z h0 (x 9) [1, 0, 0, (-1)]) (F10 : AD Z h0 (x 10) [0, 0]) (F11 : AD Z h0 (x 11) [zc0, 0, zc2]) (F12 : AD Z h0 (x 12) [0, 0]) (F13 : AD Z h0 (x 13) [0, 0, 0]) (F14 : AD Z h0 (x 14) [0, 0]) (F15 : AD Z h0 (x 15) [0, 0]) (E12 : Exa Z h0 (x 12) "[D") (I : xin ∉ [x 16] ∧ xin ∉ [x 10] ∧ xin ∉ [x 12]) :
    Con l Z n0 ⟨DSn, "solve", "([D)Z"⟩ prog_12_method_2_code 3 (some .boolean) ⟨3, 0, 0, 84⟩ #[(.ref (x 0)), (.ref xin)] h0 (fun v h => ∃ ka kb : Int32, v = some (.int 0) ∧ KJ x h0 h [10,12,13,16] ∧ OB Z h x DSn (fe 0 0) ∧ EV Z h x [(2,[-1,1]),(3,[0,1,2,3]),(4,[0,1,1]),(6,[3,1]),(7,[-1,1,-1,0,-1]),(16,[ka,kb]),(17,[0,0])] ∧ AD Z h (x 1) [zc0, 0, zc2] ∧ AD Z h (x 10) [zs0, (-zs1)]) := by
 refine con_of (plainFor_of_name pn_DS) ?_
 intro p e s m below meth c T0 K0 X0 e0
 have K : KX p s m meth c Z a0 DSn "solve" prog_12_method_2_code 3 (some .boolean) t22 (fe 0 0) := ⟨K0, k22, lw hw 0 0⟩
 refine gE (x := x) (L := [aR 0,aA xin,aU]) (by simp [entryFrame, mkF, argsToLocals, Value.category, gL, gS, cs, cv]) X0 e0 ?_
 refine gR0 K O V 1 [aA xin] rfl ?_
 refine gal K 2 Fxin rfl rfl rfl ?_
 refine gR0 K O V 30 [aA xin,aR 0] rfl ?_
 refine gP K (w_moveValues hw) O (rmMv hw x 0 0 3 1 (-1) 1 (-1) 0 (-1) 0 0 xin zs0 zs1 zc0 zc2 h0 N O V B Fxin F9 F10 F12 I) [] 0 rfl rfl rfl rfl (by decide) (Nat.le_of_eq rfl) (by decide) (by decide) (by decide) ?_
 rintro h0a _ ⟨rfl, ka0a, kb0a, W0a, O0a, V0a, f0a_10, f0a_12⟩
 refine sh (FA m x 33 [aR 0,aA xin,aU] []) rfl ?_
 refine gR0 K O0a V0a 34 [aR 0] rfl ?_
 have f0b := F1.keep W0a (nx N 1 rfl)
 have f0c := F5.keep W0a (nx N 5 rfl)
 have f0d := F9.keep W0a (nx N 9 rfl)
 have f0e := F11.keep W0a (nx N 11 rfl)
 have f0f := F13.keep W0a (nx N 13 rfl)
 have f0g := F14.keep W0a (nx N 14 rfl)
 have f0h := F15.keep W0a (nx N 15 rfl)
 have e0i := (E12.keep W0a)
 refine gP K (w_pivots hw) O0a (rmPvs1 hw x ka0a kb0a zs0 zs1 zc0 zc2 h0a N O0a V0a B q (Nat.le_trans Z0 W0a.1) f0b f0c f0d f0a_10 f0e f0a_12 f0f f0g f0h e0i) [] 0 rfl rfl rfl rfl (by decide) (Nat.le_of_eq rfl) (by decide) (by decide) (by decide) ?_
 rintro h0j _ ⟨rfl, W0j, O0j, V0j, f0j_10⟩
 refine sh (FA m x 37 [aR 0,aA xin,aU] [aI 1]) rfl ?_
 refine gR K O0j V0j 87 [aR 0,aA xin,aI 1] [aI 0] rfl ?_
 have k0k := kx [10,12,13,16] (js' := [13]) W0a W0j rfl rfl
 have f0l := F1.keep k0k (nx N 1 rfl)
 exact grz K (Or.inl rfl) rfl (by decide) (by decide) ⟨ka0a, kb0a, rfl, k0k, O0j, V0j, f0l, f0j_10⟩
theorem zab_32 {zs0 zs1 zc0 zc2 : Int} (B : ZB zs0 zs1 zc0 zc2) (q0 : zs0 < 0 ∧ -zs0 < zs1) : ((zs0).natAbs : Int) = (-zs0) := by unfold ZB at B; obtain ⟨b1, b2, b3, b4, b5, b6⟩ := B; omega
theorem zep_33 {zs0 zs1 zc0 zc2 : Int} (B : ZB zs0 zs1 zc0 zc2) (q0 : zs0 < 0 ∧ -zs0 < zs1) : 0 < (-zs0) := by unfold ZB at B; obtain ⟨b1, b2, b3, b4, b5, b6⟩ := B; omega
theorem zcm_34 {zs0 zs1 zc0 zc2 : Int} (B : ZB zs0 zs1 zc0 zc2) (q0 : zs0 < 0 ∧ -zs0 < zs1) : (-zs0) < zs1 := by unfold ZB at B; obtain ⟨b1, b2, b3, b4, b5, b6⟩ := B; omega
theorem rmLR1 (hw : HW Z a0) (x : Nat → Addr) (uu rr u7_0 u7_1 u7_2 u7_3 u7_4 u16_0 u16_1 u17_0 u17_1 : Int32) (zs0 zs1 zc0 zc2 : Int) (h0 : Heap) (N : NX n0 x) (O : OB Z h0 x DSn (fe uu rr)) (V : EV Z h0 x [(2,[-1,1]),(3,[0,1,2,3]),(4,[0,1,1]),(6,[3,1]),(7,[u7_0,u7_1,u7_2,u7_3,u7_4]),(16,[u16_0,u16_1]),(17,[u17_0,u17_1])]) (B : ZB zs0 zs1 zc0 zc2) (q : zs0 < 0 ∧ -zs0 < zs1) (F10 : AD Z h0 (x 10) [zs0, (-zs1)]) :
    Con l Z n0 ⟨DSn, "leavingRow", "(Z)I"⟩ prog_12_method_10_code 10 (some .int) ⟨1, 0, 0, 15⟩ #[(.ref (x 0)), (.int 0)] h0 (fun v h => v = some (.int 1) ∧ h = h0) := by
 refine con_of (plainFor_of_name pn_DS) ?_
 intro p e s m below meth c T0 K0 X0 e0
 have K : KX p s m meth c Z a0 DSn "leavingRow" prog_12_method_10_code 10 (some .int) t25 (fe uu rr) := ⟨K0, k25, lw hw uu rr⟩
 refine gE (x := x) (L := [aR 0,aI 0,aU,aU,aU,aU,aU,aU,aU,aU]) (by simp [entryFrame, mkF, argsToLocals, Value.category, gL, gS, cs, cv]) X0 e0 ?_
 refine gR K O V 2 ([aR 0,aI 0,aI (-1)]++un 7) [] rfl ?_
 refine gldc K (wd hw 197 rfl) rfl ?_
 refine gR K O V 24 ([aR 0,aI 0,aI (-1),aD 4472406533629990549,aS,aI 0]++un 4) [aI 0,aR 10] rfl ?_
 refine gdl K 0 F10 rfl rfl rfl rfl fun d0a q0a => ?_
 refine gR K O V 49 [aR 0,aI 0,aI (-1),aD 4472406533629990549,aS,aI 0,aD d0a,aS,aU,aU] [aD d0a] rfl ?_
 refine gabs K (wabs hw) (-zs0) 0 q0a (zab_32 B q) rfl rfl (by decide) (Nat.le_of_eq rfl) (by decide) (by decide) (by decide) fun d0b q0b => ?_
 refine gR K O V 96 [aR 0,aI 0,aI (-1),aD 4472406533629990549,aS,aI 0,aD d0a,aS,aD d0b,aS] [aD 4472406533629990549,aD d0b] rfl ?_
 refine gcF K ⟨_, Ep.gt q0b ep_9 (zep_33 B q), rfl⟩ rfl rfl ?_
 refine gR K O V 24 [aR 0,aI 0,aI 0,aD d0b,aS,aI 1,aD d0a,aS,aD d0b,aS] [aI 1,aR 10] rfl ?_
 refine gdl K 1 F10 rfl rfl rfl rfl fun d0c q0c => ?_
 refine gR K O V 43 [aR 0,aI 0,aI 0,aD d0b,aS,aI 1,aD d0c,aS,aD d0b,aS] [aD d0c] rfl ?_
 refine gneg K (z := zs1) (Dz.neg q0c zeq_18) rfl fun d0d q0d => ?_
 refine gR K O V 96 [aR 0,aI 0,aI 0,aD d0b,aS,aI 1,aD d0c,aS,aD d0d,aS] [aD d0b,aD d0d] rfl ?_
 refine gcF K (Dz.nt (cd := .le) q0d q0b (zcm_34 B q)) rfl rfl ?_
 refine gR K O V 113 [aR 0,aI 0,aI 1,aD d0d,aS,aI 2,aD d0c,aS,aD d0d,aS] [aI 1] rfl ?_
 exact gri K rfl (by decide) (by decide) ⟨rfl, rfl⟩
theorem zcm_39 {zs0 zs1 zc0 zc2 : Int} (B : ZB zs0 zs1 zc0 zc2) (q0 : (-zs1) < 0) : (-zs1) < 0 := by unfold ZB at B; obtain ⟨b1, b2, b3, b4, b5, b6⟩ := B; omega
theorem zmx_43 {zs0 zs1 zc0 zc2 : Int} (B : ZB zs0 zs1 zc0 zc2) (q0 : (-zs1) < 0) : (if 0 < zc2 then zc2 else 0) = zc2 := by unfold ZB at B; obtain ⟨b1, b2, b3, b4, b5, b6⟩ := B; split <;> omega
theorem znn_44 {zs0 zs1 zc0 zc2 : Int} (B : ZB zs0 zs1 zc0 zc2) (q0 : (-zs1) < 0) : 0 ≤ zc2 ∧ zc2 ≤ 1048575 := by unfold ZB at B; obtain ⟨b1, b2, b3, b4, b5, b6⟩ := B; omega
theorem rmEC1 (hw : HW Z a0) (x : Nat → Addr) (uu rr u6_0 u6_1 u16_0 u16_1 u17_0 u17_1 : Int32) (y13_0 y13_1 y13_2 : Int) (zs0 zs1 zc0 zc2 : Int) (h0 : Heap) (N : NX n0 x) (O : OB Z h0 x DSn (fe uu rr)) (V : EV Z h0 x [(2,[-1,1]),(3,[0,1,2,3]),(4,[0,1,1]),(6,[u6_0,u6_1]),(7,[-1,1,-1,0,-1]),(16,[u16_0,u16_1]),(17,[u17_0,u17_1])]) (B : ZB zs0 zs1 zc0 zc2) (q : (-zs1) < 0) (F5 : AD Z h0 (x 5) [1, (-1), 1]) (F9 : AD Z h0 (x 9) [1, 0, 0, (-1)]) (F10 : AD Z h0 (x 10) [zs0, (-zs1)]) (F11 : AD Z h0 (x 11) [zc0, 0, zc2]) (F13 : AD Z h0 (x 13) [y13_0, y13_1, y13_2]) :
    Con l Z n0 ⟨DSn, "enteringColumn", "(IZ)I"⟩ prog_12_method_11_code 17 (some .int) ⟨1, 0, 0, 17⟩ #[(.ref (x 0)), (.int 1), (.int 0)] h0 (fun v h => v = some (.int 2) ∧ KJ x h0 h [13] ∧ AD Z h (x 13) [0, 0, (-1)]) := by
 refine con_of (plainFor_of_name pn_DS) ?_
 intro p e s m below meth c T0 K0 X0 e0
 have K : KX p s m meth c Z a0 DSn "enteringColumn" prog_12_method_11_code 17 (some .int) t27 (fe uu rr) := ⟨K0, k27, lw hw uu rr⟩
 refine gE (x := x) (L := [aR 0,aI 1,aI 0,aU,aU,aU,aU,aU,aU,aU,aU,aU,aU,aU,aU,aU,aU]) (by simp [entryFrame, mkF, argsToLocals, Value.category, gL, gS, cs, cv]) X0 e0 ?_
 refine gR0 K O V 2 [aI 1,aR 0] rfl ?_
 refine gPr K (w_block hw) O (rmBlk1 hw x uu rr u6_0 u6_1 (-1) 1 (-1) 0 (-1) u16_0 u16_1 u17_0 u17_1 zs0 zs1 zc0 zc2 h0 N O V B) [] 0 rfl rfl rfl rfl (by decide) (Nat.le_of_eq rfl) (by decide) (by decide) (by decide) ?_
 refine gR K O V 8 ([aR 0,aI 1,aI 0,aR 9]++un 13) [aI 1,aR 0] rfl ?_
 refine gPi K (w_first hw) O (rmFst1 hw x uu rr u6_0 u6_1 (-1) 1 (-1) 0 (-1) u16_0 u16_1 u17_0 u17_1 zs0 zs1 zc0 zc2 h0 N O V B) [] 0 rfl rfl rfl rfl (by decide) (Nat.le_of_eq rfl) (by decide) (by decide) (by decide) ?_
 refine gR K O V 74 ([aR 0,aI 1,aI 0,aR 9,aI 2,aI 0,aD 0,aS,aI 0]++un 8) [aI 2,aR 9,aD 0] rfl ?_
 refine gdl K 2 F9 rfl rfl rfl rfl fun d0a q0a => ?_
 refine gR0 K O V 81 [aI 0,aR 5,aD d0a,aD 0] rfl ?_
 refine gdl K 0 F5 rfl rfl rfl rfl fun d0b q0b => ?_
 refine gmul K (z := 0) (Dz.mul q0a q0b rfl (by decide)) rfl fun d0c q0c => ?_
 refine gadd K (z := 0) (Dz.add Dz.zero q0c rfl (by decide)) rfl fun d0d q0d => ?_
 refine gR K O V 100 ([aR 0,aI 1,aI 0,aR 9,aI 2,aI 0,aD d0d,aS,aI 1]++un 8) [aD d0d,aI 0,aR 13] rfl ?_
 refine gds K 0 F13 rfl rfl rfl q0d (N.ge 13 rfl) rfl fun h0e (W0e : KJ x h0 h0e [13]) (f0e : AD Z h0e (x 13) [0, y13_1, y13_2]) => ?_
 obtain ⟨O0f, V0f⟩ := ov N O V (js := [13]) W0e rfl rfl rfl
 refine gR K O0f V0f 100 ([aR 0,aI 1,aI 0,aR 9,aI 2,aI 1,aD 0,aS,aI 1]++un 8) [aD 0,aI 1,aR 13] rfl ?_
 refine gds K 1 f0e rfl rfl rfl Dz.zero (N.ge 13 rfl) rfl fun h0g (W0g : KJ x h0e h0g [13]) (f0g : AD Z h0g (x 13) [0, 0, y13_2]) => ?_
 have k0h := kx [13] (js' := [13]) W0e W0g rfl rfl
 obtain ⟨O0i, V0i⟩ := ov N O V (js := [13]) k0h rfl rfl rfl
 refine gR K O0i V0i 74 ([aR 0,aI 1,aI 0,aR 9,aI 2,aI 2,aD 0,aS,aI 2]++un 8) [aI 3,aR 9,aD 0] rfl ?_
 have f0j := F9.keep k0h (nx N 9 rfl)
 refine gdl K 3 f0j rfl rfl rfl rfl fun d0k q0k => ?_
 refine gR0 K O0i V0i 81 [aI 2,aR 5,aD d0k,aD 0] rfl ?_
 have f0l := F5.keep k0h (nx N 5 rfl)
 refine gdl K 2 f0l rfl rfl rfl rfl fun d0m q0m => ?_
 refine gmul K (z := (-1)) (Dz.mul q0k q0m rfl (by decide)) rfl fun d0n q0n => ?_
 refine gadd K (z := (-1)) (Dz.add Dz.zero q0n rfl (by decide)) rfl fun d0o q0o => ?_
 refine gR K O0i V0i 100 ([aR 0,aI 1,aI 0,aR 9,aI 2,aI 2,aD d0o,aS,aI 3]++un 8) [aD d0o,aI 2,aR 13] rfl ?_
 refine gds K 2 f0g rfl rfl rfl q0o (N.ge 13 rfl) rfl fun h0p (W0p : KJ x h0g h0p [13]) (f0p : AD Z h0p (x 13) [0, 0, (-1)]) => ?_
 have k0q := kx [13] (js' := [13]) k0h W0p rfl rfl
 obtain ⟨O0r, V0r⟩ := ov N O V (js := [13]) k0q rfl rfl rfl
 refine gR K O0r V0r 112 ([aR 0,aI 1,aI 0,aR 9,aI 2,aI 3,aD d0o,aS,aI 3]++un 8) [aI 1,aR 10] rfl ?_
 have f0s := F10.keep k0q (nx N 10 rfl)
 refine gdl K 1 f0s rfl rfl rfl rfl fun d0t q0t => ?_
 refine gR0 K O0r V0r 114 [aD 0,aD d0t] rfl ?_
 refine gcF K (Dz.nt (cd := .ge) q0t Dz.zero (zcm_39 B q)) rfl rfl ?_
 refine gldc K (wd hw 170 rfl) rfl ?_
 refine gR K O0r V0r 135 ([aR 0,aI 1,aI 0,aR 9,aI 2,aD 13830554455654793216,aS,aU,aI 3]++un 8) [] rfl ?_
 refine gldc K (wd hw 197 rfl) rfl ?_
 refine gR K O0r V0r 140 ([aR 0,aI 1,aI 0,aR 9,aI 2,aD 13830554455654793216,aS,aD 4472406533629990549,aS]++un 8) [] rfl ?_
 refine gldc K (wd hw 205 rfl) rfl ?_
 refine gR K O0r V0r 165 ([aR 0,aI 1,aI 0,aR 9,aI 2,aD 13830554455654793216,aS,aD 4472406533629990549,aS,aD 9218868437227405312,aS,aI 0]++un 5) [aI 0,aR 13,aD 13830554455654793216] rfl ?_
 refine gdl K 0 f0p rfl rfl rfl rfl fun d0u q0u => ?_
 refine gmul K (z := 0) (Dz.mul Dz.mone q0u rfl (by decide)) rfl fun d0v q0v => ?_
 refine gR K O0r V0r 171 [aR 0,aI 1,aI 0,aR 9,aI 2,aD 13830554455654793216,aS,aD 4472406533629990549,aS,aD 9218868437227405312,aS,aI 0,aD d0v,aS,aU,aU,aU] [aD d0v] rfl ?_
 refine gldc K (wd hw 197 rfl) rfl ?_
 refine gcT K 202 ⟨_, Ep.lt q0v ep_9 (by decide), rfl⟩ rfl rfl rfl ?_
 refine gR K O0r V0r 165 [aR 0,aI 1,aI 0,aR 9,aI 2,aD 13830554455654793216,aS,aD 4472406533629990549,aS,aD 9218868437227405312,aS,aI 1,aD d0v,aS,aU,aU,aU] [aI 1,aR 13,aD 13830554455654793216] rfl ?_
 refine gdl K 1 f0p rfl rfl rfl rfl fun d0w q0w => ?_
 refine gmul K (z := 0) (Dz.mul Dz.mone q0w rfl (by decide)) rfl fun d0x q0x => ?_
 refine gR K O0r V0r 171 [aR 0,aI 1,aI 0,aR 9,aI 2,aD 13830554455654793216,aS,aD 4472406533629990549,aS,aD 9218868437227405312,aS,aI 1,aD d0x,aS,aU,aU,aU] [aD d0x] rfl ?_
 refine gldc K (wd hw 197 rfl) rfl ?_
 refine gcT K 202 ⟨_, Ep.lt q0x ep_9 (by decide), rfl⟩ rfl rfl rfl ?_
 refine gR K O0r V0r 165 [aR 0,aI 1,aI 0,aR 9,aI 2,aD 13830554455654793216,aS,aD 4472406533629990549,aS,aD 9218868437227405312,aS,aI 2,aD d0x,aS,aU,aU,aU] [aI 2,aR 13,aD 13830554455654793216] rfl ?_
 refine gdl K 2 f0p rfl rfl rfl rfl fun d0y q0y => ?_
 refine gmul K (z := 1) (Dz.mul Dz.mone q0y rfl (by decide)) rfl fun d0z q0z => ?_
 refine gR K O0r V0r 171 [aR 0,aI 1,aI 0,aR 9,aI 2,aD 13830554455654793216,aS,aD 4472406533629990549,aS,aD 9218868437227405312,aS,aI 2,aD d0z,aS,aU,aU,aU] [aD d0z] rfl ?_
 refine gldc K (wd hw 197 rfl) rfl ?_
 refine gcF K ⟨_, Ep.gt q0z ep_9 (by decide), rfl⟩ rfl rfl ?_
 refine gR0 K O0r V0r 187 [aI 2,aR 11,aD 0,aD 9218868437227405312] rfl ?_
 have f1a := F11.keep k0q (nx N 11 rfl)
 refine gdl K 2 f1a rfl rfl rfl rfl fun d1b q1b => ?_
 refine gmax K (wmax hw) zc2 2 Dz.zero q1b (zmx_43 B q) rfl rfl (by decide) (Nat.le_of_eq rfl) (by decide) (by decide) (by decide) fun d1c q1c => ?_
 refine gR0 K O0r V0r 193 [aD 4472406533629990549,aD d1c,aD 9218868437227405312] rfl ?_
 refine gaddP K (Dge zc2) (Dge.add q1c ep_9 (znn_44 B q).1 (znn_44 B q).2).1 (Dge.add q1c ep_9 (znn_44 B q).1 (znn_44 B q).2).2 rfl fun d1d q1d => ?_
 refine gR0 K O0r V0r 196 [aD d0z,aD d1d,aD 9218868437227405312] rfl ?_
 refine gdivP K (Dge zc2) (Dge.dv q1d q0z) (fin_nn (Dge.dv q1d q0z).1) rfl fun d1e q1e => ?_
 refine gmin K (wmin hw) 0 q1e rfl rfl (by decide) (Nat.le_of_eq rfl) (by decide) (by decide) (by decide) ?_
 refine gR K O0r V0r 234 [aR 0,aI 1,aI 0,aR 9,aI 2,aD 13830554455654793216,aS,aD 4472406533629990549,aS,aD d1e,aS,aI (-1),aD 0,aS,aI 0,aU,aU] [aI 0,aR 13,aD 13830554455654793216] rfl ?_
 refine gdl K 0 f0p rfl rfl rfl rfl fun d1f q1f => ?_
 refine gmul K (z := 0) (Dz.mul Dz.mone q1f rfl (by decide)) rfl fun d1g q1g => ?_
 refine gR K O0r V0r 240 [aR 0,aI 1,aI 0,aR 9,aI 2,aD 13830554455654793216,aS,aD 4472406533629990549,aS,aD d1e,aS,aI (-1),aD 0,aS,aI 0,aD d1g,aS] [aD d1g] rfl ?_
 refine gldc K (wd hw 197 rfl) rfl ?_
 refine gcT K 290 ⟨_, Ep.lt q1g ep_9 (by decide), rfl⟩ rfl rfl rfl ?_
 refine gR K O0r V0r 234 [aR 0,aI 1,aI 0,aR 9,aI 2,aD 13830554455654793216,aS,aD 4472406533629990549,aS,aD d1e,aS,aI (-1),aD 0,aS,aI 1,aD d1g,aS] [aI 1,aR 13,aD 13830554455654793216] rfl ?_
 refine gdl K 1 f0p rfl rfl rfl rfl fun d1h q1h => ?_
 refine gmul K (z := 0) (Dz.mul Dz.mone q1h rfl (by decide)) rfl fun d1i q1i => ?_
 refine gR K O0r V0r 240 [aR 0,aI 1,aI 0,aR 9,aI 2,aD 13830554455654793216,aS,aD 4472406533629990549,aS,aD d1e,aS,aI (-1),aD 0,aS,aI 1,aD d1i,aS] [aD d1i] rfl ?_
 refine gldc K (wd hw 197 rfl) rfl ?_
 refine gcT K 290 ⟨_, Ep.lt q1i ep_9 (by decide), rfl⟩ rfl rfl rfl ?_
 refine gR K O0r V0r 234 [aR 0,aI 1,aI 0,aR 9,aI 2,aD 13830554455654793216,aS,aD 4472406533629990549,aS,aD d1e,aS,aI (-1),aD 0,aS,aI 2,aD d1i,aS] [aI 2,aR 13,aD 13830554455654793216] rfl ?_
 refine gdl K 2 f0p rfl rfl rfl rfl fun d1j q1j => ?_
 refine gmul K (z := 1) (Dz.mul Dz.mone q1j rfl (by decide)) rfl fun d1k q1k => ?_
 refine gR K O0r V0r 240 [aR 0,aI 1,aI 0,aR 9,aI 2,aD 13830554455654793216,aS,aD 4472406533629990549,aS,aD d1e,aS,aI (-1),aD 0,aS,aI 2,aD d1k,aS] [aD d1k] rfl ?_
 refine gldc K (wd hw 197 rfl) rfl ?_
 refine gcF K ⟨_, Ep.gt q1k ep_9 (by decide), rfl⟩ rfl rfl ?_
 refine gR0 K O0r V0r 254 [aI 2,aR 11,aD 0] rfl ?_
 refine gdl K 2 f1a rfl rfl rfl rfl fun d1l q1l => ?_
 refine gmax K (wmax hw) zc2 0 Dz.zero q1l (zmx_43 B q) rfl rfl (by decide) (Nat.le_of_eq rfl) (by decide) (by decide) (by decide) fun d1m q1m => ?_
 refine gR0 K O0r V0r 260 [aD d1k,aD d1m] rfl ?_
 refine gdiv K (z := zc2) (Dz.div1 q1m q1k) rfl fun d1n q1n => ?_
 refine gR0 K O0r V0r 263 [aD d1e,aD d1n] rfl ?_
 refine gcF K (Dge.leF q1n q1e) rfl rfl ?_
 refine gR0 K O0r V0r 278 [aD 0,aD d1k] rfl ?_
 refine gcF K (Dz.nt (cd := .le) q1k Dz.zero (by show (0 : Int) < (1 : Int); decide)) rfl rfl ?_
 refine gR K O0r V0r 298 [aR 0,aI 1,aI 0,aR 9,aI 2,aD 13830554455654793216,aS,aD 4472406533629990549,aS,aD d1e,aS,aI 2,aD d1k,aS,aI 3,aD d1k,aS] [aI 2] rfl ?_
 exact gri K rfl (by decide) (by decide) ⟨rfl, k0q, f0p⟩
theorem zph_48 {zs0 zs1 zc0 zc2 : Int} (B : ZB zs0 zs1 zc0 zc2) (q0 : zs0 < 0 ∧ -zs0 < zs1) : (-zs1) < 0 := by unfold ZB at B; obtain ⟨b1, b2, b3, b4, b5, b6⟩ := B; omega
def t30 : List (List (Nat × Instr × Nat)) := [[(0,.iconst 0,1),(1,.istore_n 3,1),(2,.aload_n 0,1),(3,.getfield 89,3),(6,.astore 4,2),(8,.aload 4,2),(10,.arraylength,1),(11,.istore 5,2),(13,.iconst 0,1),(14,.istore 6,2)],
  [(16,.iload 6,2),(18,.iload 5,2),(20,.if_icmp .ge 106,3),(23,.aload 4,2),(25,.iload 6,2),(27,.aaload,1),(28,.astore 7,2),(30,.iconst 0,1),(31,.istore 8,2)],
  [(33,.iload 8,2),(35,.aload 7,2),(37,.arraylength,1),(38,.if_icmp .ge 82,3),(41,.dconst 0,1),(42,.dstore 9,2),(44,.aload_n 0,1),(45,.getfield 56,3)],
  [(48,.iload_n 2,1),(49,.iaload,1),(50,.istore 11,2),(52,.iload 11,2),(54,.aload_n 0,1),(55,.getfield 56,3),(58,.iload_n 2,1),(59,.iconst 1,1),(60,.iadd,1),(61,.iaload,1),(62,.if_icmp .ge 35,3)],
  [(65,.dload 9,2),(67,.aload 7,2),(69,.iload 8,2),(71,.aload_n 0,1),(72,.getfield 63,3),(75,.iload 11,2),(77,.iaload,1),(78,.iadd,1),(79,.daload,1)],
  [(80,.aload_n 0,1),(81,.getfield 70,3),(84,.iload 11,2),(86,.daload,1),(87,.dmul,1),(88,.dadd,1),(89,.dstore 9,2),(91,.iinc 11 1,3),(94,.goto (-42),3)],
  [(97,.aload_n 0,1),(98,.getfield 111,3),(101,.iload_n 3,1),(102,.dload 9,2),(104,.dastore,1),(105,.iload 8,2),(107,.aload_n 0,1),(108,.getfield 13,3),(111,.iadd,1)],
  [(112,.istore 8,2),(114,.iinc 3 1,3),(117,.goto (-84),3),(120,.iinc 6 1,3),(123,.goto (-107),3),(126,.aload_n 0,1),(127,.getfield 111,3)],
  [(130,.iload_n 1,1),(131,.daload,1),(132,.dstore 4,2),(134,.dload 4,2),(136,.aload_n 0,1),(137,.getfield 108,3),(140,.iload_n 2,1),(141,.daload,1),(142,.dsub,1),(143,.invokestatic 139,3)],
  [(146,.ldc2_w 204,3),(149,.dconst 1,1),(150,.dload 4,2),(152,.invokestatic 139,3),(155,.dadd,1),(156,.dmul,1),(157,.dcmp .l,1),(158,.ifCond .le 5,3)],
  [(161,.iconst 0,1),(162,.ireturn,1),(163,.aload_n 0,1),(164,.getfield 99,3),(167,.iload_n 1,1),(168,.daload,1),(169,.dload 4,2),(171,.ddiv,1),(172,.dstore 6,2),(174,.iconst 0,1),(175,.istore 8,2)],
  [(177,.iload 8,2),(179,.aload_n 0,1),(180,.getfield 13,3),(183,.if_icmp .ge 29,3),(186,.aload_n 0,1),(187,.getfield 99,3),(190,.iload 8,2)],
  [(192,.dup2,1),(193,.daload,1),(194,.dload 6,2),(196,.aload_n 0,1),(197,.getfield 111,3),(200,.iload 8,2),(202,.daload,1),(203,.dmul,1),(204,.dsub,1),(205,.dastore,1),(206,.iinc 8 1,3)],
  [(209,.goto (-32),3),(212,.aload_n 0,1),(213,.getfield 99,3),(216,.iload_n 1,1),(217,.dload 6,2),(219,.dastore,1),(220,.aload_n 0,1),(221,.getfield 102,3)],
  [(224,.iload_n 2,1),(225,.daload,1),(226,.dload 4,2),(228,.ddiv,1),(229,.dstore 8,2),(231,.iconst 0,1),(232,.istore 10,2),(234,.iload 10,2),(236,.aload_n 0,1),(237,.getfield 16,3)],
  [(240,.if_icmp .ge 29,3),(243,.aload_n 0,1),(244,.getfield 102,3),(247,.iload 10,2),(249,.dup2,1),(250,.daload,1),(251,.dload 8,2),(253,.aload_n 0,1),(254,.getfield 108,3)],
  [(257,.iload 10,2),(259,.daload,1),(260,.dmul,1),(261,.dsub,1),(262,.dastore,1),(263,.iinc 10 1,3),(266,.goto (-32),3),(269,.aload_n 0,1),(270,.getfield 71,3)],
  [(273,.iload_n 1,1),(274,.iaload,1),(275,.istore 10,2),(277,.iload 10,2),(279,.aload_n 0,1),(280,.getfield 16,3),(283,.if_icmp .ge 13,3),(286,.aload_n 0,1),(287,.getfield 102,3)],
  [(290,.iload 10,2),(292,.dload 8,2),(294,.dneg,1),(295,.dastore,1),(296,.aload_n 0,1),(297,.getfield 102,3),(300,.iload_n 2,1),(301,.dconst 0,1),(302,.dastore,1),(303,.aload_n 0,1)],
  [(304,.getfield 74,3),(307,.iload 10,2),(309,.iconst (-1),1),(310,.iastore,1),(311,.aload_n 0,1),(312,.getfield 74,3),(315,.iload_n 2,1),(316,.iload_n 1,1),(317,.iastore,1),(318,.aload_n 0,1),(319,.getfield 71,3)],
  [(322,.iload_n 1,1),(323,.iload_n 2,1),(324,.iastore,1),(325,.aload_n 0,1),(326,.iload_n 1,1),(327,.invokevirtual 188,3),(330,.astore 11,2),(332,.aload_n 0,1),(333,.iload_n 1,1),(334,.invokevirtual 192,3)],
  [(337,.istore 12,2),(339,.iconst 0,1),(340,.istore 13,2),(342,.iload 13,2),(344,.aload_n 0,1),(345,.getfield 13,3),(348,.if_icmp .ge 22,3),(351,.aload 11,2)],
  [(353,.iload 12,2),(355,.iload 13,2),(357,.iadd,1),(358,.dup2,1),(359,.daload,1),(360,.dload 4,2),(362,.ddiv,1),(363,.dastore,1),(364,.iinc 13 1,3),(367,.goto (-25),3)],
  [(370,.iconst 0,1),(371,.istore 13,2),(373,.iload 13,2),(375,.aload_n 0,1),(376,.getfield 13,3),(379,.if_icmp .ge 87,3),(382,.aload_n 0,1),(383,.getfield 111,3)],
  [(386,.iload 13,2),(388,.daload,1),(389,.dstore 14,2),(391,.iload 13,2),(393,.iload_n 1,1),(394,.if_icmp .eq 66,3),(397,.dload 14,2),(399,.dconst 0,1)],
  [(400,.dcmp .l,1),(401,.ifCond .eq 59,3),(404,.aload_n 0,1),(405,.iload 13,2),(407,.invokevirtual 188,3),(410,.astore 16,2),(412,.aload_n 0,1),(413,.iload 13,2),(415,.invokevirtual 192,3)],
  [(418,.istore 17,2),(420,.iconst 0,1),(421,.istore 18,2),(423,.iload 18,2),(425,.aload_n 0,1),(426,.getfield 13,3),(429,.if_icmp .ge 31,3)],
  [(432,.aload 16,2),(434,.iload 17,2),(436,.iload 18,2),(438,.iadd,1),(439,.dup2,1),(440,.daload,1),(441,.dload 14,2),(443,.aload 11,2),(445,.iload 12,2),(447,.iload 18,2)],
  [(449,.iadd,1),(450,.daload,1),(451,.dmul,1),(452,.dsub,1),(453,.dastore,1),(454,.iinc 18 1,3),(457,.goto (-34),3),(460,.iinc 13 1,3),(463,.goto (-90),3)],
  [(466,.aload_n 0,1),(467,.iconst 0,1),(468,.putfield 206,3),(471,.aload_n 0,1),(472,.dup,1),(473,.getfield 174,3),(476,.iconst 1,1),(477,.iadd,1),(478,.putfield 174,3)],
  [(481,.aload_n 0,1),(482,.getfield 174,3),(485,.sipush 512,3),(488,.if_icmp .ne 7,3),(491,.aload_n 0,1),(492,.invokevirtual 177,3),(495,.iconst 1,1)],
  [(496,.ireturn,1)]]
theorem k30 : TB prog_12_method_12_code t30 := tb_of (by decide +kernel)
theorem zeq_55 {zs1 : Int} : (zs1 * 0 : Int) = 0 := by omega
theorem zeq_56 {zs1 : Int} : (zs1 * (-1) : Int) = (-zs1) := by omega
theorem zeq_57 {zs1 : Int} : ((-zs1) - (-zs1) : Int) = 0 := by omega
theorem zeq_58 {zc2 : Int} : (-zc2 : Int) = (-zc2) := by omega
theorem zeq_59 {zc2 : Int} : ((-zc2) * 0 : Int) = 0 := by omega
theorem zeq_60 {zc0 : Int} : (zc0 - 0 : Int) = zc0 := by omega
theorem zbd_61 {zs0 zs1 zc0 zc2 : Int} (B : ZB zs0 zs1 zc0 zc2) : -9007199254740992 ≤ zc0 ∧ zc0 ≤ 9007199254740992 := by unfold ZB at B; obtain ⟨b1, b2, b3, b4, b5, b6⟩ := B; omega
theorem zeq_63 {zc2 : Int} : ((-zc2) * (-1) : Int) = zc2 := by omega
theorem zbd_64 {zs0 zs1 zc0 zc2 : Int} (B : ZB zs0 zs1 zc0 zc2) : -9007199254740992 ≤ zc2 ∧ zc2 ≤ 9007199254740992 := by unfold ZB at B; obtain ⟨b1, b2, b3, b4, b5, b6⟩ := B; omega
theorem zeq_65 {zc2 : Int} : (zc2 - zc2 : Int) = 0 := by omega
theorem zeq_66 {zc2 : Int} : (-(-zc2) : Int) = zc2 := by omega
theorem pd_11 : parseMethodDescriptor "(II)Z" = some ⟨[.int, .int], some .boolean⟩ := by decide +kernel
theorem w_pivot {Z : State} {a0 : Array Value} (hw : HW Z a0) : WP Z a0 DSn 184 ⟨DSn, "pivot", "(II)Z"⟩ prog_12_method_12_code 19 (some .boolean) 2 := ⟨⟨(wd hw 212 rfl), (wd hw 213 rfl), own_psel (wd hw 49 rfl) (wd hw 214 rfl) (wd hw 213 rfl) (by decide), (wd hw 214 rfl), wd hw 215 rfl, (wd hw 50 rfl)⟩, by decide, lenK pd_11 rfl⟩
theorem rmPV0 (hw : HW Z a0) (x : Nat → Addr) (rr u16_0 u16_1 u17_0 u17_1 : Int32) (y14_0 y14_1 : Int) (zs0 zs1 zc0 zc2 : Int) (h0 : Heap) (N : NX n0 x) (O : OB Z h0 x DSn (fe 0 rr)) (V : EV Z h0 x [(2,[-1,1]),(3,[0,1,2,3]),(4,[0,1,1]),(6,[3,1]),(7,[-1,1,-1,0,-1]),(16,[u16_0,u16_1]),(17,[u17_0,u17_1])]) (B : ZB zs0 zs1 zc0 zc2) (F5 : AD Z h0 (x 5) [1, (-1), 1]) (F9 : AD Z h0 (x 9) [1, 0, 0, (-1)]) (F10 : AD Z h0 (x 10) [zs0, (-zs1)]) (F11 : AD Z h0 (x 11) [zc0, 0, zc2]) (F13 : AD Z h0 (x 13) [0, 0, (-1)]) (F14 : AD Z h0 (x 14) [y14_0, y14_1]) :
    Con l Z n0 ⟨DSn, "pivot", "(II)Z"⟩ prog_12_method_12_code 19 (some .boolean) ⟨1, 0, 0, 21⟩ #[(.ref (x 0)), (.int 1), (.int 2)] h0 (fun v h => v = some (.int 1) ∧ KJ x h0 h [0,6,7,9,10,11,14] ∧ OB Z h x DSn (fe 1 0) ∧ EV Z h x [(2,[-1,1]),(3,[0,1,2,3]),(4,[0,1,1]),(6,[3,2]),(7,[-1,-1,1,0,-1]),(16,[u16_0,u16_1]),(17,[u17_0,u17_1])] ∧ AD Z h (x 9) [1, 0, 0, 1] ∧ AD Z h (x 10) [zs0, zs1] ∧ AD Z h (x 11) [zc0, zc2, 0] ∧ AD Z h (x 14) [0, (-1)]) := by
 refine con_of (plainFor_of_name pn_DS) ?_
 intro p e s m below meth c T0 K0 X0 e0
 have K : KX p s m meth c Z a0 DSn "pivot" prog_12_method_12_code 19 (some .boolean) t30 (fe 0 rr) := ⟨K0, k30, lw hw 0 rr⟩
 refine gE (x := x) (L := [aR 0,aI 1,aI 2,aU,aU,aU,aU,aU,aU,aU,aU,aU,aU,aU,aU,aU,aU,aU,aU]) (by simp [entryFrame, mkF, argsToLocals, Value.category, gL, gS, cs, cv]) X0 e0 ?_
 refine gR K O V 37 ([aR 0,aI 1,aI 2,aI 0,aR 8,aI 1,aI 0,aR 9,aI 0]++un 10) [aR 9,aI 0] rfl ?_
 refine gal K 4 F9 rfl rfl rfl ?_
 refine gR K O V 79 ([aR 0,aI 1,aI 2,aI 0,aR 8,aI 1,aI 0,aR 9,aI 0,aD 0,aS,aI 2]++un 7) [aI 1,aR 9,aD 0] rfl ?_
 refine gdl K 1 F9 rfl rfl rfl rfl fun d0a q0a => ?_
 refine gR0 K O V 86 [aI 2,aR 5,aD d0a,aD 0] rfl ?_
 refine gdl K 2 F5 rfl rfl rfl rfl fun d0b q0b => ?_
 refine gmul K (z := 0) (Dz.mul q0a q0b rfl (by decide)) rfl fun d0c q0c => ?_
 refine gadd K (z := 0) (Dz.add Dz.zero q0c rfl (by decide)) rfl fun d0d q0d => ?_
 refine gR K O V 104 ([aR 0,aI 1,aI 2,aI 0,aR 8,aI 1,aI 0,aR 9,aI 0,aD d0d,aS,aI 3]++un 7) [aD d0d,aI 0,aR 14] rfl ?_
 refine gds K 0 F14 rfl rfl rfl q0d (N.ge 14 rfl) rfl fun h0e (W0e : KJ x h0 h0e [14]) (f0e : AD Z h0e (x 14) [0, y14_1]) => ?_
 obtain ⟨O0f, V0f⟩ := ov N O V (js := [14]) W0e rfl rfl rfl
 refine gR K O0f V0f 37 ([aR 0,aI 1,aI 2,aI 1,aR 8,aI 1,aI 0,aR 9,aI 2,aD d0d,aS,aI 3]++un 7) [aR 9,aI 2] rfl ?_
 have f0g := F9.keep W0e (nx N 9 rfl)
 refine gal K 4 f0g rfl rfl rfl ?_
 refine gR K O0f V0f 79 ([aR 0,aI 1,aI 2,aI 1,aR 8,aI 1,aI 0,aR 9,aI 2,aD 0,aS,aI 2]++un 7) [aI 3,aR 9,aD 0] rfl ?_
 refine gdl K 3 f0g rfl rfl rfl rfl fun d0h q0h => ?_
 refine gR0 K O0f V0f 86 [aI 2,aR 5,aD d0h,aD 0] rfl ?_
 have f0i := F5.keep W0e (nx N 5 rfl)
 refine gdl K 2 f0i rfl rfl rfl rfl fun d0j q0j => ?_
 refine gmul K (z := (-1)) (Dz.mul q0h q0j rfl (by decide)) rfl fun d0k q0k => ?_
 refine gadd K (z := (-1)) (Dz.add Dz.zero q0k rfl (by decide)) rfl fun d0l q0l => ?_
 refine gR K O0f V0f 104 ([aR 0,aI 1,aI 2,aI 1,aR 8,aI 1,aI 0,aR 9,aI 2,aD d0l,aS,aI 3]++un 7) [aD d0l,aI 1,aR 14] rfl ?_
 refine gds K 1 f0e rfl rfl rfl q0l (N.ge 14 rfl) rfl fun h0m (W0m : KJ x h0e h0m [14]) (f0m : AD Z h0m (x 14) [0, (-1)]) => ?_
 have k0n := kx [14] (js' := [14]) W0e W0m rfl rfl
 obtain ⟨O0o, V0o⟩ := ov N O V (js := [14]) k0n rfl rfl rfl
 refine gR K O0o V0o 37 ([aR 0,aI 1,aI 2,aI 2,aR 8,aI 1,aI 0,aR 9,aI 4,aD d0l,aS,aI 3]++un 7) [aR 9,aI 4] rfl ?_
 have f0p := F9.keep k0n (nx N 9 rfl)
 refine gal K 4 f0p rfl rfl rfl ?_
 refine gR K O0o V0o 131 ([aR 0,aI 1,aI 2,aI 2,aR 8,aI 1,aI 1,aR 9,aI 4,aD d0l,aS,aI 3]++un 7) [aI 1,aR 14] rfl ?_
 refine gdl K 1 f0m rfl rfl rfl rfl fun d0q q0q => ?_
 refine gR K O0o V0o 141 ([aR 0,aI 1,aI 2,aI 2,aD d0q,aS,aI 1,aR 9,aI 4,aD d0l,aS,aI 3]++un 7) [aI 2,aR 13,aD d0q] rfl ?_
 have f0r := F13.keep k0n (nx N 13 rfl)
 refine gdl K 2 f0r rfl rfl rfl rfl fun d0s q0s => ?_
 refine gsub K (z := 0) (Dz.sub q0q q0s rfl (by decide)) rfl fun d0t q0t => ?_
 refine gabs K (wabs hw) 0 0 q0t rfl rfl rfl (by decide) (Nat.le_of_eq rfl) (by decide) (by decide) (by decide) fun d0u q0u => ?_
 refine gldc K (wd hw 216 rfl) rfl ?_
 refine gR0 K O0o V0o 152 [aD d0q,aD 4607182418800017408,aD 4502148214488346440,aD d0u] rfl ?_
 refine gabs K (wabs hw) 1 6 q0q rfl rfl rfl (by decide) (Nat.le_of_eq rfl) (by decide) (by decide) (by decide) fun d0v q0v => ?_
 refine gadd K (z := 2) (Dz.add Dz.one q0v rfl (by decide)) rfl fun d0w q0w => ?_
 refine gmulP K Ep (Ep.two q0w) (Ep.two q0w).1 rfl fun d0x q0x => ?_
 refine gcT K 163 ⟨_, Ep.lt q0u q0x (by decide), rfl⟩ rfl rfl rfl ?_
 refine gR0 K O0o V0o 168 [aI 1,aR 10] rfl ?_
 have f0y := F10.keep k0n (nx N 10 rfl)
 refine gdl K 1 f0y rfl rfl rfl rfl fun d0z q0z => ?_
 refine gR0 K O0o V0o 171 [aD d0q,aD d0z] rfl ?_
 refine gdiv K (z := zs1) (Dz.divm q0z q0q zeq_18) rfl fun d1a q1a => ?_
 refine gR K O0o V0o 193 ([aR 0,aI 1,aI 2,aI 2,aD d0q,aS,aD d1a,aS,aI 0,aD d0l,aS,aI 3]++un 7) [aI 0,aR 10,aI 0,aR 10] rfl ?_
 refine gdl K 0 f0y rfl rfl rfl rfl fun d1b q1b => ?_
 refine gR0 K O0o V0o 202 [aI 0,aR 14,aD d1a,aD d1b,aI 0,aR 10] rfl ?_
 refine gdl K 0 f0m rfl rfl rfl rfl fun d1c q1c => ?_
 refine gmul K (z := 0) (Dz.mul q1a q1c zeq_55 (by decide)) rfl fun d1d q1d => ?_
 refine gsub K (z := zs0) (Dz.sub q1b q1d zeq_8 (zbd_9 B)) rfl fun d1e q1e => ?_
 refine gds K 0 f0y rfl rfl rfl q1e (N.ge 10 rfl) rfl fun h1f (W1f : KJ x h0m h1f [10]) (f1f : AD Z h1f (x 10) [zs0, (-zs1)]) => ?_
 have k1g := kx [10,14] (js' := [10]) k0n W1f rfl rfl
 obtain ⟨O1h, V1h⟩ := ov N O V (js := [10,14]) k1g rfl rfl rfl
 refine gR K O1h V1h 193 ([aR 0,aI 1,aI 2,aI 2,aD d0q,aS,aD d1a,aS,aI 1,aD d0l,aS,aI 3]++un 7) [aI 1,aR 10,aI 1,aR 10] rfl ?_
 refine gdl K 1 f1f rfl rfl rfl rfl fun d1i q1i => ?_
 refine gR0 K O1h V1h 202 [aI 1,aR 14,aD d1a,aD d1i,aI 1,aR 10] rfl ?_
 have f1j := f0m.keep W1f (nx N 14 rfl)
 refine gdl K 1 f1j rfl rfl rfl rfl fun d1k q1k => ?_
 refine gmul K (z := (-zs1)) (Dz.mul q1a q1k zeq_56 (zbd_6 B)) rfl fun d1l q1l => ?_
 refine gsub K (z := 0) (Dz.sub q1i q1l zeq_57 (by decide)) rfl fun d1m q1m => ?_
 refine gds K 1 f1f rfl rfl rfl q1m (N.ge 10 rfl) rfl fun h1n (W1n : KJ x h1f h1n [10]) (f1n : AD Z h1n (x 10) [zs0, 0]) => ?_
 have k1o := kx [10,14] (js' := [10]) k1g W1n rfl rfl
 obtain ⟨O1p, V1p⟩ := ov N O V (js := [10,14]) k1o rfl rfl rfl
 refine gR K O1p V1p 219 ([aR 0,aI 1,aI 2,aI 2,aD d0q,aS,aD d1a,aS,aI 2,aD d0l,aS,aI 3]++un 7) [aD d1a,aI 1,aR 10] rfl ?_
 refine gds K 1 f1n rfl rfl rfl q1a (N.ge 10 rfl) rfl fun h1q (W1q : KJ x h1n h1q [10]) (f1q : AD Z h1q (x 10) [zs0, zs1]) => ?_
 have k1r := kx [10,14] (js' := [10]) k1o W1q rfl rfl
 obtain ⟨O1s, V1s⟩ := ov N O V (js := [10,14]) k1r rfl rfl rfl
 refine gR0 K O1s V1s 225 [aI 2,aR 11] rfl ?_
 have f1t := F11.keep k1r (nx N 11 rfl)
 refine gdl K 2 f1t rfl rfl rfl rfl fun d1u q1u => ?_
 refine gR0 K O1s V1s 228 [aD d0q,aD d1u] rfl ?_
 refine gdiv K (z := (-zc2)) (Dz.divm q1u q0q zeq_58) rfl fun d1v q1v => ?_
 refine gR K O1s V1s 250 ([aR 0,aI 1,aI 2,aI 2,aD d0q,aS,aD d1a,aS,aD d1v,aS,aI 0,aI 3]++un 7) [aI 0,aR 11,aI 0,aR 11] rfl ?_
 refine gdl K 0 f1t rfl rfl rfl rfl fun d1w q1w => ?_
 refine gR0 K O1s V1s 259 [aI 0,aR 13,aD d1v,aD d1w,aI 0,aR 11] rfl ?_
 have f1x := F13.keep k1r (nx N 13 rfl)
 refine gdl K 0 f1x rfl rfl rfl rfl fun d1y q1y => ?_
 refine gmul K (z := 0) (Dz.mul q1v q1y zeq_59 (by decide)) rfl fun d1z q1z => ?_
 refine gsub K (z := zc0) (Dz.sub q1w q1z zeq_60 (zbd_61 B)) rfl fun d2a q2a => ?_
 refine gds K 0 f1t rfl rfl rfl q2a (N.ge 11 rfl) rfl fun h2b (W2b : KJ x h1q h2b [11]) (f2b : AD Z h2b (x 11) [zc0, 0, zc2]) => ?_
 have k2c := kx [10,11,14] (js' := [11]) k1r W2b rfl rfl
 obtain ⟨O2d, V2d⟩ := ov N O V (js := [10,11,14]) k2c rfl rfl rfl
 refine gR K O2d V2d 250 ([aR 0,aI 1,aI 2,aI 2,aD d0q,aS,aD d1a,aS,aD d1v,aS,aI 1,aI 3]++un 7) [aI 1,aR 11,aI 1,aR 11] rfl ?_
 refine gdl K 1 f2b rfl rfl rfl rfl fun d2e q2e => ?_
 refine gR0 K O2d V2d 259 [aI 1,aR 13,aD d1v,aD d2e,aI 1,aR 11] rfl ?_
 have f2f := F13.keep k2c (nx N 13 rfl)
 refine gdl K 1 f2f rfl rfl rfl rfl fun d2g q2g => ?_
 refine gmul K (z := 0) (Dz.mul q1v q2g zeq_59 (by decide)) rfl fun d2h q2h => ?_
 refine gsub K (z := 0) (Dz.sub q2e q2h rfl (by decide)) rfl fun d2i q2i => ?_
 refine gds K 1 f2b rfl rfl rfl q2i (N.ge 11 rfl) rfl fun h2j (W2j : KJ x h2b h2j [11]) (f2j : AD Z h2j (x 11) [zc0, 0, zc2]) => ?_
 have k2k := kx [10,11,14] (js' := [11]) k2c W2j rfl rfl
 obtain ⟨O2l, V2l⟩ := ov N O V (js := [10,11,14]) k2k rfl rfl rfl
 refine gR K O2l V2l 250 ([aR 0,aI 1,aI 2,aI 2,aD d0q,aS,aD d1a,aS,aD d1v,aS,aI 2,aI 3]++un 7) [aI 2,aR 11,aI 2,aR 11] rfl ?_
 refine gdl K 2 f2j rfl rfl rfl rfl fun d2m q2m => ?_
 refine gR0 K O2l V2l 259 [aI 2,aR 13,aD d1v,aD d2m,aI 2,aR 11] rfl ?_
 have f2n := F13.keep k2k (nx N 13 rfl)
 refine gdl K 2 f2n rfl rfl rfl rfl fun d2o q2o => ?_
 refine gmul K (z := zc2) (Dz.mul q1v q2o zeq_63 (zbd_64 B)) rfl fun d2p q2p => ?_
 refine gsub K (z := 0) (Dz.sub q2m q2p zeq_65 (by decide)) rfl fun d2q q2q => ?_
 refine gds K 2 f2j rfl rfl rfl q2q (N.ge 11 rfl) rfl fun h2r (W2r : KJ x h2j h2r [11]) (f2r : AD Z h2r (x 11) [zc0, 0, 0]) => ?_
 have k2s := kx [10,11,14] (js' := [11]) k2k W2r rfl rfl
 obtain ⟨O2t, V2t⟩ := ov N O V (js := [10,11,14]) k2s rfl rfl rfl
 refine gR K O2t V2t 294 ([aR 0,aI 1,aI 2,aI 2,aD d0q,aS,aD d1a,aS,aD d1v,aS,aI 1,aI 3]++un 7) [aD d1v,aI 1,aR 11] rfl ?_
 refine gneg K (z := zc2) (Dz.neg q1v zeq_66) rfl fun d2u q2u => ?_
 refine gds K 1 f2r rfl rfl rfl q2u (N.ge 11 rfl) rfl fun h2v (W2v : KJ x h2r h2v [11]) (f2v : AD Z h2v (x 11) [zc0, zc2, 0]) => ?_
 have k2w := kx [10,11,14] (js' := [11]) k2s W2v rfl rfl
 obtain ⟨O2x, V2x⟩ := ov N O V (js := [10,11,14]) k2w rfl rfl rfl
 refine gR0 K O2x V2x 302 [aD 0,aI 2,aR 11] rfl ?_
 refine gds K 2 f2v rfl rfl rfl Dz.zero (N.ge 11 rfl) rfl fun h2y (W2y : KJ x h2v h2y [11]) (f2y : AD Z h2y (x 11) [zc0, zc2, 0]) => ?_
 have k2z := kx [10,11,14] (js' := [11]) k2w W2y rfl rfl
 obtain ⟨O3a, V3a⟩ := ov N O V (js := [10,11,14]) k2z rfl rfl rfl
 refine gR0 K O3a V3a 310 [aI (-1),aI 1,aR 7] rfl ?_
 refine gist K V3a N 1 [(2,[-1,1]),(3,[0,1,2,3]),(4,[0,1,1]),(6,[3,1]),(7,[-1,-1,-1,0,-1]),(16,[u16_0,u16_1]),(17,[u17_0,u17_1])] rfl rfl rfl rfl rfl rfl fun h3b (W3b : KJ x h2y h3b [7]) V3b => ?_
 have O3b := O3a.keep W3b (nx N 0 (js := [7]) rfl)
 refine gR0 K O3b V3b 317 [aI 1,aI 2,aR 7] rfl ?_
 refine gist K V3b N 2 [(2,[-1,1]),(3,[0,1,2,3]),(4,[0,1,1]),(6,[3,1]),(7,[-1,-1,1,0,-1]),(16,[u16_0,u16_1]),(17,[u17_0,u17_1])] rfl rfl rfl rfl rfl rfl fun h3c (W3c : KJ x h3b h3c [7]) V3c => ?_
 have O3c := O3b.keep W3c (nx N 0 (js := [7]) rfl)
 refine gR0 K O3c V3c 324 [aI 2,aI 1,aR 6] rfl ?_
 refine gist K V3c N 1 [(2,[-1,1]),(3,[0,1,2,3]),(4,[0,1,1]),(6,[3,2]),(7,[-1,-1,1,0,-1]),(16,[u16_0,u16_1]),(17,[u17_0,u17_1])] rfl rfl rfl rfl rfl rfl fun h3d (W3d : KJ x h3c h3d [6]) V3d => ?_
 have O3d := O3c.keep W3d (nx N 0 (js := [6]) rfl)
 refine gR0 K O3d V3d 327 [aI 1,aR 0] rfl ?_
 refine gPr K (w_block hw) O3d (rmBlk1 hw x 0 rr 3 2 (-1) (-1) 1 0 (-1) u16_0 u16_1 u17_0 u17_1 zs0 zs1 zc0 zc2 h3d N O3d V3d B) [] 0 rfl rfl rfl rfl (by decide) (Nat.le_of_eq rfl) (by decide) (by decide) (by decide) ?_
 refine gR K O3d V3d 334 ([aR 0,aI 1,aI 2,aI 2,aD d0q,aS,aD d1a,aS,aD d1v,aS,aI 1,aR 9]++un 7) [aI 1,aR 0] rfl ?_
 refine gPi K (w_first hw) O3d (rmFst1 hw x 0 rr 3 2 (-1) (-1) 1 0 (-1) u16_0 u16_1 u17_0 u17_1 zs0 zs1 zc0 zc2 h3d N O3d V3d B) [] 0 rfl rfl rfl rfl (by decide) (Nat.le_of_eq rfl) (by decide) (by decide) (by decide) ?_
 refine gR K O3d V3d 359 ([aR 0,aI 1,aI 2,aI 2,aD d0q,aS,aD d1a,aS,aD d1v,aS,aI 1,aR 9,aI 2,aI 0]++un 5) [aI 2,aR 9,aI 2,aR 9] rfl ?_
 have k3e := kx [7,10,11,14] (js' := [7]) k2z W3b rfl rfl
 have k3f := kx [7,10,11,14] (js' := [7]) k3e W3c rfl rfl
 have k3g := kx [6,7,10,11,14] (js' := [6]) k3f W3d rfl rfl
 have f3h := F9.keep k3g (nx N 9 rfl)
 refine gdl K 2 f3h rfl rfl rfl rfl fun d3i q3i => ?_
 refine gR0 K O3d V3d 362 [aD d0q,aD d3i,aI 2,aR 9] rfl ?_
 refine gdiv K (z := 0) (Dz.divm q3i q0q rfl) rfl fun d3j q3j => ?_
 refine gds K 2 f3h rfl rfl rfl q3j (N.ge 9 rfl) rfl fun h3k (W3k : KJ x h3d h3k [9]) (f3k : AD Z h3k (x 9) [1, 0, 0, (-1)]) => ?_
 obtain ⟨O3l, V3l⟩ := ov N O3d V3d (js := [9]) W3k rfl rfl rfl
 refine gR K O3l V3l 359 ([aR 0,aI 1,aI 2,aI 2,aD d0q,aS,aD d1a,aS,aD d1v,aS,aI 1,aR 9,aI 2,aI 1]++un 5) [aI 3,aR 9,aI 3,aR 9] rfl ?_
 refine gdl K 3 f3k rfl rfl rfl rfl fun d3m q3m => ?_
 refine gR0 K O3l V3l 362 [aD d0q,aD d3m,aI 3,aR 9] rfl ?_
 refine gdiv K (z := 1) (Dz.divm q3m q0q rfl) rfl fun d3n q3n => ?_
 refine gds K 3 f3k rfl rfl rfl q3n (N.ge 9 rfl) rfl fun h3o (W3o : KJ x h3k h3o [9]) (f3o : AD Z h3o (x 9) [1, 0, 0, 1]) => ?_
 have k3p := kx [9] (js' := [9]) W3k W3o rfl rfl
 obtain ⟨O3q, V3q⟩ := ov N O3d V3d (js := [9]) k3p rfl rfl rfl
 refine gR K O3q V3q 388 ([aR 0,aI 1,aI 2,aI 2,aD d0q,aS,aD d1a,aS,aD d1v,aS,aI 1,aR 9,aI 2,aI 0]++un 5) [aI 0,aR 14] rfl ?_
 have k3r := kx [10] (js' := [10]) W1f W1n rfl rfl
 have k3s := kx [10] (js' := [10]) k3r W1q rfl rfl
 have k3t := kx [10,11] (js' := [11]) k3s W2b rfl rfl
 have k3u := kx [10,11] (js' := [11]) k3t W2j rfl rfl
 have k3v := kx [10,11] (js' := [11]) k3u W2r rfl rfl
 have k3w := kx [10,11] (js' := [11]) k3v W2v rfl rfl
 have k3x := kx [10,11] (js' := [11]) k3w W2y rfl rfl
 have k3y := kx [7,10,11] (js' := [7]) k3x W3b rfl rfl
 have k3z := kx [7,10,11] (js' := [7]) k3y W3c rfl rfl
 have k4a := kx [6,7,10,11] (js' := [6]) k3z W3d rfl rfl
 have k4b := kx [6,7,9,10,11] (js' := [9]) k4a W3k rfl rfl
 have k4c := kx [6,7,9,10,11] (js' := [9]) k4b W3o rfl rfl
 have f4d := f0m.keep k4c (nx N 14 rfl)
 refine gdl K 0 f4d rfl rfl rfl rfl fun d4e q4e => ?_
 refine gR K O3q V3q 400 [aR 0,aI 1,aI 2,aI 2,aD d0q,aS,aD d1a,aS,aD d1v,aS,aI 1,aR 9,aI 2,aI 0,aD d4e,aS,aU,aU,aU] [aD 0,aD d4e] rfl ?_
 refine gcT K 460 (Dz.tk (cd := .eq) q4e Dz.zero (by show (0 : Int) = (0 : Int); decide)) rfl rfl rfl ?_
 refine gR K O3q V3q 388 [aR 0,aI 1,aI 2,aI 2,aD d0q,aS,aD d1a,aS,aD d1v,aS,aI 1,aR 9,aI 2,aI 1,aD d4e,aS,aU,aU,aU] [aI 1,aR 14] rfl ?_
 refine gdl K 1 f4d rfl rfl rfl rfl fun d4f q4f => ?_
 refine gR K O3q V3q 468 [aR 0,aI 1,aI 2,aI 2,aD d0q,aS,aD d1a,aS,aD d1v,aS,aI 1,aR 9,aI 2,aI 2,aD d4f,aS,aU,aU,aU] [aI 0,aR 0] rfl ?_
 refine grcc K hw O3q N (Or.inl rfl) rfl fun h4g (W4g : KJ x h3o h4g [0]) O4g => ?_
 have K := K.re hw 0 0
 have V4g := V3q.keep N (js := [0]) W4g rfl rfl
 refine gR0 K O4g V4g 478 [aI 1,aR 0] rfl ?_
 refine gpsr K hw O4g N rfl fun h4h (W4h : KJ x h4g h4h [0]) O4h => ?_
 have K := K.re hw 1 0
 have V4h := V4g.keep N (js := [0]) W4h rfl rfl
 refine gR0 K O4h V4h 496 [aI 1] rfl ?_
 have k4i := kx [0] (js' := [0]) W4g W4h rfl rfl
 have f4j := f3o.keep k4i (nx N 9 rfl)
 have k4k := kx [11] (js' := [11]) W2b W2j rfl rfl
 have k4l := kx [11] (js' := [11]) k4k W2r rfl rfl
 have k4m := kx [11] (js' := [11]) k4l W2v rfl rfl
 have k4n := kx [11] (js' := [11]) k4m W2y rfl rfl
 have k4o := kx [7,11] (js' := [7]) k4n W3b rfl rfl
 have k4p := kx [7,11] (js' := [7]) k4o W3c rfl rfl
 have k4q := kx [6,7,11] (js' := [6]) k4p W3d rfl rfl
 have k4r := kx [6,7,9,11] (js' := [9]) k4q W3k rfl rfl
 have k4s := kx [6,7,9,11] (js' := [9]) k4r W3o rfl rfl
 have k4t := kx [0,6,7,9,11] (js' := [0]) k4s W4g rfl rfl
 have k4u := kx [0,6,7,9,11] (js' := [0]) k4t W4h rfl rfl
 have f4v := f1q.keep k4u (nx N 10 rfl)
 have k4w := kx [7] (js' := [7]) W3b W3c rfl rfl
 have k4x := kx [6,7] (js' := [6]) k4w W3d rfl rfl
 have k4y := kx [6,7,9] (js' := [9]) k4x W3k rfl rfl
 have k4z := kx [6,7,9] (js' := [9]) k4y W3o rfl rfl
 have k5a := kx [0,6,7,9] (js' := [0]) k4z W4g rfl rfl
 have k5b := kx [0,6,7,9] (js' := [0]) k5a W4h rfl rfl
 have f5c := f2y.keep k5b (nx N 11 rfl)
 have k5d := kx [0,6,7,9,10,11] (js' := [0]) k4c W4g rfl rfl
 have k5e := kx [0,6,7,9,10,11] (js' := [0]) k5d W4h rfl rfl
 have f5f := f0m.keep k5e (nx N 14 rfl)
 have k5g := kx [6,7,9,10,11,14] (js' := [9]) k3g W3k rfl rfl
 have k5h := kx [6,7,9,10,11,14] (js' := [9]) k5g W3o rfl rfl
 have k5i := kx [0,6,7,9,10,11,14] (js' := [0]) k5h W4g rfl rfl
 have k5j := kx [0,6,7,9,10,11,14] (js' := [0]) k5i W4h rfl rfl
 exact grz K (Or.inr rfl) rfl (by decide) (by decide) ⟨rfl, k5j, O4h, V4h, f4j, f4v, f5c, f5f⟩
theorem zeq_69 {zs1 : Int} : (-zs1 : Int) = (-zs1) := by omega
theorem zcm_70 {zs0 zs1 zc0 zc2 : Int} (B : ZB zs0 zs1 zc0 zc2) (q0 : zs0 < 0 ∧ -zs0 < zs1) : ¬ (-zs0) < (-zs1) := by unfold ZB at B; obtain ⟨b1, b2, b3, b4, b5, b6⟩ := B; omega
theorem rmLR2 (hw : HW Z a0) (x : Nat → Addr) (uu rr u7_0 u7_1 u7_2 u7_3 u7_4 u16_0 u16_1 u17_0 u17_1 : Int32) (zs0 zs1 zc0 zc2 : Int) (h0 : Heap) (N : NX n0 x) (O : OB Z h0 x DSn (fe uu rr)) (V : EV Z h0 x [(2,[-1,1]),(3,[0,1,2,3]),(4,[0,1,1]),(6,[3,2]),(7,[u7_0,u7_1,u7_2,u7_3,u7_4]),(16,[u16_0,u16_1]),(17,[u17_0,u17_1])]) (B : ZB zs0 zs1 zc0 zc2) (q : zs0 < 0 ∧ -zs0 < zs1) (F10 : AD Z h0 (x 10) [zs0, zs1]) :
    Con l Z n0 ⟨DSn, "leavingRow", "(Z)I"⟩ prog_12_method_10_code 10 (some .int) ⟨1, 0, 0, 15⟩ #[(.ref (x 0)), (.int 0)] h0 (fun v h => v = some (.int 0) ∧ h = h0) := by
 refine con_of (plainFor_of_name pn_DS) ?_
 intro p e s m below meth c T0 K0 X0 e0
 have K : KX p s m meth c Z a0 DSn "leavingRow" prog_12_method_10_code 10 (some .int) t25 (fe uu rr) := ⟨K0, k25, lw hw uu rr⟩
 refine gE (x := x) (L := [aR 0,aI 0,aU,aU,aU,aU,aU,aU,aU,aU]) (by simp [entryFrame, mkF, argsToLocals, Value.category, gL, gS, cs, cv]) X0 e0 ?_
 refine gR K O V 2 ([aR 0,aI 0,aI (-1)]++un 7) [] rfl ?_
 refine gldc K (wd hw 197 rfl) rfl ?_
 refine gR K O V 24 ([aR 0,aI 0,aI (-1),aD 4472406533629990549,aS,aI 0]++un 4) [aI 0,aR 10] rfl ?_
 refine gdl K 0 F10 rfl rfl rfl rfl fun d0a q0a => ?_
 refine gR K O V 49 [aR 0,aI 0,aI (-1),aD 4472406533629990549,aS,aI 0,aD d0a,aS,aU,aU] [aD d0a] rfl ?_
 refine gabs K (wabs hw) (-zs0) 0 q0a (zab_32 B q) rfl rfl (by decide) (Nat.le_of_eq rfl) (by decide) (by decide) (by decide) fun d0b q0b => ?_
 refine gR K O V 96 [aR 0,aI 0,aI (-1),aD 4472406533629990549,aS,aI 0,aD d0a,aS,aD d0b,aS] [aD 4472406533629990549,aD d0b] rfl ?_
 refine gcF K ⟨_, Ep.gt q0b ep_9 (zep_33 B q), rfl⟩ rfl rfl ?_
 refine gR K O V 24 [aR 0,aI 0,aI 0,aD d0b,aS,aI 1,aD d0a,aS,aD d0b,aS] [aI 1,aR 10] rfl ?_
 refine gdl K 1 F10 rfl rfl rfl rfl fun d0c q0c => ?_
 refine gR K O V 43 [aR 0,aI 0,aI 0,aD d0b,aS,aI 1,aD d0c,aS,aD d0b,aS] [aD d0c] rfl ?_
 refine gneg K (z := (-zs1)) (Dz.neg q0c zeq_69) rfl fun d0d q0d => ?_
 refine gR K O V 96 [aR 0,aI 0,aI 0,aD d0b,aS,aI 1,aD d0c,aS,aD d0d,aS] [aD d0b,aD d0d] rfl ?_
 refine gcT K 106 (Dz.tk (cd := .le) q0d q0b (zcm_70 B q)) rfl rfl rfl ?_
 refine gR K O V 113 [aR 0,aI 0,aI 0,aD d0b,aS,aI 2,aD d0c,aS,aD d0d,aS] [aI 0] rfl ?_
 exact gri K rfl (by decide) (by decide) ⟨rfl, rfl⟩
theorem rmEC2 (hw : HW Z a0) (x : Nat → Addr) (uu rr u6_0 u6_1 u16_0 u16_1 u17_0 u17_1 : Int32) (y13_0 y13_1 y13_2 : Int) (zs0 zs1 zc0 zc2 : Int) (h0 : Heap) (N : NX n0 x) (O : OB Z h0 x DSn (fe uu rr)) (V : EV Z h0 x [(2,[-1,1]),(3,[0,1,2,3]),(4,[0,1,1]),(6,[u6_0,u6_1]),(7,[-1,-1,1,0,-1]),(16,[u16_0,u16_1]),(17,[u17_0,u17_1])]) (B : ZB zs0 zs1 zc0 zc2) (q : zs0 < 0) (F5 : AD Z h0 (x 5) [1, (-1), 1]) (F9 : AD Z h0 (x 9) [1, 0, 0, 1]) (F10 : AD Z h0 (x 10) [zs0, zs1]) (F11 : AD Z h0 (x 11) [zc0, zc2, 0]) (F13 : AD Z h0 (x 13) [y13_0, y13_1, y13_2]) :
    Con l Z n0 ⟨DSn, "enteringColumn", "(IZ)I"⟩ prog_12_method_11_code 17 (some .int) ⟨1, 0, 0, 13⟩ #[(.ref (x 0)), (.int 0), (.int 0)] h0 (fun v h => v = some (.int (-1)) ∧ KJ x h0 h [13] ∧ AD Z h (x 13) [1, 0, 0]) := by
 refine con_of (plainFor_of_name pn_DS) ?_
 intro p e s m below meth c T0 K0 X0 e0
 have K : KX p s m meth c Z a0 DSn "enteringColumn" prog_12_method_11_code 17 (some .int) t27 (fe uu rr) := ⟨K0, k27, lw hw uu rr⟩
 refine gE (x := x) (L := [aR 0,aI 0,aI 0,aU,aU,aU,aU,aU,aU,aU,aU,aU,aU,aU,aU,aU,aU]) (by simp [entryFrame, mkF, argsToLocals, Value.category, gL, gS, cs, cv]) X0 e0 ?_
 refine gR0 K O V 2 [aI 0,aR 0] rfl ?_
 refine gPr K (w_block hw) O (rmBlk0 hw x uu rr u6_0 u6_1 (-1) (-1) 1 0 (-1) u16_0 u16_1 u17_0 u17_1 zs0 zs1 zc0 zc2 h0 N O V B) [] 0 rfl rfl rfl rfl (by decide) (Nat.le_of_eq rfl) (by decide) (by decide) (by decide) ?_
 refine gR K O V 8 ([aR 0,aI 0,aI 0,aR 9]++un 13) [aI 0,aR 0] rfl ?_
 refine gPi K (w_first hw) O (rmFst0 hw x uu rr u6_0 u6_1 (-1) (-1) 1 0 (-1) u16_0 u16_1 u17_0 u17_1 zs0 zs1 zc0 zc2 h0 N O V B) [] 0 rfl rfl rfl rfl (by decide) (Nat.le_of_eq rfl) (by decide) (by decide) (by decide) ?_
 refine gR K O V 74 ([aR 0,aI 0,aI 0,aR 9,aI 0,aI 0,aD 0,aS,aI 0]++un 8) [aI 0,aR 9,aD 0] rfl ?_
 refine gdl K 0 F9 rfl rfl rfl rfl fun d0a q0a => ?_
 refine gR0 K O V 81 [aI 0,aR 5,aD d0a,aD 0] rfl ?_
 refine gdl K 0 F5 rfl rfl rfl rfl fun d0b q0b => ?_
 refine gmul K (z := 1) (Dz.mul q0a q0b rfl (by decide)) rfl fun d0c q0c => ?_
 refine gadd K (z := 1) (Dz.add Dz.zero q0c rfl (by decide)) rfl fun d0d q0d => ?_
 refine gR K O V 100 ([aR 0,aI 0,aI 0,aR 9,aI 0,aI 0,aD d0d,aS,aI 1]++un 8) [aD d0d,aI 0,aR 13] rfl ?_
 refine gds K 0 F13 rfl rfl rfl q0d (N.ge 13 rfl) rfl fun h0e (W0e : KJ x h0 h0e [13]) (f0e : AD Z h0e (x 13) [1, y13_1, y13_2]) => ?_
 obtain ⟨O0f, V0f⟩ := ov N O V (js := [13]) W0e rfl rfl rfl
 refine gR K O0f V0f 74 ([aR 0,aI 0,aI 0,aR 9,aI 0,aI 1,aD 0,aS,aI 1]++un 8) [aI 1,aR 9,aD 0] rfl ?_
 have f0g := F9.keep W0e (nx N 9 rfl)
 refine gdl K 1 f0g rfl rfl rfl rfl fun d0h q0h => ?_
 refine gR0 K O0f V0f 81 [aI 1,aR 5,aD d0h,aD 0] rfl ?_
 have f0i := F5.keep W0e (nx N 5 rfl)
 refine gdl K 1 f0i rfl rfl rfl rfl fun d0j q0j => ?_
 refine gmul K (z := 0) (Dz.mul q0h q0j rfl (by decide)) rfl fun d0k q0k => ?_
 refine gadd K (z := 0) (Dz.add Dz.zero q0k rfl (by decide)) rfl fun d0l q0l => ?_
 refine gR K O0f V0f 100 ([aR 0,aI 0,aI 0,aR 9,aI 0,aI 1,aD d0l,aS,aI 2]++un 8) [aD d0l,aI 1,aR 13] rfl ?_
 refine gds K 1 f0e rfl rfl rfl q0l (N.ge 13 rfl) rfl fun h0m (W0m : KJ x h0e h0m [13]) (f0m : AD Z h0m (x 13) [1, 0, y13_2]) => ?_
 have k0n := kx [13] (js' := [13]) W0e W0m rfl rfl
 obtain ⟨O0o, V0o⟩ := ov N O V (js := [13]) k0n rfl rfl rfl
 refine gR K O0o V0o 100 ([aR 0,aI 0,aI 0,aR 9,aI 0,aI 2,aD 0,aS,aI 2]++un 8) [aD 0,aI 2,aR 13] rfl ?_
 refine gds K 2 f0m rfl rfl rfl Dz.zero (N.ge 13 rfl) rfl fun h0p (W0p : KJ x h0m h0p [13]) (f0p : AD Z h0p (x 13) [1, 0, 0]) => ?_
 have k0q := kx [13] (js' := [13]) k0n W0p rfl rfl
 obtain ⟨O0r, V0r⟩ := ov N O V (js := [13]) k0q rfl rfl rfl
 refine gR K O0r V0r 112 ([aR 0,aI 0,aI 0,aR 9,aI 0,aI 3,aD 0,aS,aI 2]++un 8) [aI 0,aR 10] rfl ?_
 have f0s := F10.keep k0q (nx N 10 rfl)
 refine gdl K 0 f0s rfl rfl rfl rfl fun d0t q0t => ?_
 refine gR0 K O0r V0r 114 [aD 0,aD d0t] rfl ?_
 refine gcF K (Dz.nt (cd := .ge) q0t Dz.zero (zcm_24 B q)) rfl rfl ?_
 refine gldc K (wd hw 170 rfl) rfl ?_
 refine gR K O0r V0r 135 ([aR 0,aI 0,aI 0,aR 9,aI 0,aD 13830554455654793216,aS,aU,aI 2]++un 8) [] rfl ?_
 refine gldc K (wd hw 197 rfl) rfl ?_
 refine gR K O0r V0r 140 ([aR 0,aI 0,aI 0,aR 9,aI 0,aD 13830554455654793216,aS,aD 4472406533629990549,aS]++un 8) [] rfl ?_
 refine gldc K (wd hw 205 rfl) rfl ?_
 refine gR K O0r V0r 165 ([aR 0,aI 0,aI 0,aR 9,aI 0,aD 13830554455654793216,aS,aD 4472406533629990549,aS,aD 9218868437227405312,aS,aI 0]++un 5) [aI 0,aR 13,aD 13830554455654793216] rfl ?_
 refine gdl K 0 f0p rfl rfl rfl rfl fun d0u q0u => ?_
 refine gmul K (z := (-1)) (Dz.mul Dz.mone q0u rfl (by decide)) rfl fun d0v q0v => ?_
 refine gR K O0r V0r 171 [aR 0,aI 0,aI 0,aR 9,aI 0,aD 13830554455654793216,aS,aD 4472406533629990549,aS,aD 9218868437227405312,aS,aI 0,aD d0v,aS,aU,aU,aU] [aD d0v] rfl ?_
 refine gldc K (wd hw 197 rfl) rfl ?_
 refine gcT K 202 ⟨_, Ep.lt q0v ep_9 (by decide), rfl⟩ rfl rfl rfl ?_
 refine gR K O0r V0r 165 [aR 0,aI 0,aI 0,aR 9,aI 0,aD 13830554455654793216,aS,aD 4472406533629990549,aS,aD 9218868437227405312,aS,aI 1,aD d0v,aS,aU,aU,aU] [aI 1,aR 13,aD 13830554455654793216] rfl ?_
 refine gdl K 1 f0p rfl rfl rfl rfl fun d0w q0w => ?_
 refine gmul K (z := 0) (Dz.mul Dz.mone q0w rfl (by decide)) rfl fun d0x q0x => ?_
 refine gR K O0r V0r 171 [aR 0,aI 0,aI 0,aR 9,aI 0,aD 13830554455654793216,aS,aD 4472406533629990549,aS,aD 9218868437227405312,aS,aI 1,aD d0x,aS,aU,aU,aU] [aD d0x] rfl ?_
 refine gldc K (wd hw 197 rfl) rfl ?_
 refine gcT K 202 ⟨_, Ep.lt q0x ep_9 (by decide), rfl⟩ rfl rfl rfl ?_
 refine gR K O0r V0r 165 [aR 0,aI 0,aI 0,aR 9,aI 0,aD 13830554455654793216,aS,aD 4472406533629990549,aS,aD 9218868437227405312,aS,aI 2,aD d0x,aS,aU,aU,aU] [aI 2,aR 13,aD 13830554455654793216] rfl ?_
 refine gdl K 2 f0p rfl rfl rfl rfl fun d0y q0y => ?_
 refine gmul K (z := 0) (Dz.mul Dz.mone q0y rfl (by decide)) rfl fun d0z q0z => ?_
 refine gR K O0r V0r 171 [aR 0,aI 0,aI 0,aR 9,aI 0,aD 13830554455654793216,aS,aD 4472406533629990549,aS,aD 9218868437227405312,aS,aI 2,aD d0z,aS,aU,aU,aU] [aD d0z] rfl ?_
 refine gldc K (wd hw 197 rfl) rfl ?_
 refine gcT K 202 ⟨_, Ep.lt q0z ep_9 (by decide), rfl⟩ rfl rfl rfl ?_
 refine gR K O0r V0r 234 [aR 0,aI 0,aI 0,aR 9,aI 0,aD 13830554455654793216,aS,aD 4472406533629990549,aS,aD 9218868437227405312,aS,aI (-1),aD 0,aS,aI 0,aU,aU] [aI 0,aR 13,aD 13830554455654793216] rfl ?_
 refine gdl K 0 f0p rfl rfl rfl rfl fun d1a q1a => ?_
 refine gmul K (z := (-1)) (Dz.mul Dz.mone q1a rfl (by decide)) rfl fun d1b q1b => ?_
 refine gR K O0r V0r 240 [aR 0,aI 0,aI 0,aR 9,aI 0,aD 13830554455654793216,aS,aD 4472406533629990549,aS,aD 9218868437227405312,aS,aI (-1),aD 0,aS,aI 0,aD d1b,aS] [aD d1b] rfl ?_
 refine gldc K (wd hw 197 rfl) rfl ?_
 refine gcT K 290 ⟨_, Ep.lt q1b ep_9 (by decide), rfl⟩ rfl rfl rfl ?_
 refine gR K O0r V0r 234 [aR 0,aI 0,aI 0,aR 9,aI 0,aD 13830554455654793216,aS,aD 4472406533629990549,aS,aD 9218868437227405312,aS,aI (-1),aD 0,aS,aI 1,aD d1b,aS] [aI 1,aR 13,aD 13830554455654793216] rfl ?_
 refine gdl K 1 f0p rfl rfl rfl rfl fun d1c q1c => ?_
 refine gmul K (z := 0) (Dz.mul Dz.mone q1c rfl (by decide)) rfl fun d1d q1d => ?_
 refine gR K O0r V0r 240 [aR 0,aI 0,aI 0,aR 9,aI 0,aD 13830554455654793216,aS,aD 4472406533629990549,aS,aD 9218868437227405312,aS,aI (-1),aD 0,aS,aI 1,aD d1d,aS] [aD d1d] rfl ?_
 refine gldc K (wd hw 197 rfl) rfl ?_
 refine gcT K 290 ⟨_, Ep.lt q1d ep_9 (by decide), rfl⟩ rfl rfl rfl ?_
 refine gR K O0r V0r 234 [aR 0,aI 0,aI 0,aR 9,aI 0,aD 13830554455654793216,aS,aD 4472406533629990549,aS,aD 9218868437227405312,aS,aI (-1),aD 0,aS,aI 2,aD d1d,aS] [aI 2,aR 13,aD 13830554455654793216] rfl ?_
 refine gdl K 2 f0p rfl rfl rfl rfl fun d1e q1e => ?_
 refine gmul K (z := 0) (Dz.mul Dz.mone q1e rfl (by decide)) rfl fun d1f q1f => ?_
 refine gR K O0r V0r 240 [aR 0,aI 0,aI 0,aR 9,aI 0,aD 13830554455654793216,aS,aD 4472406533629990549,aS,aD 9218868437227405312,aS,aI (-1),aD 0,aS,aI 2,aD d1f,aS] [aD d1f] rfl ?_
 refine gldc K (wd hw 197 rfl) rfl ?_
 refine gcT K 290 ⟨_, Ep.lt q1f ep_9 (by decide), rfl⟩ rfl rfl rfl ?_
 refine gR K O0r V0r 298 [aR 0,aI 0,aI 0,aR 9,aI 0,aD 13830554455654793216,aS,aD 4472406533629990549,aS,aD 9218868437227405312,aS,aI (-1),aD 0,aS,aI 3,aD d1f,aS] [aI (-1)] rfl ?_
 exact gri K rfl (by decide) (by decide) ⟨rfl, k0q, f0p⟩
theorem zph_81 {zs0 zs1 zc0 zc2 : Int} (B : ZB zs0 zs1 zc0 zc2) (q0 : zs0 < 0 ∧ -zs0 < zs1) : zs0 < 0 := by unfold ZB at B; obtain ⟨b1, b2, b3, b4, b5, b6⟩ := B; omega
def t35 : List (List (Nat × Instr × Nat)) := [[(0,.aload_n 0,1),(1,.getfield 13,3),(4,.istore_n 1,1),(5,.aload_n 0,1),(6,.getfield 89,3),(9,.astore_n 2,1),(10,.aload_n 2,1),(11,.arraylength,1),(12,.istore_n 3,1),(13,.iconst 0,1),(14,.istore 4,2)],
  [(16,.iload 4,2),(18,.iload_n 3,1),(19,.if_icmp .ge 21,3),(22,.aload_n 2,1),(23,.iload 4,2),(25,.aaload,1),(26,.astore 5,2),(28,.aload 5,2),(30,.dconst 0,1),(31,.invokestatic 226,3)],
  [(34,.iinc 4 1,3),(37,.goto (-21),3),(40,.iconst 0,1),(41,.istore_n 2,1),(42,.iload_n 2,1),(43,.iload_n 1,1),(44,.if_icmp .ge 109,3),(47,.aload_n 0,1)],
  [(48,.getfield 71,3),(51,.iload_n 2,1),(52,.iaload,1),(53,.istore_n 3,1),(54,.iload_n 3,1),(55,.aload_n 0,1),(56,.getfield 16,3),(59,.if_icmp .lt 30,3),(62,.iload_n 3,1),(63,.aload_n 0,1)],
  [(64,.getfield 16,3),(67,.isub,1),(68,.istore 4,2),(70,.aload_n 0,1),(71,.iload 4,2),(73,.invokevirtual 188,3),(76,.aload_n 0,1),(77,.iload 4,2),(79,.invokevirtual 192,3)],
  [(82,.iload_n 2,1),(83,.iadd,1),(84,.dconst 1,1),(85,.dastore,1),(86,.goto 61,3),(89,.aload_n 0,1),(90,.getfield 56,3),(93,.iload_n 3,1),(94,.iaload,1),(95,.istore 4,2)],
  [(97,.iload 4,2),(99,.aload_n 0,1),(100,.getfield 56,3),(103,.iload_n 3,1),(104,.iconst 1,1),(105,.iadd,1),(106,.iaload,1),(107,.if_icmp .ge 40,3),(110,.aload_n 0,1),(111,.getfield 63,3)],
  [(114,.iload 4,2),(116,.iaload,1),(117,.istore 5,2),(119,.aload_n 0,1),(120,.iload 5,2),(122,.invokevirtual 188,3),(125,.aload_n 0,1),(126,.iload 5,2)],
  [(128,.invokevirtual 192,3),(131,.iload_n 2,1),(132,.iadd,1),(133,.aload_n 0,1),(134,.getfield 70,3),(137,.iload 4,2),(139,.daload,1),(140,.dastore,1),(141,.iinc 4 1,3)],
  [(144,.goto (-47),3),(147,.iinc 2 1,3),(150,.goto (-108),3),(153,.aload_n 0,1),(154,.getfield 114,3),(157,.astore_n 2,1),(158,.iconst 0,1),(159,.istore_n 3,1)],
  [(160,.iload_n 3,1),(161,.iload_n 1,1),(162,.if_icmp .ge 310,3),(165,.iconst 0,1),(166,.istore 4,2),(168,.aload_n 0,1),(169,.getfield 89,3),(172,.astore 5,2),(174,.aload 5,2)],
  [(176,.arraylength,1),(177,.istore 6,2),(179,.iconst 0,1),(180,.istore 7,2),(182,.iload 7,2),(184,.iload 6,2),(186,.if_icmp .ge 48,3),(189,.aload 5,2),(191,.iload 7,2)],
  [(193,.aaload,1),(194,.astore 8,2),(196,.iload_n 3,1),(197,.istore 9,2),(199,.iload 9,2),(201,.aload 8,2),(203,.arraylength,1),(204,.if_icmp .ge 24,3),(207,.aload_n 2,1)],
  [(208,.iload 4,2),(210,.aload 8,2),(212,.iload 9,2),(214,.daload,1),(215,.dastore,1),(216,.iload 9,2),(218,.iload_n 1,1),(219,.iadd,1),(220,.istore 9,2),(222,.iinc 4 1,3)],
  [(225,.goto (-26),3),(228,.iinc 7 1,3),(231,.goto (-49),3),(234,.iload_n 3,1),(235,.istore 5,2),(237,.iload_n 3,1),(238,.iconst 1,1),(239,.iadd,1)],
  [(240,.istore 6,2),(242,.iload 6,2),(244,.iload_n 1,1),(245,.if_icmp .ge 31,3),(248,.aload_n 2,1),(249,.iload 6,2),(251,.daload,1),(252,.invokestatic 139,3),(255,.aload_n 2,1)],
  [(256,.iload 5,2),(258,.daload,1),(259,.invokestatic 139,3),(262,.dcmp .l,1),(263,.ifCond .le 7,3),(266,.iload 6,2),(268,.istore 5,2),(270,.iinc 6 1,3)],
  [(273,.goto (-31),3),(276,.aload_n 2,1),(277,.iload 5,2),(279,.daload,1),(280,.dstore 6,2),(282,.dload 6,2),(284,.invokestatic 139,3),(287,.ldc2_w 230,3)],
  [(290,.dcmp .g,1),(291,.ifCond .ge 8,3),(294,.aload_n 0,1),(295,.invokevirtual 123,3),(298,.return_,1),(299,.aload_n 0,1),(300,.iload 5,2),(302,.iload_n 3,1),(303,.invokevirtual 232,3)],
  [(306,.aload_n 2,1),(307,.iload 5,2),(309,.aload_n 2,1),(310,.iload_n 3,1),(311,.daload,1),(312,.dastore,1),(313,.aload_n 0,1),(314,.getfield 120,3),(317,.iload_n 3,1),(318,.iload 5,2)],
  [(320,.iastore,1),(321,.aload_n 0,1),(322,.iload_n 3,1),(323,.invokevirtual 188,3),(326,.astore 8,2),(328,.aload_n 0,1),(329,.iload_n 3,1),(330,.invokevirtual 192,3),(333,.istore 9,2),(335,.aload 8,2)],
  [(337,.iload 9,2),(339,.iload_n 3,1),(340,.iadd,1),(341,.dconst 1,1),(342,.dastore,1),(343,.iconst 0,1),(344,.istore 10,2),(346,.iload 10,2),(348,.iload_n 1,1),(349,.if_icmp .ge 22,3)],
  [(352,.aload 8,2),(354,.iload 9,2),(356,.iload 10,2),(358,.iadd,1),(359,.dup2,1),(360,.daload,1),(361,.dload 6,2),(363,.ddiv,1),(364,.dastore,1),(365,.iinc 10 1,3)],
  [(368,.goto (-22),3),(371,.iconst 0,1),(372,.istore 10,2),(374,.iload 10,2),(376,.iload_n 1,1),(377,.if_icmp .ge 89,3),(380,.aload_n 2,1),(381,.iload 10,2),(383,.daload,1)],
  [(384,.dstore 11,2),(386,.iload 10,2),(388,.iload_n 3,1),(389,.if_icmp .eq 71,3),(392,.dload 11,2),(394,.dconst 0,1),(395,.dcmp .l,1),(396,.ifCond .eq 64,3),(399,.aload_n 0,1)],
  [(400,.iload 10,2),(402,.invokevirtual 188,3),(405,.astore 13,2),(407,.aload_n 0,1),(408,.iload 10,2),(410,.invokevirtual 192,3),(413,.istore 14,2),(415,.aload 13,2)],
  [(417,.iload 14,2),(419,.iload_n 3,1),(420,.iadd,1),(421,.dconst 0,1),(422,.dastore,1),(423,.iconst 0,1),(424,.istore 15,2),(426,.iload 15,2),(428,.iload_n 1,1),(429,.if_icmp .ge 31,3)],
  [(432,.aload 13,2),(434,.iload 14,2),(436,.iload 15,2),(438,.iadd,1),(439,.dup2,1),(440,.daload,1),(441,.dload 11,2),(443,.aload 8,2),(445,.iload 9,2),(447,.iload 15,2)],
  [(449,.iadd,1),(450,.daload,1),(451,.dmul,1),(452,.dsub,1),(453,.dastore,1),(454,.iinc 15 1,3),(457,.goto (-31),3),(460,.iinc 10 1,3),(463,.goto (-89),3)],
  [(466,.iinc 3 1,3),(469,.goto (-309),3),(472,.iload_n 1,1),(473,.iconst 1,1),(474,.isub,1),(475,.istore_n 3,1),(476,.iload_n 3,1),(477,.ifCond .lt 20,3)],
  [(480,.aload_n 0,1),(481,.iload_n 3,1),(482,.aload_n 0,1),(483,.getfield 120,3),(486,.iload_n 3,1),(487,.iaload,1),(488,.invokevirtual 236,3),(491,.iinc 3 (-1),3),(494,.goto (-18),3)],
  [(497,.aload_n 0,1),(498,.invokevirtual 210,3),(501,.astore_n 3,1),(502,.iconst 0,1),(503,.istore 4,2),(505,.iload 4,2),(507,.aload_n 0,1),(508,.getfield 16,3),(511,.if_icmp .ge 37,3)],
  [(514,.aload_n 0,1),(515,.getfield 102,3),(518,.iload 4,2),(520,.aload_n 0,1),(521,.getfield 74,3),(524,.iload 4,2),(526,.iaload,1),(527,.ifCond .ge 13,3)],
  [(530,.aload_n 0,1),(531,.iload 4,2),(533,.aload_n 3,1),(534,.invokevirtual 214,3),(537,.goto 4,3),(540,.dconst 0,1),(541,.dastore,1),(542,.iinc 4 1,3)],
  [(545,.goto (-40),3),(548,.aload_n 0,1),(549,.invokevirtual 239,3),(552,.aload_n 0,1),(553,.iconst 0,1),(554,.putfield 174,3),(557,.aload_n 0,1),(558,.iconst 0,1),(559,.putfield 206,3)],
  [(562,.return_,1)]]
theorem k35 : TB prog_12_method_18_code t35 := tb_of (by decide +kernel)
def t36 : List (List (Nat × Instr × Nat)) := [[(0,.iload_n 1,1),(1,.iload_n 2,1),(2,.if_icmp .eq 82,3),(5,.aload_n 0,1),(6,.iload_n 1,1),(7,.invokevirtual 188,3),(10,.astore_n 3,1),(11,.aload_n 0,1),(12,.iload_n 1,1),(13,.invokevirtual 192,3)],
  [(16,.istore 4,2),(18,.aload_n 0,1),(19,.iload_n 2,1),(20,.invokevirtual 188,3),(23,.astore 5,2),(25,.aload_n 0,1),(26,.iload_n 2,1),(27,.invokevirtual 192,3),(30,.istore 6,2)],
  [(32,.iconst 0,1),(33,.istore 7,2),(35,.iload 7,2),(37,.aload_n 0,1),(38,.getfield 13,3),(41,.if_icmp .ge 43,3),(44,.aload_n 3,1),(45,.iload 4,2),(47,.iload 7,2)],
  [(49,.iadd,1),(50,.daload,1),(51,.dstore 8,2),(53,.aload_n 3,1),(54,.iload 4,2),(56,.iload 7,2),(58,.iadd,1),(59,.aload 5,2),(61,.iload 6,2),(63,.iload 7,2)],
  [(65,.iadd,1),(66,.daload,1),(67,.dastore,1),(68,.aload 5,2),(70,.iload 6,2),(72,.iload 7,2),(74,.iadd,1),(75,.dload 8,2),(77,.dastore,1),(78,.iinc 7 1,3)],
  [(81,.goto (-46),3),(84,.return_,1)]]
theorem k36 : TB prog_12_method_20_code t36 := tb_of (by decide +kernel)
theorem pd_12 : parseMethodDescriptor "(II)V" = some ⟨[.int, .int], none⟩ := by decide +kernel
theorem w_swapRows {Z : State} {a0 : Array Value} (hw : HW Z a0) : WP Z a0 DSn 232 ⟨DSn, "swapRows", "(II)V"⟩ prog_12_method_20_code 10 none 2 := ⟨⟨(wd hw 241 rfl), (wd hw 242 rfl), own_psel (wd hw 49 rfl) (wd hw 243 rfl) (wd hw 242 rfl) (by decide), (wd hw 243 rfl), wd hw 244 rfl, (wd hw 50 rfl)⟩, by decide, lenK pd_12 rfl⟩
theorem rmSW0 (hw : HW Z a0) (x : Nat → Addr) (uu rr u6_0 u6_1 u7_0 u7_1 u7_2 u7_3 u7_4 u16_0 u16_1 u17_0 u17_1 : Int32) (zs0 zs1 zc0 zc2 : Int) (h0 : Heap) (N : NX n0 x) (O : OB Z h0 x DSn (fe uu rr)) (V : EV Z h0 x [(2,[-1,1]),(3,[0,1,2,3]),(4,[0,1,1]),(6,[u6_0,u6_1]),(7,[u7_0,u7_1,u7_2,u7_3,u7_4]),(16,[u16_0,u16_1]),(17,[u17_0,u17_1])]) (B : ZB zs0 zs1 zc0 zc2) :
    Con l Z n0 ⟨DSn, "swapRows", "(II)V"⟩ prog_12_method_20_code 10 none ⟨0, 0, 0, 0⟩ #[(.ref (x 0)), (.int 0), (.int 0)] h0 (fun v h => v = none ∧ h = h0) := by
 refine con_of (plainFor_of_name pn_DS) ?_
 intro p e s m below meth c T0 K0 X0 e0
 have K : KX p s m meth c Z a0 DSn "swapRows" prog_12_method_20_code 10 none t36 (fe uu rr) := ⟨K0, k36, lw hw uu rr⟩
 refine gE (x := x) (L := [aR 0,aI 0,aI 0,aU,aU,aU,aU,aU,aU,aU]) (by simp [entryFrame, mkF, argsToLocals, Value.category, gL, gS, cs, cv]) X0 e0 ?_
 refine gR0 K O V 84 [] rfl ?_
 exact grv K rfl (by decide) (by decide) ⟨rfl, rfl⟩
theorem rmSW1 (hw : HW Z a0) (x : Nat → Addr) (uu rr u6_0 u6_1 u7_0 u7_1 u7_2 u7_3 u7_4 u16_0 u16_1 u17_0 u17_1 : Int32) (zs0 zs1 zc0 zc2 : Int) (h0 : Heap) (N : NX n0 x) (O : OB Z h0 x DSn (fe uu rr)) (V : EV Z h0 x [(2,[-1,1]),(3,[0,1,2,3]),(4,[0,1,1]),(6,[u6_0,u6_1]),(7,[u7_0,u7_1,u7_2,u7_3,u7_4]),(16,[u16_0,u16_1]),(17,[u17_0,u17_1])]) (B : ZB zs0 zs1 zc0 zc2) :
    Con l Z n0 ⟨DSn, "swapRows", "(II)V"⟩ prog_12_method_20_code 10 none ⟨0, 0, 0, 0⟩ #[(.ref (x 0)), (.int 1), (.int 1)] h0 (fun v h => v = none ∧ h = h0) := by
 refine con_of (plainFor_of_name pn_DS) ?_
 intro p e s m below meth c T0 K0 X0 e0
 have K : KX p s m meth c Z a0 DSn "swapRows" prog_12_method_20_code 10 none t36 (fe uu rr) := ⟨K0, k36, lw hw uu rr⟩
 refine gE (x := x) (L := [aR 0,aI 1,aI 1,aU,aU,aU,aU,aU,aU,aU]) (by simp [entryFrame, mkF, argsToLocals, Value.category, gL, gS, cs, cv]) X0 e0 ?_
 refine gR0 K O V 84 [] rfl ?_
 exact grv K rfl (by decide) (by decide) ⟨rfl, rfl⟩
def t37 : List (List (Nat × Instr × Nat)) := [[(0,.iload_n 1,1),(1,.iload_n 2,1),(2,.if_icmp .eq 89,3),(5,.aload_n 0,1),(6,.getfield 89,3),(9,.astore_n 3,1),(10,.aload_n 3,1),(11,.arraylength,1),(12,.istore 4,2),(14,.iconst 0,1),(15,.istore 5,2)],
  [(17,.iload 5,2),(19,.iload 4,2),(21,.if_icmp .ge 70,3),(24,.aload_n 3,1),(25,.iload 5,2),(27,.aaload,1),(28,.astore 6,2),(30,.iconst 0,1),(31,.istore 7,2)],
  [(33,.iload 7,2),(35,.aload 6,2),(37,.arraylength,1),(38,.if_icmp .ge 47,3),(41,.aload 6,2),(43,.iload 7,2),(45,.iload_n 1,1),(46,.iadd,1),(47,.daload,1)],
  [(48,.dstore 8,2),(50,.aload 6,2),(52,.iload 7,2),(54,.iload_n 1,1),(55,.iadd,1),(56,.aload 6,2),(58,.iload 7,2),(60,.iload_n 2,1),(61,.iadd,1),(62,.daload,1),(63,.dastore,1)],
  [(64,.aload 6,2),(66,.iload 7,2),(68,.iload_n 2,1),(69,.iadd,1),(70,.dload 8,2),(72,.dastore,1),(73,.iload 7,2),(75,.aload_n 0,1),(76,.getfield 13,3),(79,.iadd,1)],
  [(80,.istore 7,2),(82,.goto (-49),3),(85,.iinc 5 1,3),(88,.goto (-71),3),(91,.return_,1)]]
theorem k37 : TB prog_12_method_19_code t37 := tb_of (by decide +kernel)
theorem w_swapColumns {Z : State} {a0 : Array Value} (hw : HW Z a0) : WP Z a0 DSn 236 ⟨DSn, "swapColumns", "(II)V"⟩ prog_12_method_19_code 10 none 2 := ⟨⟨(wd hw 245 rfl), (wd hw 246 rfl), own_psel (wd hw 49 rfl) (wd hw 247 rfl) (wd hw 246 rfl) (by decide), (wd hw 247 rfl), wd hw 248 rfl, (wd hw 50 rfl)⟩, by decide, lenK pd_12 rfl⟩
theorem rmSW2 (hw : HW Z a0) (x : Nat → Addr) (uu rr u6_0 u6_1 u7_0 u7_1 u7_2 u7_3 u7_4 u16_0 u16_1 u17_0 u17_1 : Int32) (zs0 zs1 zc0 zc2 : Int) (h0 : Heap) (N : NX n0 x) (O : OB Z h0 x DSn (fe uu rr)) (V : EV Z h0 x [(2,[-1,1]),(3,[0,1,2,3]),(4,[0,1,1]),(6,[u6_0,u6_1]),(7,[u7_0,u7_1,u7_2,u7_3,u7_4]),(16,[u16_0,u16_1]),(17,[u17_0,u17_1])]) (B : ZB zs0 zs1 zc0 zc2) :
    Con l Z n0 ⟨DSn, "swapColumns", "(II)V"⟩ prog_12_method_19_code 10 none ⟨0, 0, 0, 0⟩ #[(.ref (x 0)), (.int 1), (.int 1)] h0 (fun v h => v = none ∧ h = h0) := by
 refine con_of (plainFor_of_name pn_DS) ?_
 intro p e s m below meth c T0 K0 X0 e0
 have K : KX p s m meth c Z a0 DSn "swapColumns" prog_12_method_19_code 10 none t37 (fe uu rr) := ⟨K0, k37, lw hw uu rr⟩
 refine gE (x := x) (L := [aR 0,aI 1,aI 1,aU,aU,aU,aU,aU,aU,aU]) (by simp [entryFrame, mkF, argsToLocals, Value.category, gL, gS, cs, cv]) X0 e0 ?_
 refine gR0 K O V 91 [] rfl ?_
 exact grv K rfl (by decide) (by decide) ⟨rfl, rfl⟩
theorem rmSW3 (hw : HW Z a0) (x : Nat → Addr) (uu rr u6_0 u6_1 u7_0 u7_1 u7_2 u7_3 u7_4 u16_0 u16_1 u17_0 u17_1 : Int32) (zs0 zs1 zc0 zc2 : Int) (h0 : Heap) (N : NX n0 x) (O : OB Z h0 x DSn (fe uu rr)) (V : EV Z h0 x [(2,[-1,1]),(3,[0,1,2,3]),(4,[0,1,1]),(6,[u6_0,u6_1]),(7,[u7_0,u7_1,u7_2,u7_3,u7_4]),(16,[u16_0,u16_1]),(17,[u17_0,u17_1])]) (B : ZB zs0 zs1 zc0 zc2) :
    Con l Z n0 ⟨DSn, "swapColumns", "(II)V"⟩ prog_12_method_19_code 10 none ⟨0, 0, 0, 0⟩ #[(.ref (x 0)), (.int 0), (.int 0)] h0 (fun v h => v = none ∧ h = h0) := by
 refine con_of (plainFor_of_name pn_DS) ?_
 intro p e s m below meth c T0 K0 X0 e0
 have K : KX p s m meth c Z a0 DSn "swapColumns" prog_12_method_19_code 10 none t37 (fe uu rr) := ⟨K0, k37, lw hw uu rr⟩
 refine gE (x := x) (L := [aR 0,aI 0,aI 0,aU,aU,aU,aU,aU,aU,aU]) (by simp [entryFrame, mkF, argsToLocals, Value.category, gL, gS, cs, cv]) X0 e0 ?_
 refine gR0 K O V 91 [] rfl ?_
 exact grv K rfl (by decide) (by decide) ⟨rfl, rfl⟩
def t32 : List (List (Nat × Instr × Nat)) := [[(0,.aload_n 0,1),(1,.getfield 13,3),(4,.newarray .double,2),(6,.astore_n 1,1),(7,.iconst 0,1),(8,.istore_n 2,1),(9,.aload_n 0,1),(10,.getfield 89,3),(13,.astore_n 3,1),(14,.aload_n 3,1),(15,.arraylength,1)],
  [(16,.istore 4,2),(18,.iconst 0,1),(19,.istore 5,2),(21,.iload 5,2),(23,.iload 4,2),(25,.if_icmp .ge 111,3),(28,.aload_n 3,1),(29,.iload 5,2),(31,.aaload,1)],
  [(32,.astore 6,2),(34,.iconst 0,1),(35,.istore 7,2),(37,.iload 7,2),(39,.aload 6,2),(41,.arraylength,1),(42,.if_icmp .ge 88,3),(45,.aload_n 0,1),(46,.getfield 71,3)],
  [(49,.iload_n 2,1),(50,.iaload,1),(51,.istore 8,2),(53,.iload 8,2),(55,.aload_n 0,1),(56,.getfield 16,3),(59,.if_icmp .ge 56,3),(62,.aload_n 0,1),(63,.getfield 25,3)],
  [(66,.iload 8,2),(68,.daload,1),(69,.dconst 0,1),(70,.dcmp .l,1),(71,.ifCond .eq 44,3),(74,.iconst 0,1),(75,.istore 9,2),(77,.iload 9,2),(79,.aload_n 0,1)],
  [(80,.getfield 13,3),(83,.if_icmp .ge 32,3),(86,.aload_n 1,1),(87,.iload 9,2),(89,.dup2,1),(90,.daload,1),(91,.aload_n 0,1),(92,.getfield 25,3),(95,.iload 8,2)],
  [(97,.daload,1),(98,.aload 6,2),(100,.iload 7,2),(102,.iload 9,2),(104,.iadd,1),(105,.daload,1),(106,.dmul,1),(107,.dadd,1),(108,.dastore,1),(109,.iinc 9 1,3)],
  [(112,.goto (-35),3),(115,.iload 7,2),(117,.aload_n 0,1),(118,.getfield 13,3),(121,.iadd,1),(122,.istore 7,2),(124,.iinc 2 1,3),(127,.goto (-90),3)],
  [(130,.iinc 5 1,3),(133,.goto (-112),3),(136,.aload_n 1,1),(137,.areturn,1)]]
theorem k32 : TB prog_12_method_14_code t32 := tb_of (by decide +kernel)
theorem zeq_82 {zc2 : Int} : (zc2 * 0 : Int) = 0 := by omega
theorem zeq_84 {zc2 : Int} : (zc2 * 1 : Int) = zc2 := by omega
theorem zeq_85 {zc2 : Int} : (0 + zc2 : Int) = zc2 := by omega
theorem pd_13 : parseMethodDescriptor "()[D" = some ⟨[], some (.array .double)⟩ := by decide +kernel
theorem w_prices {Z : State} {a0 : Array Value} (hw : HW Z a0) : WP Z a0 DSn 210 ⟨DSn, "prices", "()[D"⟩ prog_12_method_14_code 10 (some (.array .double)) 0 := ⟨⟨(wd hw 221 rfl), (wd hw 222 rfl), own_psel (wd hw 49 rfl) (wd hw 223 rfl) (wd hw 222 rfl) (by decide), (wd hw 223 rfl), wd hw 224 rfl, (wd hw 50 rfl)⟩, by decide, lenK pd_13 rfl⟩
theorem rmPR0 (hw : HW Z a0) (x : Nat → Addr) (uu rr u7_0 u7_1 u7_2 u7_3 u7_4 u16_0 u16_1 u17_0 u17_1 : Int32) (zs0 zs1 zc0 zc2 : Int) (h0 : Heap) (N : NX n0 x) (O : OB Z h0 x DSn (fe uu rr)) (V : EV Z h0 x [(2,[-1,1]),(3,[0,1,2,3]),(4,[0,1,1]),(6,[3,2]),(7,[u7_0,u7_1,u7_2,u7_3,u7_4]),(16,[u16_0,u16_1]),(17,[u17_0,u17_1])]) (B : ZB zs0 zs1 zc0 zc2) (Z0 : n0 ≤ h0.size) (F1 : AD Z h0 (x 1) [zc0, 0, zc2]) (F9 : AD Z h0 (x 9) [1, 0, 0, 1]) :
    Con l Z n0 ⟨DSn, "prices", "()[D"⟩ prog_12_method_14_code 10 (some (.array .double)) ⟨0, 1, 2, 0⟩ #[(.ref (x 0))] h0 (fun v h => ∃ b, v = some (.ref b) ∧ KJ x h0 h [] ∧ h0.size ≤ b ∧ AD Z h b [0, zc2]) := by
 refine con_of (plainFor_of_name pn_DS) ?_
 intro p e s m below meth c T0 K0 X0 e0
 have K : KX p s m meth c Z a0 DSn "prices" prog_12_method_14_code 10 (some (.array .double)) t32 (fe uu rr) := ⟨K0, k32, lw hw uu rr⟩
 refine gE (x := x) (L := [aR 0,aU,aU,aU,aU,aU,aU,aU,aU,aU]) (by simp [entryFrame, mkF, argsToLocals, Value.category, gL, gS, cs, cv]) X0 e0 ?_
 refine gR0 K O V 4 [aI 2] rfl ?_
 refine gnew K (wd hw 15 rfl) 2 rfl (by decide) rfl (by decide) (by decide) fun h0a b0a g0a (W0a : KJ x h0 h0a []) (f0a : AD Z h0a b0a [0, 0]) e0a => ?_
 have g0b : n0 ≤ b0a := Nat.le_trans Z0 g0a
 obtain ⟨O0c, V0c⟩ := ov N O V (js := []) W0a rfl rfl rfl
 refine gR K O0c V0c 41 [aR 0,aA b0a,aI 0,aR 8,aI 1,aI 0,aR 9,aI 0,aU,aU] [aR 9,aI 0] rfl ?_
 have f0d := F9.keep W0a (nx N 9 rfl)
 refine gal K 4 f0d rfl rfl rfl ?_
 refine gR K O0c V0c 41 [aR 0,aA b0a,aI 1,aR 8,aI 1,aI 0,aR 9,aI 2,aI 3,aU] [aR 9,aI 2] rfl ?_
 refine gal K 4 f0d rfl rfl rfl ?_
 refine gR K O0c V0c 68 [aR 0,aA b0a,aI 1,aR 8,aI 1,aI 0,aR 9,aI 2,aI 2,aU] [aI 2,aR 1] rfl ?_
 have f0e := F1.keep W0a (nx N 1 rfl)
 refine gdl K 2 f0e rfl rfl rfl rfl fun d0f q0f => ?_
 refine gR0 K O0c V0c 70 [aD 0,aD d0f] rfl ?_
 refine gcX K 115 q0f Dz.zero rfl rfl rfl ?_ ?_
 · intro (c1012 : zc2 = 0)
   refine gR K O0c V0c 41 [aR 0,aA b0a,aI 2,aR 8,aI 1,aI 0,aR 9,aI 4,aI 2,aU] [aR 9,aI 4] rfl ?_
   refine gal K 4 f0d rfl rfl rfl ?_
   refine gR K O0c V0c 137 [aR 0,aA b0a,aI 2,aR 8,aI 1,aI 1,aR 9,aI 4,aI 2,aU] [aA b0a] rfl ?_
   have f0g : AD Z h0a b0a [0, zc2] := by simp only [c1012]; exact f0a
   exact gra K rfl rfl rfl rfl (by decide) (by decide) ⟨b0a, rfl, W0a, g0a, f0g⟩
 · intro (c1012 : ¬ zc2 = 0)
   refine gR K O0c V0c 90 [aR 0,aA b0a,aI 1,aR 8,aI 1,aI 0,aR 9,aI 2,aI 2,aI 0] [aI 0,aA b0a,aI 0,aA b0a] rfl ?_
   refine gdl K 0 f0a rfl rfl rfl rfl fun d0h q0h => ?_
   refine gR0 K O0c V0c 97 [aI 2,aR 1,aD d0h,aI 0,aA b0a] rfl ?_
   refine gdl K 2 f0e rfl rfl rfl rfl fun d0i q0i => ?_
   refine gR0 K O0c V0c 105 [aI 2,aR 9,aD d0i,aD d0h,aI 0,aA b0a] rfl ?_
   refine gdl K 2 f0d rfl rfl rfl rfl fun d0j q0j => ?_
   refine gmul K (z := 0) (Dz.mul q0i q0j zeq_82 (by decide)) rfl fun d0k q0k => ?_
   refine gadd K (z := 0) (Dz.add q0h q0k rfl (by decide)) rfl fun d0l q0l => ?_
   refine gds K 0 f0a rfl rfl rfl q0l g0b rfl fun h0m (W0m : Keep h0a h0m [b0a]) (f0m : AD Z h0m b0a [0, 0]) => ?_
   have k0n := kf (js := []) W0a W0m g0a
   obtain ⟨O0o, V0o⟩ := ov N O V (js := []) k0n rfl rfl rfl
   refine gR K O0o V0o 90 [aR 0,aA b0a,aI 1,aR 8,aI 1,aI 0,aR 9,aI 2,aI 2,aI 1] [aI 1,aA b0a,aI 1,aA b0a] rfl ?_
   refine gdl K 1 f0m rfl rfl rfl rfl fun d0p q0p => ?_
   refine gR0 K O0o V0o 97 [aI 2,aR 1,aD d0p,aI 1,aA b0a] rfl ?_
   have f0q := F1.keep k0n (nx N 1 rfl)
   refine gdl K 2 f0q rfl rfl rfl rfl fun d0r q0r => ?_
   refine gR0 K O0o V0o 105 [aI 3,aR 9,aD d0r,aD d0p,aI 1,aA b0a] rfl ?_
   have f0s := F9.keep k0n (nx N 9 rfl)
   refine gdl K 3 f0s rfl rfl rfl rfl fun d0t q0t => ?_
   refine gmul K (z := zc2) (Dz.mul q0r q0t zeq_84 (zbd_64 B)) rfl fun d0u q0u => ?_
   refine gadd K (z := zc2) (Dz.add q0p q0u zeq_85 (zbd_64 B)) rfl fun d0v q0v => ?_
   refine gds K 1 f0m rfl rfl rfl q0v g0b rfl fun h0w (W0w : Keep h0m h0w [b0a]) (f0w : AD Z h0w b0a [0, zc2]) => ?_
   have k0x := kf (js := []) k0n W0w g0a
   obtain ⟨O0y, V0y⟩ := ov N O V (js := []) k0x rfl rfl rfl
   refine gR K O0y V0y 41 [aR 0,aA b0a,aI 2,aR 8,aI 1,aI 0,aR 9,aI 4,aI 2,aI 2] [aR 9,aI 4] rfl ?_
   have f0z := F9.keep k0x (nx N 9 rfl)
   refine gal K 4 f0z rfl rfl rfl ?_
   refine gR K O0y V0y 137 [aR 0,aA b0a,aI 2,aR 8,aI 1,aI 1,aR 9,aI 4,aI 2,aI 2] [aA b0a] rfl ?_
   exact gra K rfl rfl rfl rfl (by decide) (by decide) ⟨b0a, rfl, k0x, g0a, f0w⟩
def t33 : List (List (Nat × Instr × Nat)) := [[(0,.aload_n 0,1),(1,.getfield 25,3),(4,.iload_n 1,1),(5,.daload,1),(6,.dstore_n 3,1),(7,.aload_n 0,1),(8,.getfield 56,3),(11,.iload_n 1,1),(12,.iaload,1),(13,.istore 5,2),(15,.iload 5,2)],
  [(17,.aload_n 0,1),(18,.getfield 56,3),(21,.iload_n 1,1),(22,.iconst 1,1),(23,.iadd,1),(24,.iaload,1),(25,.if_icmp .ge 29,3),(28,.dload_n 3,1),(29,.aload_n 2,1),(30,.aload_n 0,1),(31,.getfield 63,3)],
  [(34,.iload 5,2),(36,.iaload,1),(37,.daload,1),(38,.aload_n 0,1),(39,.getfield 70,3),(42,.iload 5,2),(44,.daload,1),(45,.dmul,1),(46,.dsub,1),(47,.dstore_n 3,1)],
  [(48,.iinc 5 1,3),(51,.goto (-36),3),(54,.dload_n 3,1),(55,.dreturn,1)]]
theorem k33 : TB prog_12_method_15_code t33 := tb_of (by decide +kernel)
theorem pd_14 : parseMethodDescriptor "(I[D)D" = some ⟨[.int, (.array .double)], some .double⟩ := by decide +kernel
theorem w_reducedCost {Z : State} {a0 : Array Value} (hw : HW Z a0) : WP Z a0 DSn 214 ⟨DSn, "reducedCost", "(I[D)D"⟩ prog_12_method_15_code 6 (some .double) 2 := ⟨⟨(wd hw 225 rfl), (wd hw 226 rfl), own_psel (wd hw 49 rfl) (wd hw 227 rfl) (wd hw 226 rfl) (by decide), (wd hw 227 rfl), wd hw 228 rfl, (wd hw 50 rfl)⟩, by decide, lenK pd_14 rfl⟩
theorem rmRC0 (hw : HW Z a0) (x : Nat → Addr) (uu rr u6_0 u6_1 u7_0 u7_1 u7_2 u7_3 u7_4 u16_0 u16_1 u17_0 u17_1 : Int32) (xq : Addr) (zs0 zs1 zc0 zc2 : Int) (h0 : Heap) (N : NX n0 x) (O : OB Z h0 x DSn (fe uu rr)) (V : EV Z h0 x [(2,[-1,1]),(3,[0,1,2,3]),(4,[0,1,1]),(6,[u6_0,u6_1]),(7,[u7_0,u7_1,u7_2,u7_3,u7_4]),(16,[u16_0,u16_1]),(17,[u17_0,u17_1])]) (B : ZB zs0 zs1 zc0 zc2) (Fxq : AD Z h0 xq [0, zc2]) (F1 : AD Z h0 (x 1) [zc0, 0, zc2]) (F5 : AD Z h0 (x 5) [1, (-1), 1]) :
    Con l Z n0 ⟨DSn, "reducedCost", "(I[D)D"⟩ prog_12_method_15_code 6 (some .double) ⟨0, 0, 0, 0⟩ #[(.ref (x 0)), (.int 0), (.ref xq)] h0 (fun v h => ∃ d, v = some (.double d) ∧ h = h0 ∧ Dz zc0 d) := by
 refine con_of (plainFor_of_name pn_DS) ?_
 intro p e s m below meth c T0 K0 X0 e0
 have K : KX p s m meth c Z a0 DSn "reducedCost" prog_12_method_15_code 6 (some .double) t33 (fe uu rr) := ⟨K0, k33, lw hw uu rr⟩
 refine gE (x := x) (L := [aR 0,aI 0,aA xq,aU,aU,aU]) (by simp [entryFrame, mkF, argsToLocals, Value.category, gL, gS, cs, cv]) X0 e0 ?_
 refine gR0 K O V 5 [aI 0,aR 1] rfl ?_
 refine gdl K 0 F1 rfl rfl rfl rfl fun d0a q0a => ?_
 refine gR K O V 37 [aR 0,aI 0,aA xq,aD d0a,aS,aI 0] [aI 0,aA xq,aD d0a] rfl ?_
 refine gdl K 0 Fxq rfl rfl rfl rfl fun d0b q0b => ?_
 refine gR0 K O V 44 [aI 0,aR 5,aD d0b,aD d0a] rfl ?_
 refine gdl K 0 F5 rfl rfl rfl rfl fun d0c q0c => ?_
 refine gmul K (z := 0) (Dz.mul q0b q0c rfl (by decide)) rfl fun d0d q0d => ?_
 refine gsub K (z := zc0) (Dz.sub q0a q0d zeq_60 (zbd_61 B)) rfl fun d0e q0e => ?_
 refine gR K O V 55 [aR 0,aI 0,aA xq,aD d0e,aS,aI 1] [aD d0e] rfl ?_
 exact grd K rfl (by decide) (by decide) ⟨d0e, rfl, rfl, q0e⟩
theorem zeq_87 {zc2 : Int} : (zc2 * (-1) : Int) = (-zc2) := by omega
theorem zbd_88 {zs0 zs1 zc0 zc2 : Int} (B : ZB zs0 zs1 zc0 zc2) : -9007199254740992 ≤ (-zc2) ∧ (-zc2) ≤ 9007199254740992 := by unfold ZB at B; obtain ⟨b1, b2, b3, b4, b5, b6⟩ := B; omega
theorem zeq_89 {zc2 : Int} : (0 - (-zc2) : Int) = zc2 := by omega
theorem rmRC1 (hw : HW Z a0) (x : Nat → Addr) (uu rr u6_0 u6_1 u7_0 u7_1 u7_2 u7_3 u7_4 u16_0 u16_1 u17_0 u17_1 : Int32) (xq : Addr) (zs0 zs1 zc0 zc2 : Int) (h0 : Heap) (N : NX n0 x) (O : OB Z h0 x DSn (fe uu rr)) (V : EV Z h0 x [(2,[-1,1]),(3,[0,1,2,3]),(4,[0,1,1]),(6,[u6_0,u6_1]),(7,[u7_0,u7_1,u7_2,u7_3,u7_4]),(16,[u16_0,u16_1]),(17,[u17_0,u17_1])]) (B : ZB zs0 zs1 zc0 zc2) (Fxq : AD Z h0 xq [0, zc2]) (F1 : AD Z h0 (x 1) [zc0, 0, zc2]) (F5 : AD Z h0 (x 5) [1, (-1), 1]) :
    Con l Z n0 ⟨DSn, "reducedCost", "(I[D)D"⟩ prog_12_method_15_code 6 (some .double) ⟨0, 0, 0, 0⟩ #[(.ref (x 0)), (.int 1), (.ref xq)] h0 (fun v h => ∃ d, v = some (.double d) ∧ h = h0 ∧ Dz zc2 d) := by
 refine con_of (plainFor_of_name pn_DS) ?_
 intro p e s m below meth c T0 K0 X0 e0
 have K : KX p s m meth c Z a0 DSn "reducedCost" prog_12_method_15_code 6 (some .double) t33 (fe uu rr) := ⟨K0, k33, lw hw uu rr⟩
 refine gE (x := x) (L := [aR 0,aI 1,aA xq,aU,aU,aU]) (by simp [entryFrame, mkF, argsToLocals, Value.category, gL, gS, cs, cv]) X0 e0 ?_
 refine gR0 K O V 5 [aI 1,aR 1] rfl ?_
 refine gdl K 1 F1 rfl rfl rfl rfl fun d0a q0a => ?_
 refine gR K O V 37 [aR 0,aI 1,aA xq,aD d0a,aS,aI 1] [aI 1,aA xq,aD d0a] rfl ?_
 refine gdl K 1 Fxq rfl rfl rfl rfl fun d0b q0b => ?_
 refine gR0 K O V 44 [aI 1,aR 5,aD d0b,aD d0a] rfl ?_
 refine gdl K 1 F5 rfl rfl rfl rfl fun d0c q0c => ?_
 refine gmul K (z := (-zc2)) (Dz.mul q0b q0c zeq_87 (zbd_88 B)) rfl fun d0d q0d => ?_
 refine gsub K (z := zc2) (Dz.sub q0a q0d zeq_89 (zbd_64 B)) rfl fun d0e q0e => ?_
 refine gR K O V 55 [aR 0,aI 1,aA xq,aD d0e,aS,aI 2] [aD d0e] rfl ?_
 exact grd K rfl (by decide) (by decide) ⟨d0e, rfl, rfl, q0e⟩
theorem zcm_90 {zs0 zs1 zc0 zc2 : Int} (B : ZB zs0 zs1 zc0 zc2) (q0 : ¬ zs0 = 0 ∧ ¬ zs1 = 0) : ¬ zs0 = 0 := by unfold ZB at B; obtain ⟨b1, b2, b3, b4, b5, b6⟩ := B; omega
theorem zcm_91 {zs0 zs1 zc0 zc2 : Int} (B : ZB zs0 zs1 zc0 zc2) (q0 : ¬ zs0 = 0 ∧ ¬ zs1 = 0) : ¬ zs1 = 0 := by unfold ZB at B; obtain ⟨b1, b2, b3, b4, b5, b6⟩ := B; omega
theorem zeq_93 {zs1 : Int} : (1 * zs1 : Int) = zs1 := by omega
theorem zeq_94 {zs1 : Int} : (0 + zs1 : Int) = zs1 := by omega
theorem rmCV1 (hw : HW Z a0) (x : Nat → Addr) (uu rr u6_0 u6_1 u7_0 u7_1 u7_2 u7_3 u7_4 u16_0 u16_1 u17_0 u17_1 : Int32) (y10_0 y10_1 : Int) (zs0 zs1 zc0 zc2 : Int) (h0 : Heap) (N : NX n0 x) (O : OB Z h0 x DSn (fe uu rr)) (V : EV Z h0 x [(2,[-1,1]),(3,[0,1,2,3]),(4,[0,1,1]),(6,[u6_0,u6_1]),(7,[u7_0,u7_1,u7_2,u7_3,u7_4]),(16,[u16_0,u16_1]),(17,[u17_0,u17_1])]) (B : ZB zs0 zs1 zc0 zc2) (q : ¬ zs0 = 0 ∧ ¬ zs1 = 0) (F9 : AD Z h0 (x 9) [1, 0, 0, 1]) (F10 : AD Z h0 (x 10) [y10_0, y10_1]) (F12 : AD Z h0 (x 12) [zs0, zs1]) :
    Con l Z n0 ⟨DSn, "computeValues", "()V"⟩ prog_12_method_17_code 12 none ⟨0, 0, 0, 0⟩ #[(.ref (x 0))] h0 (fun v h => v = none ∧ KJ x h0 h [10,16] ∧ OB Z h x DSn (fe uu rr) ∧ EV Z h x [(2,[-1,1]),(3,[0,1,2,3]),(4,[0,1,1]),(6,[u6_0,u6_1]),(7,[u7_0,u7_1,u7_2,u7_3,u7_4]),(16,[0,1]),(17,[u17_0,u17_1])] ∧ AD Z h (x 10) [zs0, zs1]) := by
 refine con_of (plainFor_of_name pn_DS) ?_
 intro p e s m below meth c T0 K0 X0 e0
 have K : KX p s m meth c Z a0 DSn "computeValues" prog_12_method_17_code 12 none t21 (fe uu rr) := ⟨K0, k21, lw hw uu rr⟩
 refine gE (x := x) (L := [aR 0,aU,aU,aU,aU,aU,aU,aU,aU,aU,aU,aU]) (by simp [entryFrame, mkF, argsToLocals, Value.category, gL, gS, cs, cv]) X0 e0 ?_
 refine gR K O V 17 ([aR 0,aI 0,aI 0]++un 9) [aI 0,aR 12] rfl ?_
 refine gdl K 0 F12 rfl rfl rfl rfl fun d0a q0a => ?_
 refine gR0 K O V 19 [aD 0,aD d0a] rfl ?_
 refine gcF K (Dz.nt (cd := .eq) q0a Dz.zero (zcm_90 B q)) rfl rfl ?_
 refine gR K O V 32 ([aR 0,aI 1,aI 0]++un 9) [aI 0,aI 0,aR 16] rfl ?_
 refine gist K V N 0 [(2,[-1,1]),(3,[0,1,2,3]),(4,[0,1,1]),(6,[u6_0,u6_1]),(7,[u7_0,u7_1,u7_2,u7_3,u7_4]),(16,[0,u16_1]),(17,[u17_0,u17_1])] rfl rfl rfl rfl rfl rfl fun h0b (W0b : KJ x h0 h0b [16]) V0b => ?_
 have O0b := O.keep W0b (nx N 0 (js := [16]) rfl)
 refine gR K O0b V0b 17 ([aR 0,aI 1,aI 1]++un 9) [aI 1,aR 12] rfl ?_
 have f0c := F12.keep W0b (nx N 12 rfl)
 refine gdl K 1 f0c rfl rfl rfl rfl fun d0d q0d => ?_
 refine gR0 K O0b V0b 19 [aD 0,aD d0d] rfl ?_
 refine gcF K (Dz.nt (cd := .eq) q0d Dz.zero (zcm_91 B q)) rfl rfl ?_
 refine gR K O0b V0b 32 ([aR 0,aI 2,aI 1]++un 9) [aI 1,aI 1,aR 16] rfl ?_
 refine gist K V0b N 1 [(2,[-1,1]),(3,[0,1,2,3]),(4,[0,1,1]),(6,[u6_0,u6_1]),(7,[u7_0,u7_1,u7_2,u7_3,u7_4]),(16,[0,1]),(17,[u17_0,u17_1])] rfl rfl rfl rfl rfl rfl fun h0e (W0e : KJ x h0b h0e [16]) V0e => ?_
 have O0e := O0b.keep W0e (nx N 0 (js := [16]) rfl)
 refine gR K O0e V0e 73 ([aR 0,aI 2,aI 0,aR 8,aI 1,aI 0,aR 9,aI 0]++un 4) [aR 9,aI 0] rfl ?_
 have k0f := kx [16] (js' := [16]) W0b W0e rfl rfl
 have f0g := F9.keep k0f (nx N 9 rfl)
 refine gal K 4 f0g rfl rfl rfl ?_
 refine gR K O0e V0e 107 [aR 0,aI 2,aI 0,aR 8,aI 1,aI 0,aR 9,aI 0,aD 0,aS,aI 0,aI 0] [aI 0,aR 9,aD 0] rfl ?_
 refine gdl K 0 f0g rfl rfl rfl rfl fun d0h q0h => ?_
 refine gR0 K O0e V0e 114 [aI 0,aR 12,aD d0h,aD 0] rfl ?_
 have f0i := F12.keep k0f (nx N 12 rfl)
 refine gdl K 0 f0i rfl rfl rfl rfl fun d0j q0j => ?_
 refine gmul K (z := zs0) (Dz.mul q0h q0j zeq_10 (zbd_9 B)) rfl fun d0k q0k => ?_
 refine gadd K (z := zs0) (Dz.add Dz.zero q0k zeq_11 (zbd_9 B)) rfl fun d0l q0l => ?_
 refine gR K O0e V0e 107 [aR 0,aI 2,aI 0,aR 8,aI 1,aI 0,aR 9,aI 0,aD d0l,aS,aI 1,aI 1] [aI 1,aR 9,aD d0l] rfl ?_
 refine gdl K 1 f0g rfl rfl rfl rfl fun d0m q0m => ?_
 refine gR0 K O0e V0e 114 [aI 1,aR 12,aD d0m,aD d0l] rfl ?_
 refine gdl K 1 f0i rfl rfl rfl rfl fun d0n q0n => ?_
 refine gmul K (z := 0) (Dz.mul q0m q0n zeq_3 (by decide)) rfl fun d0o q0o => ?_
 refine gadd K (z := zs0) (Dz.add q0l q0o zeq_14 (zbd_9 B)) rfl fun d0p q0p => ?_
 refine gR K O0e V0e 132 [aR 0,aI 2,aI 0,aR 8,aI 1,aI 0,aR 9,aI 0,aD d0p,aS,aI 2,aI 1] [aD d0p,aI 0,aR 10] rfl ?_
 have f0q := F10.keep k0f (nx N 10 rfl)
 refine gds K 0 f0q rfl rfl rfl q0p (N.ge 10 rfl) rfl fun h0r (W0r : KJ x h0e h0r [10]) (f0r : AD Z h0r (x 10) [zs0, y10_1]) => ?_
 obtain ⟨O0s, V0s⟩ := ov N O0e V0e (js := [10]) W0r rfl rfl rfl
 refine gR K O0s V0s 73 [aR 0,aI 2,aI 1,aR 8,aI 1,aI 0,aR 9,aI 2,aD d0p,aS,aI 2,aI 1] [aR 9,aI 2] rfl ?_
 have k0t := kx [10,16] (js' := [10]) k0f W0r rfl rfl
 have f0u := F9.keep k0t (nx N 9 rfl)
 refine gal K 4 f0u rfl rfl rfl ?_
 refine gR K O0s V0s 107 [aR 0,aI 2,aI 1,aR 8,aI 1,aI 0,aR 9,aI 2,aD 0,aS,aI 0,aI 0] [aI 2,aR 9,aD 0] rfl ?_
 refine gdl K 2 f0u rfl rfl rfl rfl fun d0v q0v => ?_
 refine gR0 K O0s V0s 114 [aI 0,aR 12,aD d0v,aD 0] rfl ?_
 have f0w := F12.keep k0t (nx N 12 rfl)
 refine gdl K 0 f0w rfl rfl rfl rfl fun d0x q0x => ?_
 refine gmul K (z := 0) (Dz.mul q0v q0x zeq_12 (by decide)) rfl fun d0y q0y => ?_
 refine gadd K (z := 0) (Dz.add Dz.zero q0y rfl (by decide)) rfl fun d0z q0z => ?_
 refine gR K O0s V0s 107 [aR 0,aI 2,aI 1,aR 8,aI 1,aI 0,aR 9,aI 2,aD d0z,aS,aI 1,aI 1] [aI 3,aR 9,aD d0z] rfl ?_
 refine gdl K 3 f0u rfl rfl rfl rfl fun d1a q1a => ?_
 refine gR0 K O0s V0s 114 [aI 1,aR 12,aD d1a,aD d0z] rfl ?_
 refine gdl K 1 f0w rfl rfl rfl rfl fun d1b q1b => ?_
 refine gmul K (z := zs1) (Dz.mul q1a q1b zeq_93 (zbd_2 B)) rfl fun d1c q1c => ?_
 refine gadd K (z := zs1) (Dz.add q0z q1c zeq_94 (zbd_2 B)) rfl fun d1d q1d => ?_
 refine gR K O0s V0s 132 [aR 0,aI 2,aI 1,aR 8,aI 1,aI 0,aR 9,aI 2,aD d1d,aS,aI 2,aI 1] [aD d1d,aI 1,aR 10] rfl ?_
 refine gds K 1 f0r rfl rfl rfl q1d (N.ge 10 rfl) rfl fun h1e (W1e : KJ x h0r h1e [10]) (f1e : AD Z h1e (x 10) [zs0, zs1]) => ?_
 have k1f := kx [10] (js' := [10]) W0r W1e rfl rfl
 obtain ⟨O1g, V1g⟩ := ov N O0e V0e (js := [10]) k1f rfl rfl rfl
 refine gR K O1g V1g 73 [aR 0,aI 2,aI 2,aR 8,aI 1,aI 0,aR 9,aI 4,aD d1d,aS,aI 2,aI 1] [aR 9,aI 4] rfl ?_
 have k1h := kx [10,16] (js' := [10]) k0t W1e rfl rfl
 have f1i := F9.keep k1h (nx N 9 rfl)
 refine gal K 4 f1i rfl rfl rfl ?_
 refine gR K O1g V1g 154 [aR 0,aI 2,aI 2,aR 8,aI 1,aI 1,aR 9,aI 4,aD d1d,aS,aI 2,aI 1] [] rfl ?_
 exact grv K rfl (by decide) (by decide) ⟨rfl, k1h, O1g, V1g, f1e⟩
theorem w_reinvert {Z : State} {a0 : Array Value} (hw : HW Z a0) : WP Z a0 DSn 177 ⟨DSn, "reinvert", "()V"⟩ prog_12_method_18_code 16 none 0 := ⟨⟨(wd hw 236 rfl), (wd hw 237 rfl), own_psel (wd hw 49 rfl) (wd hw 238 rfl) (wd hw 237 rfl) (by decide), (wd hw 238 rfl), wd hw 239 rfl, (wd hw 50 rfl)⟩, by decide, lenK pd_2 rfl⟩
theorem rmRI0 (hw : HW Z a0) (x : Nat → Addr) (rr u16_0 u16_1 u17_0 u17_1 : Int32) (zs0 zs1 zc0 zc2 : Int) (h0 : Heap) (N : NX n0 x) (O : OB Z h0 x DSn (fe 1 rr)) (V : EV Z h0 x [(2,[-1,1]),(3,[0,1,2,3]),(4,[0,1,1]),(6,[3,2]),(7,[-1,-1,1,0,-1]),(16,[u16_0,u16_1]),(17,[u17_0,u17_1])]) (B : ZB zs0 zs1 zc0 zc2) (q : ¬ zs0 = 0 ∧ ¬ zs1 = 0) (Z0 : n0 ≤ h0.size) (F1 : AD Z h0 (x 1) [zc0, 0, zc2]) (F5 : AD Z h0 (x 5) [1, (-1), 1]) (F9 : AD Z h0 (x 9) [1, 0, 0, 1]) (F10 : AD Z h0 (x 10) [zs0, zs1]) (F11 : AD Z h0 (x 11) [zc0, zc2, 0]) (F12 : AD Z h0 (x 12) [zs0, zs1]) (F15 : AD Z h0 (x 15) [0, 0]) :
    Con l Z n0 ⟨DSn, "reinvert", "()V"⟩ prog_12_method_18_code 16 none ⟨1, 1, 2, 23⟩ #[(.ref (x 0))] h0 (fun v h => v = none ∧ KJ x h0 h [0,9,10,11,15,16,17] ∧ OB Z h x DSn (fe 0 0) ∧ EV Z h x [(2,[-1,1]),(3,[0,1,2,3]),(4,[0,1,1]),(6,[3,2]),(7,[-1,-1,1,0,-1]),(16,[0,1]),(17,[0,1])] ∧ AD Z h (x 9) [1, 0, 0, 1] ∧ AD Z h (x 10) [zs0, zs1] ∧ AD Z h (x 11) [zc0, zc2, 0] ∧ AD Z h (x 15) [0, 1]) := by
 refine con_of (plainFor_of_name pn_DS) ?_
 intro p e s m below meth c T0 K0 X0 e0
 have K : KX p s m meth c Z a0 DSn "reinvert" prog_12_method_18_code 16 none t35 (fe 1 rr) := ⟨K0, k35, lw hw 1 rr⟩
 refine gE (x := x) (L := [aR 0,aU,aU,aU,aU,aU,aU,aU,aU,aU,aU,aU,aU,aU,aU,aU]) (by simp [entryFrame, mkF, argsToLocals, Value.category, gL, gS, cs, cv]) X0 e0 ?_
 refine gR K O V 31 ([aR 0,aI 2,aR 8,aI 1,aI 0,aR 9]++un 10) [aD 0,aR 9] rfl ?_
 refine gT K (w_filld hw) (rmFD4 hw (x 9) 1 0 0 1 h0 (N.ge 9 rfl) F9) [] 0 rfl rfl rfl rfl (by decide) (Nat.le_of_eq rfl) (by decide) (by decide) (by decide) ?_
 rintro h0a _ ⟨rfl, (W0a : KJ x h0 h0a [9]), f0a⟩
 refine sh (FA m x 34 ([aR 0,aI 2,aR 8,aI 1,aI 0,aR 9]++un 10) []) rfl ?_
 obtain ⟨O0b, V0b⟩ := ov N O V (js := [9]) W0a rfl rfl rfl
 refine gR K O0b V0b 73 ([aR 0,aI 2,aI 0,aI 3,aI 0,aR 9]++un 10) [aI 0,aR 0] rfl ?_
 refine gPr K (w_block hw) O0b (rmBlk0 hw x 1 rr 3 2 (-1) (-1) 1 0 (-1) u16_0 u16_1 u17_0 u17_1 zs0 zs1 zc0 zc2 h0a N O0b V0b B) [] 0 rfl rfl rfl rfl (by decide) (Nat.le_of_eq rfl) (by decide) (by decide) (by decide) ?_
 refine gR0 K O0b V0b 79 [aI 0,aR 0,aR 9] rfl ?_
 refine gPi K (w_first hw) O0b (rmFst0 hw x 1 rr 3 2 (-1) (-1) 1 0 (-1) u16_0 u16_1 u17_0 u17_1 zs0 zs1 zc0 zc2 h0a N O0b V0b B) [aR 9] 1 rfl rfl rfl rfl (by decide) (Nat.le_of_eq rfl) (by decide) (by decide) (by decide) ?_
 refine gR0 K O0b V0b 85 [aD 4607182418800017408,aI 0,aR 9] rfl ?_
 refine gds K 0 f0a rfl rfl rfl Dz.one (N.ge 9 rfl) rfl fun h0c (W0c : KJ x h0a h0c [9]) (f0c : AD Z h0c (x 9) [1, 0, 0, 0]) => ?_
 have k0d := kx [9] (js' := [9]) W0a W0c rfl rfl
 obtain ⟨O0e, V0e⟩ := ov N O V (js := [9]) k0d rfl rfl rfl
 refine gR K O0e V0e 122 ([aR 0,aI 2,aI 1,aI 2,aI 2,aI 1]++un 10) [aI 1,aR 0] rfl ?_
 refine gPr K (w_block hw) O0e (rmBlk1 hw x 1 rr 3 2 (-1) (-1) 1 0 (-1) u16_0 u16_1 u17_0 u17_1 zs0 zs1 zc0 zc2 h0c N O0e V0e B) [] 0 rfl rfl rfl rfl (by decide) (Nat.le_of_eq rfl) (by decide) (by decide) (by decide) ?_
 refine gR0 K O0e V0e 128 [aI 1,aR 0,aR 9] rfl ?_
 refine gPi K (w_first hw) O0e (rmFst1 hw x 1 rr 3 2 (-1) (-1) 1 0 (-1) u16_0 u16_1 u17_0 u17_1 zs0 zs1 zc0 zc2 h0c N O0e V0e B) [aR 9] 1 rfl rfl rfl rfl (by decide) (Nat.le_of_eq rfl) (by decide) (by decide) (by decide) ?_
 refine gR0 K O0e V0e 139 [aI 2,aR 5,aI 3,aR 9] rfl ?_
 have f0f := F5.keep k0d (nx N 5 rfl)
 refine gdl K 2 f0f rfl rfl rfl rfl fun d0g q0g => ?_
 refine gds K 3 f0c rfl rfl rfl q0g (N.ge 9 rfl) rfl fun h0h (W0h : KJ x h0c h0h [9]) (f0h : AD Z h0h (x 9) [1, 0, 0, 1]) => ?_
 have k0i := kx [9] (js' := [9]) k0d W0h rfl rfl
 obtain ⟨O0j, V0j⟩ := ov N O V (js := [9]) k0i rfl rfl rfl
 refine gR K O0j V0j 203 ([aR 0,aI 2,aR 15,aI 0,aI 0,aR 8,aI 1,aI 0,aR 9,aI 0]++un 6) [aR 9,aI 0] rfl ?_
 refine gal K 4 f0h rfl rfl rfl ?_
 refine gR0 K O0j V0j 214 [aI 0,aR 9,aI 0,aR 15] rfl ?_
 refine gdl K 0 f0h rfl rfl rfl rfl fun d0k q0k => ?_
 have f0l := F15.keep k0i (nx N 15 rfl)
 refine gds K 0 f0l rfl rfl rfl q0k (N.ge 15 rfl) rfl fun h0m (W0m : KJ x h0h h0m [15]) (f0m : AD Z h0m (x 15) [1, 0]) => ?_
 have k0n := kx [9,15] (js' := [15]) k0i W0m rfl rfl
 obtain ⟨O0o, V0o⟩ := ov N O V (js := [9,15]) k0n rfl rfl rfl
 refine gR K O0o V0o 203 ([aR 0,aI 2,aR 15,aI 0,aI 1,aR 8,aI 1,aI 0,aR 9,aI 2]++un 6) [aR 9,aI 2] rfl ?_
 have f0p := f0h.keep W0m (nx N 9 rfl)
 refine gal K 4 f0p rfl rfl rfl ?_
 refine gR0 K O0o V0o 214 [aI 2,aR 9,aI 1,aR 15] rfl ?_
 refine gdl K 2 f0p rfl rfl rfl rfl fun d0q q0q => ?_
 refine gds K 1 f0m rfl rfl rfl q0q (N.ge 15 rfl) rfl fun h0r (W0r : KJ x h0m h0r [15]) (f0r : AD Z h0r (x 15) [1, 0]) => ?_
 have k0s := kx [9,15] (js' := [15]) k0n W0r rfl rfl
 obtain ⟨O0t, V0t⟩ := ov N O V (js := [9,15]) k0s rfl rfl rfl
 refine gR K O0t V0t 203 ([aR 0,aI 2,aR 15,aI 0,aI 2,aR 8,aI 1,aI 0,aR 9,aI 4]++un 6) [aR 9,aI 4] rfl ?_
 have k0u := kx [15] (js' := [15]) W0m W0r rfl rfl
 have f0v := f0h.keep k0u (nx N 9 rfl)
 refine gal K 4 f0v rfl rfl rfl ?_
 refine gR K O0t V0t 251 ([aR 0,aI 2,aR 15,aI 0,aI 2,aI 0,aI 1,aI 1,aR 9,aI 4]++un 6) [aI 1,aR 15] rfl ?_
 refine gdl K 1 f0r rfl rfl rfl rfl fun d0w q0w => ?_
 refine gabs K (wabs hw) 0 0 q0w rfl rfl rfl (by decide) (Nat.le_of_eq rfl) (by decide) (by decide) (by decide) fun d0x q0x => ?_
 refine gR0 K O0t V0t 258 [aI 0,aR 15,aD d0x] rfl ?_
 refine gdl K 0 f0r rfl rfl rfl rfl fun d0y q0y => ?_
 refine gabs K (wabs hw) 1 2 q0y rfl rfl rfl (by decide) (Nat.le_of_eq rfl) (by decide) (by decide) (by decide) fun d0z q0z => ?_
 refine gcT K 270 (Dz.tk (cd := .le) q0x q0z (by show ¬ (1 : Int) < (0 : Int); decide)) rfl rfl rfl ?_
 refine gR K O0t V0t 279 ([aR 0,aI 2,aR 15,aI 0,aI 2,aI 0,aI 2,aI 1,aR 9,aI 4]++un 6) [aI 0,aR 15] rfl ?_
 refine gdl K 0 f0r rfl rfl rfl rfl fun d1a q1a => ?_
 refine gR K O0t V0t 284 ([aR 0,aI 2,aR 15,aI 0,aI 2,aI 0,aD d1a,aS,aR 9,aI 4]++un 6) [aD d1a] rfl ?_
 refine gabs K (wabs hw) 1 0 q1a rfl rfl rfl (by decide) (Nat.le_of_eq rfl) (by decide) (by decide) (by decide) fun d1b q1b => ?_
 refine gldc K (wd hw 240 rfl) rfl ?_
 refine gcT K 299 ⟨_, Ep.gt q1b ep_12 (by decide), rfl⟩ rfl rfl rfl ?_
 refine gR0 K O0t V0t 303 [aI 0,aI 0,aR 0] rfl ?_
 refine gPn K (w_swapRows hw) O0t (rmSW0 hw x 1 rr 3 2 (-1) (-1) 1 0 (-1) u16_0 u16_1 u17_0 u17_1 zs0 zs1 zc0 zc2 h0r N O0t V0t B) [] 0 rfl rfl rfl rfl (by decide) (Nat.le_of_eq rfl) (by decide) (by decide) (by decide) ?_
 refine gR0 K O0t V0t 311 [aI 0,aR 15,aI 0,aR 15] rfl ?_
 refine gdl K 0 f0r rfl rfl rfl rfl fun d1c q1c => ?_
 refine gds K 0 f0r rfl rfl rfl q1c (N.ge 15 rfl) rfl fun h1d (W1d : KJ x h0r h1d [15]) (f1d : AD Z h1d (x 15) [1, 0]) => ?_
 have k1e := kx [9,15] (js' := [15]) k0s W1d rfl rfl
 obtain ⟨O1f, V1f⟩ := ov N O V (js := [9,15]) k1e rfl rfl rfl
 refine gR0 K O1f V1f 320 [aI 0,aI 0,aR 17] rfl ?_
 refine gist K V1f N 0 [(2,[-1,1]),(3,[0,1,2,3]),(4,[0,1,1]),(6,[3,2]),(7,[-1,-1,1,0,-1]),(16,[u16_0,u16_1]),(17,[0,u17_1])] rfl rfl rfl rfl rfl rfl fun h1g (W1g : KJ x h1d h1g [17]) V1g => ?_
 have O1g := O1f.keep W1g (nx N 0 (js := [17]) rfl)
 refine gR0 K O1g V1g 323 [aI 0,aR 0] rfl ?_
 refine gPr K (w_block hw) O1g (rmBlk0 hw x 1 rr 3 2 (-1) (-1) 1 0 (-1) u16_0 u16_1 0 u17_1 zs0 zs1 zc0 zc2 h1g N O1g V1g B) [] 0 rfl rfl rfl rfl (by decide) (Nat.le_of_eq rfl) (by decide) (by decide) (by decide) ?_
 refine gR0 K O1g V1g 330 [aI 0,aR 0] rfl ?_
 refine gPi K (w_first hw) O1g (rmFst0 hw x 1 rr 3 2 (-1) (-1) 1 0 (-1) u16_0 u16_1 0 u17_1 zs0 zs1 zc0 zc2 h1g N O1g V1g B) [] 0 rfl rfl rfl rfl (by decide) (Nat.le_of_eq rfl) (by decide) (by decide) (by decide) ?_
 refine gR K O1g V1g 342 ([aR 0,aI 2,aR 15,aI 0,aI 2,aI 0,aD d1a,aS,aR 9,aI 0]++un 6) [aD 4607182418800017408,aI 0,aR 9] rfl ?_
 have k1h := kx [15] (js' := [15]) k0u W1d rfl rfl
 have k1i := kx [15,17] (js' := [17]) k1h W1g rfl rfl
 have f1j := f0h.keep k1i (nx N 9 rfl)
 refine gds K 0 f1j rfl rfl rfl Dz.one (N.ge 9 rfl) rfl fun h1k (W1k : KJ x h1g h1k [9]) (f1k : AD Z h1k (x 9) [1, 0, 0, 1]) => ?_
 obtain ⟨O1l, V1l⟩ := ov N O1g V1g (js := [9]) W1k rfl rfl rfl
 refine gR K O1l V1l 360 ([aR 0,aI 2,aR 15,aI 0,aI 2,aI 0,aD d1a,aS,aR 9,aI 0,aI 0]++un 5) [aI 0,aR 9,aI 0,aR 9] rfl ?_
 refine gdl K 0 f1k rfl rfl rfl rfl fun d1m q1m => ?_
 refine gR0 K O1l V1l 363 [aD d1a,aD d1m,aI 0,aR 9] rfl ?_
 refine gdiv K (z := 1) (Dz.div1 q1m q1a) rfl fun d1n q1n => ?_
 refine gds K 0 f1k rfl rfl rfl q1n (N.ge 9 rfl) rfl fun h1o (W1o : KJ x h1k h1o [9]) (f1o : AD Z h1o (x 9) [1, 0, 0, 1]) => ?_
 have k1p := kx [9] (js' := [9]) W1k W1o rfl rfl
 obtain ⟨O1q, V1q⟩ := ov N O1g V1g (js := [9]) k1p rfl rfl rfl
 refine gR K O1q V1q 360 ([aR 0,aI 2,aR 15,aI 0,aI 2,aI 0,aD d1a,aS,aR 9,aI 0,aI 1]++un 5) [aI 1,aR 9,aI 1,aR 9] rfl ?_
 refine gdl K 1 f1o rfl rfl rfl rfl fun d1r q1r => ?_
 refine gR0 K O1q V1q 363 [aD d1a,aD d1r,aI 1,aR 9] rfl ?_
 refine gdiv K (z := 0) (Dz.div1 q1r q1a) rfl fun d1s q1s => ?_
 refine gds K 1 f1o rfl rfl rfl q1s (N.ge 9 rfl) rfl fun h1t (W1t : KJ x h1o h1t [9]) (f1t : AD Z h1t (x 9) [1, 0, 0, 1]) => ?_
 have k1u := kx [9] (js' := [9]) k1p W1t rfl rfl
 obtain ⟨O1v, V1v⟩ := ov N O1g V1g (js := [9]) k1u rfl rfl rfl
 refine gR K O1v V1v 383 ([aR 0,aI 2,aR 15,aI 0,aI 2,aI 0,aD d1a,aS,aR 9,aI 0,aI 0]++un 5) [aI 0,aR 15] rfl ?_
 have k1w := kx [9,17] (js' := [9]) W1g W1k rfl rfl
 have k1x := kx [9,17] (js' := [9]) k1w W1o rfl rfl
 have k1y := kx [9,17] (js' := [9]) k1x W1t rfl rfl
 have f1z := f1d.keep k1y (nx N 15 rfl)
 refine gdl K 0 f1z rfl rfl rfl rfl fun d2a q2a => ?_
 refine gR K O1v V1v 383 [aR 0,aI 2,aR 15,aI 0,aI 2,aI 0,aD d1a,aS,aR 9,aI 0,aI 1,aD d2a,aS,aU,aU,aU] [aI 1,aR 15] rfl ?_
 refine gdl K 1 f1z rfl rfl rfl rfl fun d2b q2b => ?_
 refine gR K O1v V1v 395 [aR 0,aI 2,aR 15,aI 0,aI 2,aI 0,aD d1a,aS,aR 9,aI 0,aI 1,aD d2b,aS,aU,aU,aU] [aD 0,aD d2b] rfl ?_
 refine gcT K 460 (Dz.tk (cd := .eq) q2b Dz.zero (by show (0 : Int) = (0 : Int); decide)) rfl rfl rfl ?_
 refine gR K O1v V1v 203 [aR 0,aI 2,aR 15,aI 1,aI 0,aR 8,aI 1,aI 0,aR 9,aI 1,aI 2,aD d2b,aS,aU,aU,aU] [aR 9,aI 1] rfl ?_
 refine gal K 4 f1t rfl rfl rfl ?_
 refine gR0 K O1v V1v 214 [aI 1,aR 9,aI 0,aR 15] rfl ?_
 refine gdl K 1 f1t rfl rfl rfl rfl fun d2c q2c => ?_
 refine gds K 0 f1z rfl rfl rfl q2c (N.ge 15 rfl) rfl fun h2d (W2d : KJ x h1t h2d [15]) (f2d : AD Z h2d (x 15) [0, 0]) => ?_
 have k2e := kx [9,15] (js' := [15]) k1u W2d rfl rfl
 obtain ⟨O2f, V2f⟩ := ov N O1g V1g (js := [9,15]) k2e rfl rfl rfl
 refine gR K O2f V2f 203 [aR 0,aI 2,aR 15,aI 1,aI 1,aR 8,aI 1,aI 0,aR 9,aI 3,aI 2,aD d2b,aS,aU,aU,aU] [aR 9,aI 3] rfl ?_
 have f2g := f1t.keep W2d (nx N 9 rfl)
 refine gal K 4 f2g rfl rfl rfl ?_
 refine gR0 K O2f V2f 214 [aI 3,aR 9,aI 1,aR 15] rfl ?_
 refine gdl K 3 f2g rfl rfl rfl rfl fun d2h q2h => ?_
 refine gds K 1 f2d rfl rfl rfl q2h (N.ge 15 rfl) rfl fun h2i (W2i : KJ x h2d h2i [15]) (f2i : AD Z h2i (x 15) [0, 1]) => ?_
 have k2j := kx [9,15] (js' := [15]) k2e W2i rfl rfl
 obtain ⟨O2k, V2k⟩ := ov N O1g V1g (js := [9,15]) k2j rfl rfl rfl
 refine gR K O2k V2k 203 [aR 0,aI 2,aR 15,aI 1,aI 2,aR 8,aI 1,aI 0,aR 9,aI 5,aI 2,aD d2b,aS,aU,aU,aU] [aR 9,aI 5] rfl ?_
 have k2l := kx [15] (js' := [15]) W2d W2i rfl rfl
 have f2m := f1t.keep k2l (nx N 9 rfl)
 refine gal K 4 f2m rfl rfl rfl ?_
 refine gR K O2k V2k 279 [aR 0,aI 2,aR 15,aI 1,aI 2,aI 1,aI 2,aI 1,aR 9,aI 5,aI 2,aD d2b,aS,aU,aU,aU] [aI 1,aR 15] rfl ?_
 refine gdl K 1 f2i rfl rfl rfl rfl fun d2n q2n => ?_
 refine gR K O2k V2k 284 [aR 0,aI 2,aR 15,aI 1,aI 2,aI 1,aD d2n,aS,aR 9,aI 5,aI 2,aD d2b,aS,aU,aU,aU] [aD d2n] rfl ?_
 refine gabs K (wabs hw) 1 0 q2n rfl rfl rfl (by decide) (Nat.le_of_eq rfl) (by decide) (by decide) (by decide) fun d2o q2o => ?_
 refine gldc K (wd hw 240 rfl) rfl ?_
 refine gcT K 299 ⟨_, Ep.gt q2o ep_12 (by decide), rfl⟩ rfl rfl rfl ?_
 refine gR0 K O2k V2k 303 [aI 1,aI 1,aR 0] rfl ?_
 refine gPn K (w_swapRows hw) O2k (rmSW1 hw x 1 rr 3 2 (-1) (-1) 1 0 (-1) u16_0 u16_1 0 u17_1 zs0 zs1 zc0 zc2 h2i N O2k V2k B) [] 0 rfl rfl rfl rfl (by decide) (Nat.le_of_eq rfl) (by decide) (by decide) (by decide) ?_
 refine gR0 K O2k V2k 311 [aI 1,aR 15,aI 1,aR 15] rfl ?_
 refine gdl K 1 f2i rfl rfl rfl rfl fun d2p q2p => ?_
 refine gds K 1 f2i rfl rfl rfl q2p (N.ge 15 rfl) rfl fun h2q (W2q : KJ x h2i h2q [15]) (f2q : AD Z h2q (x 15) [0, 1]) => ?_
 have k2r := kx [9,15] (js' := [15]) k2j W2q rfl rfl
 obtain ⟨O2s, V2s⟩ := ov N O1g V1g (js := [9,15]) k2r rfl rfl rfl
 refine gR0 K O2s V2s 320 [aI 1,aI 1,aR 17] rfl ?_
 refine gist K V2s N 1 [(2,[-1,1]),(3,[0,1,2,3]),(4,[0,1,1]),(6,[3,2]),(7,[-1,-1,1,0,-1]),(16,[u16_0,u16_1]),(17,[0,1])] rfl rfl rfl rfl rfl rfl fun h2t (W2t : KJ x h2q h2t [17]) V2t => ?_
 have O2t := O2s.keep W2t (nx N 0 (js := [17]) rfl)
 refine gR0 K O2t V2t 323 [aI 1,aR 0] rfl ?_
 refine gPr K (w_block hw) O2t (rmBlk1 hw x 1 rr 3 2 (-1) (-1) 1 0 (-1) u16_0 u16_1 0 1 zs0 zs1 zc0 zc2 h2t N O2t V2t B) [] 0 rfl rfl rfl rfl (by decide) (Nat.le_of_eq rfl) (by decide) (by decide) (by decide) ?_
 refine gR0 K O2t V2t 330 [aI 1,aR 0] rfl ?_
 refine gPi K (w_first hw) O2t (rmFst1 hw x 1 rr 3 2 (-1) (-1) 1 0 (-1) u16_0 u16_1 0 1 zs0 zs1 zc0 zc2 h2t N O2t V2t B) [] 0 rfl rfl rfl rfl (by decide) (Nat.le_of_eq rfl) (by decide) (by decide) (by decide) ?_
 refine gR K O2t V2t 342 [aR 0,aI 2,aR 15,aI 1,aI 2,aI 1,aD d2n,aS,aR 9,aI 2,aI 2,aD d2b,aS,aU,aU,aU] [aD 4607182418800017408,aI 3,aR 9] rfl ?_
 have k2u := kx [15] (js' := [15]) k2l W2q rfl rfl
 have k2v := kx [15,17] (js' := [17]) k2u W2t rfl rfl
 have f2w := f1t.keep k2v (nx N 9 rfl)
 refine gds K 3 f2w rfl rfl rfl Dz.one (N.ge 9 rfl) rfl fun h2x (W2x : KJ x h2t h2x [9]) (f2x : AD Z h2x (x 9) [1, 0, 0, 1]) => ?_
 obtain ⟨O2y, V2y⟩ := ov N O2t V2t (js := [9]) W2x rfl rfl rfl
 refine gR K O2y V2y 360 [aR 0,aI 2,aR 15,aI 1,aI 2,aI 1,aD d2n,aS,aR 9,aI 2,aI 0,aD d2b,aS,aU,aU,aU] [aI 2,aR 9,aI 2,aR 9] rfl ?_
 refine gdl K 2 f2x rfl rfl rfl rfl fun d2z q2z => ?_
 refine gR0 K O2y V2y 363 [aD d2n,aD d2z,aI 2,aR 9] rfl ?_
 refine gdiv K (z := 0) (Dz.div1 q2z q2n) rfl fun d3a q3a => ?_
 refine gds K 2 f2x rfl rfl rfl q3a (N.ge 9 rfl) rfl fun h3b (W3b : KJ x h2x h3b [9]) (f3b : AD Z h3b (x 9) [1, 0, 0, 1]) => ?_
 have k3c := kx [9] (js' := [9]) W2x W3b rfl rfl
 obtain ⟨O3d, V3d⟩ := ov N O2t V2t (js := [9]) k3c rfl rfl rfl
 refine gR K O3d V3d 360 [aR 0,aI 2,aR 15,aI 1,aI 2,aI 1,aD d2n,aS,aR 9,aI 2,aI 1,aD d2b,aS,aU,aU,aU] [aI 3,aR 9,aI 3,aR 9] rfl ?_
 refine gdl K 3 f3b rfl rfl rfl rfl fun d3e q3e => ?_
 refine gR0 K O3d V3d 363 [aD d2n,aD d3e,aI 3,aR 9] rfl ?_
 refine gdiv K (z := 1) (Dz.div1 q3e q2n) rfl fun d3f q3f => ?_
 refine gds K 3 f3b rfl rfl rfl q3f (N.ge 9 rfl) rfl fun h3g (W3g : KJ x h3b h3g [9]) (f3g : AD Z h3g (x 9) [1, 0, 0, 1]) => ?_
 have k3h := kx [9] (js' := [9]) k3c W3g rfl rfl
 obtain ⟨O3i, V3i⟩ := ov N O2t V2t (js := [9]) k3h rfl rfl rfl
 refine gR K O3i V3i 383 [aR 0,aI 2,aR 15,aI 1,aI 2,aI 1,aD d2n,aS,aR 9,aI 2,aI 0,aD d2b,aS,aU,aU,aU] [aI 0,aR 15] rfl ?_
 have k3j := kx [9,17] (js' := [9]) W2t W2x rfl rfl
 have k3k := kx [9,17] (js' := [9]) k3j W3b rfl rfl
 have k3l := kx [9,17] (js' := [9]) k3k W3g rfl rfl
 have f3m := f2q.keep k3l (nx N 15 rfl)
 refine gdl K 0 f3m rfl rfl rfl rfl fun d3n q3n => ?_
 refine gR K O3i V3i 395 [aR 0,aI 2,aR 15,aI 1,aI 2,aI 1,aD d2n,aS,aR 9,aI 2,aI 0,aD d3n,aS,aU,aU,aU] [aD 0,aD d3n] rfl ?_
 refine gcT K 460 (Dz.tk (cd := .eq) q3n Dz.zero (by show (0 : Int) = (0 : Int); decide)) rfl rfl rfl ?_
 refine gR K O3i V3i 383 [aR 0,aI 2,aR 15,aI 1,aI 2,aI 1,aD d2n,aS,aR 9,aI 2,aI 1,aD d3n,aS,aU,aU,aU] [aI 1,aR 15] rfl ?_
 refine gdl K 1 f3m rfl rfl rfl rfl fun d3o q3o => ?_
 refine gR K O3i V3i 488 [aR 0,aI 2,aR 15,aI 1,aI 2,aI 1,aD d2n,aS,aR 9,aI 2,aI 2,aD d3o,aS,aU,aU,aU] [aI 1,aI 1,aR 0] rfl ?_
 refine gPn K (w_swapColumns hw) O3i (rmSW2 hw x 1 rr 3 2 (-1) (-1) 1 0 (-1) u16_0 u16_1 0 1 zs0 zs1 zc0 zc2 h3g N O3i V3i B) [] 0 rfl rfl rfl rfl (by decide) (Nat.le_of_eq rfl) (by decide) (by decide) (by decide) ?_
 refine gR K O3i V3i 488 [aR 0,aI 2,aR 15,aI 0,aI 2,aI 1,aD d2n,aS,aR 9,aI 2,aI 2,aD d3o,aS,aU,aU,aU] [aI 0,aI 0,aR 0] rfl ?_
 refine gPn K (w_swapColumns hw) O3i (rmSW3 hw x 1 rr 3 2 (-1) (-1) 1 0 (-1) u16_0 u16_1 0 1 zs0 zs1 zc0 zc2 h3g N O3i V3i B) [] 0 rfl rfl rfl rfl (by decide) (Nat.le_of_eq rfl) (by decide) (by decide) (by decide) ?_
 refine gR K O3i V3i 498 [aR 0,aI 2,aR 15,aI (-1),aI 2,aI 1,aD d2n,aS,aR 9,aI 2,aI 2,aD d3o,aS,aU,aU,aU] [aR 0] rfl ?_
 have k3p := kx [9,15,17] (js' := [17]) k1e W1g rfl rfl
 have k3q := kx [9,15,17] (js' := [9]) k3p W1k rfl rfl
 have k3r := kx [9,15,17] (js' := [9]) k3q W1o rfl rfl
 have k3s := kx [9,15,17] (js' := [9]) k3r W1t rfl rfl
 have k3t := kx [9,15,17] (js' := [15]) k3s W2d rfl rfl
 have k3u := kx [9,15,17] (js' := [15]) k3t W2i rfl rfl
 have k3v := kx [9,15,17] (js' := [15]) k3u W2q rfl rfl
 have k3w := kx [9,15,17] (js' := [17]) k3v W2t rfl rfl
 have k3x := kx [9,15,17] (js' := [9]) k3w W2x rfl rfl
 have k3y := kx [9,15,17] (js' := [9]) k3x W3b rfl rfl
 have k3z := kx [9,15,17] (js' := [9]) k3y W3g rfl rfl
 have f4a := F11.keep k3z (nx N 11 rfl)
 have f4b := F1.keep k3z (nx N 1 rfl)
 refine gP K (w_prices hw) O3i (rmPR0 hw x 1 rr (-1) (-1) 1 0 (-1) u16_0 u16_1 0 1 zs0 zs1 zc0 zc2 h3g N O3i V3i B (Nat.le_trans (Nat.le_trans (Nat.le_trans (Nat.le_trans (Nat.le_trans (Nat.le_trans (Nat.le_trans (Nat.le_trans (Nat.le_trans (Nat.le_trans (Nat.le_trans (Nat.le_trans (Nat.le_trans (Nat.le_trans (Nat.le_trans (Nat.le_trans (Nat.le_trans Z0 W0a.1) W0c.1) W0h.1) W0m.1) W0r.1) W1d.1) W1g.1) W1k.1) W1o.1) W1t.1) W2d.1) W2i.1) W2q.1) W2t.1) W2x.1) W3b.1) W3g.1) f4b f3g) [] 0 rfl rfl rfl rfl (by decide) (Nat.le_of_eq rfl) (by decide) (by decide) (by decide) ?_
 rintro h4c _ ⟨b4c, rfl, W4c, g4c, f4c⟩
 have g4d : n0 ≤ b4c := Nat.le_trans (Nat.le_trans (Nat.le_trans (Nat.le_trans (Nat.le_trans (Nat.le_trans (Nat.le_trans (Nat.le_trans (Nat.le_trans (Nat.le_trans (Nat.le_trans (Nat.le_trans (Nat.le_trans (Nat.le_trans (Nat.le_trans (Nat.le_trans (Nat.le_trans (Nat.le_trans Z0 W0a.1) W0c.1) W0h.1) W0m.1) W0r.1) W1d.1) W1g.1) W1k.1) W1o.1) W1t.1) W2d.1) W2i.1) W2q.1) W2t.1) W2x.1) W3b.1) W3g.1) g4c
 refine sh (FA m x 501 [aR 0,aI 2,aR 15,aI (-1),aI 2,aI 1,aD d2n,aS,aR 9,aI 2,aI 2,aD d3o,aS,aU,aU,aU] [aA b4c]) rfl ?_
 have n4e : b4c ∉ [x 11] := nfr (AD.lt f4a) g4c
 have k4f := kx [9] (js' := []) k3h W4c rfl rfl
 obtain ⟨O4g, V4g⟩ := ov N O2t V2t (js := [9]) k4f rfl rfl rfl
 refine gR K O4g V4g 534 [aR 0,aI 2,aR 15,aA b4c,aI 0,aI 1,aD d2n,aS,aR 9,aI 2,aI 2,aD d3o,aS,aU,aU,aU] [aA b4c,aI 0,aR 0,aI 0,aR 11] rfl ?_
 have k4h := kx [9,15,17] (js' := []) k3z W4c rfl rfl
 have f4i := F1.keep k4h (nx N 1 rfl)
 have f4j := F5.keep k4h (nx N 5 rfl)
 refine gPd K (w_reducedCost hw) O4g (rmRC0 hw x 1 rr 3 2 (-1) (-1) 1 0 (-1) u16_0 u16_1 0 1 b4c zs0 zs1 zc0 zc2 h4c N O4g V4g B f4c f4i f4j) [aI 0,aR 11] 2 rfl rfl rfl rfl (by decide) (Nat.le_of_eq rfl) (by decide) (by decide) (by decide) fun d4k q4k => ?_
 refine gR0 K O4g V4g 541 [aD d4k,aI 0,aR 11] rfl ?_
 have f4l := F11.keep k4h (nx N 11 rfl)
 refine gds K 0 f4l rfl rfl rfl q4k (N.ge 11 rfl) rfl fun h4m (W4m : KJ x h4c h4m [11]) (f4m : AD Z h4m (x 11) [zc0, zc2, 0]) => ?_
 have k4n := kx [9,11] (js' := [11]) k4f W4m rfl rfl
 obtain ⟨O4o, V4o⟩ := ov N O2t V2t (js := [9,11]) k4n rfl rfl rfl
 refine gR K O4o V4o 534 [aR 0,aI 2,aR 15,aA b4c,aI 1,aI 1,aD d2n,aS,aR 9,aI 2,aI 2,aD d3o,aS,aU,aU,aU] [aA b4c,aI 1,aR 0,aI 1,aR 11] rfl ?_
 have f4p := (f4c.keep W4m n4e)
 have k4q := kx [9,11,15,17] (js' := [11]) k4h W4m rfl rfl
 have f4r := F1.keep k4q (nx N 1 rfl)
 have f4s := F5.keep k4q (nx N 5 rfl)
 refine gPd K (w_reducedCost hw) O4o (rmRC1 hw x 1 rr 3 2 (-1) (-1) 1 0 (-1) u16_0 u16_1 0 1 b4c zs0 zs1 zc0 zc2 h4m N O4o V4o B f4p f4r f4s) [aI 1,aR 11] 2 rfl rfl rfl rfl (by decide) (Nat.le_of_eq rfl) (by decide) (by decide) (by decide) fun d4t q4t => ?_
 refine gR0 K O4o V4o 541 [aD d4t,aI 1,aR 11] rfl ?_
 refine gds K 1 f4m rfl rfl rfl q4t (N.ge 11 rfl) rfl fun h4u (W4u : KJ x h4m h4u [11]) (f4u : AD Z h4u (x 11) [zc0, zc2, 0]) => ?_
 have k4v := kx [9,11] (js' := [11]) k4n W4u rfl rfl
 obtain ⟨O4w, V4w⟩ := ov N O2t V2t (js := [9,11]) k4v rfl rfl rfl
 refine gR K O4w V4w 541 [aR 0,aI 2,aR 15,aA b4c,aI 2,aI 1,aD d2n,aS,aR 9,aI 2,aI 2,aD d3o,aS,aU,aU,aU] [aD 0,aI 2,aR 11] rfl ?_
 refine gds K 2 f4u rfl rfl rfl Dz.zero (N.ge 11 rfl) rfl fun h4x (W4x : KJ x h4u h4x [11]) (f4x : AD Z h4x (x 11) [zc0, zc2, 0]) => ?_
 have k4y := kx [9,11] (js' := [11]) k4v W4x rfl rfl
 obtain ⟨O4z, V4z⟩ := ov N O2t V2t (js := [9,11]) k4y rfl rfl rfl
 refine gR K O4z V4z 549 [aR 0,aI 2,aR 15,aA b4c,aI 3,aI 1,aD d2n,aS,aR 9,aI 2,aI 2,aD d3o,aS,aU,aU,aU] [aR 0] rfl ?_
 have k5a := kx [11] (js' := [11]) W4c W4m rfl rfl
 have k5b := kx [11] (js' := [11]) k5a W4u rfl rfl
 have k5c := kx [11] (js' := [11]) k5b W4x rfl rfl
 have f5d := f3g.keep k5c (nx N 9 rfl)
 have k5e := kx [9,11,15,17] (js' := [11]) k4q W4u rfl rfl
 have k5f := kx [9,11,15,17] (js' := [11]) k5e W4x rfl rfl
 have f5g := F10.keep k5f (nx N 10 rfl)
 have f5h := F12.keep k5f (nx N 12 rfl)
 refine gP K (w_computeValues hw) O4z (rmCV1 hw x 1 rr 3 2 (-1) (-1) 1 0 (-1) u16_0 u16_1 0 1 zs0 zs1 zs0 zs1 zc0 zc2 h4x N O4z V4z B q f5d f5g f5h) [] 0 rfl rfl rfl rfl (by decide) (Nat.le_of_eq rfl) (by decide) (by decide) (by decide) ?_
 rintro h5i _ ⟨rfl, W5i, O5i, V5i, f5i_10⟩
 refine sh (FA m x 552 [aR 0,aI 2,aR 15,aA b4c,aI 3,aI 1,aD d2n,aS,aR 9,aI 2,aI 2,aD d3o,aS,aU,aU,aU] []) rfl ?_
 refine gR0 K O5i V5i 554 [aI 0,aR 0] rfl ?_
 refine gpsr K hw O5i N rfl fun h5j (W5j : KJ x h5i h5j [0]) O5j => ?_
 have K := K.re hw 0 rr
 have V5j := V5i.keep N (js := [0]) W5j rfl rfl
 refine gR0 K O5j V5j 559 [aI 0,aR 0] rfl ?_
 refine grcc K hw O5j N (Or.inl rfl) rfl fun h5k (W5k : KJ x h5j h5k [0]) O5k => ?_
 have K := K.re hw 0 0
 have V5k := V5j.keep N (js := [0]) W5k rfl rfl
 have k5l := kx [10,11,16] (js' := [10,16]) k5c W5i rfl rfl
 have k5m := kx [0,10,11,16] (js' := [0]) k5l W5j rfl rfl
 have k5n := kx [0,10,11,16] (js' := [0]) k5m W5k rfl rfl
 have f5o := f3g.keep k5n (nx N 9 rfl)
 have k5p := kx [0] (js' := [0]) W5j W5k rfl rfl
 have f5q := f5i_10.keep k5p (nx N 10 rfl)
 have k5r := kx [0,10,16] (js' := [0]) W5i W5j rfl rfl
 have k5s := kx [0,10,16] (js' := [0]) k5r W5k rfl rfl
 have f5t := f4x.keep k5s (nx N 11 rfl)
 have k5u := kx [9,17] (js' := []) k3l W4c rfl rfl
 have k5v := kx [9,11,17] (js' := [11]) k5u W4m rfl rfl
 have k5w := kx [9,11,17] (js' := [11]) k5v W4u rfl rfl
 have k5x := kx [9,11,17] (js' := [11]) k5w W4x rfl rfl
 have k5y := kx [9,10,11,16,17] (js' := [10,16]) k5x W5i rfl rfl
 have k5z := kx [0,9,10,11,16,17] (js' := [0]) k5y W5j rfl rfl
 have k6a := kx [0,9,10,11,16,17] (js' := [0]) k5z W5k rfl rfl
 have f6b := f2q.keep k6a (nx N 15 rfl)
 have k6c := kx [9,10,11,15,16,17] (js' := [10,16]) k5f W5i rfl rfl
 have k6d := kx [0,9,10,11,15,16,17] (js' := [0]) k6c W5j rfl rfl
 have k6e := kx [0,9,10,11,15,16,17] (js' := [0]) k6d W5k rfl rfl
 exact grv K rfl (by decide) (by decide) ⟨rfl, k6e, O5k, V5k, f5o, f5q, f5t, f6b⟩
theorem zph_95 {zs0 zs1 zc0 zc2 : Int} (B : ZB zs0 zs1 zc0 zc2) (q0 : zs0 < 0 ∧ -zs0 < zs1) : ¬ zs0 = 0 ∧ ¬ zs1 = 0 := by unfold ZB at B; obtain ⟨b1, b2, b3, b4, b5, b6⟩ := B; omega
theorem rmPvs2 (hw : HW Z a0) (x : Nat → Addr) (u16_0 u16_1 : Int32) (zs0 zs1 zc0 zc2 : Int) (h0 : Heap) (N : NX n0 x) (O : OB Z h0 x DSn (fe 0 0)) (V : EV Z h0 x [(2,[-1,1]),(3,[0,1,2,3]),(4,[0,1,1]),(6,[3,1]),(7,[-1,1,-1,0,-1]),(16,[u16_0,u16_1]),(17,[0,0])]) (B : ZB zs0 zs1 zc0 zc2) (q : zs0 < 0 ∧ -zs0 < zs1) (Z0 : n0 ≤ h0.size) (F1 : AD Z h0 (x 1) [zc0, 0, zc2]) (F5 : AD Z h0 (x 5) [1, (-1), 1]) (F9 : AD Z h0 (x 9) [1, 0, 0, (-1)]) (F10 : AD Z h0 (x 10) [zs0, (-zs1)]) (F11 : AD Z h0 (x 11) [zc0, 0, zc2]) (F12 : AD Z h0 (x 12) [zs0, zs1]) (F13 : AD Z h0 (x 13) [0, 0, 0]) (F14 : AD Z h0 (x 14) [0, 0]) (F15 : AD Z h0 (x 15) [0, 0]) (E12 : Exa Z h0 (x 12) "[D") :
    Con l Z n0 ⟨DSn, "pivots", "()I"⟩ prog_12_method_9_code 6 (some .int) ⟨2, 1, 2, 51⟩ #[(.ref (x 0))] h0 (fun v h => v = some (.int 1) ∧ KJ x h0 h [0,6,7,9,10,11,13,14,15,16,17] ∧ OB Z h x DSn (fe 0 0) ∧ EV Z h x [(2,[-1,1]),(3,[0,1,2,3]),(4,[0,1,1]),(6,[3,2]),(7,[-1,-1,1,0,-1]),(16,[0,1]),(17,[0,1])] ∧ AD Z h (x 10) [zs0, zs1]) := by
 refine con_of (plainFor_of_name pn_DS) ?_
 intro p e s m below meth c T0 K0 X0 e0
 have K : KX p s m meth c Z a0 DSn "pivots" prog_12_method_9_code 6 (some .int) t24 (fe 0 0) := ⟨K0, k24, lw hw 0 0⟩
 refine gE (x := x) (L := [aR 0,aU,aU,aU,aU,aU]) (by simp [entryFrame, mkF, argsToLocals, Value.category, gL, gS, cs, cv]) X0 e0 ?_
 refine gR K O V 43 [aR 0,aI 5,aI 0,aI 0,aU,aU] [aI 0,aR 0] rfl ?_
 refine gPi K (w_leavingRow hw) O (rmLR1 hw x 0 0 (-1) 1 (-1) 0 (-1) u16_0 u16_1 0 0 zs0 zs1 zc0 zc2 h0 N O V B q F10) [] 0 rfl rfl rfl rfl (by decide) (Nat.le_of_eq rfl) (by decide) (by decide) (by decide) ?_
 refine gR K O V 82 [aR 0,aI 5,aI 0,aI 0,aI 1,aU] [aI 0,aI 1,aR 0] rfl ?_
 refine gP K (w_enteringColumn hw) O (rmEC1 hw x 0 0 3 1 u16_0 u16_1 0 0 0 0 0 zs0 zs1 zc0 zc2 h0 N O V B (zph_48 B q) F5 F9 F10 F11 F13) [] 0 rfl rfl rfl rfl (by decide) (Nat.le_of_eq rfl) (by decide) (by decide) (by decide) ?_
 rintro h0a _ ⟨rfl, W0a, f0a⟩
 refine sh (FA m x 85 [aR 0,aI 5,aI 0,aI 0,aI 1,aU] [aI 2]) rfl ?_
 obtain ⟨O0b, V0b⟩ := ov N O V (js := [13]) W0a rfl rfl rfl
 refine gR K O0b V0b 113 [aR 0,aI 5,aI 0,aI 0,aI 1,aI 2] [aI 2,aI 1,aR 0] rfl ?_
 have f0c := F5.keep W0a (nx N 5 rfl)
 have f0d := F9.keep W0a (nx N 9 rfl)
 have f0e := F10.keep W0a (nx N 10 rfl)
 have f0f := F11.keep W0a (nx N 11 rfl)
 have f0g := F14.keep W0a (nx N 14 rfl)
 refine gP K (w_pivot hw) O0b (rmPV0 hw x 0 u16_0 u16_1 0 0 0 0 zs0 zs1 zc0 zc2 h0a N O0b V0b B f0c f0d f0e f0f f0a f0g) [] 0 rfl rfl rfl rfl (by decide) (Nat.le_of_eq rfl) (by decide) (by decide) (by decide) ?_
 rintro h0h _ ⟨rfl, W0h, O0h, V0h, f0h_9, f0h_10, f0h_11, f0h_14⟩
 have K := K.re hw 1 0
 refine sh (FA m x 116 [aR 0,aI 5,aI 0,aI 0,aI 1,aI 2] [aI 1]) rfl ?_
 refine gR K O0h V0h 43 [aR 0,aI 5,aI 0,aI 1,aI 1,aI 2] [aI 0,aR 0] rfl ?_
 refine gPi K (w_leavingRow hw) O0h (rmLR2 hw x 1 0 (-1) (-1) 1 0 (-1) u16_0 u16_1 0 0 zs0 zs1 zc0 zc2 h0h N O0h V0h B q f0h_10) [] 0 rfl rfl rfl rfl (by decide) (Nat.le_of_eq rfl) (by decide) (by decide) (by decide) ?_
 refine gR K O0h V0h 82 [aR 0,aI 5,aI 0,aI 1,aI 0,aI 2] [aI 0,aI 0,aR 0] rfl ?_
 have k0i := kx [0,6,7,9,10,11,13,14] (js' := [0,6,7,9,10,11,14]) W0a W0h rfl rfl
 have f0j := F5.keep k0i (nx N 5 rfl)
 have f0k := f0a.keep W0h (nx N 13 rfl)
 refine gP K (w_enteringColumn hw) O0h (rmEC2 hw x 1 0 3 2 u16_0 u16_1 0 0 0 0 (-1) zs0 zs1 zc0 zc2 h0h N O0h V0h B (zph_81 B q) f0j f0h_9 f0h_10 f0h_11 f0k) [] 0 rfl rfl rfl rfl (by decide) (Nat.le_of_eq rfl) (by decide) (by decide) (by decide) ?_
 rintro h0l _ ⟨rfl, W0l, f0l⟩
 refine sh (FA m x 85 [aR 0,aI 5,aI 0,aI 1,aI 0,aI 2] [aI (-1)]) rfl ?_
 obtain ⟨O0m, V0m⟩ := ov N O0h V0h (js := [13]) W0l rfl rfl rfl
 refine gR K O0m V0m 102 [aR 0,aI 5,aI 0,aI 1,aI 0,aI (-1)] [aR 0] rfl ?_
 have k0n := kx [0,6,7,9,10,11,13,14] (js' := [13]) k0i W0l rfl rfl
 have f0o := F1.keep k0n (nx N 1 rfl)
 have f0p := F5.keep k0n (nx N 5 rfl)
 have f0q := f0h_9.keep W0l (nx N 9 rfl)
 have f0r := f0h_10.keep W0l (nx N 10 rfl)
 have f0s := f0h_11.keep W0l (nx N 11 rfl)
 have f0t := F12.keep k0n (nx N 12 rfl)
 have f0u := F15.keep k0n (nx N 15 rfl)
 refine gP K (w_reinvert hw) O0m (rmRI0 hw x 0 u16_0 u16_1 0 0 zs0 zs1 zc0 zc2 h0l N O0m V0m B (zph_95 B q) (Nat.le_trans (Nat.le_trans (Nat.le_trans Z0 W0a.1) W0h.1) W0l.1) f0o f0p f0q f0r f0s f0t f0u) [] 0 rfl rfl rfl rfl (by decide) (Nat.le_of_eq rfl) (by decide) (by decide) (by decide) ?_
 rintro h0v _ ⟨rfl, W0v, O0v, V0v, f0v_9, f0v_10, f0v_11, f0v_15⟩
 have K := K.re hw 0 0
 refine sh (FA m x 105 [aR 0,aI 5,aI 0,aI 1,aI 0,aI (-1)] []) rfl ?_
 refine gR K O0v V0v 43 [aR 0,aI 5,aI 0,aI 2,aI 0,aI (-1)] [aI 0,aR 0] rfl ?_
 refine gPi K (w_leavingRow hw) O0v (rmLR2 hw x 0 0 (-1) (-1) 1 0 (-1) 0 1 0 1 zs0 zs1 zc0 zc2 h0v N O0v V0v B q f0v_10) [] 0 rfl rfl rfl rfl (by decide) (Nat.le_of_eq rfl) (by decide) (by decide) (by decide) ?_
 refine gR0 K O0v V0v 82 [aI 0,aI 0,aR 0] rfl ?_
 have k0w := kx [0,6,7,9,10,11,13,14,15,16,17] (js' := [0,9,10,11,15,16,17]) k0n W0v rfl rfl
 have f0x := F5.keep k0w (nx N 5 rfl)
 have f0y := f0l.keep W0v (nx N 13 rfl)
 refine gP K (w_enteringColumn hw) O0v (rmEC2 hw x 0 0 3 2 0 1 0 1 1 0 0 zs0 zs1 zc0 zc2 h0v N O0v V0v B (zph_81 B q) f0x f0v_9 f0v_10 f0v_11 f0y) [] 0 rfl rfl rfl rfl (by decide) (Nat.le_of_eq rfl) (by decide) (by decide) (by decide) ?_
 rintro h0z _ ⟨rfl, W0z, f0z⟩
 refine sh (FA m x 85 [aR 0,aI 5,aI 0,aI 2,aI 0,aI (-1)] [aI (-1)]) rfl ?_
 obtain ⟨O1a, V1a⟩ := ov N O0v V0v (js := [13]) W0z rfl rfl rfl
 refine gR0 K O1a V1a 100 [aI 1] rfl ?_
 have f1b := f0v_10.keep W0z (nx N 10 rfl)
 have k1c := kx [0,6,7,9,10,11,13,14,15,16,17] (js' := [13]) k0w W0z rfl rfl
 exact gri K rfl (by decide) (by decide) ⟨rfl, k1c, O1a, V1a, f1b⟩
theorem rmSol2 (hw : HW Z a0) (x : Nat → Addr) (xin : Addr) (zs0 zs1 zc0 zc2 : Int) (h0 : Heap) (N : NX n0 x) (O : OB Z h0 x DSn (fe 0 0)) (V : EV Z h0 x [(2,[-1,1]),(3,[0,1,2,3]),(4,[0,1,1]),(6,[3,1]),(7,[-1,1,-1,0,-1]),(16,[0,0]),(17,[0,0])]) (B : ZB zs0 zs1 zc0 zc2) (q : zs0 < 0 ∧ -zs0 < zs1) (Z0 : n0 ≤ h0.size) (Fxin : AD Z h0 xin [zs0, zs1]) (F1 : AD Z h0 (x 1) [zc0, 0, zc2]) (F5 : AD Z h0 (x 5) [1, (-1), 1]) (F9 : AD Z h0 (x 9) [1, 0, 0, (-1)]) (F10 : AD Z h0 (x 10) [0, 0]) (F11 : AD Z h0 (x 11) [zc0, 0, zc2]) (F12 : AD Z h0 (x 12) [0, 0]) (F13 : AD Z h0 (x 13) [0, 0, 0]) (F14 : AD Z h0 (x 14) [0, 0]) (F15 : AD Z h0 (x 15) [0, 0]) (E12 : Exa Z h0 (x 12) "[D") (I : xin ∉ [x 16] ∧ xin ∉ [x 10] ∧ xin ∉ [x 12]) :
    Con l Z n0 ⟨DSn, "solve", "([D)Z"⟩ prog_12_method_2_code 3 (some .boolean) ⟨3, 1, 2, 84⟩ #[(.ref (x 0)), (.ref xin)] h0 (fun v h => ∃ ka kb : Int32, v = some (.int 0) ∧ KJ x h0 h [0,6,7,9,10,11,12,13,14,15,16,17] ∧ OB Z h x DSn (fe 0 0) ∧ EV Z h x [(2,[-1,1]),(3,[0,1,2,3]),(4,[0,1,1]),(6,[3,2]),(7,[-1,-1,1,0,-1]),(16,[ka,kb]),(17,[0,1])] ∧ AD Z h (x 1) [zc0, 0, zc2] ∧ AD Z h (x 10) [zs0, zs1]) := by
 refine con_of (plainFor_of_name pn_DS) ?_
 intro p e s m below meth c T0 K0 X0 e0
 have K : KX p s m meth c Z a0 DSn "solve" prog_12_method_2_code 3 (some .boolean) t22 (fe 0 0) := ⟨K0, k22, lw hw 0 0⟩
 refine gE (x := x) (L := [aR 0,aA xin,aU]) (by simp [entryFrame, mkF, argsToLocals, Value.category, gL, gS, cs, cv]) X0 e0 ?_
 refine gR0 K O V 1 [aA xin] rfl ?_
 refine gal K 2 Fxin rfl rfl rfl ?_
 refine gR0 K O V 30 [aA xin,aR 0] rfl ?_
 refine gP K (w_moveValues hw) O (rmMv hw x 0 0 3 1 (-1) 1 (-1) 0 (-1) 0 0 xin zs0 zs1 zc0 zc2 h0 N O V B Fxin F9 F10 F12 I) [] 0 rfl rfl rfl rfl (by decide) (Nat.le_of_eq rfl) (by decide) (by decide) (by decide) ?_
 rintro h0a _ ⟨rfl, ka0a, kb0a, W0a, O0a, V0a, f0a_10, f0a_12⟩
 refine sh (FA m x 33 [aR 0,aA xin,aU] []) rfl ?_
 refine gR0 K O0a V0a 34 [aR 0] rfl ?_
 have f0b := F1.keep W0a (nx N 1 rfl)
 have f0c := F5.keep W0a (nx N 5 rfl)
 have f0d := F9.keep W0a (nx N 9 rfl)
 have f0e := F11.keep W0a (nx N 11 rfl)
 have f0f := F13.keep W0a (nx N 13 rfl)
 have f0g := F14.keep W0a (nx N 14 rfl)
 have f0h := F15.keep W0a (nx N 15 rfl)
 have e0i := (E12.keep W0a)
 refine gP K (w_pivots hw) O0a (rmPvs2 hw x ka0a kb0a zs0 zs1 zc0 zc2 h0a N O0a V0a B q (Nat.le_trans Z0 W0a.1) f0b f0c f0d f0a_10 f0e f0a_12 f0f f0g f0h e0i) [] 0 rfl rfl rfl rfl (by decide) (Nat.le_of_eq rfl) (by decide) (by decide) (by decide) ?_
 rintro h0j _ ⟨rfl, W0j, O0j, V0j, f0j_10⟩
 refine sh (FA m x 37 [aR 0,aA xin,aU] [aI 1]) rfl ?_
 refine gR K O0j V0j 87 [aR 0,aA xin,aI 1] [aI 0] rfl ?_
 have k0k := kx [0,6,7,9,10,11,12,13,14,15,16,17] (js' := [0,6,7,9,10,11,13,14,15,16,17]) W0a W0j rfl rfl
 have f0l := F1.keep k0k (nx N 1 rfl)
 exact grz K (Or.inl rfl) rfl (by decide) (by decide) ⟨0, 1, rfl, k0k, O0j, V0j, f0l, f0j_10⟩
theorem zab_96 {zs0 zs1 zc0 zc2 : Int} (B : ZB zs0 zs1 zc0 zc2) (q0 : zs0 = 0 ∧ zs1 ≤ 0) : ((zs0).natAbs : Int) = zs0 := by unfold ZB at B; obtain ⟨b1, b2, b3, b4, b5, b6⟩ := B; omega
theorem zep_97 {zs0 zs1 zc0 zc2 : Int} (B : ZB zs0 zs1 zc0 zc2) (q0 : zs0 = 0 ∧ zs1 ≤ 0) : zs0 ≤ 0 := by unfold ZB at B; obtain ⟨b1, b2, b3, b4, b5, b6⟩ := B; omega
theorem zep_98 {zs0 zs1 zc0 zc2 : Int} (B : ZB zs0 zs1 zc0 zc2) (q0 : zs0 = 0 ∧ zs1 ≤ 0) : zs1 ≤ 0 := by unfold ZB at B; obtain ⟨b1, b2, b3, b4, b5, b6⟩ := B; omega
theorem rmLR3 (hw : HW Z a0) (x : Nat → Addr) (uu rr u7_0 u7_1 u7_2 u7_3 u7_4 u16_0 u16_1 u17_0 u17_1 : Int32) (zs0 zs1 zc0 zc2 : Int) (h0 : Heap) (N : NX n0 x) (O : OB Z h0 x DSn (fe uu rr)) (V : EV Z h0 x [(2,[-1,1]),(3,[0,1,2,3]),(4,[0,1,1]),(6,[3,1]),(7,[u7_0,u7_1,u7_2,u7_3,u7_4]),(16,[u16_0,u16_1]),(17,[u17_0,u17_1])]) (B : ZB zs0 zs1 zc0 zc2) (q : zs0 = 0 ∧ zs1 ≤ 0) (F10 : AD Z h0 (x 10) [zs0, (-zs1)]) :
    Con l Z n0 ⟨DSn, "leavingRow", "(Z)I"⟩ prog_12_method_10_code 10 (some .int) ⟨1, 0, 0, 15⟩ #[(.ref (x 0)), (.int 0)] h0 (fun v h => v = some (.int (-1)) ∧ h = h0) := by
 refine con_of (plainFor_of_name pn_DS) ?_
 intro p e s m below meth c T0 K0 X0 e0
 have K : KX p s m meth c Z a0 DSn "leavingRow" prog_12_method_10_code 10 (some .int) t25 (fe uu rr) := ⟨K0, k25, lw hw uu rr⟩
 refine gE (x := x) (L := [aR 0,aI 0,aU,aU,aU,aU,aU,aU,aU,aU]) (by simp [entryFrame, mkF, argsToLocals, Value.category, gL, gS, cs, cv]) X0 e0 ?_
 refine gR K O V 2 ([aR 0,aI 0,aI (-1)]++un 7) [] rfl ?_
 refine gldc K (wd hw 197 rfl) rfl ?_
 refine gR K O V 24 ([aR 0,aI 0,aI (-1),aD 4472406533629990549,aS,aI 0]++un 4) [aI 0,aR 10] rfl ?_
 refine gdl K 0 F10 rfl rfl rfl rfl fun d0a q0a => ?_
 refine gR K O V 49 [aR 0,aI 0,aI (-1),aD 4472406533629990549,aS,aI 0,aD d0a,aS,aU,aU] [aD d0a] rfl ?_
 refine gabs K (wabs hw) zs0 0 q0a (zab_96 B q) rfl rfl (by decide) (Nat.le_of_eq rfl) (by decide) (by decide) (by decide) fun d0b q0b => ?_
 refine gR K O V 96 [aR 0,aI 0,aI (-1),aD 4472406533629990549,aS,aI 0,aD d0a,aS,aD d0b,aS] [aD 4472406533629990549,aD d0b] rfl ?_
 refine gcT K 106 ⟨_, Ep.lt q0b ep_9 (zep_97 B q), rfl⟩ rfl rfl rfl ?_
 refine gR K O V 24 [aR 0,aI 0,aI (-1),aD 4472406533629990549,aS,aI 1,aD d0a,aS,aD d0b,aS] [aI 1,aR 10] rfl ?_
 refine gdl K 1 F10 rfl rfl rfl rfl fun d0c q0c => ?_
 refine gR K O V 43 [aR 0,aI 0,aI (-1),aD 4472406533629990549,aS,aI 1,aD d0c,aS,aD d0b,aS] [aD d0c] rfl ?_
 refine gneg K (z := zs1) (Dz.neg q0c zeq_18) rfl fun d0d q0d => ?_
 refine gR K O V 96 [aR 0,aI 0,aI (-1),aD 4472406533629990549,aS,aI 1,aD d0c,aS,aD d0d,aS] [aD 4472406533629990549,aD d0d] rfl ?_
 refine gcT K 106 ⟨_, Ep.lt q0d ep_9 (zep_98 B q), rfl⟩ rfl rfl rfl ?_
 refine gR K O V 113 [aR 0,aI 0,aI (-1),aD 4472406533629990549,aS,aI 2,aD d0c,aS,aD d0d,aS] [aI (-1)] rfl ?_
 exact gri K rfl (by decide) (by decide) ⟨rfl, rfl⟩
def t31 : List (List (Nat × Instr × Nat)) := [[(0,.aload_n 0,1),(1,.getfield 105,3),(4,.invokevirtual 19,3),(7,.checkcast 20,3),(10,.astore_n 1,1),(11,.iconst 0,1),(12,.istore_n 2,1),(13,.iload_n 2,1),(14,.aload_n 0,1),(15,.getfield 13,3)],
  [(18,.if_icmp .ge 97,3),(21,.aload_n 0,1),(22,.getfield 71,3),(25,.iload_n 2,1),(26,.iaload,1),(27,.istore_n 3,1),(28,.aload_n 0,1),(29,.getfield 99,3)],
  [(32,.iload_n 2,1),(33,.daload,1),(34,.dstore 4,2),(36,.iload_n 3,1),(37,.aload_n 0,1),(38,.getfield 16,3),(41,.if_icmp .lt 19,3),(44,.aload_n 1,1),(45,.iload_n 3,1),(46,.aload_n 0,1),(47,.getfield 16,3)],
  [(50,.isub,1),(51,.dup2,1),(52,.daload,1),(53,.dload 4,2),(55,.dsub,1),(56,.dastore,1),(57,.goto 52,3),(60,.aload_n 0,1),(61,.getfield 56,3)],
  [(64,.iload_n 3,1),(65,.iaload,1),(66,.istore 6,2),(68,.iload 6,2),(70,.aload_n 0,1),(71,.getfield 56,3),(74,.iload_n 3,1),(75,.iconst 1,1),(76,.iadd,1),(77,.iaload,1),(78,.if_icmp .ge 31,3)],
  [(81,.aload_n 1,1),(82,.aload_n 0,1),(83,.getfield 63,3),(86,.iload 6,2),(88,.iaload,1),(89,.dup2,1),(90,.daload,1),(91,.aload_n 0,1),(92,.getfield 70,3),(95,.iload 6,2)],
  [(97,.daload,1),(98,.dload 4,2),(100,.dmul,1),(101,.dsub,1),(102,.dastore,1),(103,.iinc 6 1,3),(106,.goto (-38),3),(109,.iinc 2 1,3)],
  [(112,.goto (-99),3),(115,.aload_n 1,1),(116,.astore_n 2,1),(117,.aload_n 2,1),(118,.arraylength,1),(119,.istore_n 3,1),(120,.iconst 0,1),(121,.istore 4,2),(123,.iload 4,2),(125,.iload_n 3,1),(126,.if_icmp .ge 29,3)],
  [(129,.aload_n 2,1),(130,.iload 4,2),(132,.daload,1),(133,.dstore 5,2),(135,.dload 5,2),(137,.invokestatic 139,3),(140,.ldc2_w 204,3),(143,.dcmp .l,1)],
  [(144,.ifCond .le 5,3),(147,.iconst 0,1),(148,.ireturn,1),(149,.iinc 4 1,3),(152,.goto (-29),3),(155,.aload_n 0,1),(156,.getfield 206,3),(159,.ifCond .ne 78,3)],
  [(162,.aload_n 0,1),(163,.invokevirtual 210,3),(166,.astore_n 2,1),(167,.iconst 0,1),(168,.istore_n 3,1),(169,.iload_n 3,1),(170,.aload_n 0,1),(171,.getfield 16,3),(174,.if_icmp .ge 58,3)],
  [(177,.aload_n 0,1),(178,.iload_n 3,1),(179,.aload_n 2,1),(180,.invokevirtual 214,3),(183,.dstore 4,2),(185,.aload_n 0,1),(186,.getfield 74,3),(189,.iload_n 3,1),(190,.iaload,1),(191,.ifCond .lt 7,3)],
  [(194,.iconst 1,1),(195,.goto 4,3),(198,.iconst 0,1),(199,.istore 6,2),(201,.dload 4,2),(203,.ldc2_w 218,3),(206,.dcmp .g,1),(207,.ifCond .lt 17,3)],
  [(210,.iload 6,2),(212,.ifCond .eq 14,3),(215,.dload 4,2),(217,.ldc2_w 204,3),(220,.dcmp .l,1),(221,.ifCond .le 5,3)],
  [(224,.iconst 0,1),(225,.ireturn,1),(226,.iinc 3 1,3),(229,.goto (-60),3),(232,.aload_n 0,1),(233,.iconst 1,1),(234,.putfield 206,3),(237,.iconst 1,1),(238,.ireturn,1)]]
theorem k31 : TB prog_12_method_13_code t31 := tb_of (by decide +kernel)
theorem zeq_99 {zs0 : Int} : (zs0 - zs0 : Int) = 0 := by omega
theorem zeq_100 {zs1 : Int} : ((-1) * (-zs1) : Int) = zs1 := by omega
theorem zeq_101 {zs1 : Int} : (zs1 - zs1 : Int) = 0 := by omega
theorem rmPR1 (hw : HW Z a0) (x : Nat → Addr) (uu rr u7_0 u7_1 u7_2 u7_3 u7_4 u16_0 u16_1 u17_0 u17_1 : Int32) (zs0 zs1 zc0 zc2 : Int) (h0 : Heap) (N : NX n0 x) (O : OB Z h0 x DSn (fe uu rr)) (V : EV Z h0 x [(2,[-1,1]),(3,[0,1,2,3]),(4,[0,1,1]),(6,[3,1]),(7,[u7_0,u7_1,u7_2,u7_3,u7_4]),(16,[u16_0,u16_1]),(17,[u17_0,u17_1])]) (B : ZB zs0 zs1 zc0 zc2) (Z0 : n0 ≤ h0.size) (F1 : AD Z h0 (x 1) [zc0, 0, zc2]) (F9 : AD Z h0 (x 9) [1, 0, 0, (-1)]) :
    Con l Z n0 ⟨DSn, "prices", "()[D"⟩ prog_12_method_14_code 10 (some (.array .double)) ⟨0, 1, 2, 0⟩ #[(.ref (x 0))] h0 (fun v h => ∃ b, v = some (.ref b) ∧ KJ x h0 h [] ∧ h0.size ≤ b ∧ AD Z h b [0, 0]) := by
 refine con_of (plainFor_of_name pn_DS) ?_
 intro p e s m below meth c T0 K0 X0 e0
 have K : KX p s m meth c Z a0 DSn "prices" prog_12_method_14_code 10 (some (.array .double)) t32 (fe uu rr) := ⟨K0, k32, lw hw uu rr⟩
 refine gE (x := x) (L := [aR 0,aU,aU,aU,aU,aU,aU,aU,aU,aU]) (by simp [entryFrame, mkF, argsToLocals, Value.category, gL, gS, cs, cv]) X0 e0 ?_
 refine gR0 K O V 4 [aI 2] rfl ?_
 refine gnew K (wd hw 15 rfl) 2 rfl (by decide) rfl (by decide) (by decide) fun h0a b0a g0a (W0a : KJ x h0 h0a []) (f0a : AD Z h0a b0a [0, 0]) e0a => ?_
 have g0b : n0 ≤ b0a := Nat.le_trans Z0 g0a
 obtain ⟨O0c, V0c⟩ := ov N O V (js := []) W0a rfl rfl rfl
 refine gR K O0c V0c 41 [aR 0,aA b0a,aI 0,aR 8,aI 1,aI 0,aR 9,aI 0,aU,aU] [aR 9,aI 0] rfl ?_
 have f0d := F9.keep W0a (nx N 9 rfl)
 refine gal K 4 f0d rfl rfl rfl ?_
 refine gR K O0c V0c 41 [aR 0,aA b0a,aI 1,aR 8,aI 1,aI 0,aR 9,aI 2,aI 3,aU] [aR 9,aI 2] rfl ?_
 refine gal K 4 f0d rfl rfl rfl ?_
 refine gR K O0c V0c 68 [aR 0,aA b0a,aI 1,aR 8,aI 1,aI 0,aR 9,aI 2,aI 1,aU] [aI 1,aR 1] rfl ?_
 have f0e := F1.keep W0a (nx N 1 rfl)
 refine gdl K 1 f0e rfl rfl rfl rfl fun d0f q0f => ?_
 refine gR0 K O0c V0c 70 [aD 0,aD d0f] rfl ?_
 refine gcT K 115 (Dz.tk (cd := .eq) q0f Dz.zero (by show (0 : Int) = (0 : Int); decide)) rfl rfl rfl ?_
 refine gR K O0c V0c 41 [aR 0,aA b0a,aI 2,aR 8,aI 1,aI 0,aR 9,aI 4,aI 1,aU] [aR 9,aI 4] rfl ?_
 refine gal K 4 f0d rfl rfl rfl ?_
 refine gR K O0c V0c 137 [aR 0,aA b0a,aI 2,aR 8,aI 1,aI 1,aR 9,aI 4,aI 1,aU] [aA b0a] rfl ?_
 exact gra K rfl rfl rfl rfl (by decide) (by decide) ⟨b0a, rfl, W0a, g0a, f0a⟩
theorem rmRC2 (hw : HW Z a0) (x : Nat → Addr) (uu rr u6_0 u6_1 u7_0 u7_1 u7_2 u7_3 u7_4 u16_0 u16_1 u17_0 u17_1 : Int32) (xq : Addr) (zs0 zs1 zc0 zc2 : Int) (h0 : Heap) (N : NX n0 x) (O : OB Z h0 x DSn (fe uu rr)) (V : EV Z h0 x [(2,[-1,1]),(3,[0,1,2,3]),(4,[0,1,1]),(6,[u6_0,u6_1]),(7,[u7_0,u7_1,u7_2,u7_3,u7_4]),(16,[u16_0,u16_1]),(17,[u17_0,u17_1])]) (B : ZB zs0 zs1 zc0 zc2) (Fxq : AD Z h0 xq [0, 0]) (F1 : AD Z h0 (x 1) [zc0, 0, zc2]) (F5 : AD Z h0 (x 5) [1, (-1), 1]) :
    Con l Z n0 ⟨DSn, "reducedCost", "(I[D)D"⟩ prog_12_method_15_code 6 (some .double) ⟨0, 0, 0, 0⟩ #[(.ref (x 0)), (.int 0), (.ref xq)] h0 (fun v h => ∃ d, v = some (.double d) ∧ h = h0 ∧ Dz zc0 d) := by
 refine con_of (plainFor_of_name pn_DS) ?_
 intro p e s m below meth c T0 K0 X0 e0
 have K : KX p s m meth c Z a0 DSn "reducedCost" prog_12_method_15_code 6 (some .double) t33 (fe uu rr) := ⟨K0, k33, lw hw uu rr⟩
 refine gE (x := x) (L := [aR 0,aI 0,aA xq,aU,aU,aU]) (by simp [entryFrame, mkF, argsToLocals, Value.category, gL, gS, cs, cv]) X0 e0 ?_
 refine gR0 K O V 5 [aI 0,aR 1] rfl ?_
 refine gdl K 0 F1 rfl rfl rfl rfl fun d0a q0a => ?_
 refine gR K O V 37 [aR 0,aI 0,aA xq,aD d0a,aS,aI 0] [aI 0,aA xq,aD d0a] rfl ?_
 refine gdl K 0 Fxq rfl rfl rfl rfl fun d0b q0b => ?_
 refine gR0 K O V 44 [aI 0,aR 5,aD d0b,aD d0a] rfl ?_
 refine gdl K 0 F5 rfl rfl rfl rfl fun d0c q0c => ?_
 refine gmul K (z := 0) (Dz.mul q0b q0c rfl (by decide)) rfl fun d0d q0d => ?_
 refine gsub K (z := zc0) (Dz.sub q0a q0d zeq_60 (zbd_61 B)) rfl fun d0e q0e => ?_
 refine gR K O V 55 [aR 0,aI 0,aA xq,aD d0e,aS,aI 1] [aD d0e] rfl ?_
 exact grd K rfl (by decide) (by decide) ⟨d0e, rfl, rfl, q0e⟩
theorem zep_103 {zs0 zs1 zc0 zc2 : Int} (B : ZB zs0 zs1 zc0 zc2) : 0 ≤ zc0 := by unfold ZB at B; obtain ⟨b1, b2, b3, b4, b5, b6⟩ := B; omega
theorem rmRC3 (hw : HW Z a0) (x : Nat → Addr) (uu rr u6_0 u6_1 u7_0 u7_1 u7_2 u7_3 u7_4 u16_0 u16_1 u17_0 u17_1 : Int32) (xq : Addr) (zs0 zs1 zc0 zc2 : Int) (h0 : Heap) (N : NX n0 x) (O : OB Z h0 x DSn (fe uu rr)) (V : EV Z h0 x [(2,[-1,1]),(3,[0,1,2,3]),(4,[0,1,1]),(6,[u6_0,u6_1]),(7,[u7_0,u7_1,u7_2,u7_3,u7_4]),(16,[u16_0,u16_1]),(17,[u17_0,u17_1])]) (B : ZB zs0 zs1 zc0 zc2) (Fxq : AD Z h0 xq [0, 0]) (F1 : AD Z h0 (x 1) [zc0, 0, zc2]) (F5 : AD Z h0 (x 5) [1, (-1), 1]) :
    Con l Z n0 ⟨DSn, "reducedCost", "(I[D)D"⟩ prog_12_method_15_code 6 (some .double) ⟨0, 0, 0, 0⟩ #[(.ref (x 0)), (.int 1), (.ref xq)] h0 (fun v h => ∃ d, v = some (.double d) ∧ h = h0 ∧ Dz 0 d) := by
 refine con_of (plainFor_of_name pn_DS) ?_
 intro p e s m below meth c T0 K0 X0 e0
 have K : KX p s m meth c Z a0 DSn "reducedCost" prog_12_method_15_code 6 (some .double) t33 (fe uu rr) := ⟨K0, k33, lw hw uu rr⟩
 refine gE (x := x) (L := [aR 0,aI 1,aA xq,aU,aU,aU]) (by simp [entryFrame, mkF, argsToLocals, Value.category, gL, gS, cs, cv]) X0 e0 ?_
 refine gR0 K O V 5 [aI 1,aR 1] rfl ?_
 refine gdl K 1 F1 rfl rfl rfl rfl fun d0a q0a => ?_
 refine gR K O V 37 [aR 0,aI 1,aA xq,aD d0a,aS,aI 1] [aI 1,aA xq,aD d0a] rfl ?_
 refine gdl K 1 Fxq rfl rfl rfl rfl fun d0b q0b => ?_
 refine gR0 K O V 44 [aI 1,aR 5,aD d0b,aD d0a] rfl ?_
 refine gdl K 1 F5 rfl rfl rfl rfl fun d0c q0c => ?_
 refine gmul K (z := 0) (Dz.mul q0b q0c rfl (by decide)) rfl fun d0d q0d => ?_
 refine gsub K (z := 0) (Dz.sub q0a q0d rfl (by decide)) rfl fun d0e q0e => ?_
 refine gR K O V 55 [aR 0,aI 1,aA xq,aD d0e,aS,aI 2] [aD d0e] rfl ?_
 exact grd K rfl (by decide) (by decide) ⟨d0e, rfl, rfl, q0e⟩
theorem zeq_107 {zc2 : Int} : (zc2 - 0 : Int) = zc2 := by omega
theorem rmRC4 (hw : HW Z a0) (x : Nat → Addr) (uu rr u6_0 u6_1 u7_0 u7_1 u7_2 u7_3 u7_4 u16_0 u16_1 u17_0 u17_1 : Int32) (xq : Addr) (zs0 zs1 zc0 zc2 : Int) (h0 : Heap) (N : NX n0 x) (O : OB Z h0 x DSn (fe uu rr)) (V : EV Z h0 x [(2,[-1,1]),(3,[0,1,2,3]),(4,[0,1,1]),(6,[u6_0,u6_1]),(7,[u7_0,u7_1,u7_2,u7_3,u7_4]),(16,[u16_0,u16_1]),(17,[u17_0,u17_1])]) (B : ZB zs0 zs1 zc0 zc2) (Fxq : AD Z h0 xq [0, 0]) (F1 : AD Z h0 (x 1) [zc0, 0, zc2]) (F5 : AD Z h0 (x 5) [1, (-1), 1]) :
    Con l Z n0 ⟨DSn, "reducedCost", "(I[D)D"⟩ prog_12_method_15_code 6 (some .double) ⟨0, 0, 0, 0⟩ #[(.ref (x 0)), (.int 2), (.ref xq)] h0 (fun v h => ∃ d, v = some (.double d) ∧ h = h0 ∧ Dz zc2 d) := by
 refine con_of (plainFor_of_name pn_DS) ?_
 intro p e s m below meth c T0 K0 X0 e0
 have K : KX p s m meth c Z a0 DSn "reducedCost" prog_12_method_15_code 6 (some .double) t33 (fe uu rr) := ⟨K0, k33, lw hw uu rr⟩
 refine gE (x := x) (L := [aR 0,aI 2,aA xq,aU,aU,aU]) (by simp [entryFrame, mkF, argsToLocals, Value.category, gL, gS, cs, cv]) X0 e0 ?_
 refine gR0 K O V 5 [aI 2,aR 1] rfl ?_
 refine gdl K 2 F1 rfl rfl rfl rfl fun d0a q0a => ?_
 refine gR K O V 37 [aR 0,aI 2,aA xq,aD d0a,aS,aI 2] [aI 1,aA xq,aD d0a] rfl ?_
 refine gdl K 1 Fxq rfl rfl rfl rfl fun d0b q0b => ?_
 refine gR0 K O V 44 [aI 2,aR 5,aD d0b,aD d0a] rfl ?_
 refine gdl K 2 F5 rfl rfl rfl rfl fun d0c q0c => ?_
 refine gmul K (z := 0) (Dz.mul q0b q0c rfl (by decide)) rfl fun d0d q0d => ?_
 refine gsub K (z := zc2) (Dz.sub q0a q0d zeq_107 (zbd_64 B)) rfl fun d0e q0e => ?_
 refine gR K O V 55 [aR 0,aI 2,aA xq,aD d0e,aS,aI 3] [aD d0e] rfl ?_
 exact grd K rfl (by decide) (by decide) ⟨d0e, rfl, rfl, q0e⟩
theorem zep_108 {zs0 zs1 zc0 zc2 : Int} (B : ZB zs0 zs1 zc0 zc2) : 0 ≤ zc2 := by unfold ZB at B; obtain ⟨b1, b2, b3, b4, b5, b6⟩ := B; omega
theorem pd_15 : parseMethodDescriptor "()Z" = some ⟨[], some .boolean⟩ := by decide +kernel
theorem w_isAccurate {Z : State} {a0 : Array Value} (hw : HW Z a0) : WP Z a0 DSn 170 ⟨DSn, "isAccurate", "()Z"⟩ prog_12_method_13_code 7 (some .boolean) 0 := ⟨⟨(wd hw 217 rfl), (wd hw 218 rfl), own_psel (wd hw 49 rfl) (wd hw 219 rfl) (wd hw 218 rfl) (by decide), (wd hw 219 rfl), wd hw 220 rfl, (wd hw 50 rfl)⟩, by decide, lenK pd_15 rfl⟩
theorem rmIA0 (hw : HW Z a0) (x : Nat → Addr) (uu u16_0 u16_1 u17_0 u17_1 : Int32) (zs0 zs1 zc0 zc2 : Int) (h0 : Heap) (N : NX n0 x) (O : OB Z h0 x DSn (fe uu 0)) (V : EV Z h0 x [(2,[-1,1]),(3,[0,1,2,3]),(4,[0,1,1]),(6,[3,1]),(7,[-1,1,-1,0,-1]),(16,[u16_0,u16_1]),(17,[u17_0,u17_1])]) (B : ZB zs0 zs1 zc0 zc2) (Z0 : n0 ≤ h0.size) (F1 : AD Z h0 (x 1) [zc0, 0, zc2]) (F5 : AD Z h0 (x 5) [1, (-1), 1]) (F9 : AD Z h0 (x 9) [1, 0, 0, (-1)]) (F10 : AD Z h0 (x 10) [zs0, (-zs1)]) (F12 : AD Z h0 (x 12) [zs0, zs1]) (E12 : Exa Z h0 (x 12) "[D") :
    Con l Z n0 ⟨DSn, "isAccurate", "()Z"⟩ prog_12_method_13_code 7 (some .boolean) ⟨1, 2, 4, 21⟩ #[(.ref (x 0))] h0 (fun v h => v = some (.int 1) ∧ KJ x h0 h [0] ∧ OB Z h x DSn (fe uu 1) ∧ EV Z h x [(2,[-1,1]),(3,[0,1,2,3]),(4,[0,1,1]),(6,[3,1]),(7,[-1,1,-1,0,-1]),(16,[u16_0,u16_1]),(17,[u17_0,u17_1])]) := by
 refine con_of (plainFor_of_name pn_DS) ?_
 intro p e s m below meth c T0 K0 X0 e0
 have K : KX p s m meth c Z a0 DSn "isAccurate" prog_12_method_13_code 7 (some .boolean) t31 (fe uu 0) := ⟨K0, k31, lw hw uu 0⟩
 refine gE (x := x) (L := [aR 0,aU,aU,aU,aU,aU,aU]) (by simp [entryFrame, mkF, argsToLocals, Value.category, gL, gS, cs, cv]) X0 e0 ?_
 refine gR0 K O V 4 [aR 12] rfl ?_
 refine gcl K (wclone hw) 2 0 F12 E12 rfl rfl rfl rfl (by decide) (Nat.le_of_eq rfl) (by decide) (by decide) (by decide) fun h0a b0a g0a (W0a : KJ x h0 h0a []) f0a e0a => ?_
 have g0b : n0 ≤ b0a := Nat.le_trans Z0 g0a
 refine gcc K (wd hw 67 rfl) e0a rfl rfl ?_
 obtain ⟨O0c, V0c⟩ := ov N O V (js := []) W0a rfl rfl rfl
 refine gR K O0c V0c 33 [aR 0,aA b0a,aI 0,aI 3,aU,aU,aU] [aI 0,aR 10] rfl ?_
 have f0d := F10.keep W0a (nx N 10 rfl)
 refine gdl K 0 f0d rfl rfl rfl rfl fun d0e q0e => ?_
 refine gR K O0c V0c 52 [aR 0,aA b0a,aI 0,aI 3,aD d0e,aS,aU] [aI 0,aA b0a,aI 0,aA b0a] rfl ?_
 refine gdl K 0 f0a rfl rfl rfl rfl fun d0f q0f => ?_
 refine gR0 K O0c V0c 55 [aD d0e,aD d0f,aI 0,aA b0a] rfl ?_
 refine gsub K (z := 0) (Dz.sub q0f q0e zeq_99 (by decide)) rfl fun d0g q0g => ?_
 refine gds K 0 f0a rfl rfl rfl q0g g0b rfl fun h0h (W0h : Keep h0a h0h [b0a]) (f0h : AD Z h0h b0a [0, zs1]) => ?_
 have k0i := kf (js := []) W0a W0h g0a
 obtain ⟨O0j, V0j⟩ := ov N O V (js := []) k0i rfl rfl rfl
 refine gR K O0j V0j 33 [aR 0,aA b0a,aI 1,aI 1,aD d0e,aS,aU] [aI 1,aR 10] rfl ?_
 have f0k := F10.keep k0i (nx N 10 rfl)
 refine gdl K 1 f0k rfl rfl rfl rfl fun d0l q0l => ?_
 refine gR K O0j V0j 90 [aR 0,aA b0a,aI 1,aI 1,aD d0l,aS,aI 1] [aI 1,aA b0a,aI 1,aA b0a] rfl ?_
 refine gdl K 1 f0h rfl rfl rfl rfl fun d0m q0m => ?_
 refine gR0 K O0j V0j 97 [aI 1,aR 5,aD d0m,aI 1,aA b0a] rfl ?_
 have f0n := F5.keep k0i (nx N 5 rfl)
 refine gdl K 1 f0n rfl rfl rfl rfl fun d0o q0o => ?_
 refine gR0 K O0j V0j 100 [aD d0l,aD d0o,aD d0m,aI 1,aA b0a] rfl ?_
 refine gmul K (z := zs1) (Dz.mul q0o q0l zeq_100 (zbd_2 B)) rfl fun d0p q0p => ?_
 refine gsub K (z := 0) (Dz.sub q0m q0p zeq_101 (by decide)) rfl fun d0q q0q => ?_
 refine gds K 1 f0h rfl rfl rfl q0q g0b rfl fun h0r (W0r : Keep h0h h0r [b0a]) (f0r : AD Z h0r b0a [0, 0]) => ?_
 have k0s := kf (js := []) k0i W0r g0a
 obtain ⟨O0t, V0t⟩ := ov N O V (js := []) k0s rfl rfl rfl
 refine gR K O0t V0t 118 [aR 0,aA b0a,aA b0a,aI 1,aD d0l,aS,aI 2] [aA b0a] rfl ?_
 refine gal K 2 f0r rfl rfl rfl ?_
 refine gR K O0t V0t 132 [aR 0,aA b0a,aA b0a,aI 2,aI 0,aU,aI 2] [aI 0,aA b0a] rfl ?_
 refine gdl K 0 f0r rfl rfl rfl rfl fun d0u q0u => ?_
 refine gR K O0t V0t 137 [aR 0,aA b0a,aA b0a,aI 2,aI 0,aD d0u,aS] [aD d0u] rfl ?_
 refine gabs K (wabs hw) 0 0 q0u rfl rfl rfl (by decide) (Nat.le_of_eq rfl) (by decide) (by decide) (by decide) fun d0v q0v => ?_
 refine gldc K (wd hw 216 rfl) rfl ?_
 refine gcT K 149 ⟨_, Ep.lt q0v ep_7 (by decide), rfl⟩ rfl rfl rfl ?_
 refine gR K O0t V0t 132 [aR 0,aA b0a,aA b0a,aI 2,aI 1,aD d0u,aS] [aI 1,aA b0a] rfl ?_
 refine gdl K 1 f0r rfl rfl rfl rfl fun d0w q0w => ?_
 refine gR K O0t V0t 137 [aR 0,aA b0a,aA b0a,aI 2,aI 1,aD d0w,aS] [aD d0w] rfl ?_
 refine gabs K (wabs hw) 0 0 q0w rfl rfl rfl (by decide) (Nat.le_of_eq rfl) (by decide) (by decide) (by decide) fun d0x q0x => ?_
 refine gldc K (wd hw 216 rfl) rfl ?_
 refine gcT K 149 ⟨_, Ep.lt q0x ep_7 (by decide), rfl⟩ rfl rfl rfl ?_
 refine gR K O0t V0t 163 [aR 0,aA b0a,aA b0a,aI 2,aI 2,aD d0w,aS] [aR 0] rfl ?_
 have f0y := F1.keep k0s (nx N 1 rfl)
 have f0z := F9.keep k0s (nx N 9 rfl)
 refine gP K (w_prices hw) O0t (rmPR1 hw x uu 0 (-1) 1 (-1) 0 (-1) u16_0 u16_1 u17_0 u17_1 zs0 zs1 zc0 zc2 h0r N O0t V0t B (Nat.le_trans (Nat.le_trans (Nat.le_trans Z0 W0a.1) W0h.1) W0r.1) f0y f0z) [] 0 rfl rfl rfl rfl (by decide) (Nat.le_of_eq rfl) (by decide) (by decide) (by decide) ?_
 rintro h1a _ ⟨b1a, rfl, W1a, g1a, f1a⟩
 have g1b : n0 ≤ b1a := Nat.le_trans (Nat.le_trans (Nat.le_trans (Nat.le_trans Z0 W0a.1) W0h.1) W0r.1) g1a
 refine sh (FA m x 166 [aR 0,aA b0a,aA b0a,aI 2,aI 2,aD d0w,aS] [aA b1a]) rfl ?_
 have k1c := kx [] (js' := []) k0s W1a rfl rfl
 obtain ⟨O1d, V1d⟩ := ov N O V (js := []) k1c rfl rfl rfl
 refine gR K O1d V1d 180 [aR 0,aA b0a,aA b1a,aI 0,aI 2,aD d0w,aS] [aA b1a,aI 0,aR 0] rfl ?_
 have f1e := F1.keep k1c (nx N 1 rfl)
 have f1f := F5.keep k1c (nx N 5 rfl)
 refine gPd K (w_reducedCost hw) O1d (rmRC2 hw x uu 0 3 1 (-1) 1 (-1) 0 (-1) u16_0 u16_1 u17_0 u17_1 b1a zs0 zs1 zc0 zc2 h1a N O1d V1d B f1a f1e f1f) [] 0 rfl rfl rfl rfl (by decide) (Nat.le_of_eq rfl) (by decide) (by decide) (by decide) fun d1g q1g => ?_
 refine gR K O1d V1d 203 [aR 0,aA b0a,aA b1a,aI 0,aD d1g,aS,aI 0] [aD d1g] rfl ?_
 refine gldc K (wd hw 229 rfl) rfl ?_
 refine gcF K ⟨_, En.gt q1g en_7 (zep_103 B), rfl⟩ rfl rfl ?_
 refine gR K O1d V1d 180 [aR 0,aA b0a,aA b1a,aI 1,aD d1g,aS,aI 0] [aA b1a,aI 1,aR 0] rfl ?_
 refine gPd K (w_reducedCost hw) O1d (rmRC3 hw x uu 0 3 1 (-1) 1 (-1) 0 (-1) u16_0 u16_1 u17_0 u17_1 b1a zs0 zs1 zc0 zc2 h1a N O1d V1d B f1a f1e f1f) [] 0 rfl rfl rfl rfl (by decide) (Nat.le_of_eq rfl) (by decide) (by decide) (by decide) fun d1h q1h => ?_
 refine gR K O1d V1d 203 [aR 0,aA b0a,aA b1a,aI 1,aD d1h,aS,aI 1] [aD d1h] rfl ?_
 refine gldc K (wd hw 229 rfl) rfl ?_
 refine gcF K ⟨_, En.gt q1h en_7 (by decide), rfl⟩ rfl rfl ?_
 refine gR0 K O1d V1d 217 [aD d1h] rfl ?_
 refine gldc K (wd hw 216 rfl) rfl ?_
 refine gcT K 226 ⟨_, Ep.lt q1h ep_7 (by decide), rfl⟩ rfl rfl rfl ?_
 refine gR K O1d V1d 180 [aR 0,aA b0a,aA b1a,aI 2,aD d1h,aS,aI 1] [aA b1a,aI 2,aR 0] rfl ?_
 refine gPd K (w_reducedCost hw) O1d (rmRC4 hw x uu 0 3 1 (-1) 1 (-1) 0 (-1) u16_0 u16_1 u17_0 u17_1 b1a zs0 zs1 zc0 zc2 h1a N O1d V1d B f1a f1e f1f) [] 0 rfl rfl rfl rfl (by decide) (Nat.le_of_eq rfl) (by decide) (by decide) (by decide) fun d1i q1i => ?_
 refine gR K O1d V1d 203 [aR 0,aA b0a,aA b1a,aI 2,aD d1i,aS,aI 0] [aD d1i] rfl ?_
 refine gldc K (wd hw 229 rfl) rfl ?_
 refine gcF K ⟨_, En.gt q1i en_7 (zep_108 B), rfl⟩ rfl rfl ?_
 refine gR K O1d V1d 234 [aR 0,aA b0a,aA b1a,aI 3,aD d1i,aS,aI 0] [aI 1,aR 0] rfl ?_
 refine grcc K hw O1d N (Or.inr rfl) rfl fun h1j (W1j : KJ x h1a h1j [0]) O1j => ?_
 have K := K.re hw uu 1
 have V1j := V1d.keep N (js := [0]) W1j rfl rfl
 refine gR0 K O1j V1j 238 [aI 1] rfl ?_
 have k1k := kx [0] (js' := [0]) k1c W1j rfl rfl
 exact grz K (Or.inr rfl) rfl (by decide) (by decide) ⟨rfl, k1k, O1j, V1j⟩
theorem rmPvs3 (hw : HW Z a0) (x : Nat → Addr) (u16_0 u16_1 : Int32) (zs0 zs1 zc0 zc2 : Int) (h0 : Heap) (N : NX n0 x) (O : OB Z h0 x DSn (fe 0 0)) (V : EV Z h0 x [(2,[-1,1]),(3,[0,1,2,3]),(4,[0,1,1]),(6,[3,1]),(7,[-1,1,-1,0,-1]),(16,[u16_0,u16_1]),(17,[0,0])]) (B : ZB zs0 zs1 zc0 zc2) (q : zs0 = 0 ∧ zs1 ≤ 0) (Z0 : n0 ≤ h0.size) (F1 : AD Z h0 (x 1) [zc0, 0, zc2]) (F5 : AD Z h0 (x 5) [1, (-1), 1]) (F9 : AD Z h0 (x 9) [1, 0, 0, (-1)]) (F10 : AD Z h0 (x 10) [zs0, (-zs1)]) (F11 : AD Z h0 (x 11) [zc0, 0, zc2]) (F12 : AD Z h0 (x 12) [zs0, zs1]) (F13 : AD Z h0 (x 13) [0, 0, 0]) (F14 : AD Z h0 (x 14) [0, 0]) (F15 : AD Z h0 (x 15) [0, 0]) (E12 : Exa Z h0 (x 12) "[D") :
    Con l Z n0 ⟨DSn, "pivots", "()I"⟩ prog_12_method_9_code 6 (some .int) ⟨2, 2, 4, 39⟩ #[(.ref (x 0))] h0 (fun v h => v = some (.int 0) ∧ KJ x h0 h [0] ∧ OB Z h x DSn (fe 0 1) ∧ EV Z h x [(2,[-1,1]),(3,[0,1,2,3]),(4,[0,1,1]),(6,[3,1]),(7,[-1,1,-1,0,-1]),(16,[u16_0,u16_1]),(17,[0,0])] ∧ AD Z h (x 10) [zs0, (-zs1)]) := by
 refine con_of (plainFor_of_name pn_DS) ?_
 intro p e s m below meth c T0 K0 X0 e0
 have K : KX p s m meth c Z a0 DSn "pivots" prog_12_method_9_code 6 (some .int) t24 (fe 0 0) := ⟨K0, k24, lw hw 0 0⟩
 refine gE (x := x) (L := [aR 0,aU,aU,aU,aU,aU]) (by simp [entryFrame, mkF, argsToLocals, Value.category, gL, gS, cs, cv]) X0 e0 ?_
 refine gR K O V 43 [aR 0,aI 5,aI 0,aI 0,aU,aU] [aI 0,aR 0] rfl ?_
 refine gPi K (w_leavingRow hw) O (rmLR3 hw x 0 0 (-1) 1 (-1) 0 (-1) u16_0 u16_1 0 0 zs0 zs1 zc0 zc2 h0 N O V B q F10) [] 0 rfl rfl rfl rfl (by decide) (Nat.le_of_eq rfl) (by decide) (by decide) (by decide) ?_
 refine gR K O V 54 [aR 0,aI 5,aI 0,aI 0,aI (-1),aU] [aR 0] rfl ?_
 refine gP K (w_isAccurate hw) O (rmIA0 hw x 0 u16_0 u16_1 0 0 zs0 zs1 zc0 zc2 h0 N O V B Z0 F1 F5 F9 F10 F12 E12) [] 0 rfl rfl rfl rfl (by decide) (Nat.le_of_eq rfl) (by decide) (by decide) (by decide) ?_
 rintro h0a _ ⟨rfl, W0a, O0a, V0a⟩
 have K := K.re hw 0 1
 refine sh (FA m x 57 [aR 0,aI 5,aI 0,aI 0,aI (-1),aU] [aI 1]) rfl ?_
 refine gR0 K O0a V0a 61 [aI 0] rfl ?_
 have f0b := F10.keep W0a (nx N 10 rfl)
 exact gri K rfl (by decide) (by decide) ⟨rfl, W0a, O0a, V0a, f0b⟩
theorem rmSol3 (hw : HW Z a0) (x : Nat → Addr) (xin : Addr) (zs0 zs1 zc0 zc2 : Int) (h0 : Heap) (N : NX n0 x) (O : OB Z h0 x DSn (fe 0 0)) (V : EV Z h0 x [(2,[-1,1]),(3,[0,1,2,3]),(4,[0,1,1]),(6,[3,1]),(7,[-1,1,-1,0,-1]),(16,[0,0]),(17,[0,0])]) (B : ZB zs0 zs1 zc0 zc2) (q : zs0 = 0 ∧ zs1 ≤ 0) (Z0 : n0 ≤ h0.size) (Fxin : AD Z h0 xin [zs0, zs1]) (F1 : AD Z h0 (x 1) [zc0, 0, zc2]) (F5 : AD Z h0 (x 5) [1, (-1), 1]) (F9 : AD Z h0 (x 9) [1, 0, 0, (-1)]) (F10 : AD Z h0 (x 10) [0, 0]) (F11 : AD Z h0 (x 11) [zc0, 0, zc2]) (F12 : AD Z h0 (x 12) [0, 0]) (F13 : AD Z h0 (x 13) [0, 0, 0]) (F14 : AD Z h0 (x 14) [0, 0]) (F15 : AD Z h0 (x 15) [0, 0]) (E12 : Exa Z h0 (x 12) "[D") (I : xin ∉ [x 16] ∧ xin ∉ [x 10] ∧ xin ∉ [x 12]) :
    Con l Z n0 ⟨DSn, "solve", "([D)Z"⟩ prog_12_method_2_code 3 (some .boolean) ⟨3, 2, 4, 84⟩ #[(.ref (x 0)), (.ref xin)] h0 (fun v h => ∃ ka kb : Int32, v = some (.int 1) ∧ KJ x h0 h [0,10,12,16] ∧ OB Z h x DSn (fe 0 1) ∧ EV Z h x [(2,[-1,1]),(3,[0,1,2,3]),(4,[0,1,1]),(6,[3,1]),(7,[-1,1,-1,0,-1]),(16,[ka,kb]),(17,[0,0])] ∧ AD Z h (x 1) [zc0, 0, zc2] ∧ AD Z h (x 10) [zs0, (-zs1)]) := by
 refine con_of (plainFor_of_name pn_DS) ?_
 intro p e s m below meth c T0 K0 X0 e0
 have K : KX p s m meth c Z a0 DSn "solve" prog_12_method_2_code 3 (some .boolean) t22 (fe 0 0) := ⟨K0, k22, lw hw 0 0⟩
 refine gE (x := x) (L := [aR 0,aA xin,aU]) (by simp [entryFrame, mkF, argsToLocals, Value.category, gL, gS, cs, cv]) X0 e0 ?_
 refine gR0 K O V 1 [aA xin] rfl ?_
 refine gal K 2 Fxin rfl rfl rfl ?_
 refine gR0 K O V 30 [aA xin,aR 0] rfl ?_
 refine gP K (w_moveValues hw) O (rmMv hw x 0 0 3 1 (-1) 1 (-1) 0 (-1) 0 0 xin zs0 zs1 zc0 zc2 h0 N O V B Fxin F9 F10 F12 I) [] 0 rfl rfl rfl rfl (by decide) (Nat.le_of_eq rfl) (by decide) (by decide) (by decide) ?_
 rintro h0a _ ⟨rfl, ka0a, kb0a, W0a, O0a, V0a, f0a_10, f0a_12⟩
 refine sh (FA m x 33 [aR 0,aA xin,aU] []) rfl ?_
 refine gR0 K O0a V0a 34 [aR 0] rfl ?_
 have f0b := F1.keep W0a (nx N 1 rfl)
 have f0c := F5.keep W0a (nx N 5 rfl)
 have f0d := F9.keep W0a (nx N 9 rfl)
 have f0e := F11.keep W0a (nx N 11 rfl)
 have f0f := F13.keep W0a (nx N 13 rfl)
 have f0g := F14.keep W0a (nx N 14 rfl)
 have f0h := F15.keep W0a (nx N 15 rfl)
 have e0i := (E12.keep W0a)
 refine gP K (w_pivots hw) O0a (rmPvs3 hw x ka0a kb0a zs0 zs1 zc0 zc2 h0a N O0a V0a B q (Nat.le_trans Z0 W0a.1) f0b f0c f0d f0a_10 f0e f0a_12 f0f f0g f0h e0i) [] 0 rfl rfl rfl rfl (by decide) (Nat.le_of_eq rfl) (by decide) (by decide) (by decide) ?_
 rintro h0j _ ⟨rfl, W0j, O0j, V0j, f0j_10⟩
 have K := K.re hw 0 1
 refine sh (FA m x 37 [aR 0,aA xin,aU] [aI 0]) rfl ?_
 refine gR K O0j V0j 87 [aR 0,aA xin,aI 0] [aI 1] rfl ?_
 have k0k := kx [0,10,12,16] (js' := [0]) W0a W0j rfl rfl
 have f0l := F1.keep k0k (nx N 1 rfl)
 exact grz K (Or.inr rfl) rfl (by decide) (by decide) ⟨ka0a, kb0a, rfl, k0k, O0j, V0j, f0l, f0j_10⟩
theorem zab_109 {zs0 zs1 zc0 zc2 : Int} (B : ZB zs0 zs1 zc0 zc2) (q0 : zs0 = 0 ∧ 0 < zs1) : ((zs0).natAbs : Int) = zs0 := by unfold ZB at B; obtain ⟨b1, b2, b3, b4, b5, b6⟩ := B; omega
theorem zep_110 {zs0 zs1 zc0 zc2 : Int} (B : ZB zs0 zs1 zc0 zc2) (q0 : zs0 = 0 ∧ 0 < zs1) : zs0 ≤ 0 := by unfold ZB at B; obtain ⟨b1, b2, b3, b4, b5, b6⟩ := B; omega
theorem zep_111 {zs0 zs1 zc0 zc2 : Int} (B : ZB zs0 zs1 zc0 zc2) (q0 : zs0 = 0 ∧ 0 < zs1) : 0 < zs1 := by unfold ZB at B; obtain ⟨b1, b2, b3, b4, b5, b6⟩ := B; omega
theorem rmLR4 (hw : HW Z a0) (x : Nat → Addr) (uu rr u7_0 u7_1 u7_2 u7_3 u7_4 u16_0 u16_1 u17_0 u17_1 : Int32) (zs0 zs1 zc0 zc2 : Int) (h0 : Heap) (N : NX n0 x) (O : OB Z h0 x DSn (fe uu rr)) (V : EV Z h0 x [(2,[-1,1]),(3,[0,1,2,3]),(4,[0,1,1]),(6,[3,1]),(7,[u7_0,u7_1,u7_2,u7_3,u7_4]),(16,[u16_0,u16_1]),(17,[u17_0,u17_1])]) (B : ZB zs0 zs1 zc0 zc2) (q : zs0 = 0 ∧ 0 < zs1) (F10 : AD Z h0 (x 10) [zs0, (-zs1)]) :
    Con l Z n0 ⟨DSn, "leavingRow", "(Z)I"⟩ prog_12_method_10_code 10 (some .int) ⟨1, 0, 0, 15⟩ #[(.ref (x 0)), (.int 0)] h0 (fun v h => v = some (.int 1) ∧ h = h0) := by
 refine con_of (plainFor_of_name pn_DS) ?_
 intro p e s m below meth c T0 K0 X0 e0
 have K : KX p s m meth c Z a0 DSn "leavingRow" prog_12_method_10_code 10 (some .int) t25 (fe uu rr) := ⟨K0, k25, lw hw uu rr⟩
 refine gE (x := x) (L := [aR 0,aI 0,aU,aU,aU,aU,aU,aU,aU,aU]) (by simp [entryFrame, mkF, argsToLocals, Value.category, gL, gS, cs, cv]) X0 e0 ?_
 refine gR K O V 2 ([aR 0,aI 0,aI (-1)]++un 7) [] rfl ?_
 refine gldc K (wd hw 197 rfl) rfl ?_
 refine gR K O V 24 ([aR 0,aI 0,aI (-1),aD 4472406533629990549,aS,aI 0]++un 4) [aI 0,aR 10] rfl ?_
 refine gdl K 0 F10 rfl rfl rfl rfl fun d0a q0a => ?_
 refine gR K O V 49 [aR 0,aI 0,aI (-1),aD 4472406533629990549,aS,aI 0,aD d0a,aS,aU,aU] [aD d0a] rfl ?_
 refine gabs K (wabs hw) zs0 0 q0a (zab_109 B q) rfl rfl (by decide) (Nat.le_of_eq rfl) (by decide) (by decide) (by decide) fun d0b q0b => ?_
 refine gR K O V 96 [aR 0,aI 0,aI (-1),aD 4472406533629990549,aS,aI 0,aD d0a,aS,aD d0b,aS] [aD 4472406533629990549,aD d0b] rfl ?_
 refine gcT K 106 ⟨_, Ep.lt q0b ep_9 (zep_110 B q), rfl⟩ rfl rfl rfl ?_
 refine gR K O V 24 [aR 0,aI 0,aI (-1),aD 4472406533629990549,aS,aI 1,aD d0a,aS,aD d0b,aS] [aI 1,aR 10] rfl ?_
 refine gdl K 1 F10 rfl rfl rfl rfl fun d0c q0c => ?_
 refine gR K O V 43 [aR 0,aI 0,aI (-1),aD 4472406533629990549,aS,aI 1,aD d0c,aS,aD d0b,aS] [aD d0c] rfl ?_
 refine gneg K (z := zs1) (Dz.neg q0c zeq_18) rfl fun d0d q0d => ?_
 refine gR K O V 96 [aR 0,aI 0,aI (-1),aD 4472406533629990549,aS,aI 1,aD d0c,aS,aD d0d,aS] [aD 4472406533629990549,aD d0d] rfl ?_
 refine gcF K ⟨_, Ep.gt q0d ep_9 (zep_111 B q), rfl⟩ rfl rfl ?_
 refine gR K O V 113 [aR 0,aI 0,aI 1,aD d0d,aS,aI 2,aD d0c,aS,aD d0d,aS] [aI 1] rfl ?_
 exact gri K rfl (by decide) (by decide) ⟨rfl, rfl⟩
theorem zph_112 {zs0 zs1 zc0 zc2 : Int} (B : ZB zs0 zs1 zc0 zc2) (q0 : zs0 = 0 ∧ 0 < zs1) : (-zs1) < 0 := by unfold ZB at B; obtain ⟨b1, b2, b3, b4, b5, b6⟩ := B; omega
theorem zep_113 {zs0 zs1 zc0 zc2 : Int} (B : ZB zs0 zs1 zc0 zc2) (q0 : zs0 = 0 ∧ 0 < zs1) : (-zs1) ≤ 0 := by unfold ZB at B; obtain ⟨b1, b2, b3, b4, b5, b6⟩ := B; omega
theorem rmLR5 (hw : HW Z a0) (x : Nat → Addr) (uu rr u7_0 u7_1 u7_2 u7_3 u7_4 u16_0 u16_1 u17_0 u17_1 : Int32) (zs0 zs1 zc0 zc2 : Int) (h0 : Heap) (N : NX n0 x) (O : OB Z h0 x DSn (fe uu rr)) (V : EV Z h0 x [(2,[-1,1]),(3,[0,1,2,3]),(4,[0,1,1]),(6,[3,2]),(7,[u7_0,u7_1,u7_2,u7_3,u7_4]),(16,[u16_0,u16_1]),(17,[u17_0,u17_1])]) (B : ZB zs0 zs1 zc0 zc2) (q : zs0 = 0 ∧ 0 < zs1) (F10 : AD Z h0 (x 10) [zs0, zs1]) :
    Con l Z n0 ⟨DSn, "leavingRow", "(Z)I"⟩ prog_12_method_10_code 10 (some .int) ⟨1, 0, 0, 15⟩ #[(.ref (x 0)), (.int 0)] h0 (fun v h => v = some (.int (-1)) ∧ h = h0) := by
 refine con_of (plainFor_of_name pn_DS) ?_
 intro p e s m below meth c T0 K0 X0 e0
 have K : KX p s m meth c Z a0 DSn "leavingRow" prog_12_method_10_code 10 (some .int) t25 (fe uu rr) := ⟨K0, k25, lw hw uu rr⟩
 refine gE (x := x) (L := [aR 0,aI 0,aU,aU,aU,aU,aU,aU,aU,aU]) (by simp [entryFrame, mkF, argsToLocals, Value.category, gL, gS, cs, cv]) X0 e0 ?_
 refine gR K O V 2 ([aR 0,aI 0,aI (-1)]++un 7) [] rfl ?_
 refine gldc K (wd hw 197 rfl) rfl ?_
 refine gR K O V 24 ([aR 0,aI 0,aI (-1),aD 4472406533629990549,aS,aI 0]++un 4) [aI 0,aR 10] rfl ?_
 refine gdl K 0 F10 rfl rfl rfl rfl fun d0a q0a => ?_
 refine gR K O V 49 [aR 0,aI 0,aI (-1),aD 4472406533629990549,aS,aI 0,aD d0a,aS,aU,aU] [aD d0a] rfl ?_
 refine gabs K (wabs hw) zs0 0 q0a (zab_109 B q) rfl rfl (by decide) (Nat.le_of_eq rfl) (by decide) (by decide) (by decide) fun d0b q0b => ?_
 refine gR K O V 96 [aR 0,aI 0,aI (-1),aD 4472406533629990549,aS,aI 0,aD d0a,aS,aD d0b,aS] [aD 4472406533629990549,aD d0b] rfl ?_
 refine gcT K 106 ⟨_, Ep.lt q0b ep_9 (zep_110 B q), rfl⟩ rfl rfl rfl ?_
 refine gR K O V 24 [aR 0,aI 0,aI (-1),aD 4472406533629990549,aS,aI 1,aD d0a,aS,aD d0b,aS] [aI 1,aR 10] rfl ?_
 refine gdl K 1 F10 rfl rfl rfl rfl fun d0c q0c => ?_
 refine gR K O V 43 [aR 0,aI 0,aI (-1),aD 4472406533629990549,aS,aI 1,aD d0c,aS,aD d0b,aS] [aD d0c] rfl ?_
 refine gneg K (z := (-zs1)) (Dz.neg q0c zeq_69) rfl fun d0d q0d => ?_
 refine gR K O V 96 [aR 0,aI 0,aI (-1),aD 4472406533629990549,aS,aI 1,aD d0c,aS,aD d0d,aS] [aD 4472406533629990549,aD d0d] rfl ?_
 refine gcT K 106 ⟨_, Ep.lt q0d ep_9 (zep_113 B q), rfl⟩ rfl rfl rfl ?_
 refine gR K O V 113 [aR 0,aI 0,aI (-1),aD 4472406533629990549,aS,aI 2,aD d0c,aS,aD d0d,aS] [aI (-1)] rfl ?_
 exact gri K rfl (by decide) (by decide) ⟨rfl, rfl⟩
theorem rmRC5 (hw : HW Z a0) (x : Nat → Addr) (uu rr u6_0 u6_1 u7_0 u7_1 u7_2 u7_3 u7_4 u16_0 u16_1 u17_0 u17_1 : Int32) (xq : Addr) (zs0 zs1 zc0 zc2 : Int) (h0 : Heap) (N : NX n0 x) (O : OB Z h0 x DSn (fe uu rr)) (V : EV Z h0 x [(2,[-1,1]),(3,[0,1,2,3]),(4,[0,1,1]),(6,[u6_0,u6_1]),(7,[u7_0,u7_1,u7_2,u7_3,u7_4]),(16,[u16_0,u16_1]),(17,[u17_0,u17_1])]) (B : ZB zs0 zs1 zc0 zc2) (Fxq : AD Z h0 xq [0, zc2]) (F1 : AD Z h0 (x 1) [zc0, 0, zc2]) (F5 : AD Z h0 (x 5) [1, (-1), 1]) :
    Con l Z n0 ⟨DSn, "reducedCost", "(I[D)D"⟩ prog_12_method_15_code 6 (some .double) ⟨0, 0, 0, 0⟩ #[(.ref (x 0)), (.int 2), (.ref xq)] h0 (fun v h => ∃ d, v = some (.double d) ∧ h = h0 ∧ Dz 0 d) := by
 refine con_of (plainFor_of_name pn_DS) ?_
 intro p e s m below meth c T0 K0 X0 e0
 have K : KX p s m meth c Z a0 DSn "reducedCost" prog_12_method_15_code 6 (some .double) t33 (fe uu rr) := ⟨K0, k33, lw hw uu rr⟩
 refine gE (x := x) (L := [aR 0,aI 2,aA xq,aU,aU,aU]) (by simp [entryFrame, mkF, argsToLocals, Value.category, gL, gS, cs, cv]) X0 e0 ?_
 refine gR0 K O V 5 [aI 2,aR 1] rfl ?_
 refine gdl K 2 F1 rfl rfl rfl rfl fun d0a q0a => ?_
 refine gR K O V 37 [aR 0,aI 2,aA xq,aD d0a,aS,aI 2] [aI 1,aA xq,aD d0a] rfl ?_
 refine gdl K 1 Fxq rfl rfl rfl rfl fun d0b q0b => ?_
 refine gR0 K O V 44 [aI 2,aR 5,aD d0b,aD d0a] rfl ?_
 refine gdl K 2 F5 rfl rfl rfl rfl fun d0c q0c => ?_
 refine gmul K (z := zc2) (Dz.mul q0b q0c zeq_84 (zbd_64 B)) rfl fun d0d q0d => ?_
 refine gsub K (z := 0) (Dz.sub q0a q0d zeq_65 (by decide)) rfl fun d0e q0e => ?_
 refine gR K O V 55 [aR 0,aI 2,aA xq,aD d0e,aS,aI 3] [aD d0e] rfl ?_
 exact grd K rfl (by decide) (by decide) ⟨d0e, rfl, rfl, q0e⟩
theorem rmIA1 (hw : HW Z a0) (x : Nat → Addr) (uu u16_0 u16_1 u17_0 u17_1 : Int32) (zs0 zs1 zc0 zc2 : Int) (h0 : Heap) (N : NX n0 x) (O : OB Z h0 x DSn (fe uu 0)) (V : EV Z h0 x [(2,[-1,1]),(3,[0,1,2,3]),(4,[0,1,1]),(6,[3,2]),(7,[-1,-1,1,0,-1]),(16,[u16_0,u16_1]),(17,[u17_0,u17_1])]) (B : ZB zs0 zs1 zc0 zc2) (Z0 : n0 ≤ h0.size) (F1 : AD Z h0 (x 1) [zc0, 0, zc2]) (F5 : AD Z h0 (x 5) [1, (-1), 1]) (F9 : AD Z h0 (x 9) [1, 0, 0, 1]) (F10 : AD Z h0 (x 10) [zs0, zs1]) (F12 : AD Z h0 (x 12) [zs0, zs1]) (E12 : Exa Z h0 (x 12) "[D") :
    Con l Z n0 ⟨DSn, "isAccurate", "()Z"⟩ prog_12_method_13_code 7 (some .boolean) ⟨1, 2, 4, 21⟩ #[(.ref (x 0))] h0 (fun v h => v = some (.int 1) ∧ KJ x h0 h [0] ∧ OB Z h x DSn (fe uu 1) ∧ EV Z h x [(2,[-1,1]),(3,[0,1,2,3]),(4,[0,1,1]),(6,[3,2]),(7,[-1,-1,1,0,-1]),(16,[u16_0,u16_1]),(17,[u17_0,u17_1])]) := by
 refine con_of (plainFor_of_name pn_DS) ?_
 intro p e s m below meth c T0 K0 X0 e0
 have K : KX p s m meth c Z a0 DSn "isAccurate" prog_12_method_13_code 7 (some .boolean) t31 (fe uu 0) := ⟨K0, k31, lw hw uu 0⟩
 refine gE (x := x) (L := [aR 0,aU,aU,aU,aU,aU,aU]) (by simp [entryFrame, mkF, argsToLocals, Value.category, gL, gS, cs, cv]) X0 e0 ?_
 refine gR0 K O V 4 [aR 12] rfl ?_
 refine gcl K (wclone hw) 2 0 F12 E12 rfl rfl rfl rfl (by decide) (Nat.le_of_eq rfl) (by decide) (by decide) (by decide) fun h0a b0a g0a (W0a : KJ x h0 h0a []) f0a e0a => ?_
 have g0b : n0 ≤ b0a := Nat.le_trans Z0 g0a
 refine gcc K (wd hw 67 rfl) e0a rfl rfl ?_
 obtain ⟨O0c, V0c⟩ := ov N O V (js := []) W0a rfl rfl rfl
 refine gR K O0c V0c 33 [aR 0,aA b0a,aI 0,aI 3,aU,aU,aU] [aI 0,aR 10] rfl ?_
 have f0d := F10.keep W0a (nx N 10 rfl)
 refine gdl K 0 f0d rfl rfl rfl rfl fun d0e q0e => ?_
 refine gR K O0c V0c 52 [aR 0,aA b0a,aI 0,aI 3,aD d0e,aS,aU] [aI 0,aA b0a,aI 0,aA b0a] rfl ?_
 refine gdl K 0 f0a rfl rfl rfl rfl fun d0f q0f => ?_
 refine gR0 K O0c V0c 55 [aD d0e,aD d0f,aI 0,aA b0a] rfl ?_
 refine gsub K (z := 0) (Dz.sub q0f q0e zeq_99 (by decide)) rfl fun d0g q0g => ?_
 refine gds K 0 f0a rfl rfl rfl q0g g0b rfl fun h0h (W0h : Keep h0a h0h [b0a]) (f0h : AD Z h0h b0a [0, zs1]) => ?_
 have k0i := kf (js := []) W0a W0h g0a
 obtain ⟨O0j, V0j⟩ := ov N O V (js := []) k0i rfl rfl rfl
 refine gR K O0j V0j 33 [aR 0,aA b0a,aI 1,aI 2,aD d0e,aS,aU] [aI 1,aR 10] rfl ?_
 have f0k := F10.keep k0i (nx N 10 rfl)
 refine gdl K 1 f0k rfl rfl rfl rfl fun d0l q0l => ?_
 refine gR K O0j V0j 90 [aR 0,aA b0a,aI 1,aI 2,aD d0l,aS,aI 2] [aI 1,aA b0a,aI 1,aA b0a] rfl ?_
 refine gdl K 1 f0h rfl rfl rfl rfl fun d0m q0m => ?_
 refine gR0 K O0j V0j 97 [aI 2,aR 5,aD d0m,aI 1,aA b0a] rfl ?_
 have f0n := F5.keep k0i (nx N 5 rfl)
 refine gdl K 2 f0n rfl rfl rfl rfl fun d0o q0o => ?_
 refine gR0 K O0j V0j 100 [aD d0l,aD d0o,aD d0m,aI 1,aA b0a] rfl ?_
 refine gmul K (z := zs1) (Dz.mul q0o q0l zeq_93 (zbd_2 B)) rfl fun d0p q0p => ?_
 refine gsub K (z := 0) (Dz.sub q0m q0p zeq_101 (by decide)) rfl fun d0q q0q => ?_
 refine gds K 1 f0h rfl rfl rfl q0q g0b rfl fun h0r (W0r : Keep h0h h0r [b0a]) (f0r : AD Z h0r b0a [0, 0]) => ?_
 have k0s := kf (js := []) k0i W0r g0a
 obtain ⟨O0t, V0t⟩ := ov N O V (js := []) k0s rfl rfl rfl
 refine gR K O0t V0t 118 [aR 0,aA b0a,aA b0a,aI 2,aD d0l,aS,aI 3] [aA b0a] rfl ?_
 refine gal K 2 f0r rfl rfl rfl ?_
 refine gR K O0t V0t 132 [aR 0,aA b0a,aA b0a,aI 2,aI 0,aU,aI 3] [aI 0,aA b0a] rfl ?_
 refine gdl K 0 f0r rfl rfl rfl rfl fun d0u q0u => ?_
 refine gR K O0t V0t 137 [aR 0,aA b0a,aA b0a,aI 2,aI 0,aD d0u,aS] [aD d0u] rfl ?_
 refine gabs K (wabs hw) 0 0 q0u rfl rfl rfl (by decide) (Nat.le_of_eq rfl) (by decide) (by decide) (by decide) fun d0v q0v => ?_
 refine gldc K (wd hw 216 rfl) rfl ?_
 refine gcT K 149 ⟨_, Ep.lt q0v ep_7 (by decide), rfl⟩ rfl rfl rfl ?_
 refine gR K O0t V0t 132 [aR 0,aA b0a,aA b0a,aI 2,aI 1,aD d0u,aS] [aI 1,aA b0a] rfl ?_
 refine gdl K 1 f0r rfl rfl rfl rfl fun d0w q0w => ?_
 refine gR K O0t V0t 137 [aR 0,aA b0a,aA b0a,aI 2,aI 1,aD d0w,aS] [aD d0w] rfl ?_
 refine gabs K (wabs hw) 0 0 q0w rfl rfl rfl (by decide) (Nat.le_of_eq rfl) (by decide) (by decide) (by decide) fun d0x q0x => ?_
 refine gldc K (wd hw 216 rfl) rfl ?_
 refine gcT K 149 ⟨_, Ep.lt q0x ep_7 (by decide), rfl⟩ rfl rfl rfl ?_
 refine gR K O0t V0t 163 [aR 0,aA b0a,aA b0a,aI 2,aI 2,aD d0w,aS] [aR 0] rfl ?_
 have f0y := F1.keep k0s (nx N 1 rfl)
 have f0z := F9.keep k0s (nx N 9 rfl)
 refine gP K (w_prices hw) O0t (rmPR0 hw x uu 0 (-1) (-1) 1 0 (-1) u16_0 u16_1 u17_0 u17_1 zs0 zs1 zc0 zc2 h0r N O0t V0t B (Nat.le_trans (Nat.le_trans (Nat.le_trans Z0 W0a.1) W0h.1) W0r.1) f0y f0z) [] 0 rfl rfl rfl rfl (by decide) (Nat.le_of_eq rfl) (by decide) (by decide) (by decide) ?_
 rintro h1a _ ⟨b1a, rfl, W1a, g1a, f1a⟩
 have g1b : n0 ≤ b1a := Nat.le_trans (Nat.le_trans (Nat.le_trans (Nat.le_trans Z0 W0a.1) W0h.1) W0r.1) g1a
 refine sh (FA m x 166 [aR 0,aA b0a,aA b0a,aI 2,aI 2,aD d0w,aS] [aA b1a]) rfl ?_
 have k1c := kx [] (js' := []) k0s W1a rfl rfl
 obtain ⟨O1d, V1d⟩ := ov N O V (js := []) k1c rfl rfl rfl
 refine gR K O1d V1d 180 [aR 0,aA b0a,aA b1a,aI 0,aI 2,aD d0w,aS] [aA b1a,aI 0,aR 0] rfl ?_
 have f1e := F1.keep k1c (nx N 1 rfl)
 have f1f := F5.keep k1c (nx N 5 rfl)
 refine gPd K (w_reducedCost hw) O1d (rmRC0 hw x uu 0 3 2 (-1) (-1) 1 0 (-1) u16_0 u16_1 u17_0 u17_1 b1a zs0 zs1 zc0 zc2 h1a N O1d V1d B f1a f1e f1f) [] 0 rfl rfl rfl rfl (by decide) (Nat.le_of_eq rfl) (by decide) (by decide) (by decide) fun d1g q1g => ?_
 refine gR K O1d V1d 203 [aR 0,aA b0a,aA b1a,aI 0,aD d1g,aS,aI 0] [aD d1g] rfl ?_
 refine gldc K (wd hw 229 rfl) rfl ?_
 refine gcF K ⟨_, En.gt q1g en_7 (zep_103 B), rfl⟩ rfl rfl ?_
 refine gR K O1d V1d 180 [aR 0,aA b0a,aA b1a,aI 1,aD d1g,aS,aI 0] [aA b1a,aI 1,aR 0] rfl ?_
 refine gPd K (w_reducedCost hw) O1d (rmRC1 hw x uu 0 3 2 (-1) (-1) 1 0 (-1) u16_0 u16_1 u17_0 u17_1 b1a zs0 zs1 zc0 zc2 h1a N O1d V1d B f1a f1e f1f) [] 0 rfl rfl rfl rfl (by decide) (Nat.le_of_eq rfl) (by decide) (by decide) (by decide) fun d1h q1h => ?_
 refine gR K O1d V1d 203 [aR 0,aA b0a,aA b1a,aI 1,aD d1h,aS,aI 0] [aD d1h] rfl ?_
 refine gldc K (wd hw 229 rfl) rfl ?_
 refine gcF K ⟨_, En.gt q1h en_7 (zep_108 B), rfl⟩ rfl rfl ?_
 refine gR K O1d V1d 180 [aR 0,aA b0a,aA b1a,aI 2,aD d1h,aS,aI 0] [aA b1a,aI 2,aR 0] rfl ?_
 refine gPd K (w_reducedCost hw) O1d (rmRC5 hw x uu 0 3 2 (-1) (-1) 1 0 (-1) u16_0 u16_1 u17_0 u17_1 b1a zs0 zs1 zc0 zc2 h1a N O1d V1d B f1a f1e f1f) [] 0 rfl rfl rfl rfl (by decide) (Nat.le_of_eq rfl) (by decide) (by decide) (by decide) fun d1i q1i => ?_
 refine gR K O1d V1d 203 [aR 0,aA b0a,aA b1a,aI 2,aD d1i,aS,aI 1] [aD d1i] rfl ?_
 refine gldc K (wd hw 229 rfl) rfl ?_
 refine gcF K ⟨_, En.gt q1i en_7 (by decide), rfl⟩ rfl rfl ?_
 refine gR0 K O1d V1d 217 [aD d1i] rfl ?_
 refine gldc K (wd hw 216 rfl) rfl ?_
 refine gcT K 226 ⟨_, Ep.lt q1i ep_7 (by decide), rfl⟩ rfl rfl rfl ?_
 refine gR K O1d V1d 234 [aR 0,aA b0a,aA b1a,aI 3,aD d1i,aS,aI 1] [aI 1,aR 0] rfl ?_
 refine grcc K hw O1d N (Or.inr rfl) rfl fun h1j (W1j : KJ x h1a h1j [0]) O1j => ?_
 have K := K.re hw uu 1
 have V1j := V1d.keep N (js := [0]) W1j rfl rfl
 refine gR0 K O1j V1j 238 [aI 1] rfl ?_
 have k1k := kx [0] (js' := [0]) k1c W1j rfl rfl
 exact grz K (Or.inr rfl) rfl (by decide) (by decide) ⟨rfl, k1k, O1j, V1j⟩
theorem rmPvs4 (hw : HW Z a0) (x : Nat → Addr) (u16_0 u16_1 : Int32) (zs0 zs1 zc0 zc2 : Int) (h0 : Heap) (N : NX n0 x) (O : OB Z h0 x DSn (fe 0 0)) (V : EV Z h0 x [(2,[-1,1]),(3,[0,1,2,3]),(4,[0,1,1]),(6,[3,1]),(7,[-1,1,-1,0,-1]),(16,[u16_0,u16_1]),(17,[0,0])]) (B : ZB zs0 zs1 zc0 zc2) (q : zs0 = 0 ∧ 0 < zs1) (Z0 : n0 ≤ h0.size) (F1 : AD Z h0 (x 1) [zc0, 0, zc2]) (F5 : AD Z h0 (x 5) [1, (-1), 1]) (F9 : AD Z h0 (x 9) [1, 0, 0, (-1)]) (F10 : AD Z h0 (x 10) [zs0, (-zs1)]) (F11 : AD Z h0 (x 11) [zc0, 0, zc2]) (F12 : AD Z h0 (x 12) [zs0, zs1]) (F13 : AD Z h0 (x 13) [0, 0, 0]) (F14 : AD Z h0 (x 14) [0, 0]) (F15 : AD Z h0 (x 15) [0, 0]) (E12 : Exa Z h0 (x 12) "[D") :
    Con l Z n0 ⟨DSn, "pivots", "()I"⟩ prog_12_method_9_code 6 (some .int) ⟨2, 2, 4, 51⟩ #[(.ref (x 0))] h0 (fun v h => v = some (.int 0) ∧ KJ x h0 h [0,6,7,9,10,11,13,14] ∧ OB Z h x DSn (fe 1 1) ∧ EV Z h x [(2,[-1,1]),(3,[0,1,2,3]),(4,[0,1,1]),(6,[3,2]),(7,[-1,-1,1,0,-1]),(16,[u16_0,u16_1]),(17,[0,0])] ∧ AD Z h (x 10) [zs0, zs1]) := by
 refine con_of (plainFor_of_name pn_DS) ?_
 intro p e s m below meth c T0 K0 X0 e0
 have K : KX p s m meth c Z a0 DSn "pivots" prog_12_method_9_code 6 (some .int) t24 (fe 0 0) := ⟨K0, k24, lw hw 0 0⟩
 refine gE (x := x) (L := [aR 0,aU,aU,aU,aU,aU]) (by simp [entryFrame, mkF, argsToLocals, Value.category, gL, gS, cs, cv]) X0 e0 ?_
 refine gR K O V 43 [aR 0,aI 5,aI 0,aI 0,aU,aU] [aI 0,aR 0] rfl ?_
 refine gPi K (w_leavingRow hw) O (rmLR4 hw x 0 0 (-1) 1 (-1) 0 (-1) u16_0 u16_1 0 0 zs0 zs1 zc0 zc2 h0 N O V B q F10) [] 0 rfl rfl rfl rfl (by decide) (Nat.le_of_eq rfl) (by decide) (by decide) (by decide) ?_
 refine gR K O V 82 [aR 0,aI 5,aI 0,aI 0,aI 1,aU] [aI 0,aI 1,aR 0] rfl ?_
 refine gP K (w_enteringColumn hw) O (rmEC1 hw x 0 0 3 1 u16_0 u16_1 0 0 0 0 0 zs0 zs1 zc0 zc2 h0 N O V B (zph_112 B q) F5 F9 F10 F11 F13) [] 0 rfl rfl rfl rfl (by decide) (Nat.le_of_eq rfl) (by decide) (by decide) (by decide) ?_
 rintro h0a _ ⟨rfl, W0a, f0a⟩
 refine sh (FA m x 85 [aR 0,aI 5,aI 0,aI 0,aI 1,aU] [aI 2]) rfl ?_
 obtain ⟨O0b, V0b⟩ := ov N O V (js := [13]) W0a rfl rfl rfl
 refine gR K O0b V0b 113 [aR 0,aI 5,aI 0,aI 0,aI 1,aI 2] [aI 2,aI 1,aR 0] rfl ?_
 have f0c := F5.keep W0a (nx N 5 rfl)
 have f0d := F9.keep W0a (nx N 9 rfl)
 have f0e := F10.keep W0a (nx N 10 rfl)
 have f0f := F11.keep W0a (nx N 11 rfl)
 have f0g := F14.keep W0a (nx N 14 rfl)
 refine gP K (w_pivot hw) O0b (rmPV0 hw x 0 u16_0 u16_1 0 0 0 0 zs0 zs1 zc0 zc2 h0a N O0b V0b B f0c f0d f0e f0f f0a f0g) [] 0 rfl rfl rfl rfl (by decide) (Nat.le_of_eq rfl) (by decide) (by decide) (by decide) ?_
 rintro h0h _ ⟨rfl, W0h, O0h, V0h, f0h_9, f0h_10, f0h_11, f0h_14⟩
 have K := K.re hw 1 0
 refine sh (FA m x 116 [aR 0,aI 5,aI 0,aI 0,aI 1,aI 2] [aI 1]) rfl ?_
 refine gR K O0h V0h 43 [aR 0,aI 5,aI 0,aI 1,aI 1,aI 2] [aI 0,aR 0] rfl ?_
 refine gPi K (w_leavingRow hw) O0h (rmLR5 hw x 1 0 (-1) (-1) 1 0 (-1) u16_0 u16_1 0 0 zs0 zs1 zc0 zc2 h0h N O0h V0h B q f0h_10) [] 0 rfl rfl rfl rfl (by decide) (Nat.le_of_eq rfl) (by decide) (by decide) (by decide) ?_
 refine gR K O0h V0h 54 [aR 0,aI 5,aI 0,aI 1,aI (-1),aI 2] [aR 0] rfl ?_
 have k0i := kx [0,6,7,9,10,11,13,14] (js' := [0,6,7,9,10,11,14]) W0a W0h rfl rfl
 have f0j := F1.keep k0i (nx N 1 rfl)
 have f0k := F5.keep k0i (nx N 5 rfl)
 have f0l := F12.keep k0i (nx N 12 rfl)
 have e0m := ((E12.keep W0a).keep W0h)
 refine gP K (w_isAccurate hw) O0h (rmIA1 hw x 1 u16_0 u16_1 0 0 zs0 zs1 zc0 zc2 h0h N O0h V0h B (Nat.le_trans (Nat.le_trans Z0 W0a.1) W0h.1) f0j f0k f0h_9 f0h_10 f0l e0m) [] 0 rfl rfl rfl rfl (by decide) (Nat.le_of_eq rfl) (by decide) (by decide) (by decide) ?_
 rintro h0n _ ⟨rfl, W0n, O0n, V0n⟩
 have K := K.re hw 1 1
 refine sh (FA m x 57 [aR 0,aI 5,aI 0,aI 1,aI (-1),aI 2] [aI 1]) rfl ?_
 refine gR0 K O0n V0n 61 [aI 0] rfl ?_
 have f0o := f0h_10.keep W0n (nx N 10 rfl)
 have k0p := kx [0,6,7,9,10,11,13,14] (js' := [0]) k0i W0n rfl rfl
 exact gri K rfl (by decide) (by decide) ⟨rfl, k0p, O0n, V0n, f0o⟩
theorem rmSol4 (hw : HW Z a0) (x : Nat → Addr) (xin : Addr) (zs0 zs1 zc0 zc2 : Int) (h0 : Heap) (N : NX n0 x) (O : OB Z h0 x DSn (fe 0 0)) (V : EV Z h0 x [(2,[-1,1]),(3,[0,1,2,3]),(4,[0,1,1]),(6,[3,1]),(7,[-1,1,-1,0,-1]),(16,[0,0]),(17,[0,0])]) (B : ZB zs0 zs1 zc0 zc2) (q : zs0 = 0 ∧ 0 < zs1) (Z0 : n0 ≤ h0.size) (Fxin : AD Z h0 xin [zs0, zs1]) (F1 : AD Z h0 (x 1) [zc0, 0, zc2]) (F5 : AD Z h0 (x 5) [1, (-1), 1]) (F9 : AD Z h0 (x 9) [1, 0, 0, (-1)]) (F10 : AD Z h0 (x 10) [0, 0]) (F11 : AD Z h0 (x 11) [zc0, 0, zc2]) (F12 : AD Z h0 (x 12) [0, 0]) (F13 : AD Z h0 (x 13) [0, 0, 0]) (F14 : AD Z h0 (x 14) [0, 0]) (F15 : AD Z h0 (x 15) [0, 0]) (E12 : Exa Z h0 (x 12) "[D") (I : xin ∉ [x 16] ∧ xin ∉ [x 10] ∧ xin ∉ [x 12]) :
    Con l Z n0 ⟨DSn, "solve", "([D)Z"⟩ prog_12_method_2_code 3 (some .boolean) ⟨3, 2, 4, 84⟩ #[(.ref (x 0)), (.ref xin)] h0 (fun v h => ∃ ka kb : Int32, v = some (.int 1) ∧ KJ x h0 h [0,6,7,9,10,11,12,13,14,16] ∧ OB Z h x DSn (fe 1 1) ∧ EV Z h x [(2,[-1,1]),(3,[0,1,2,3]),(4,[0,1,1]),(6,[3,2]),(7,[-1,-1,1,0,-1]),(16,[ka,kb]),(17,[0,0])] ∧ AD Z h (x 1) [zc0, 0, zc2] ∧ AD Z h (x 10) [zs0, zs1]) := by
 refine con_of (plainFor_of_name pn_DS) ?_
 intro p e s m below meth c T0 K0 X0 e0
 have K : KX p s m meth c Z a0 DSn "solve" prog_12_method_2_code 3 (some .boolean) t22 (fe 0 0) := ⟨K0, k22, lw hw 0 0⟩
 refine gE (x := x) (L := [aR 0,aA xin,aU]) (by simp [entryFrame, mkF, argsToLocals, Value.category, gL, gS, cs, cv]) X0 e0 ?_
 refine gR0 K O V 1 [aA xin] rfl ?_
 refine gal K 2 Fxin rfl rfl rfl ?_
 refine gR0 K O V 30 [aA xin,aR 0] rfl ?_
 refine gP K (w_moveValues hw) O (rmMv hw x 0 0 3 1 (-1) 1 (-1) 0 (-1) 0 0 xin zs0 zs1 zc0 zc2 h0 N O V B Fxin F9 F10 F12 I) [] 0 rfl rfl rfl rfl (by decide) (Nat.le_of_eq rfl) (by decide) (by decide) (by decide) ?_
 rintro h0a _ ⟨rfl, ka0a, kb0a, W0a, O0a, V0a, f0a_10, f0a_12⟩
 refine sh (FA m x 33 [aR 0,aA xin,aU] []) rfl ?_
 refine gR0 K O0a V0a 34 [aR 0] rfl ?_
 have f0b := F1.keep W0a (nx N 1 rfl)
 have f0c := F5.keep W0a (nx N 5 rfl)
 have f0d := F9.keep W0a (nx N 9 rfl)
 have f0e := F11.keep W0a (nx N 11 rfl)
 have f0f := F13.keep W0a (nx N 13 rfl)
 have f0g := F14.keep W0a (nx N 14 rfl)
 have f0h := F15.keep W0a (nx N 15 rfl)
 have e0i := (E12.keep W0a)
 refine gP K (w_pivots hw) O0a (rmPvs4 hw x ka0a kb0a zs0 zs1 zc0 zc2 h0a N O0a V0a B q (Nat.le_trans Z0 W0a.1) f0b f0c f0d f0a_10 f0e f0a_12 f0f f0g f0h e0i) [] 0 rfl rfl rfl rfl (by decide) (Nat.le_of_eq rfl) (by decide) (by decide) (by decide) ?_
 rintro h0j _ ⟨rfl, W0j, O0j, V0j, f0j_10⟩
 have K := K.re hw 1 1
 refine sh (FA m x 37 [aR 0,aA xin,aU] [aI 0]) rfl ?_
 refine gR K O0j V0j 87 [aR 0,aA xin,aI 0] [aI 1] rfl ?_
 have k0k := kx [0,6,7,9,10,11,12,13,14,16] (js' := [0,6,7,9,10,11,13,14]) W0a W0j rfl rfl
 have f0l := F1.keep k0k (nx N 1 rfl)
 exact grz K (Or.inr rfl) rfl (by decide) (by decide) ⟨ka0a, kb0a, rfl, k0k, O0j, V0j, f0l, f0j_10⟩
theorem zab_114 {zs0 zs1 zc0 zc2 : Int} (B : ZB zs0 zs1 zc0 zc2) (q0 : 0 < zs0 ∧ zs1 ≤ 0) : ((zs0).natAbs : Int) = zs0 := by unfold ZB at B; obtain ⟨b1, b2, b3, b4, b5, b6⟩ := B; omega
theorem zep_115 {zs0 zs1 zc0 zc2 : Int} (B : ZB zs0 zs1 zc0 zc2) (q0 : 0 < zs0 ∧ zs1 ≤ 0) : 0 < zs0 := by unfold ZB at B; obtain ⟨b1, b2, b3, b4, b5, b6⟩ := B; omega
theorem zcm_116 {zs0 zs1 zc0 zc2 : Int} (B : ZB zs0 zs1 zc0 zc2) (q0 : 0 < zs0 ∧ zs1 ≤ 0) : ¬ zs0 < zs1 := by unfold ZB at B; obtain ⟨b1, b2, b3, b4, b5, b6⟩ := B; omega
theorem rmLR6 (hw : HW Z a0) (x : Nat → Addr) (uu rr u7_0 u7_1 u7_2 u7_3 u7_4 u16_0 u16_1 u17_0 u17_1 : Int32) (zs0 zs1 zc0 zc2 : Int) (h0 : Heap) (N : NX n0 x) (O : OB Z h0 x DSn (fe uu rr)) (V : EV Z h0 x [(2,[-1,1]),(3,[0,1,2,3]),(4,[0,1,1]),(6,[3,1]),(7,[u7_0,u7_1,u7_2,u7_3,u7_4]),(16,[u16_0,u16_1]),(17,[u17_0,u17_1])]) (B : ZB zs0 zs1 zc0 zc2) (q : 0 < zs0 ∧ zs1 ≤ 0) (F10 : AD Z h0 (x 10) [zs0, (-zs1)]) :
    Con l Z n0 ⟨DSn, "leavingRow", "(Z)I"⟩ prog_12_method_10_code 10 (some .int) ⟨1, 0, 0, 15⟩ #[(.ref (x 0)), (.int 0)] h0 (fun v h => v = some (.int 0) ∧ h = h0) := by
 refine con_of (plainFor_of_name pn_DS) ?_
 intro p e s m below meth c T0 K0 X0 e0
 have K : KX p s m meth c Z a0 DSn "leavingRow" prog_12_method_10_code 10 (some .int) t25 (fe uu rr) := ⟨K0, k25, lw hw uu rr⟩
 refine gE (x := x) (L := [aR 0,aI 0,aU,aU,aU,aU,aU,aU,aU,aU]) (by simp [entryFrame, mkF, argsToLocals, Value.category, gL, gS, cs, cv]) X0 e0 ?_
 refine gR K O V 2 ([aR 0,aI 0,aI (-1)]++un 7) [] rfl ?_
 refine gldc K (wd hw 197 rfl) rfl ?_
 refine gR K O V 24 ([aR 0,aI 0,aI (-1),aD 4472406533629990549,aS,aI 0]++un 4) [aI 0,aR 10] rfl ?_
 refine gdl K 0 F10 rfl rfl rfl rfl fun d0a q0a => ?_
 refine gR K O V 49 [aR 0,aI 0,aI (-1),aD 4472406533629990549,aS,aI 0,aD d0a,aS,aU,aU] [aD d0a] rfl ?_
 refine gabs K (wabs hw) zs0 0 q0a (zab_114 B q) rfl rfl (by decide) (Nat.le_of_eq rfl) (by decide) (by decide) (by decide) fun d0b q0b => ?_
 refine gR K O V 96 [aR 0,aI 0,aI (-1),aD 4472406533629990549,aS,aI 0,aD d0a,aS,aD d0b,aS] [aD 4472406533629990549,aD d0b] rfl ?_
 refine gcF K ⟨_, Ep.gt q0b ep_9 (zep_115 B q), rfl⟩ rfl rfl ?_
 refine gR K O V 24 [aR 0,aI 0,aI 0,aD d0b,aS,aI 1,aD d0a,aS,aD d0b,aS] [aI 1,aR 10] rfl ?_
 refine gdl K 1 F10 rfl rfl rfl rfl fun d0c q0c => ?_
 refine gR K O V 43 [aR 0,aI 0,aI 0,aD d0b,aS,aI 1,aD d0c,aS,aD d0b,aS] [aD d0c] rfl ?_
 refine gneg K (z := zs1) (Dz.neg q0c zeq_18) rfl fun d0d q0d => ?_
 refine gR K O V 96 [aR 0,aI 0,aI 0,aD d0b,aS,aI 1,aD d0c,aS,aD d0d,aS] [aD d0b,aD d0d] rfl ?_
 refine gcT K 106 (Dz.tk (cd := .le) q0d q0b (zcm_116 B q)) rfl rfl rfl ?_
 refine gR K O V 113 [aR 0,aI 0,aI 0,aD d0b,aS,aI 2,aD d0c,aS,aD d0d,aS] [aI 0] rfl ?_
 exact gri K rfl (by decide) (by decide) ⟨rfl, rfl⟩
theorem zcm_121 {zs0 zs1 zc0 zc2 : Int} (B : ZB zs0 zs1 zc0 zc2) (q0 : 0 < zs0) : ¬ zs0 < 0 := by unfold ZB at B; obtain ⟨b1, b2, b3, b4, b5, b6⟩ := B; omega
theorem zmx_123 {zs0 zs1 zc0 zc2 : Int} (B : ZB zs0 zs1 zc0 zc2) (q0 : 0 < zs0) : (if 0 < zc0 then zc0 else 0) = zc0 := by unfold ZB at B; obtain ⟨b1, b2, b3, b4, b5, b6⟩ := B; split <;> omega
theorem znn_124 {zs0 zs1 zc0 zc2 : Int} (B : ZB zs0 zs1 zc0 zc2) (q0 : 0 < zs0) : 0 ≤ zc0 ∧ zc0 ≤ 1048575 := by unfold ZB at B; obtain ⟨b1, b2, b3, b4, b5, b6⟩ := B; omega
theorem rmEC3 (hw : HW Z a0) (x : Nat → Addr) (uu rr u6_0 u6_1 u16_0 u16_1 u17_0 u17_1 : Int32) (y13_0 y13_1 y13_2 : Int) (zs0 zs1 zc0 zc2 : Int) (h0 : Heap) (N : NX n0 x) (O : OB Z h0 x DSn (fe uu rr)) (V : EV Z h0 x [(2,[-1,1]),(3,[0,1,2,3]),(4,[0,1,1]),(6,[u6_0,u6_1]),(7,[-1,1,-1,0,-1]),(16,[u16_0,u16_1]),(17,[u17_0,u17_1])]) (B : ZB zs0 zs1 zc0 zc2) (q : 0 < zs0) (F5 : AD Z h0 (x 5) [1, (-1), 1]) (F9 : AD Z h0 (x 9) [1, 0, 0, (-1)]) (F10 : AD Z h0 (x 10) [zs0, (-zs1)]) (F11 : AD Z h0 (x 11) [zc0, 0, zc2]) (F13 : AD Z h0 (x 13) [y13_0, y13_1, y13_2]) :
    Con l Z n0 ⟨DSn, "enteringColumn", "(IZ)I"⟩ prog_12_method_11_code 17 (some .int) ⟨1, 0, 0, 17⟩ #[(.ref (x 0)), (.int 0), (.int 0)] h0 (fun v h => v = some (.int 0) ∧ KJ x h0 h [13] ∧ AD Z h (x 13) [1, 0, 0]) := by
 refine con_of (plainFor_of_name pn_DS) ?_
 intro p e s m below meth c T0 K0 X0 e0
 have K : KX p s m meth c Z a0 DSn "enteringColumn" prog_12_method_11_code 17 (some .int) t27 (fe uu rr) := ⟨K0, k27, lw hw uu rr⟩
 refine gE (x := x) (L := [aR 0,aI 0,aI 0,aU,aU,aU,aU,aU,aU,aU,aU,aU,aU,aU,aU,aU,aU]) (by simp [entryFrame, mkF, argsToLocals, Value.category, gL, gS, cs, cv]) X0 e0 ?_
 refine gR0 K O V 2 [aI 0,aR 0] rfl ?_
 refine gPr K (w_block hw) O (rmBlk0 hw x uu rr u6_0 u6_1 (-1) 1 (-1) 0 (-1) u16_0 u16_1 u17_0 u17_1 zs0 zs1 zc0 zc2 h0 N O V B) [] 0 rfl rfl rfl rfl (by decide) (Nat.le_of_eq rfl) (by decide) (by decide) (by decide) ?_
 refine gR K O V 8 ([aR 0,aI 0,aI 0,aR 9]++un 13) [aI 0,aR 0] rfl ?_
 refine gPi K (w_first hw) O (rmFst0 hw x uu rr u6_0 u6_1 (-1) 1 (-1) 0 (-1) u16_0 u16_1 u17_0 u17_1 zs0 zs1 zc0 zc2 h0 N O V B) [] 0 rfl rfl rfl rfl (by decide) (Nat.le_of_eq rfl) (by decide) (by decide) (by decide) ?_
 refine gR K O V 74 ([aR 0,aI 0,aI 0,aR 9,aI 0,aI 0,aD 0,aS,aI 0]++un 8) [aI 0,aR 9,aD 0] rfl ?_
 refine gdl K 0 F9 rfl rfl rfl rfl fun d0a q0a => ?_
 refine gR0 K O V 81 [aI 0,aR 5,aD d0a,aD 0] rfl ?_
 refine gdl K 0 F5 rfl rfl rfl rfl fun d0b q0b => ?_
 refine gmul K (z := 1) (Dz.mul q0a q0b rfl (by decide)) rfl fun d0c q0c => ?_
 refine gadd K (z := 1) (Dz.add Dz.zero q0c rfl (by decide)) rfl fun d0d q0d => ?_
 refine gR K O V 100 ([aR 0,aI 0,aI 0,aR 9,aI 0,aI 0,aD d0d,aS,aI 1]++un 8) [aD d0d,aI 0,aR 13] rfl ?_
 refine gds K 0 F13 rfl rfl rfl q0d (N.ge 13 rfl) rfl fun h0e (W0e : KJ x h0 h0e [13]) (f0e : AD Z h0e (x 13) [1, y13_1, y13_2]) => ?_
 obtain ⟨O0f, V0f⟩ := ov N O V (js := [13]) W0e rfl rfl rfl
 refine gR K O0f V0f 100 ([aR 0,aI 0,aI 0,aR 9,aI 0,aI 1,aD 0,aS,aI 1]++un 8) [aD 0,aI 1,aR 13] rfl ?_
 refine gds K 1 f0e rfl rfl rfl Dz.zero (N.ge 13 rfl) rfl fun h0g (W0g : KJ x h0e h0g [13]) (f0g : AD Z h0g (x 13) [1, 0, y13_2]) => ?_
 have k0h := kx [13] (js' := [13]) W0e W0g rfl rfl
 obtain ⟨O0i, V0i⟩ := ov N O V (js := [13]) k0h rfl rfl rfl
 refine gR K O0i V0i 74 ([aR 0,aI 0,aI 0,aR 9,aI 0,aI 2,aD 0,aS,aI 2]++un 8) [aI 1,aR 9,aD 0] rfl ?_
 have f0j := F9.keep k0h (nx N 9 rfl)
 refine gdl K 1 f0j rfl rfl rfl rfl fun d0k q0k => ?_
 refine gR0 K O0i V0i 81 [aI 2,aR 5,aD d0k,aD 0] rfl ?_
 have f0l := F5.keep k0h (nx N 5 rfl)
 refine gdl K 2 f0l rfl rfl rfl rfl fun d0m q0m => ?_
 refine gmul K (z := 0) (Dz.mul q0k q0m rfl (by decide)) rfl fun d0n q0n => ?_
 refine gadd K (z := 0) (Dz.add Dz.zero q0n rfl (by decide)) rfl fun d0o q0o => ?_
 refine gR K O0i V0i 100 ([aR 0,aI 0,aI 0,aR 9,aI 0,aI 2,aD d0o,aS,aI 3]++un 8) [aD d0o,aI 2,aR 13] rfl ?_
 refine gds K 2 f0g rfl rfl rfl q0o (N.ge 13 rfl) rfl fun h0p (W0p : KJ x h0g h0p [13]) (f0p : AD Z h0p (x 13) [1, 0, 0]) => ?_
 have k0q := kx [13] (js' := [13]) k0h W0p rfl rfl
 obtain ⟨O0r, V0r⟩ := ov N O V (js := [13]) k0q rfl rfl rfl
 refine gR K O0r V0r 112 ([aR 0,aI 0,aI 0,aR 9,aI 0,aI 3,aD d0o,aS,aI 3]++un 8) [aI 0,aR 10] rfl ?_
 have f0s := F10.keep k0q (nx N 10 rfl)
 refine gdl K 0 f0s rfl rfl rfl rfl fun d0t q0t => ?_
 refine gR0 K O0r V0r 114 [aD 0,aD d0t] rfl ?_
 refine gcT K 124 (Dz.tk (cd := .ge) q0t Dz.zero (zcm_121 B q)) rfl rfl rfl ?_
 refine gR K O0r V0r 135 ([aR 0,aI 0,aI 0,aR 9,aI 0,aD 4607182418800017408,aS,aU,aI 3]++un 8) [] rfl ?_
 refine gldc K (wd hw 197 rfl) rfl ?_
 refine gR K O0r V0r 140 ([aR 0,aI 0,aI 0,aR 9,aI 0,aD 4607182418800017408,aS,aD 4472406533629990549,aS]++un 8) [] rfl ?_
 refine gldc K (wd hw 205 rfl) rfl ?_
 refine gR K O0r V0r 165 ([aR 0,aI 0,aI 0,aR 9,aI 0,aD 4607182418800017408,aS,aD 4472406533629990549,aS,aD 9218868437227405312,aS,aI 0]++un 5) [aI 0,aR 13,aD 4607182418800017408] rfl ?_
 refine gdl K 0 f0p rfl rfl rfl rfl fun d0u q0u => ?_
 refine gmul K (z := 1) (Dz.mul Dz.one q0u rfl (by decide)) rfl fun d0v q0v => ?_
 refine gR K O0r V0r 171 [aR 0,aI 0,aI 0,aR 9,aI 0,aD 4607182418800017408,aS,aD 4472406533629990549,aS,aD 9218868437227405312,aS,aI 0,aD d0v,aS,aU,aU,aU] [aD d0v] rfl ?_
 refine gldc K (wd hw 197 rfl) rfl ?_
 refine gcF K ⟨_, Ep.gt q0v ep_9 (by decide), rfl⟩ rfl rfl ?_
 refine gR0 K O0r V0r 187 [aI 0,aR 11,aD 0,aD 9218868437227405312] rfl ?_
 have f0w := F11.keep k0q (nx N 11 rfl)
 refine gdl K 0 f0w rfl rfl rfl rfl fun d0x q0x => ?_
 refine gmax K (wmax hw) zc0 2 Dz.zero q0x (zmx_123 B q) rfl rfl (by decide) (Nat.le_of_eq rfl) (by decide) (by decide) (by decide) fun d0y q0y => ?_
 refine gR0 K O0r V0r 193 [aD 4472406533629990549,aD d0y,aD 9218868437227405312] rfl ?_
 refine gaddP K (Dge zc0) (Dge.add q0y ep_9 (znn_124 B q).1 (znn_124 B q).2).1 (Dge.add q0y ep_9 (znn_124 B q).1 (znn_124 B q).2).2 rfl fun d0z q0z => ?_
 refine gR0 K O0r V0r 196 [aD d0v,aD d0z,aD 9218868437227405312] rfl ?_
 refine gdivP K (Dge zc0) (Dge.dv q0z q0v) (fin_nn (Dge.dv q0z q0v).1) rfl fun d1a q1a => ?_
 refine gmin K (wmin hw) 0 q1a rfl rfl (by decide) (Nat.le_of_eq rfl) (by decide) (by decide) (by decide) ?_
 refine gR K O0r V0r 165 [aR 0,aI 0,aI 0,aR 9,aI 0,aD 4607182418800017408,aS,aD 4472406533629990549,aS,aD d1a,aS,aI 1,aD d0v,aS,aU,aU,aU] [aI 1,aR 13,aD 4607182418800017408] rfl ?_
 refine gdl K 1 f0p rfl rfl rfl rfl fun d1b q1b => ?_
 refine gmul K (z := 0) (Dz.mul Dz.one q1b rfl (by decide)) rfl fun d1c q1c => ?_
 refine gR K O0r V0r 171 [aR 0,aI 0,aI 0,aR 9,aI 0,aD 4607182418800017408,aS,aD 4472406533629990549,aS,aD d1a,aS,aI 1,aD d1c,aS,aU,aU,aU] [aD d1c] rfl ?_
 refine gldc K (wd hw 197 rfl) rfl ?_
 refine gcT K 202 ⟨_, Ep.lt q1c ep_9 (by decide), rfl⟩ rfl rfl rfl ?_
 refine gR K O0r V0r 165 [aR 0,aI 0,aI 0,aR 9,aI 0,aD 4607182418800017408,aS,aD 4472406533629990549,aS,aD d1a,aS,aI 2,aD d1c,aS,aU,aU,aU] [aI 2,aR 13,aD 4607182418800017408] rfl ?_
 refine gdl K 2 f0p rfl rfl rfl rfl fun d1d q1d => ?_
 refine gmul K (z := 0) (Dz.mul Dz.one q1d rfl (by decide)) rfl fun d1e q1e => ?_
 refine gR K O0r V0r 171 [aR 0,aI 0,aI 0,aR 9,aI 0,aD 4607182418800017408,aS,aD 4472406533629990549,aS,aD d1a,aS,aI 2,aD d1e,aS,aU,aU,aU] [aD d1e] rfl ?_
 refine gldc K (wd hw 197 rfl) rfl ?_
 refine gcT K 202 ⟨_, Ep.lt q1e ep_9 (by decide), rfl⟩ rfl rfl rfl ?_
 refine gR K O0r V0r 234 [aR 0,aI 0,aI 0,aR 9,aI 0,aD 4607182418800017408,aS,aD 4472406533629990549,aS,aD d1a,aS,aI (-1),aD 0,aS,aI 0,aU,aU] [aI 0,aR 13,aD 4607182418800017408] rfl ?_
 refine gdl K 0 f0p rfl rfl rfl rfl fun d1f q1f => ?_
 refine gmul K (z := 1) (Dz.mul Dz.one q1f rfl (by decide)) rfl fun d1g q1g => ?_
 refine gR K O0r V0r 240 [aR 0,aI 0,aI 0,aR 9,aI 0,aD 4607182418800017408,aS,aD 4472406533629990549,aS,aD d1a,aS,aI (-1),aD 0,aS,aI 0,aD d1g,aS] [aD d1g] rfl ?_
 refine gldc K (wd hw 197 rfl) rfl ?_
 refine gcF K ⟨_, Ep.gt q1g ep_9 (by decide), rfl⟩ rfl rfl ?_
 refine gR0 K O0r V0r 254 [aI 0,aR 11,aD 0] rfl ?_
 refine gdl K 0 f0w rfl rfl rfl rfl fun d1h q1h => ?_
 refine gmax K (wmax hw) zc0 0 Dz.zero q1h (zmx_123 B q) rfl rfl (by decide) (Nat.le_of_eq rfl) (by decide) (by decide) (by decide) fun d1i q1i => ?_
 refine gR0 K O0r V0r 260 [aD d1g,aD d1i] rfl ?_
 refine gdiv K (z := zc0) (Dz.div1 q1i q1g) rfl fun d1j q1j => ?_
 refine gR0 K O0r V0r 263 [aD d1a,aD d1j] rfl ?_
 refine gcF K (Dge.leF q1j q1a) rfl rfl ?_
 refine gR0 K O0r V0r 278 [aD 0,aD d1g] rfl ?_
 refine gcF K (Dz.nt (cd := .le) q1g Dz.zero (by show (0 : Int) < (1 : Int); decide)) rfl rfl ?_
 refine gR K O0r V0r 234 [aR 0,aI 0,aI 0,aR 9,aI 0,aD 4607182418800017408,aS,aD 4472406533629990549,aS,aD d1a,aS,aI 0,aD d1g,aS,aI 1,aD d1g,aS] [aI 1,aR 13,aD 4607182418800017408] rfl ?_
 refine gdl K 1 f0p rfl rfl rfl rfl fun d1k q1k => ?_
 refine gmul K (z := 0) (Dz.mul Dz.one q1k rfl (by decide)) rfl fun d1l q1l => ?_
 refine gR K O0r V0r 240 [aR 0,aI 0,aI 0,aR 9,aI 0,aD 4607182418800017408,aS,aD 4472406533629990549,aS,aD d1a,aS,aI 0,aD d1g,aS,aI 1,aD d1l,aS] [aD d1l] rfl ?_
 refine gldc K (wd hw 197 rfl) rfl ?_
 refine gcT K 290 ⟨_, Ep.lt q1l ep_9 (by decide), rfl⟩ rfl rfl rfl ?_
 refine gR K O0r V0r 234 [aR 0,aI 0,aI 0,aR 9,aI 0,aD 4607182418800017408,aS,aD 4472406533629990549,aS,aD d1a,aS,aI 0,aD d1g,aS,aI 2,aD d1l,aS] [aI 2,aR 13,aD 4607182418800017408] rfl ?_
 refine gdl K 2 f0p rfl rfl rfl rfl fun d1m q1m => ?_
 refine gmul K (z := 0) (Dz.mul Dz.one q1m rfl (by decide)) rfl fun d1n q1n => ?_
 refine gR K O0r V0r 240 [aR 0,aI 0,aI 0,aR 9,aI 0,aD 4607182418800017408,aS,aD 4472406533629990549,aS,aD d1a,aS,aI 0,aD d1g,aS,aI 2,aD d1n,aS] [aD d1n] rfl ?_
 refine gldc K (wd hw 197 rfl) rfl ?_
 refine gcT K 290 ⟨_, Ep.lt q1n ep_9 (by decide), rfl⟩ rfl rfl rfl ?_
 refine gR K O0r V0r 298 [aR 0,aI 0,aI 0,aR 9,aI 0,aD 4607182418800017408,aS,aD 4472406533629990549,aS,aD d1a,aS,aI 0,aD d1g,aS,aI 3,aD d1n,aS] [aI 0] rfl ?_
 exact gri K rfl (by decide) (by decide) ⟨rfl, k0q, f0p⟩
theorem zph_130 {zs0 zs1 zc0 zc2 : Int} (B : ZB zs0 zs1 zc0 zc2) (q0 : 0 < zs0 ∧ zs1 ≤ 0) : 0 < zs0 := by unfold ZB at B; obtain ⟨b1, b2, b3, b4, b5, b6⟩ := B; omega
theorem zeq_137 {zs0 : Int} : (zs0 * 1 : Int) = zs0 := by omega
theorem zeq_138 {zs0 : Int} : (zs0 * 0 : Int) = 0 := by omega
theorem zeq_139 {zs1 : Int} : ((-zs1) - 0 : Int) = (-zs1) := by omega
theorem zeq_140 {zc0 : Int} : (zc0 * 1 : Int) = zc0 := by omega
theorem zeq_141 {zc0 : Int} : (zc0 - zc0 : Int) = 0 := by omega
theorem zeq_142 {zc0 : Int} : (zc0 * 0 : Int) = 0 := by omega
theorem rmPV1 (hw : HW Z a0) (x : Nat → Addr) (rr u16_0 u16_1 u17_0 u17_1 : Int32) (y14_0 y14_1 : Int) (zs0 zs1 zc0 zc2 : Int) (h0 : Heap) (N : NX n0 x) (O : OB Z h0 x DSn (fe 0 rr)) (V : EV Z h0 x [(2,[-1,1]),(3,[0,1,2,3]),(4,[0,1,1]),(6,[3,1]),(7,[-1,1,-1,0,-1]),(16,[u16_0,u16_1]),(17,[u17_0,u17_1])]) (B : ZB zs0 zs1 zc0 zc2) (F5 : AD Z h0 (x 5) [1, (-1), 1]) (F9 : AD Z h0 (x 9) [1, 0, 0, (-1)]) (F10 : AD Z h0 (x 10) [zs0, (-zs1)]) (F11 : AD Z h0 (x 11) [zc0, 0, zc2]) (F13 : AD Z h0 (x 13) [1, 0, 0]) (F14 : AD Z h0 (x 14) [y14_0, y14_1]) :
    Con l Z n0 ⟨DSn, "pivot", "(II)Z"⟩ prog_12_method_12_code 19 (some .boolean) ⟨1, 0, 0, 21⟩ #[(.ref (x 0)), (.int 0), (.int 0)] h0 (fun v h => v = some (.int 1) ∧ KJ x h0 h [0,6,7,9,10,11,14] ∧ OB Z h x DSn (fe 1 0) ∧ EV Z h x [(2,[-1,1]),(3,[0,1,2,3]),(4,[0,1,1]),(6,[0,1]),(7,[0,1,-1,-1,-1]),(16,[u16_0,u16_1]),(17,[u17_0,u17_1])] ∧ AD Z h (x 9) [1, 0, 0, (-1)] ∧ AD Z h (x 10) [zs0, (-zs1)] ∧ AD Z h (x 11) [0, 0, zc2] ∧ AD Z h (x 14) [1, 0]) := by
 refine con_of (plainFor_of_name pn_DS) ?_
 intro p e s m below meth c T0 K0 X0 e0
 have K : KX p s m meth c Z a0 DSn "pivot" prog_12_method_12_code 19 (some .boolean) t30 (fe 0 rr) := ⟨K0, k30, lw hw 0 rr⟩
 refine gE (x := x) (L := [aR 0,aI 0,aI 0,aU,aU,aU,aU,aU,aU,aU,aU,aU,aU,aU,aU,aU,aU,aU,aU]) (by simp [entryFrame, mkF, argsToLocals, Value.category, gL, gS, cs, cv]) X0 e0 ?_
 refine gR K O V 37 ([aR 0,aI 0,aI 0,aI 0,aR 8,aI 1,aI 0,aR 9,aI 0]++un 10) [aR 9,aI 0] rfl ?_
 refine gal K 4 F9 rfl rfl rfl ?_
 refine gR K O V 79 ([aR 0,aI 0,aI 0,aI 0,aR 8,aI 1,aI 0,aR 9,aI 0,aD 0,aS,aI 0]++un 7) [aI 0,aR 9,aD 0] rfl ?_
 refine gdl K 0 F9 rfl rfl rfl rfl fun d0a q0a => ?_
 refine gR0 K O V 86 [aI 0,aR 5,aD d0a,aD 0] rfl ?_
 refine gdl K 0 F5 rfl rfl rfl rfl fun d0b q0b => ?_
 refine gmul K (z := 1) (Dz.mul q0a q0b rfl (by decide)) rfl fun d0c q0c => ?_
 refine gadd K (z := 1) (Dz.add Dz.zero q0c rfl (by decide)) rfl fun d0d q0d => ?_
 refine gR K O V 104 ([aR 0,aI 0,aI 0,aI 0,aR 8,aI 1,aI 0,aR 9,aI 0,aD d0d,aS,aI 1]++un 7) [aD d0d,aI 0,aR 14] rfl ?_
 refine gds K 0 F14 rfl rfl rfl q0d (N.ge 14 rfl) rfl fun h0e (W0e : KJ x h0 h0e [14]) (f0e : AD Z h0e (x 14) [1, y14_1]) => ?_
 obtain ⟨O0f, V0f⟩ := ov N O V (js := [14]) W0e rfl rfl rfl
 refine gR K O0f V0f 37 ([aR 0,aI 0,aI 0,aI 1,aR 8,aI 1,aI 0,aR 9,aI 2,aD d0d,aS,aI 1]++un 7) [aR 9,aI 2] rfl ?_
 have f0g := F9.keep W0e (nx N 9 rfl)
 refine gal K 4 f0g rfl rfl rfl ?_
 refine gR K O0f V0f 79 ([aR 0,aI 0,aI 0,aI 1,aR 8,aI 1,aI 0,aR 9,aI 2,aD 0,aS,aI 0]++un 7) [aI 2,aR 9,aD 0] rfl ?_
 refine gdl K 2 f0g rfl rfl rfl rfl fun d0h q0h => ?_
 refine gR0 K O0f V0f 86 [aI 0,aR 5,aD d0h,aD 0] rfl ?_
 have f0i := F5.keep W0e (nx N 5 rfl)
 refine gdl K 0 f0i rfl rfl rfl rfl fun d0j q0j => ?_
 refine gmul K (z := 0) (Dz.mul q0h q0j rfl (by decide)) rfl fun d0k q0k => ?_
 refine gadd K (z := 0) (Dz.add Dz.zero q0k rfl (by decide)) rfl fun d0l q0l => ?_
 refine gR K O0f V0f 104 ([aR 0,aI 0,aI 0,aI 1,aR 8,aI 1,aI 0,aR 9,aI 2,aD d0l,aS,aI 1]++un 7) [aD d0l,aI 1,aR 14] rfl ?_
 refine gds K 1 f0e rfl rfl rfl q0l (N.ge 14 rfl) rfl fun h0m (W0m : KJ x h0e h0m [14]) (f0m : AD Z h0m (x 14) [1, 0]) => ?_
 have k0n := kx [14] (js' := [14]) W0e W0m rfl rfl
 obtain ⟨O0o, V0o⟩ := ov N O V (js := [14]) k0n rfl rfl rfl
 refine gR K O0o V0o 37 ([aR 0,aI 0,aI 0,aI 2,aR 8,aI 1,aI 0,aR 9,aI 4,aD d0l,aS,aI 1]++un 7) [aR 9,aI 4] rfl ?_
 have f0p := F9.keep k0n (nx N 9 rfl)
 refine gal K 4 f0p rfl rfl rfl ?_
 refine gR K O0o V0o 131 ([aR 0,aI 0,aI 0,aI 2,aR 8,aI 1,aI 1,aR 9,aI 4,aD d0l,aS,aI 1]++un 7) [aI 0,aR 14] rfl ?_
 refine gdl K 0 f0m rfl rfl rfl rfl fun d0q q0q => ?_
 refine gR K O0o V0o 141 ([aR 0,aI 0,aI 0,aI 2,aD d0q,aS,aI 1,aR 9,aI 4,aD d0l,aS,aI 1]++un 7) [aI 0,aR 13,aD d0q] rfl ?_
 have f0r := F13.keep k0n (nx N 13 rfl)
 refine gdl K 0 f0r rfl rfl rfl rfl fun d0s q0s => ?_
 refine gsub K (z := 0) (Dz.sub q0q q0s rfl (by decide)) rfl fun d0t q0t => ?_
 refine gabs K (wabs hw) 0 0 q0t rfl rfl rfl (by decide) (Nat.le_of_eq rfl) (by decide) (by decide) (by decide) fun d0u q0u => ?_
 refine gldc K (wd hw 216 rfl) rfl ?_
 refine gR0 K O0o V0o 152 [aD d0q,aD 4607182418800017408,aD 4502148214488346440,aD d0u] rfl ?_
 refine gabs K (wabs hw) 1 6 q0q rfl rfl rfl (by decide) (Nat.le_of_eq rfl) (by decide) (by decide) (by decide) fun d0v q0v => ?_
 refine gadd K (z := 2) (Dz.add Dz.one q0v rfl (by decide)) rfl fun d0w q0w => ?_
 refine gmulP K Ep (Ep.two q0w) (Ep.two q0w).1 rfl fun d0x q0x => ?_
 refine gcT K 163 ⟨_, Ep.lt q0u q0x (by decide), rfl⟩ rfl rfl rfl ?_
 refine gR0 K O0o V0o 168 [aI 0,aR 10] rfl ?_
 have f0y := F10.keep k0n (nx N 10 rfl)
 refine gdl K 0 f0y rfl rfl rfl rfl fun d0z q0z => ?_
 refine gR0 K O0o V0o 171 [aD d0q,aD d0z] rfl ?_
 refine gdiv K (z := zs0) (Dz.div1 q0z q0q) rfl fun d1a q1a => ?_
 refine gR K O0o V0o 193 ([aR 0,aI 0,aI 0,aI 2,aD d0q,aS,aD d1a,aS,aI 0,aD d0l,aS,aI 1]++un 7) [aI 0,aR 10,aI 0,aR 10] rfl ?_
 refine gdl K 0 f0y rfl rfl rfl rfl fun d1b q1b => ?_
 refine gR0 K O0o V0o 202 [aI 0,aR 14,aD d1a,aD d1b,aI 0,aR 10] rfl ?_
 refine gdl K 0 f0m rfl rfl rfl rfl fun d1c q1c => ?_
 refine gmul K (z := zs0) (Dz.mul q1a q1c zeq_137 (zbd_9 B)) rfl fun d1d q1d => ?_
 refine gsub K (z := 0) (Dz.sub q1b q1d zeq_99 (by decide)) rfl fun d1e q1e => ?_
 refine gds K 0 f0y rfl rfl rfl q1e (N.ge 10 rfl) rfl fun h1f (W1f : KJ x h0m h1f [10]) (f1f : AD Z h1f (x 10) [0, (-zs1)]) => ?_
 have k1g := kx [10,14] (js' := [10]) k0n W1f rfl rfl
 obtain ⟨O1h, V1h⟩ := ov N O V (js := [10,14]) k1g rfl rfl rfl
 refine gR K O1h V1h 193 ([aR 0,aI 0,aI 0,aI 2,aD d0q,aS,aD d1a,aS,aI 1,aD d0l,aS,aI 1]++un 7) [aI 1,aR 10,aI 1,aR 10] rfl ?_
 refine gdl K 1 f1f rfl rfl rfl rfl fun d1i q1i => ?_
 refine gR0 K O1h V1h 202 [aI 1,aR 14,aD d1a,aD d1i,aI 1,aR 10] rfl ?_
 have f1j := f0m.keep W1f (nx N 14 rfl)
 refine gdl K 1 f1j rfl rfl rfl rfl fun d1k q1k => ?_
 refine gmul K (z := 0) (Dz.mul q1a q1k zeq_138 (by decide)) rfl fun d1l q1l => ?_
 refine gsub K (z := (-zs1)) (Dz.sub q1i q1l zeq_139 (zbd_6 B)) rfl fun d1m q1m => ?_
 refine gds K 1 f1f rfl rfl rfl q1m (N.ge 10 rfl) rfl fun h1n (W1n : KJ x h1f h1n [10]) (f1n : AD Z h1n (x 10) [0, (-zs1)]) => ?_
 have k1o := kx [10,14] (js' := [10]) k1g W1n rfl rfl
 obtain ⟨O1p, V1p⟩ := ov N O V (js := [10,14]) k1o rfl rfl rfl
 refine gR K O1p V1p 219 ([aR 0,aI 0,aI 0,aI 2,aD d0q,aS,aD d1a,aS,aI 2,aD d0l,aS,aI 1]++un 7) [aD d1a,aI 0,aR 10] rfl ?_
 refine gds K 0 f1n rfl rfl rfl q1a (N.ge 10 rfl) rfl fun h1q (W1q : KJ x h1n h1q [10]) (f1q : AD Z h1q (x 10) [zs0, (-zs1)]) => ?_
 have k1r := kx [10,14] (js' := [10]) k1o W1q rfl rfl
 obtain ⟨O1s, V1s⟩ := ov N O V (js := [10,14]) k1r rfl rfl rfl
 refine gR0 K O1s V1s 225 [aI 0,aR 11] rfl ?_
 have f1t := F11.keep k1r (nx N 11 rfl)
 refine gdl K 0 f1t rfl rfl rfl rfl fun d1u q1u => ?_
 refine gR0 K O1s V1s 228 [aD d0q,aD d1u] rfl ?_
 refine gdiv K (z := zc0) (Dz.div1 q1u q0q) rfl fun d1v q1v => ?_
 refine gR K O1s V1s 250 ([aR 0,aI 0,aI 0,aI 2,aD d0q,aS,aD d1a,aS,aD d1v,aS,aI 0,aI 1]++un 7) [aI 0,aR 11,aI 0,aR 11] rfl ?_
 refine gdl K 0 f1t rfl rfl rfl rfl fun d1w q1w => ?_
 refine gR0 K O1s V1s 259 [aI 0,aR 13,aD d1v,aD d1w,aI 0,aR 11] rfl ?_
 have f1x := F13.keep k1r (nx N 13 rfl)
 refine gdl K 0 f1x rfl rfl rfl rfl fun d1y q1y => ?_
 refine gmul K (z := zc0) (Dz.mul q1v q1y zeq_140 (zbd_61 B)) rfl fun d1z q1z => ?_
 refine gsub K (z := 0) (Dz.sub q1w q1z zeq_141 (by decide)) rfl fun d2a q2a => ?_
 refine gds K 0 f1t rfl rfl rfl q2a (N.ge 11 rfl) rfl fun h2b (W2b : KJ x h1q h2b [11]) (f2b : AD Z h2b (x 11) [0, 0, zc2]) => ?_
 have k2c := kx [10,11,14] (js' := [11]) k1r W2b rfl rfl
 obtain ⟨O2d, V2d⟩ := ov N O V (js := [10,11,14]) k2c rfl rfl rfl
 refine gR K O2d V2d 250 ([aR 0,aI 0,aI 0,aI 2,aD d0q,aS,aD d1a,aS,aD d1v,aS,aI 1,aI 1]++un 7) [aI 1,aR 11,aI 1,aR 11] rfl ?_
 refine gdl K 1 f2b rfl rfl rfl rfl fun d2e q2e => ?_
 refine gR0 K O2d V2d 259 [aI 1,aR 13,aD d1v,aD d2e,aI 1,aR 11] rfl ?_
 have f2f := F13.keep k2c (nx N 13 rfl)
 refine gdl K 1 f2f rfl rfl rfl rfl fun d2g q2g => ?_
 refine gmul K (z := 0) (Dz.mul q1v q2g zeq_142 (by decide)) rfl fun d2h q2h => ?_
 refine gsub K (z := 0) (Dz.sub q2e q2h rfl (by decide)) rfl fun d2i q2i => ?_
 refine gds K 1 f2b rfl rfl rfl q2i (N.ge 11 rfl) rfl fun h2j (W2j : KJ x h2b h2j [11]) (f2j : AD Z h2j (x 11) [0, 0, zc2]) => ?_
 have k2k := kx [10,11,14] (js' := [11]) k2c W2j rfl rfl
 obtain ⟨O2l, V2l⟩ := ov N O V (js := [10,11,14]) k2k rfl rfl rfl
 refine gR K O2l V2l 250 ([aR 0,aI 0,aI 0,aI 2,aD d0q,aS,aD d1a,aS,aD d1v,aS,aI 2,aI 1]++un 7) [aI 2,aR 11,aI 2,aR 11] rfl ?_
 refine gdl K 2 f2j rfl rfl rfl rfl fun d2m q2m => ?_
 refine gR0 K O2l V2l 259 [aI 2,aR 13,aD d1v,aD d2m,aI 2,aR 11] rfl ?_
 have f2n := F13.keep k2k (nx N 13 rfl)
 refine gdl K 2 f2n rfl rfl rfl rfl fun d2o q2o => ?_
 refine gmul K (z := 0) (Dz.mul q1v q2o zeq_142 (by decide)) rfl fun d2p q2p => ?_
 refine gsub K (z := zc2) (Dz.sub q2m q2p zeq_107 (zbd_64 B)) rfl fun d2q q2q => ?_
 refine gds K 2 f2j rfl rfl rfl q2q (N.ge 11 rfl) rfl fun h2r (W2r : KJ x h2j h2r [11]) (f2r : AD Z h2r (x 11) [0, 0, zc2]) => ?_
 have k2s := kx [10,11,14] (js' := [11]) k2k W2r rfl rfl
 obtain ⟨O2t, V2t⟩ := ov N O V (js := [10,11,14]) k2s rfl rfl rfl
 refine gR K O2t V2t 302 ([aR 0,aI 0,aI 0,aI 2,aD d0q,aS,aD d1a,aS,aD d1v,aS,aI 3,aI 1]++un 7) [aD 0,aI 0,aR 11] rfl ?_
 refine gds K 0 f2r rfl rfl rfl Dz.zero (N.ge 11 rfl) rfl fun h2u (W2u : KJ x h2r h2u [11]) (f2u : AD Z h2u (x 11) [0, 0, zc2]) => ?_
 have k2v := kx [10,11,14] (js' := [11]) k2s W2u rfl rfl
 obtain ⟨O2w, V2w⟩ := ov N O V (js := [10,11,14]) k2v rfl rfl rfl
 refine gR0 K O2w V2w 310 [aI (-1),aI 3,aR 7] rfl ?_
 refine gist K V2w N 3 [(2,[-1,1]),(3,[0,1,2,3]),(4,[0,1,1]),(6,[3,1]),(7,[-1,1,-1,-1,-1]),(16,[u16_0,u16_1]),(17,[u17_0,u17_1])] rfl rfl rfl rfl rfl rfl fun h2x (W2x : KJ x h2u h2x [7]) V2x => ?_
 have O2x := O2w.keep W2x (nx N 0 (js := [7]) rfl)
 refine gR0 K O2x V2x 317 [aI 0,aI 0,aR 7] rfl ?_
 refine gist K V2x N 0 [(2,[-1,1]),(3,[0,1,2,3]),(4,[0,1,1]),(6,[3,1]),(7,[0,1,-1,-1,-1]),(16,[u16_0,u16_1]),(17,[u17_0,u17_1])] rfl rfl rfl rfl rfl rfl fun h2y (W2y : KJ x h2x h2y [7]) V2y => ?_
 have O2y := O2x.keep W2y (nx N 0 (js := [7]) rfl)
 refine gR0 K O2y V2y 324 [aI 0,aI 0,aR 6] rfl ?_
 refine gist K V2y N 0 [(2,[-1,1]),(3,[0,1,2,3]),(4,[0,1,1]),(6,[0,1]),(7,[0,1,-1,-1,-1]),(16,[u16_0,u16_1]),(17,[u17_0,u17_1])] rfl rfl rfl rfl rfl rfl fun h2z (W2z : KJ x h2y h2z [6]) V2z => ?_
 have O2z := O2y.keep W2z (nx N 0 (js := [6]) rfl)
 refine gR0 K O2z V2z 327 [aI 0,aR 0] rfl ?_
 refine gPr K (w_block hw) O2z (rmBlk0 hw x 0 rr 0 1 0 1 (-1) (-1) (-1) u16_0 u16_1 u17_0 u17_1 zs0 zs1 zc0 zc2 h2z N O2z V2z B) [] 0 rfl rfl rfl rfl (by decide) (Nat.le_of_eq rfl) (by decide) (by decide) (by decide) ?_
 refine gR K O2z V2z 334 ([aR 0,aI 0,aI 0,aI 2,aD d0q,aS,aD d1a,aS,aD d1v,aS,aI 3,aR 9]++un 7) [aI 0,aR 0] rfl ?_
 refine gPi K (w_first hw) O2z (rmFst0 hw x 0 rr 0 1 0 1 (-1) (-1) (-1) u16_0 u16_1 u17_0 u17_1 zs0 zs1 zc0 zc2 h2z N O2z V2z B) [] 0 rfl rfl rfl rfl (by decide) (Nat.le_of_eq rfl) (by decide) (by decide) (by decide) ?_
 refine gR K O2z V2z 359 ([aR 0,aI 0,aI 0,aI 2,aD d0q,aS,aD d1a,aS,aD d1v,aS,aI 3,aR 9,aI 0,aI 0]++un 5) [aI 0,aR 9,aI 0,aR 9] rfl ?_
 have k3a := kx [7,10,11,14] (js' := [7]) k2v W2x rfl rfl
 have k3b := kx [7,10,11,14] (js' := [7]) k3a W2y rfl rfl
 have k3c := kx [6,7,10,11,14] (js' := [6]) k3b W2z rfl rfl
 have f3d := F9.keep k3c (nx N 9 rfl)
 refine gdl K 0 f3d rfl rfl rfl rfl fun d3e q3e => ?_
 refine gR0 K O2z V2z 362 [aD d0q,aD d3e,aI 0,aR 9] rfl ?_
 refine gdiv K (z := 1) (Dz.div1 q3e q0q) rfl fun d3f q3f => ?_
 refine gds K 0 f3d rfl rfl rfl q3f (N.ge 9 rfl) rfl fun h3g (W3g : KJ x h2z h3g [9]) (f3g : AD Z h3g (x 9) [1, 0, 0, (-1)]) => ?_
 obtain ⟨O3h, V3h⟩ := ov N O2z V2z (js := [9]) W3g rfl rfl rfl
 refine gR K O3h V3h 359 ([aR 0,aI 0,aI 0,aI 2,aD d0q,aS,aD d1a,aS,aD d1v,aS,aI 3,aR 9,aI 0,aI 1]++un 5) [aI 1,aR 9,aI 1,aR 9] rfl ?_
 refine gdl K 1 f3g rfl rfl rfl rfl fun d3i q3i => ?_
 refine gR0 K O3h V3h 362 [aD d0q,aD d3i,aI 1,aR 9] rfl ?_
 refine gdiv K (z := 0) (Dz.div1 q3i q0q) rfl fun d3j q3j => ?_
 refine gds K 1 f3g rfl rfl rfl q3j (N.ge 9 rfl) rfl fun h3k (W3k : KJ x h3g h3k [9]) (f3k : AD Z h3k (x 9) [1, 0, 0, (-1)]) => ?_
 have k3l := kx [9] (js' := [9]) W3g W3k rfl rfl
 obtain ⟨O3m, V3m⟩ := ov N O2z V2z (js := [9]) k3l rfl rfl rfl
 refine gR K O3m V3m 388 ([aR 0,aI 0,aI 0,aI 2,aD d0q,aS,aD d1a,aS,aD d1v,aS,aI 3,aR 9,aI 0,aI 0]++un 5) [aI 0,aR 14] rfl ?_
 have k3n := kx [10] (js' := [10]) W1f W1n rfl rfl
 have k3o := kx [10] (js' := [10]) k3n W1q rfl rfl
 have k3p := kx [10,11] (js' := [11]) k3o W2b rfl rfl
 have k3q := kx [10,11] (js' := [11]) k3p W2j rfl rfl
 have k3r := kx [10,11] (js' := [11]) k3q W2r rfl rfl
 have k3s := kx [10,11] (js' := [11]) k3r W2u rfl rfl
 have k3t := kx [7,10,11] (js' := [7]) k3s W2x rfl rfl
 have k3u := kx [7,10,11] (js' := [7]) k3t W2y rfl rfl
 have k3v := kx [6,7,10,11] (js' := [6]) k3u W2z rfl rfl
 have k3w := kx [6,7,9,10,11] (js' := [9]) k3v W3g rfl rfl
 have k3x := kx [6,7,9,10,11] (js' := [9]) k3w W3k rfl rfl
 have f3y := f0m.keep k3x (nx N 14 rfl)
 refine gdl K 0 f3y rfl rfl rfl rfl fun d3z q3z => ?_
 refine gR K O3m V3m 388 [aR 0,aI 0,aI 0,aI 2,aD d0q,aS,aD d1a,aS,aD d1v,aS,aI 3,aR 9,aI 0,aI 1,aD d3z,aS,aU,aU,aU] [aI 1,aR 14] rfl ?_
 refine gdl K 1 f3y rfl rfl rfl rfl fun d4a q4a => ?_
 refine gR K O3m V3m 400 [aR 0,aI 0,aI 0,aI 2,aD d0q,aS,aD d1a,aS,aD d1v,aS,aI 3,aR 9,aI 0,aI 1,aD d4a,aS,aU,aU,aU] [aD 0,aD d4a] rfl ?_
 refine gcT K 460 (Dz.tk (cd := .eq) q4a Dz.zero (by show (0 : Int) = (0 : Int); decide)) rfl rfl rfl ?_
 refine gR K O3m V3m 468 [aR 0,aI 0,aI 0,aI 2,aD d0q,aS,aD d1a,aS,aD d1v,aS,aI 3,aR 9,aI 0,aI 2,aD d4a,aS,aU,aU,aU] [aI 0,aR 0] rfl ?_
 refine grcc K hw O3m N (Or.inl rfl) rfl fun h4b (W4b : KJ x h3k h4b [0]) O4b => ?_
 have K := K.re hw 0 0
 have V4b := V3m.keep N (js := [0]) W4b rfl rfl
 refine gR0 K O4b V4b 478 [aI 1,aR 0] rfl ?_
 refine gpsr K hw O4b N rfl fun h4c (W4c : KJ x h4b h4c [0]) O4c => ?_
 have K := K.re hw 1 0
 have V4c := V4b.keep N (js := [0]) W4c rfl rfl
 refine gR0 K O4c V4c 496 [aI 1] rfl ?_
 have k4d := kx [0] (js' := [0]) W4b W4c rfl rfl
 have f4e := f3k.keep k4d (nx N 9 rfl)
 have k4f := kx [11] (js' := [11]) W2b W2j rfl rfl
 have k4g := kx [11] (js' := [11]) k4f W2r rfl rfl
 have k4h := kx [11] (js' := [11]) k4g W2u rfl rfl
 have k4i := kx [7,11] (js' := [7]) k4h W2x rfl rfl
 have k4j := kx [7,11] (js' := [7]) k4i W2y rfl rfl
 have k4k := kx [6,7,11] (js' := [6]) k4j W2z rfl rfl
 have k4l := kx [6,7,9,11] (js' := [9]) k4k W3g rfl rfl
 have k4m := kx [6,7,9,11] (js' := [9]) k4l W3k rfl rfl
 have k4n := kx [0,6,7,9,11] (js' := [0]) k4m W4b rfl rfl
 have k4o := kx [0,6,7,9,11] (js' := [0]) k4n W4c rfl rfl
 have f4p := f1q.keep k4o (nx N 10 rfl)
 have k4q := kx [7] (js' := [7]) W2x W2y rfl rfl
 have k4r := kx [6,7] (js' := [6]) k4q W2z rfl rfl
 have k4s := kx [6,7,9] (js' := [9]) k4r W3g rfl rfl
 have k4t := kx [6,7,9] (js' := [9]) k4s W3k rfl rfl
 have k4u := kx [0,6,7,9] (js' := [0]) k4t W4b rfl rfl
 have k4v := kx [0,6,7,9] (js' := [0]) k4u W4c rfl rfl
 have f4w := f2u.keep k4v (nx N 11 rfl)
 have k4x := kx [0,6,7,9,10,11] (js' := [0]) k3x W4b rfl rfl
 have k4y := kx [0,6,7,9,10,11] (js' := [0]) k4x W4c rfl rfl
 have f4z := f0m.keep k4y (nx N 14 rfl)
 have k5a := kx [6,7,9,10,11,14] (js' := [9]) k3c W3g rfl rfl
 have k5b := kx [6,7,9,10,11,14] (js' := [9]) k5a W3k rfl rfl
 have k5c := kx [0,6,7,9,10,11,14] (js' := [0]) k5b W4b rfl rfl
 have k5d := kx [0,6,7,9,10,11,14] (js' := [0]) k5c W4c rfl rfl
 exact grz K (Or.inr rfl) rfl (by decide) (by decide) ⟨rfl, k5d, O4c, V4c, f4e, f4p, f4w, f4z⟩
theorem zeq_144 {zs0 : Int} : (-zs0 : Int) = (-zs0) := by omega
theorem zep_145 {zs0 zs1 zc0 zc2 : Int} (B : ZB zs0 zs1 zc0 zc2) (q0 : 0 < zs0 ∧ zs1 ≤ 0) : (-zs0) ≤ 0 := by unfold ZB at B; obtain ⟨b1, b2, b3, b4, b5, b6⟩ := B; omega
theorem zep_146 {zs0 zs1 zc0 zc2 : Int} (B : ZB zs0 zs1 zc0 zc2) (q0 : 0 < zs0 ∧ zs1 ≤ 0) : zs1 ≤ 0 := by unfold ZB at B; obtain ⟨b1, b2, b3, b4, b5, b6⟩ := B; omega
theorem rmLR7 (hw : HW Z a0) (x : Nat → Addr) (uu rr u7_0 u7_1 u7_2 u7_3 u7_4 u16_0 u16_1 u17_0 u17_1 : Int32) (zs0 zs1 zc0 zc2 : Int) (h0 : Heap) (N : NX n0 x) (O : OB Z h0 x DSn (fe uu rr)) (V : EV Z h0 x [(2,[-1,1]),(3,[0,1,2,3]),(4,[0,1,1]),(6,[0,1]),(7,[u7_0,u7_1,u7_2,u7_3,u7_4]),(16,[u16_0,u16_1]),(17,[u17_0,u17_1])]) (B : ZB zs0 zs1 zc0 zc2) (q : 0 < zs0 ∧ zs1 ≤ 0) (F10 : AD Z h0 (x 10) [zs0, (-zs1)]) :
    Con l Z n0 ⟨DSn, "leavingRow", "(Z)I"⟩ prog_12_method_10_code 10 (some .int) ⟨0, 0, 0, 0⟩ #[(.ref (x 0)), (.int 0)] h0 (fun v h => v = some (.int (-1)) ∧ h = h0) := by
 refine con_of (plainFor_of_name pn_DS) ?_
 intro p e s m below meth c T0 K0 X0 e0
 have K : KX p s m meth c Z a0 DSn "leavingRow" prog_12_method_10_code 10 (some .int) t25 (fe uu rr) := ⟨K0, k25, lw hw uu rr⟩
 refine gE (x := x) (L := [aR 0,aI 0,aU,aU,aU,aU,aU,aU,aU,aU]) (by simp [entryFrame, mkF, argsToLocals, Value.category, gL, gS, cs, cv]) X0 e0 ?_
 refine gR K O V 2 ([aR 0,aI 0,aI (-1)]++un 7) [] rfl ?_
 refine gldc K (wd hw 197 rfl) rfl ?_
 refine gR K O V 24 ([aR 0,aI 0,aI (-1),aD 4472406533629990549,aS,aI 0]++un 4) [aI 0,aR 10] rfl ?_
 refine gdl K 0 F10 rfl rfl rfl rfl fun d0a q0a => ?_
 refine gR K O V 43 [aR 0,aI 0,aI (-1),aD 4472406533629990549,aS,aI 0,aD d0a,aS,aU,aU] [aD d0a] rfl ?_
 refine gneg K (z := (-zs0)) (Dz.neg q0a zeq_144) rfl fun d0b q0b => ?_
 refine gR K O V 96 [aR 0,aI 0,aI (-1),aD 4472406533629990549,aS,aI 0,aD d0a,aS,aD d0b,aS] [aD 4472406533629990549,aD d0b] rfl ?_
 refine gcT K 106 ⟨_, Ep.lt q0b ep_9 (zep_145 B q), rfl⟩ rfl rfl rfl ?_
 refine gR K O V 24 [aR 0,aI 0,aI (-1),aD 4472406533629990549,aS,aI 1,aD d0a,aS,aD d0b,aS] [aI 1,aR 10] rfl ?_
 refine gdl K 1 F10 rfl rfl rfl rfl fun d0c q0c => ?_
 refine gR K O V 43 [aR 0,aI 0,aI (-1),aD 4472406533629990549,aS,aI 1,aD d0c,aS,aD d0b,aS] [aD d0c] rfl ?_
 refine gneg K (z := zs1) (Dz.neg q0c zeq_18) rfl fun d0d q0d => ?_
 refine gR K O V 96 [aR 0,aI 0,aI (-1),aD 4472406533629990549,aS,aI 1,aD d0c,aS,aD d0d,aS] [aD 4472406533629990549,aD d0d] rfl ?_
 refine gcT K 106 ⟨_, Ep.lt q0d ep_9 (zep_146 B q), rfl⟩ rfl rfl rfl ?_
 refine gR K O V 113 [aR 0,aI 0,aI (-1),aD 4472406533629990549,aS,aI 2,aD d0c,aS,aD d0d,aS] [aI (-1)] rfl ?_
 exact gri K rfl (by decide) (by decide) ⟨rfl, rfl⟩
theorem zeq_147 {zc0 : Int} : (0 + zc0 : Int) = zc0 := by omega
theorem rmPR2 (hw : HW Z a0) (x : Nat → Addr) (uu rr u7_0 u7_1 u7_2 u7_3 u7_4 u16_0 u16_1 u17_0 u17_1 : Int32) (zs0 zs1 zc0 zc2 : Int) (h0 : Heap) (N : NX n0 x) (O : OB Z h0 x DSn (fe uu rr)) (V : EV Z h0 x [(2,[-1,1]),(3,[0,1,2,3]),(4,[0,1,1]),(6,[0,1]),(7,[u7_0,u7_1,u7_2,u7_3,u7_4]),(16,[u16_0,u16_1]),(17,[u17_0,u17_1])]) (B : ZB zs0 zs1 zc0 zc2) (Z0 : n0 ≤ h0.size) (F1 : AD Z h0 (x 1) [zc0, 0, zc2]) (F9 : AD Z h0 (x 9) [1, 0, 0, (-1)]) :
    Con l Z n0 ⟨DSn, "prices", "()[D"⟩ prog_12_method_14_code 10 (some (.array .double)) ⟨0, 1, 2, 0⟩ #[(.ref (x 0))] h0 (fun v h => ∃ b, v = some (.ref b) ∧ KJ x h0 h [] ∧ h0.size ≤ b ∧ AD Z h b [zc0, 0]) := by
 refine con_of (plainFor_of_name pn_DS) ?_
 intro p e s m below meth c T0 K0 X0 e0
 have K : KX p s m meth c Z a0 DSn "prices" prog_12_method_14_code 10 (some (.array .double)) t32 (fe uu rr) := ⟨K0, k32, lw hw uu rr⟩
 refine gE (x := x) (L := [aR 0,aU,aU,aU,aU,aU,aU,aU,aU,aU]) (by simp [entryFrame, mkF, argsToLocals, Value.category, gL, gS, cs, cv]) X0 e0 ?_
 refine gR0 K O V 4 [aI 2] rfl ?_
 refine gnew K (wd hw 15 rfl) 2 rfl (by decide) rfl (by decide) (by decide) fun h0a b0a g0a (W0a : KJ x h0 h0a []) (f0a : AD Z h0a b0a [0, 0]) e0a => ?_
 have g0b : n0 ≤ b0a := Nat.le_trans Z0 g0a
 obtain ⟨O0c, V0c⟩ := ov N O V (js := []) W0a rfl rfl rfl
 refine gR K O0c V0c 41 [aR 0,aA b0a,aI 0,aR 8,aI 1,aI 0,aR 9,aI 0,aU,aU] [aR 9,aI 0] rfl ?_
 have f0d := F9.keep W0a (nx N 9 rfl)
 refine gal K 4 f0d rfl rfl rfl ?_
 refine gR K O0c V0c 68 [aR 0,aA b0a,aI 0,aR 8,aI 1,aI 0,aR 9,aI 0,aI 0,aU] [aI 0,aR 1] rfl ?_
 have f0e := F1.keep W0a (nx N 1 rfl)
 refine gdl K 0 f0e rfl rfl rfl rfl fun d0f q0f => ?_
 refine gR0 K O0c V0c 70 [aD 0,aD d0f] rfl ?_
 refine gcX K 115 q0f Dz.zero rfl rfl rfl ?_ ?_
 · intro (c1584 : zc0 = 0)
   refine gR K O0c V0c 41 [aR 0,aA b0a,aI 1,aR 8,aI 1,aI 0,aR 9,aI 2,aI 0,aU] [aR 9,aI 2] rfl ?_
   refine gal K 4 f0d rfl rfl rfl ?_
   refine gR K O0c V0c 68 [aR 0,aA b0a,aI 1,aR 8,aI 1,aI 0,aR 9,aI 2,aI 1,aU] [aI 1,aR 1] rfl ?_
   refine gdl K 1 f0e rfl rfl rfl rfl fun d0g q0g => ?_
   refine gR0 K O0c V0c 70 [aD 0,aD d0g] rfl ?_
   refine gcT K 115 (Dz.tk (cd := .eq) q0g Dz.zero (by show (0 : Int) = (0 : Int); decide)) rfl rfl rfl ?_
   refine gR K O0c V0c 41 [aR 0,aA b0a,aI 2,aR 8,aI 1,aI 0,aR 9,aI 4,aI 1,aU] [aR 9,aI 4] rfl ?_
   refine gal K 4 f0d rfl rfl rfl ?_
   refine gR K O0c V0c 137 [aR 0,aA b0a,aI 2,aR 8,aI 1,aI 1,aR 9,aI 4,aI 1,aU] [aA b0a] rfl ?_
   have f0h : AD Z h0a b0a [zc0, 0] := by simp only [c1584]; exact f0a
   exact gra K rfl rfl rfl rfl (by decide) (by decide) ⟨b0a, rfl, W0a, g0a, f0h⟩
 · intro (c1584 : ¬ zc0 = 0)
   refine gR K O0c V0c 90 [aR 0,aA b0a,aI 0,aR 8,aI 1,aI 0,aR 9,aI 0,aI 0,aI 0] [aI 0,aA b0a,aI 0,aA b0a] rfl ?_
   refine gdl K 0 f0a rfl rfl rfl rfl fun d0i q0i => ?_
   refine gR0 K O0c V0c 97 [aI 0,aR 1,aD d0i,aI 0,aA b0a] rfl ?_
   refine gdl K 0 f0e rfl rfl rfl rfl fun d0j q0j => ?_
   refine gR0 K O0c V0c 105 [aI 0,aR 9,aD d0j,aD d0i,aI 0,aA b0a] rfl ?_
   refine gdl K 0 f0d rfl rfl rfl rfl fun d0k q0k => ?_
   refine gmul K (z := zc0) (Dz.mul q0j q0k zeq_140 (zbd_61 B)) rfl fun d0l q0l => ?_
   refine gadd K (z := zc0) (Dz.add q0i q0l zeq_147 (zbd_61 B)) rfl fun d0m q0m => ?_
   refine gds K 0 f0a rfl rfl rfl q0m g0b rfl fun h0n (W0n : Keep h0a h0n [b0a]) (f0n : AD Z h0n b0a [zc0, 0]) => ?_
   have k0o := kf (js := []) W0a W0n g0a
   obtain ⟨O0p, V0p⟩ := ov N O V (js := []) k0o rfl rfl rfl
   refine gR K O0p V0p 90 [aR 0,aA b0a,aI 0,aR 8,aI 1,aI 0,aR 9,aI 0,aI 0,aI 1] [aI 1,aA b0a,aI 1,aA b0a] rfl ?_
   refine gdl K 1 f0n rfl rfl rfl rfl fun d0q q0q => ?_
   refine gR0 K O0p V0p 97 [aI 0,aR 1,aD d0q,aI 1,aA b0a] rfl ?_
   have f0r := F1.keep k0o (nx N 1 rfl)
   refine gdl K 0 f0r rfl rfl rfl rfl fun d0s q0s => ?_
   refine gR0 K O0p V0p 105 [aI 1,aR 9,aD d0s,aD d0q,aI 1,aA b0a] rfl ?_
   have f0t := F9.keep k0o (nx N 9 rfl)
   refine gdl K 1 f0t rfl rfl rfl rfl fun d0u q0u => ?_
   refine gmul K (z := 0) (Dz.mul q0s q0u zeq_142 (by decide)) rfl fun d0v q0v => ?_
   refine gadd K (z := 0) (Dz.add q0q q0v rfl (by decide)) rfl fun d0w q0w => ?_
   refine gds K 1 f0n rfl rfl rfl q0w g0b rfl fun h0x (W0x : Keep h0n h0x [b0a]) (f0x : AD Z h0x b0a [zc0, 0]) => ?_
   have k0y := kf (js := []) k0o W0x g0a
   obtain ⟨O0z, V0z⟩ := ov N O V (js := []) k0y rfl rfl rfl
   refine gR K O0z V0z 41 [aR 0,aA b0a,aI 1,aR 8,aI 1,aI 0,aR 9,aI 2,aI 0,aI 2] [aR 9,aI 2] rfl ?_
   have f1a := F9.keep k0y (nx N 9 rfl)
   refine gal K 4 f1a rfl rfl rfl ?_
   refine gR K O0z V0z 68 [aR 0,aA b0a,aI 1,aR 8,aI 1,aI 0,aR 9,aI 2,aI 1,aI 2] [aI 1,aR 1] rfl ?_
   have f1b := F1.keep k0y (nx N 1 rfl)
   refine gdl K 1 f1b rfl rfl rfl rfl fun d1c q1c => ?_
   refine gR0 K O0z V0z 70 [aD 0,aD d1c] rfl ?_
   refine gcT K 115 (Dz.tk (cd := .eq) q1c Dz.zero (by show (0 : Int) = (0 : Int); decide)) rfl rfl rfl ?_
   refine gR K O0z V0z 41 [aR 0,aA b0a,aI 2,aR 8,aI 1,aI 0,aR 9,aI 4,aI 1,aI 2] [aR 9,aI 4] rfl ?_
   refine gal K 4 f1a rfl rfl rfl ?_
   refine gR K O0z V0z 137 [aR 0,aA b0a,aI 2,aR 8,aI 1,aI 1,aR 9,aI 4,aI 1,aI 2] [aA b0a] rfl ?_
   exact gra K rfl rfl rfl rfl (by decide) (by decide) ⟨b0a, rfl, k0y, g0a, f0x⟩
theorem rmRC6 (hw : HW Z a0) (x : Nat → Addr) (uu rr u6_0 u6_1 u7_0 u7_1 u7_2 u7_3 u7_4 u16_0 u16_1 u17_0 u17_1 : Int32) (xq : Addr) (zs0 zs1 zc0 zc2 : Int) (h0 : Heap) (N : NX n0 x) (O : OB Z h0 x DSn (fe uu rr)) (V : EV Z h0 x [(2,[-1,1]),(3,[0,1,2,3]),(4,[0,1,1]),(6,[u6_0,u6_1]),(7,[u7_0,u7_1,u7_2,u7_3,u7_4]),(16,[u16_0,u16_1]),(17,[u17_0,u17_1])]) (B : ZB zs0 zs1 zc0 zc2) (Fxq : AD Z h0 xq [zc0, 0]) (F1 : AD Z h0 (x 1) [zc0, 0, zc2]) (F5 : AD Z h0 (x 5) [1, (-1), 1]) :
    Con l Z n0 ⟨DSn, "reducedCost", "(I[D)D"⟩ prog_12_method_15_code 6 (some .double) ⟨0, 0, 0, 0⟩ #[(.ref (x 0)), (.int 0), (.ref xq)] h0 (fun v h => ∃ d, v = some (.double d) ∧ h = h0 ∧ Dz 0 d) := by
 refine con_of (plainFor_of_name pn_DS) ?_
 intro p e s m below meth c T0 K0 X0 e0
 have K : KX p s m meth c Z a0 DSn "reducedCost" prog_12_method_15_code 6 (some .double) t33 (fe uu rr) := ⟨K0, k33, lw hw uu rr⟩
 refine gE (x := x) (L := [aR 0,aI 0,aA xq,aU,aU,aU]) (by simp [entryFrame, mkF, argsToLocals, Value.category, gL, gS, cs, cv]) X0 e0 ?_
 refine gR0 K O V 5 [aI 0,aR 1] rfl ?_
 refine gdl K 0 F1 rfl rfl rfl rfl fun d0a q0a => ?_
 refine gR K O V 37 [aR 0,aI 0,aA xq,aD d0a,aS,aI 0] [aI 0,aA xq,aD d0a] rfl ?_
 refine gdl K 0 Fxq rfl rfl rfl rfl fun d0b q0b => ?_
 refine gR0 K O V 44 [aI 0,aR 5,aD d0b,aD d0a] rfl ?_
 refine gdl K 0 F5 rfl rfl rfl rfl fun d0c q0c => ?_
 refine gmul K (z := zc0) (Dz.mul q0b q0c zeq_140 (zbd_61 B)) rfl fun d0d q0d => ?_
 refine gsub K (z := 0) (Dz.sub q0a q0d zeq_141 (by decide)) rfl fun d0e q0e => ?_
 refine gR K O V 55 [aR 0,aI 0,aA xq,aD d0e,aS,aI 1] [aD d0e] rfl ?_
 exact grd K rfl (by decide) (by decide) ⟨d0e, rfl, rfl, q0e⟩
theorem rmRC7 (hw : HW Z a0) (x : Nat → Addr) (uu rr u6_0 u6_1 u7_0 u7_1 u7_2 u7_3 u7_4 u16_0 u16_1 u17_0 u17_1 : Int32) (xq : Addr) (zs0 zs1 zc0 zc2 : Int) (h0 : Heap) (N : NX n0 x) (O : OB Z h0 x DSn (fe uu rr)) (V : EV Z h0 x [(2,[-1,1]),(3,[0,1,2,3]),(4,[0,1,1]),(6,[u6_0,u6_1]),(7,[u7_0,u7_1,u7_2,u7_3,u7_4]),(16,[u16_0,u16_1]),(17,[u17_0,u17_1])]) (B : ZB zs0 zs1 zc0 zc2) (Fxq : AD Z h0 xq [zc0, 0]) (F1 : AD Z h0 (x 1) [zc0, 0, zc2]) (F5 : AD Z h0 (x 5) [1, (-1), 1]) :
    Con l Z n0 ⟨DSn, "reducedCost", "(I[D)D"⟩ prog_12_method_15_code 6 (some .double) ⟨0, 0, 0, 0⟩ #[(.ref (x 0)), (.int 1), (.ref xq)] h0 (fun v h => ∃ d, v = some (.double d) ∧ h = h0 ∧ Dz 0 d) := by
 refine con_of (plainFor_of_name pn_DS) ?_
 intro p e s m below meth c T0 K0 X0 e0
 have K : KX p s m meth c Z a0 DSn "reducedCost" prog_12_method_15_code 6 (some .double) t33 (fe uu rr) := ⟨K0, k33, lw hw uu rr⟩
 refine gE (x := x) (L := [aR 0,aI 1,aA xq,aU,aU,aU]) (by simp [entryFrame, mkF, argsToLocals, Value.category, gL, gS, cs, cv]) X0 e0 ?_
 refine gR0 K O V 5 [aI 1,aR 1] rfl ?_
 refine gdl K 1 F1 rfl rfl rfl rfl fun d0a q0a => ?_
 refine gR K O V 37 [aR 0,aI 1,aA xq,aD d0a,aS,aI 1] [aI 1,aA xq,aD d0a] rfl ?_
 refine gdl K 1 Fxq rfl rfl rfl rfl fun d0b q0b => ?_
 refine gR0 K O V 44 [aI 1,aR 5,aD d0b,aD d0a] rfl ?_
 refine gdl K 1 F5 rfl rfl rfl rfl fun d0c q0c => ?_
 refine gmul K (z := 0) (Dz.mul q0b q0c rfl (by decide)) rfl fun d0d q0d => ?_
 refine gsub K (z := 0) (Dz.sub q0a q0d rfl (by decide)) rfl fun d0e q0e => ?_
 refine gR K O V 55 [aR 0,aI 1,aA xq,aD d0e,aS,aI 2] [aD d0e] rfl ?_
 exact grd K rfl (by decide) (by decide) ⟨d0e, rfl, rfl, q0e⟩
theorem rmRC8 (hw : HW Z a0) (x : Nat → Addr) (uu rr u6_0 u6_1 u7_0 u7_1 u7_2 u7_3 u7_4 u16_0 u16_1 u17_0 u17_1 : Int32) (xq : Addr) (zs0 zs1 zc0 zc2 : Int) (h0 : Heap) (N : NX n0 x) (O : OB Z h0 x DSn (fe uu rr)) (V : EV Z h0 x [(2,[-1,1]),(3,[0,1,2,3]),(4,[0,1,1]),(6,[u6_0,u6_1]),(7,[u7_0,u7_1,u7_2,u7_3,u7_4]),(16,[u16_0,u16_1]),(17,[u17_0,u17_1])]) (B : ZB zs0 zs1 zc0 zc2) (Fxq : AD Z h0 xq [zc0, 0]) (F1 : AD Z h0 (x 1) [zc0, 0, zc2]) (F5 : AD Z h0 (x 5) [1, (-1), 1]) :
    Con l Z n0 ⟨DSn, "reducedCost", "(I[D)D"⟩ prog_12_method_15_code 6 (some .double) ⟨0, 0, 0, 0⟩ #[(.ref (x 0)), (.int 2), (.ref xq)] h0 (fun v h => ∃ d, v = some (.double d) ∧ h = h0 ∧ Dz zc2 d) := by
 refine con_of (plainFor_of_name pn_DS) ?_
 intro p e s m below meth c T0 K0 X0 e0
 have K : KX p s m meth c Z a0 DSn "reducedCost" prog_12_method_15_code 6 (some .double) t33 (fe uu rr) := ⟨K0, k33, lw hw uu rr⟩
 refine gE (x := x) (L := [aR 0,aI 2,aA xq,aU,aU,aU]) (by simp [entryFrame, mkF, argsToLocals, Value.category, gL, gS, cs, cv]) X0 e0 ?_
 refine gR0 K O V 5 [aI 2,aR 1] rfl ?_
 refine gdl K 2 F1 rfl rfl rfl rfl fun d0a q0a => ?_
 refine gR K O V 37 [aR 0,aI 2,aA xq,aD d0a,aS,aI 2] [aI 1,aA xq,aD d0a] rfl ?_
 refine gdl K 1 Fxq rfl rfl rfl rfl fun d0b q0b => ?_
 refine gR0 K O V 44 [aI 2,aR 5,aD d0b,aD d0a] rfl ?_
 refine gdl K 2 F5 rfl rfl rfl rfl fun d0c q0c => ?_
 refine gmul K (z := 0) (Dz.mul q0b q0c rfl (by decide)) rfl fun d0d q0d => ?_
 refine gsub K (z := zc2) (Dz.sub q0a q0d zeq_107 (zbd_64 B)) rfl fun d0e q0e => ?_
 refine gR K O V 55 [aR 0,aI 2,aA xq,aD d0e,aS,aI 3] [aD d0e] rfl ?_
 exact grd K rfl (by decide) (by decide) ⟨d0e, rfl, rfl, q0e⟩
theorem rmIA2 (hw : HW Z a0) (x : Nat → Addr) (uu u16_0 u16_1 u17_0 u17_1 : Int32) (zs0 zs1 zc0 zc2 : Int) (h0 : Heap) (N : NX n0 x) (O : OB Z h0 x DSn (fe uu 0)) (V : EV Z h0 x [(2,[-1,1]),(3,[0,1,2,3]),(4,[0,1,1]),(6,[0,1]),(7,[0,1,-1,-1,-1]),(16,[u16_0,u16_1]),(17,[u17_0,u17_1])]) (B : ZB zs0 zs1 zc0 zc2) (Z0 : n0 ≤ h0.size) (F1 : AD Z h0 (x 1) [zc0, 0, zc2]) (F5 : AD Z h0 (x 5) [1, (-1), 1]) (F9 : AD Z h0 (x 9) [1, 0, 0, (-1)]) (F10 : AD Z h0 (x 10) [zs0, (-zs1)]) (F12 : AD Z h0 (x 12) [zs0, zs1]) (E12 : Exa Z h0 (x 12) "[D") :
    Con l Z n0 ⟨DSn, "isAccurate", "()Z"⟩ prog_12_method_13_code 7 (some .boolean) ⟨1, 2, 4, 21⟩ #[(.ref (x 0))] h0 (fun v h => v = some (.int 1) ∧ KJ x h0 h [0] ∧ OB Z h x DSn (fe uu 1) ∧ EV Z h x [(2,[-1,1]),(3,[0,1,2,3]),(4,[0,1,1]),(6,[0,1]),(7,[0,1,-1,-1,-1]),(16,[u16_0,u16_1]),(17,[u17_0,u17_1])]) := by
 refine con_of (plainFor_of_name pn_DS) ?_
 intro p e s m below meth c T0 K0 X0 e0
 have K : KX p s m meth c Z a0 DSn "isAccurate" prog_12_method_13_code 7 (some .boolean) t31 (fe uu 0) := ⟨K0, k31, lw hw uu 0⟩
 refine gE (x := x) (L := [aR 0,aU,aU,aU,aU,aU,aU]) (by simp [entryFrame, mkF, argsToLocals, Value.category, gL, gS, cs, cv]) X0 e0 ?_
 refine gR0 K O V 4 [aR 12] rfl ?_
 refine gcl K (wclone hw) 2 0 F12 E12 rfl rfl rfl rfl (by decide) (Nat.le_of_eq rfl) (by decide) (by decide) (by decide) fun h0a b0a g0a (W0a : KJ x h0 h0a []) f0a e0a => ?_
 have g0b : n0 ≤ b0a := Nat.le_trans Z0 g0a
 refine gcc K (wd hw 67 rfl) e0a rfl rfl ?_
 obtain ⟨O0c, V0c⟩ := ov N O V (js := []) W0a rfl rfl rfl
 refine gR K O0c V0c 33 [aR 0,aA b0a,aI 0,aI 0,aU,aU,aU] [aI 0,aR 10] rfl ?_
 have f0d := F10.keep W0a (nx N 10 rfl)
 refine gdl K 0 f0d rfl rfl rfl rfl fun d0e q0e => ?_
 refine gR K O0c V0c 90 [aR 0,aA b0a,aI 0,aI 0,aD d0e,aS,aI 0] [aI 0,aA b0a,aI 0,aA b0a] rfl ?_
 refine gdl K 0 f0a rfl rfl rfl rfl fun d0f q0f => ?_
 refine gR0 K O0c V0c 97 [aI 0,aR 5,aD d0f,aI 0,aA b0a] rfl ?_
 have f0g := F5.keep W0a (nx N 5 rfl)
 refine gdl K 0 f0g rfl rfl rfl rfl fun d0h q0h => ?_
 refine gR0 K O0c V0c 100 [aD d0e,aD d0h,aD d0f,aI 0,aA b0a] rfl ?_
 refine gmul K (z := zs0) (Dz.mul q0h q0e zeq_10 (zbd_9 B)) rfl fun d0i q0i => ?_
 refine gsub K (z := 0) (Dz.sub q0f q0i zeq_99 (by decide)) rfl fun d0j q0j => ?_
 refine gds K 0 f0a rfl rfl rfl q0j g0b rfl fun h0k (W0k : Keep h0a h0k [b0a]) (f0k : AD Z h0k b0a [0, zs1]) => ?_
 have k0l := kf (js := []) W0a W0k g0a
 obtain ⟨O0m, V0m⟩ := ov N O V (js := []) k0l rfl rfl rfl
 refine gR K O0m V0m 33 [aR 0,aA b0a,aI 1,aI 1,aD d0e,aS,aI 1] [aI 1,aR 10] rfl ?_
 have f0n := F10.keep k0l (nx N 10 rfl)
 refine gdl K 1 f0n rfl rfl rfl rfl fun d0o q0o => ?_
 refine gR K O0m V0m 90 [aR 0,aA b0a,aI 1,aI 1,aD d0o,aS,aI 1] [aI 1,aA b0a,aI 1,aA b0a] rfl ?_
 refine gdl K 1 f0k rfl rfl rfl rfl fun d0p q0p => ?_
 refine gR0 K O0m V0m 97 [aI 1,aR 5,aD d0p,aI 1,aA b0a] rfl ?_
 have f0q := F5.keep k0l (nx N 5 rfl)
 refine gdl K 1 f0q rfl rfl rfl rfl fun d0r q0r => ?_
 refine gR0 K O0m V0m 100 [aD d0o,aD d0r,aD d0p,aI 1,aA b0a] rfl ?_
 refine gmul K (z := zs1) (Dz.mul q0r q0o zeq_100 (zbd_2 B)) rfl fun d0s q0s => ?_
 refine gsub K (z := 0) (Dz.sub q0p q0s zeq_101 (by decide)) rfl fun d0t q0t => ?_
 refine gds K 1 f0k rfl rfl rfl q0t g0b rfl fun h0u (W0u : Keep h0k h0u [b0a]) (f0u : AD Z h0u b0a [0, 0]) => ?_
 have k0v := kf (js := []) k0l W0u g0a
 obtain ⟨O0w, V0w⟩ := ov N O V (js := []) k0v rfl rfl rfl
 refine gR K O0w V0w 118 [aR 0,aA b0a,aA b0a,aI 1,aD d0o,aS,aI 2] [aA b0a] rfl ?_
 refine gal K 2 f0u rfl rfl rfl ?_
 refine gR K O0w V0w 132 [aR 0,aA b0a,aA b0a,aI 2,aI 0,aU,aI 2] [aI 0,aA b0a] rfl ?_
 refine gdl K 0 f0u rfl rfl rfl rfl fun d0x q0x => ?_
 refine gR K O0w V0w 137 [aR 0,aA b0a,aA b0a,aI 2,aI 0,aD d0x,aS] [aD d0x] rfl ?_
 refine gabs K (wabs hw) 0 0 q0x rfl rfl rfl (by decide) (Nat.le_of_eq rfl) (by decide) (by decide) (by decide) fun d0y q0y => ?_
 refine gldc K (wd hw 216 rfl) rfl ?_
 refine gcT K 149 ⟨_, Ep.lt q0y ep_7 (by decide), rfl⟩ rfl rfl rfl ?_
 refine gR K O0w V0w 132 [aR 0,aA b0a,aA b0a,aI 2,aI 1,aD d0x,aS] [aI 1,aA b0a] rfl ?_
 refine gdl K 1 f0u rfl rfl rfl rfl fun d0z q0z => ?_
 refine gR K O0w V0w 137 [aR 0,aA b0a,aA b0a,aI 2,aI 1,aD d0z,aS] [aD d0z] rfl ?_
 refine gabs K (wabs hw) 0 0 q0z rfl rfl rfl (by decide) (Nat.le_of_eq rfl) (by decide) (by decide) (by decide) fun d1a q1a => ?_
 refine gldc K (wd hw 216 rfl) rfl ?_
 refine gcT K 149 ⟨_, Ep.lt q1a ep_7 (by decide), rfl⟩ rfl rfl rfl ?_
 refine gR K O0w V0w 163 [aR 0,aA b0a,aA b0a,aI 2,aI 2,aD d0z,aS] [aR 0] rfl ?_
 have f1b := F1.keep k0v (nx N 1 rfl)
 have f1c := F9.keep k0v (nx N 9 rfl)
 refine gP K (w_prices hw) O0w (rmPR2 hw x uu 0 0 1 (-1) (-1) (-1) u16_0 u16_1 u17_0 u17_1 zs0 zs1 zc0 zc2 h0u N O0w V0w B (Nat.le_trans (Nat.le_trans (Nat.le_trans Z0 W0a.1) W0k.1) W0u.1) f1b f1c) [] 0 rfl rfl rfl rfl (by decide) (Nat.le_of_eq rfl) (by decide) (by decide) (by decide) ?_
 rintro h1d _ ⟨b1d, rfl, W1d, g1d, f1d⟩
 have g1e : n0 ≤ b1d := Nat.le_trans (Nat.le_trans (Nat.le_trans (Nat.le_trans Z0 W0a.1) W0k.1) W0u.1) g1d
 refine sh (FA m x 166 [aR 0,aA b0a,aA b0a,aI 2,aI 2,aD d0z,aS] [aA b1d]) rfl ?_
 have k1f := kx [] (js' := []) k0v W1d rfl rfl
 obtain ⟨O1g, V1g⟩ := ov N O V (js := []) k1f rfl rfl rfl
 refine gR K O1g V1g 180 [aR 0,aA b0a,aA b1d,aI 0,aI 2,aD d0z,aS] [aA b1d,aI 0,aR 0] rfl ?_
 have f1h := F1.keep k1f (nx N 1 rfl)
 have f1i := F5.keep k1f (nx N 5 rfl)
 refine gPd K (w_reducedCost hw) O1g (rmRC6 hw x uu 0 0 1 0 1 (-1) (-1) (-1) u16_0 u16_1 u17_0 u17_1 b1d zs0 zs1 zc0 zc2 h1d N O1g V1g B f1d f1h f1i) [] 0 rfl rfl rfl rfl (by decide) (Nat.le_of_eq rfl) (by decide) (by decide) (by decide) fun d1j q1j => ?_
 refine gR K O1g V1g 203 [aR 0,aA b0a,aA b1d,aI 0,aD d1j,aS,aI 1] [aD d1j] rfl ?_
 refine gldc K (wd hw 229 rfl) rfl ?_
 refine gcF K ⟨_, En.gt q1j en_7 (by decide), rfl⟩ rfl rfl ?_
 refine gR0 K O1g V1g 217 [aD d1j] rfl ?_
 refine gldc K (wd hw 216 rfl) rfl ?_
 refine gcT K 226 ⟨_, Ep.lt q1j ep_7 (by decide), rfl⟩ rfl rfl rfl ?_
 refine gR K O1g V1g 180 [aR 0,aA b0a,aA b1d,aI 1,aD d1j,aS,aI 1] [aA b1d,aI 1,aR 0] rfl ?_
 refine gPd K (w_reducedCost hw) O1g (rmRC7 hw x uu 0 0 1 0 1 (-1) (-1) (-1) u16_0 u16_1 u17_0 u17_1 b1d zs0 zs1 zc0 zc2 h1d N O1g V1g B f1d f1h f1i) [] 0 rfl rfl rfl rfl (by decide) (Nat.le_of_eq rfl) (by decide) (by decide) (by decide) fun d1k q1k => ?_
 refine gR K O1g V1g 203 [aR 0,aA b0a,aA b1d,aI 1,aD d1k,aS,aI 1] [aD d1k] rfl ?_
 refine gldc K (wd hw 229 rfl) rfl ?_
 refine gcF K ⟨_, En.gt q1k en_7 (by decide), rfl⟩ rfl rfl ?_
 refine gR0 K O1g V1g 217 [aD d1k] rfl ?_
 refine gldc K (wd hw 216 rfl) rfl ?_
 refine gcT K 226 ⟨_, Ep.lt q1k ep_7 (by decide), rfl⟩ rfl rfl rfl ?_
 refine gR K O1g V1g 180 [aR 0,aA b0a,aA b1d,aI 2,aD d1k,aS,aI 1] [aA b1d,aI 2,aR 0] rfl ?_
 refine gPd K (w_reducedCost hw) O1g (rmRC8 hw x uu 0 0 1 0 1 (-1) (-1) (-1) u16_0 u16_1 u17_0 u17_1 b1d zs0 zs1 zc0 zc2 h1d N O1g V1g B f1d f1h f1i) [] 0 rfl rfl rfl rfl (by decide) (Nat.le_of_eq rfl) (by decide) (by decide) (by decide) fun d1l q1l => ?_
 refine gR K O1g V1g 203 [aR 0,aA b0a,aA b1d,aI 2,aD d1l,aS,aI 0] [aD d1l] rfl ?_
 refine gldc K (wd hw 229 rfl) rfl ?_
 refine gcF K ⟨_, En.gt q1l en_7 (zep_108 B), rfl⟩ rfl rfl ?_
 refine gR K O1g V1g 234 [aR 0,aA b0a,aA b1d,aI 3,aD d1l,aS,aI 0] [aI 1,aR 0] rfl ?_
 refine grcc K hw O1g N (Or.inr rfl) rfl fun h1m (W1m : KJ x h1d h1m [0]) O1m => ?_
 have K := K.re hw uu 1
 have V1m := V1g.keep N (js := [0]) W1m rfl rfl
 refine gR0 K O1m V1m 238 [aI 1] rfl ?_
 have k1n := kx [0] (js' := [0]) k1f W1m rfl rfl
 exact grz K (Or.inr rfl) rfl (by decide) (by decide) ⟨rfl, k1n, O1m, V1m⟩
theorem rmPvs5 (hw : HW Z a0) (x : Nat → Addr) (u16_0 u16_1 : Int32) (zs0 zs1 zc0 zc2 : Int) (h0 : Heap) (N : NX n0 x) (O : OB Z h0 x DSn (fe 0 0)) (V : EV Z h0 x [(2,[-1,1]),(3,[0,1,2,3]),(4,[0,1,1]),(6,[3,1]),(7,[-1,1,-1,0,-1]),(16,[u16_0,u16_1]),(17,[0,0])]) (B : ZB zs0 zs1 zc0 zc2) (q : 0 < zs0 ∧ zs1 ≤ 0) (Z0 : n0 ≤ h0.size) (F1 : AD Z h0 (x 1) [zc0, 0, zc2]) (F5 : AD Z h0 (x 5) [1, (-1), 1]) (F9 : AD Z h0 (x 9) [1, 0, 0, (-1)]) (F10 : AD Z h0 (x 10) [zs0, (-zs1)]) (F11 : AD Z h0 (x 11) [zc0, 0, zc2]) (F12 : AD Z h0 (x 12) [zs0, zs1]) (F13 : AD Z h0 (x 13) [0, 0, 0]) (F14 : AD Z h0 (x 14) [0, 0]) (F15 : AD Z h0 (x 15) [0, 0]) (E12 : Exa Z h0 (x 12) "[D") :
    Con l Z n0 ⟨DSn, "pivots", "()I"⟩ prog_12_method_9_code 6 (some .int) ⟨2, 2, 4, 51⟩ #[(.ref (x 0))] h0 (fun v h => v = some (.int 0) ∧ KJ x h0 h [0,6,7,9,10,11,13,14] ∧ OB Z h x DSn (fe 1 1) ∧ EV Z h x [(2,[-1,1]),(3,[0,1,2,3]),(4,[0,1,1]),(6,[0,1]),(7,[0,1,-1,-1,-1]),(16,[u16_0,u16_1]),(17,[0,0])] ∧ AD Z h (x 10) [zs0, (-zs1)]) := by
 refine con_of (plainFor_of_name pn_DS) ?_
 intro p e s m below meth c T0 K0 X0 e0
 have K : KX p s m meth c Z a0 DSn "pivots" prog_12_method_9_code 6 (some .int) t24 (fe 0 0) := ⟨K0, k24, lw hw 0 0⟩
 refine gE (x := x) (L := [aR 0,aU,aU,aU,aU,aU]) (by simp [entryFrame, mkF, argsToLocals, Value.category, gL, gS, cs, cv]) X0 e0 ?_
 refine gR K O V 43 [aR 0,aI 5,aI 0,aI 0,aU,aU] [aI 0,aR 0] rfl ?_
 refine gPi K (w_leavingRow hw) O (rmLR6 hw x 0 0 (-1) 1 (-1) 0 (-1) u16_0 u16_1 0 0 zs0 zs1 zc0 zc2 h0 N O V B q F10) [] 0 rfl rfl rfl rfl (by decide) (Nat.le_of_eq rfl) (by decide) (by decide) (by decide) ?_
 refine gR K O V 82 [aR 0,aI 5,aI 0,aI 0,aI 0,aU] [aI 0,aI 0,aR 0] rfl ?_
 refine gP K (w_enteringColumn hw) O (rmEC3 hw x 0 0 3 1 u16_0 u16_1 0 0 0 0 0 zs0 zs1 zc0 zc2 h0 N O V B (zph_130 B q) F5 F9 F10 F11 F13) [] 0 rfl rfl rfl rfl (by decide) (Nat.le_of_eq rfl) (by decide) (by decide) (by decide) ?_
 rintro h0a _ ⟨rfl, W0a, f0a⟩
 refine sh (FA m x 85 [aR 0,aI 5,aI 0,aI 0,aI 0,aU] [aI 0]) rfl ?_
 obtain ⟨O0b, V0b⟩ := ov N O V (js := [13]) W0a rfl rfl rfl
 refine gR K O0b V0b 113 [aR 0,aI 5,aI 0,aI 0,aI 0,aI 0] [aI 0,aI 0,aR 0] rfl ?_
 have f0c := F5.keep W0a (nx N 5 rfl)
 have f0d := F9.keep W0a (nx N 9 rfl)
 have f0e := F10.keep W0a (nx N 10 rfl)
 have f0f := F11.keep W0a (nx N 11 rfl)
 have f0g := F14.keep W0a (nx N 14 rfl)
 refine gP K (w_pivot hw) O0b (rmPV1 hw x 0 u16_0 u16_1 0 0 0 0 zs0 zs1 zc0 zc2 h0a N O0b V0b B f0c f0d f0e f0f f0a f0g) [] 0 rfl rfl rfl rfl (by decide) (Nat.le_of_eq rfl) (by decide) (by decide) (by decide) ?_
 rintro h0h _ ⟨rfl, W0h, O0h, V0h, f0h_9, f0h_10, f0h_11, f0h_14⟩
 have K := K.re hw 1 0
 refine sh (FA m x 116 [aR 0,aI 5,aI 0,aI 0,aI 0,aI 0] [aI 1]) rfl ?_
 refine gR K O0h V0h 43 [aR 0,aI 5,aI 0,aI 1,aI 0,aI 0] [aI 0,aR 0] rfl ?_
 refine gPi K (w_leavingRow hw) O0h (rmLR7 hw x 1 0 0 1 (-1) (-1) (-1) u16_0 u16_1 0 0 zs0 zs1 zc0 zc2 h0h N O0h V0h B q f0h_10) [] 0 rfl rfl rfl rfl (by decide) (Nat.le_of_eq rfl) (by decide) (by decide) (by decide) ?_
 refine gR K O0h V0h 54 [aR 0,aI 5,aI 0,aI 1,aI (-1),aI 0] [aR 0] rfl ?_
 have k0i := kx [0,6,7,9,10,11,13,14] (js' := [0,6,7,9,10,11,14]) W0a W0h rfl rfl
 have f0j := F1.keep k0i (nx N 1 rfl)
 have f0k := F5.keep k0i (nx N 5 rfl)
 have f0l := F12.keep k0i (nx N 12 rfl)
 have e0m := ((E12.keep W0a).keep W0h)
 refine gP K (w_isAccurate hw) O0h (rmIA2 hw x 1 u16_0 u16_1 0 0 zs0 zs1 zc0 zc2 h0h N O0h V0h B (Nat.le_trans (Nat.le_trans Z0 W0a.1) W0h.1) f0j f0k f0h_9 f0h_10 f0l e0m) [] 0 rfl rfl rfl rfl (by decide) (Nat.le_of_eq rfl) (by decide) (by decide) (by decide) ?_
 rintro h0n _ ⟨rfl, W0n, O0n, V0n⟩
 have K := K.re hw 1 1
 refine sh (FA m x 57 [aR 0,aI 5,aI 0,aI 1,aI (-1),aI 0] [aI 1]) rfl ?_
 refine gR0 K O0n V0n 61 [aI 0] rfl ?_
 have f0o := f0h_10.keep W0n (nx N 10 rfl)
 have k0p := kx [0,6,7,9,10,11,13,14] (js' := [0]) k0i W0n rfl rfl
 exact gri K rfl (by decide) (by decide) ⟨rfl, k0p, O0n, V0n, f0o⟩
theorem rmSol5 (hw : HW Z a0) (x : Nat → Addr) (xin : Addr) (zs0 zs1 zc0 zc2 : Int) (h0 : Heap) (N : NX n0 x) (O : OB Z h0 x DSn (fe 0 0)) (V : EV Z h0 x [(2,[-1,1]),(3,[0,1,2,3]),(4,[0,1,1]),(6,[3,1]),(7,[-1,1,-1,0,-1]),(16,[0,0]),(17,[0,0])]) (B : ZB zs0 zs1 zc0 zc2) (q : 0 < zs0 ∧ zs1 ≤ 0) (Z0 : n0 ≤ h0.size) (Fxin : AD Z h0 xin [zs0, zs1]) (F1 : AD Z h0 (x 1) [zc0, 0, zc2]) (F5 : AD Z h0 (x 5) [1, (-1), 1]) (F9 : AD Z h0 (x 9) [1, 0, 0, (-1)]) (F10 : AD Z h0 (x 10) [0, 0]) (F11 : AD Z h0 (x 11) [zc0, 0, zc2]) (F12 : AD Z h0 (x 12) [0, 0]) (F13 : AD Z h0 (x 13) [0, 0, 0]) (F14 : AD Z h0 (x 14) [0, 0]) (F15 : AD Z h0 (x 15) [0, 0]) (E12 : Exa Z h0 (x 12) "[D") (I : xin ∉ [x 16] ∧ xin ∉ [x 10] ∧ xin ∉ [x 12]) :
    Con l Z n0 ⟨DSn, "solve", "([D)Z"⟩ prog_12_method_2_code 3 (some .boolean) ⟨3, 2, 4, 84⟩ #[(.ref (x 0)), (.ref xin)] h0 (fun v h => ∃ ka kb : Int32, v = some (.int 1) ∧ KJ x h0 h [0,6,7,9,10,11,12,13,14,16] ∧ OB Z h x DSn (fe 1 1) ∧ EV Z h x [(2,[-1,1]),(3,[0,1,2,3]),(4,[0,1,1]),(6,[0,1]),(7,[0,1,-1,-1,-1]),(16,[ka,kb]),(17,[0,0])] ∧ AD Z h (x 1) [zc0, 0, zc2] ∧ AD Z h (x 10) [zs0, (-zs1)]) := by
 refine con_of (plainFor_of_name pn_DS) ?_
 intro p e s m below meth c T0 K0 X0 e0
 have K : KX p s m meth c Z a0 DSn "solve" prog_12_method_2_code 3 (some .boolean) t22 (fe 0 0) := ⟨K0, k22, lw hw 0 0⟩
 refine gE (x := x) (L := [aR 0,aA xin,aU]) (by simp [entryFrame, mkF, argsToLocals, Value.category, gL, gS, cs, cv]) X0 e0 ?_
 refine gR0 K O V 1 [aA xin] rfl ?_
 refine gal K 2 Fxin rfl rfl rfl ?_
 refine gR0 K O V 30 [aA xin,aR 0] rfl ?_
 refine gP K (w_moveValues hw) O (rmMv hw x 0 0 3 1 (-1) 1 (-1) 0 (-1) 0 0 xin zs0 zs1 zc0 zc2 h0 N O V B Fxin F9 F10 F12 I) [] 0 rfl rfl rfl rfl (by decide) (Nat.le_of_eq rfl) (by decide) (by decide) (by decide) ?_
 rintro h0a _ ⟨rfl, ka0a, kb0a, W0a, O0a, V0a, f0a_10, f0a_12⟩
 refine sh (FA m x 33 [aR 0,aA xin,aU] []) rfl ?_
 refine gR0 K O0a V0a 34 [aR 0] rfl ?_
 have f0b := F1.keep W0a (nx N 1 rfl)
 have f0c := F5.keep W0a (nx N 5 rfl)
 have f0d := F9.keep W0a (nx N 9 rfl)
 have f0e := F11.keep W0a (nx N 11 rfl)
 have f0f := F13.keep W0a (nx N 13 rfl)
 have f0g := F14.keep W0a (nx N 14 rfl)
 have f0h := F15.keep W0a (nx N 15 rfl)
 have e0i := (E12.keep W0a)
 refine gP K (w_pivots hw) O0a (rmPvs5 hw x ka0a kb0a zs0 zs1 zc0 zc2 h0a N O0a V0a B q (Nat.le_trans Z0 W0a.1) f0b f0c f0d f0a_10 f0e f0a_12 f0f f0g f0h e0i) [] 0 rfl rfl rfl rfl (by decide) (Nat.le_of_eq rfl) (by decide) (by decide) (by decide) ?_
 rintro h0j _ ⟨rfl, W0j, O0j, V0j, f0j_10⟩
 have K := K.re hw 1 1
 refine sh (FA m x 37 [aR 0,aA xin,aU] [aI 0]) rfl ?_
 refine gR K O0j V0j 87 [aR 0,aA xin,aI 0] [aI 1] rfl ?_
 have k0k := kx [0,6,7,9,10,11,12,13,14,16] (js' := [0,6,7,9,10,11,13,14]) W0a W0j rfl rfl
 have f0l := F1.keep k0k (nx N 1 rfl)
 exact grz K (Or.inr rfl) rfl (by decide) (by decide) ⟨ka0a, kb0a, rfl, k0k, O0j, V0j, f0l, f0j_10⟩
theorem zab_152 {zs0 zs1 zc0 zc2 : Int} (B : ZB zs0 zs1 zc0 zc2) (q0 : 0 < zs0 ∧ 0 < zs1 ∧ zs1 ≤ zs0) : ((zs0).natAbs : Int) = zs0 := by unfold ZB at B; obtain ⟨b1, b2, b3, b4, b5, b6⟩ := B; omega
theorem zep_153 {zs0 zs1 zc0 zc2 : Int} (B : ZB zs0 zs1 zc0 zc2) (q0 : 0 < zs0 ∧ 0 < zs1 ∧ zs1 ≤ zs0) : 0 < zs0 := by unfold ZB at B; obtain ⟨b1, b2, b3, b4, b5, b6⟩ := B; omega
theorem zcm_154 {zs0 zs1 zc0 zc2 : Int} (B : ZB zs0 zs1 zc0 zc2) (q0 : 0 < zs0 ∧ 0 < zs1 ∧ zs1 ≤ zs0) : ¬ zs0 < zs1 := by unfold ZB at B; obtain ⟨b1, b2, b3, b4, b5, b6⟩ := B; omega
theorem rmLR8 (hw : HW Z a0) (x : Nat → Addr) (uu rr u7_0 u7_1 u7_2 u7_3 u7_4 u16_0 u16_1 u17_0 u17_1 : Int32) (zs0 zs1 zc0 zc2 : Int) (h0 : Heap) (N : NX n0 x) (O : OB Z h0 x DSn (fe uu rr)) (V : EV Z h0 x [(2,[-1,1]),(3,[0,1,2,3]),(4,[0,1,1]),(6,[3,1]),(7,[u7_0,u7_1,u7_2,u7_3,u7_4]),(16,[u16_0,u16_1]),(17,[u17_0,u17_1])]) (B : ZB zs0 zs1 zc0 zc2) (q : 0 < zs0 ∧ 0 < zs1 ∧ zs1 ≤ zs0) (F10 : AD Z h0 (x 10) [zs0, (-zs1)]) :
    Con l Z n0 ⟨DSn, "leavingRow", "(Z)I"⟩ prog_12_method_10_code 10 (some .int) ⟨1, 0, 0, 15⟩ #[(.ref (x 0)), (.int 0)] h0 (fun v h => v = some (.int 0) ∧ h = h0) := by
 refine con_of (plainFor_of_name pn_DS) ?_
 intro p e s m below meth c T0 K0 X0 e0
 have K : KX p s m meth c Z a0 DSn "leavingRow" prog_12_method_10_code 10 (some .int) t25 (fe uu rr) := ⟨K0, k25, lw hw uu rr⟩
 refine gE (x := x) (L := [aR 0,aI 0,aU,aU,aU,aU,aU,aU,aU,aU]) (by simp [entryFrame, mkF, argsToLocals, Value.category, gL, gS, cs, cv]) X0 e0 ?_
 refine gR K O V 2 ([aR 0,aI 0,aI (-1)]++un 7) [] rfl ?_
 refine gldc K (wd hw 197 rfl) rfl ?_
 refine gR K O V 24 ([aR 0,aI 0,aI (-1),aD 4472406533629990549,aS,aI 0]++un 4) [aI 0,aR 10] rfl ?_
 refine gdl K 0 F10 rfl rfl rfl rfl fun d0a q0a => ?_
 refine gR K O V 49 [aR 0,aI 0,aI (-1),aD 4472406533629990549,aS,aI 0,aD d0a,aS,aU,aU] [aD d0a] rfl ?_
 refine gabs K (wabs hw) zs0 0 q0a (zab_152 B q) rfl rfl (by decide) (Nat.le_of_eq rfl) (by decide) (by decide) (by decide) fun d0b q0b => ?_
 refine gR K O V 96 [aR 0,aI 0,aI (-1),aD 4472406533629990549,aS,aI 0,aD d0a,aS,aD d0b,aS] [aD 4472406533629990549,aD d0b] rfl ?_
 refine gcF K ⟨_, Ep.gt q0b ep_9 (zep_153 B q), rfl⟩ rfl rfl ?_
 refine gR K O V 24 [aR 0,aI 0,aI 0,aD d0b,aS,aI 1,aD d0a,aS,aD d0b,aS] [aI 1,aR 10] rfl ?_
 refine gdl K 1 F10 rfl rfl rfl rfl fun d0c q0c => ?_
 refine gR K O V 43 [aR 0,aI 0,aI 0,aD d0b,aS,aI 1,aD d0c,aS,aD d0b,aS] [aD d0c] rfl ?_
 refine gneg K (z := zs1) (Dz.neg q0c zeq_18) rfl fun d0d q0d => ?_
 refine gR K O V 96 [aR 0,aI 0,aI 0,aD d0b,aS,aI 1,aD d0c,aS,aD d0d,aS] [aD d0b,aD d0d] rfl ?_
 refine gcT K 106 (Dz.tk (cd := .le) q0d q0b (zcm_154 B q)) rfl rfl rfl ?_
 refine gR K O V 113 [aR 0,aI 0,aI 0,aD d0b,aS,aI 2,aD d0c,aS,aD d0d,aS] [aI 0] rfl ?_
 exact gri K rfl (by decide) (by decide) ⟨rfl, rfl⟩
theorem zph_155 {zs0 zs1 zc0 zc2 : Int} (B : ZB zs0 zs1 zc0 zc2) (q0 : 0 < zs0 ∧ 0 < zs1 ∧ zs1 ≤ zs0) : 0 < zs0 := by unfold ZB at B; obtain ⟨b1, b2, b3, b4, b5, b6⟩ := B; omega
theorem zep_156 {zs0 zs1 zc0 zc2 : Int} (B : ZB zs0 zs1 zc0 zc2) (q0 : 0 < zs0 ∧ 0 < zs1 ∧ zs1 ≤ zs0) : (-zs0) ≤ 0 := by unfold ZB at B; obtain ⟨b1, b2, b3, b4, b5, b6⟩ := B; omega
theorem zep_157 {zs0 zs1 zc0 zc2 : Int} (B : ZB zs0 zs1 zc0 zc2) (q0 : 0 < zs0 ∧ 0 < zs1 ∧ zs1 ≤ zs0) : 0 < zs1 := by unfold ZB at B; obtain ⟨b1, b2, b3, b4, b5, b6⟩ := B; omega
theorem rmLR9 (hw : HW Z a0) (x : Nat → Addr) (uu rr u7_0 u7_1 u7_2 u7_3 u7_4 u16_0 u16_1 u17_0 u17_1 : Int32) (zs0 zs1 zc0 zc2 : Int) (h0 : Heap) (N : NX n0 x) (O : OB Z h0 x DSn (fe uu rr)) (V : EV Z h0 x [(2,[-1,1]),(3,[0,1,2,3]),(4,[0,1,1]),(6,[0,1]),(7,[u7_0,u7_1,u7_2,u7_3,u7_4]),(16,[u16_0,u16_1]),(17,[u17_0,u17_1])]) (B : ZB zs0 zs1 zc0 zc2) (q : 0 < zs0 ∧ 0 < zs1 ∧ zs1 ≤ zs0) (F10 : AD Z h0 (x 10) [zs0, (-zs1)]) :
    Con l Z n0 ⟨DSn, "leavingRow", "(Z)I"⟩ prog_12_method_10_code 10 (some .int) ⟨0, 0, 0, 0⟩ #[(.ref (x 0)), (.int 0)] h0 (fun v h => v = some (.int 1) ∧ h = h0) := by
 refine con_of (plainFor_of_name pn_DS) ?_
 intro p e s m below meth c T0 K0 X0 e0
 have K : KX p s m meth c Z a0 DSn "leavingRow" prog_12_method_10_code 10 (some .int) t25 (fe uu rr) := ⟨K0, k25, lw hw uu rr⟩
 refine gE (x := x) (L := [aR 0,aI 0,aU,aU,aU,aU,aU,aU,aU,aU]) (by simp [entryFrame, mkF, argsToLocals, Value.category, gL, gS, cs, cv]) X0 e0 ?_
 refine gR K O V 2 ([aR 0,aI 0,aI (-1)]++un 7) [] rfl ?_
 refine gldc K (wd hw 197 rfl) rfl ?_
 refine gR K O V 24 ([aR 0,aI 0,aI (-1),aD 4472406533629990549,aS,aI 0]++un 4) [aI 0,aR 10] rfl ?_
 refine gdl K 0 F10 rfl rfl rfl rfl fun d0a q0a => ?_
 refine gR K O V 43 [aR 0,aI 0,aI (-1),aD 4472406533629990549,aS,aI 0,aD d0a,aS,aU,aU] [aD d0a] rfl ?_
 refine gneg K (z := (-zs0)) (Dz.neg q0a zeq_144) rfl fun d0b q0b => ?_
 refine gR K O V 96 [aR 0,aI 0,aI (-1),aD 4472406533629990549,aS,aI 0,aD d0a,aS,aD d0b,aS] [aD 4472406533629990549,aD d0b] rfl ?_
 refine gcT K 106 ⟨_, Ep.lt q0b ep_9 (zep_156 B q), rfl⟩ rfl rfl rfl ?_
 refine gR K O V 24 [aR 0,aI 0,aI (-1),aD 4472406533629990549,aS,aI 1,aD d0a,aS,aD d0b,aS] [aI 1,aR 10] rfl ?_
 refine gdl K 1 F10 rfl rfl rfl rfl fun d0c q0c => ?_
 refine gR K O V 43 [aR 0,aI 0,aI (-1),aD 4472406533629990549,aS,aI 1,aD d0c,aS,aD d0b,aS] [aD d0c] rfl ?_
 refine gneg K (z := zs1) (Dz.neg q0c zeq_18) rfl fun d0d q0d => ?_
 refine gR K O V 96 [aR 0,aI 0,aI (-1),aD 4472406533629990549,aS,aI 1,aD d0c,aS,aD d0d,aS] [aD 4472406533629990549,aD d0d] rfl ?_
 refine gcF K ⟨_, Ep.gt q0d ep_9 (zep_157 B q), rfl⟩ rfl rfl ?_
 refine gR K O V 113 [aR 0,aI 0,aI 1,aD d0d,aS,aI 2,aD d0c,aS,aD d0d,aS] [aI 1] rfl ?_
 exact gri K rfl (by decide) (by decide) ⟨rfl, rfl⟩
theorem rmEC4 (hw : HW Z a0) (x : Nat → Addr) (uu rr u6_0 u6_1 u16_0 u16_1 u17_0 u17_1 : Int32) (y13_0 y13_1 y13_2 : Int) (zs0 zs1 zc0 zc2 : Int) (h0 : Heap) (N : NX n0 x) (O : OB Z h0 x DSn (fe uu rr)) (V : EV Z h0 x [(2,[-1,1]),(3,[0,1,2,3]),(4,[0,1,1]),(6,[u6_0,u6_1]),(7,[0,1,-1,-1,-1]),(16,[u16_0,u16_1]),(17,[u17_0,u17_1])]) (B : ZB zs0 zs1 zc0 zc2) (q : (-zs1) < 0) (F5 : AD Z h0 (x 5) [1, (-1), 1]) (F9 : AD Z h0 (x 9) [1, 0, 0, (-1)]) (F10 : AD Z h0 (x 10) [zs0, (-zs1)]) (F11 : AD Z h0 (x 11) [0, 0, zc2]) (F13 : AD Z h0 (x 13) [y13_0, y13_1, y13_2]) :
    Con l Z n0 ⟨DSn, "enteringColumn", "(IZ)I"⟩ prog_12_method_11_code 17 (some .int) ⟨1, 0, 0, 17⟩ #[(.ref (x 0)), (.int 1), (.int 0)] h0 (fun v h => v = some (.int 2) ∧ KJ x h0 h [13] ∧ AD Z h (x 13) [0, 0, (-1)]) := by
 refine con_of (plainFor_of_name pn_DS) ?_
 intro p e s m below meth c T0 K0 X0 e0
 have K : KX p s m meth c Z a0 DSn "enteringColumn" prog_12_method_11_code 17 (some .int) t27 (fe uu rr) := ⟨K0, k27, lw hw uu rr⟩
 refine gE (x := x) (L := [aR 0,aI 1,aI 0,aU,aU,aU,aU,aU,aU,aU,aU,aU,aU,aU,aU,aU,aU]) (by simp [entryFrame, mkF, argsToLocals, Value.category, gL, gS, cs, cv]) X0 e0 ?_
 refine gR0 K O V 2 [aI 1,aR 0] rfl ?_
 refine gPr K (w_block hw) O (rmBlk1 hw x uu rr u6_0 u6_1 0 1 (-1) (-1) (-1) u16_0 u16_1 u17_0 u17_1 zs0 zs1 zc0 zc2 h0 N O V B) [] 0 rfl rfl rfl rfl (by decide) (Nat.le_of_eq rfl) (by decide) (by decide) (by decide) ?_
 refine gR K O V 8 ([aR 0,aI 1,aI 0,aR 9]++un 13) [aI 1,aR 0] rfl ?_
 refine gPi K (w_first hw) O (rmFst1 hw x uu rr u6_0 u6_1 0 1 (-1) (-1) (-1) u16_0 u16_1 u17_0 u17_1 zs0 zs1 zc0 zc2 h0 N O V B) [] 0 rfl rfl rfl rfl (by decide) (Nat.le_of_eq rfl) (by decide) (by decide) (by decide) ?_
 refine gR K O V 100 ([aR 0,aI 1,aI 0,aR 9,aI 2,aI 0,aD 0,aS]++un 9) [aD 0,aI 0,aR 13] rfl ?_
 refine gds K 0 F13 rfl rfl rfl Dz.zero (N.ge 13 rfl) rfl fun h0a (W0a : KJ x h0 h0a [13]) (f0a : AD Z h0a (x 13) [0, y13_1, y13_2]) => ?_
 obtain ⟨O0b, V0b⟩ := ov N O V (js := [13]) W0a rfl rfl rfl
 refine gR K O0b V0b 100 ([aR 0,aI 1,aI 0,aR 9,aI 2,aI 1,aD 0,aS]++un 9) [aD 0,aI 1,aR 13] rfl ?_
 refine gds K 1 f0a rfl rfl rfl Dz.zero (N.ge 13 rfl) rfl fun h0c (W0c : KJ x h0a h0c [13]) (f0c : AD Z h0c (x 13) [0, 0, y13_2]) => ?_
 have k0d := kx [13] (js' := [13]) W0a W0c rfl rfl
 obtain ⟨O0e, V0e⟩ := ov N O V (js := [13]) k0d rfl rfl rfl
 refine gR K O0e V0e 74 ([aR 0,aI 1,aI 0,aR 9,aI 2,aI 2,aD 0,aS,aI 2]++un 8) [aI 3,aR 9,aD 0] rfl ?_
 have f0f := F9.keep k0d (nx N 9 rfl)
 refine gdl K 3 f0f rfl rfl rfl rfl fun d0g q0g => ?_
 refine gR0 K O0e V0e 81 [aI 2,aR 5,aD d0g,aD 0] rfl ?_
 have f0h := F5.keep k0d (nx N 5 rfl)
 refine gdl K 2 f0h rfl rfl rfl rfl fun d0i q0i => ?_
 refine gmul K (z := (-1)) (Dz.mul q0g q0i rfl (by decide)) rfl fun d0j q0j => ?_
 refine gadd K (z := (-1)) (Dz.add Dz.zero q0j rfl (by decide)) rfl fun d0k q0k => ?_
 refine gR K O0e V0e 100 ([aR 0,aI 1,aI 0,aR 9,aI 2,aI 2,aD d0k,aS,aI 3]++un 8) [aD d0k,aI 2,aR 13] rfl ?_
 refine gds K 2 f0c rfl rfl rfl q0k (N.ge 13 rfl) rfl fun h0l (W0l : KJ x h0c h0l [13]) (f0l : AD Z h0l (x 13) [0, 0, (-1)]) => ?_
 have k0m := kx [13] (js' := [13]) k0d W0l rfl rfl
 obtain ⟨O0n, V0n⟩ := ov N O V (js := [13]) k0m rfl rfl rfl
 refine gR K O0n V0n 112 ([aR 0,aI 1,aI 0,aR 9,aI 2,aI 3,aD d0k,aS,aI 3]++un 8) [aI 1,aR 10] rfl ?_
 have f0o := F10.keep k0m (nx N 10 rfl)
 refine gdl K 1 f0o rfl rfl rfl rfl fun d0p q0p => ?_
 refine gR0 K O0n V0n 114 [aD 0,aD d0p] rfl ?_
 refine gcF K (Dz.nt (cd := .ge) q0p Dz.zero (zcm_39 B q)) rfl rfl ?_
 refine gldc K (wd hw 170 rfl) rfl ?_
 refine gR K O0n V0n 135 ([aR 0,aI 1,aI 0,aR 9,aI 2,aD 13830554455654793216,aS,aU,aI 3]++un 8) [] rfl ?_
 refine gldc K (wd hw 197 rfl) rfl ?_
 refine gR K O0n V0n 140 ([aR 0,aI 1,aI 0,aR 9,aI 2,aD 13830554455654793216,aS,aD 4472406533629990549,aS]++un 8) [] rfl ?_
 refine gldc K (wd hw 205 rfl) rfl ?_
 refine gR K O0n V0n 165 ([aR 0,aI 1,aI 0,aR 9,aI 2,aD 13830554455654793216,aS,aD 4472406533629990549,aS,aD 9218868437227405312,aS,aI 0]++un 5) [aI 0,aR 13,aD 13830554455654793216] rfl ?_
 refine gdl K 0 f0l rfl rfl rfl rfl fun d0q q0q => ?_
 refine gmul K (z := 0) (Dz.mul Dz.mone q0q rfl (by decide)) rfl fun d0r q0r => ?_
 refine gR K O0n V0n 171 [aR 0,aI 1,aI 0,aR 9,aI 2,aD 13830554455654793216,aS,aD 4472406533629990549,aS,aD 9218868437227405312,aS,aI 0,aD d0r,aS,aU,aU,aU] [aD d0r] rfl ?_
 refine gldc K (wd hw 197 rfl) rfl ?_
 refine gcT K 202 ⟨_, Ep.lt q0r ep_9 (by decide), rfl⟩ rfl rfl rfl ?_
 refine gR K O0n V0n 165 [aR 0,aI 1,aI 0,aR 9,aI 2,aD 13830554455654793216,aS,aD 4472406533629990549,aS,aD 9218868437227405312,aS,aI 1,aD d0r,aS,aU,aU,aU] [aI 1,aR 13,aD 13830554455654793216] rfl ?_
 refine gdl K 1 f0l rfl rfl rfl rfl fun d0s q0s => ?_
 refine gmul K (z := 0) (Dz.mul Dz.mone q0s rfl (by decide)) rfl fun d0t q0t => ?_
 refine gR K O0n V0n 171 [aR 0,aI 1,aI 0,aR 9,aI 2,aD 13830554455654793216,aS,aD 4472406533629990549,aS,aD 9218868437227405312,aS,aI 1,aD d0t,aS,aU,aU,aU] [aD d0t] rfl ?_
 refine gldc K (wd hw 197 rfl) rfl ?_
 refine gcT K 202 ⟨_, Ep.lt q0t ep_9 (by decide), rfl⟩ rfl rfl rfl ?_
 refine gR K O0n V0n 165 [aR 0,aI 1,aI 0,aR 9,aI 2,aD 13830554455654793216,aS,aD 4472406533629990549,aS,aD 9218868437227405312,aS,aI 2,aD d0t,aS,aU,aU,aU] [aI 2,aR 13,aD 13830554455654793216] rfl ?_
 refine gdl K 2 f0l rfl rfl rfl rfl fun d0u q0u => ?_
 refine gmul K (z := 1) (Dz.mul Dz.mone q0u rfl (by decide)) rfl fun d0v q0v => ?_
 refine gR K O0n V0n 171 [aR 0,aI 1,aI 0,aR 9,aI 2,aD 13830554455654793216,aS,aD 4472406533629990549,aS,aD 9218868437227405312,aS,aI 2,aD d0v,aS,aU,aU,aU] [aD d0v] rfl ?_
 refine gldc K (wd hw 197 rfl) rfl ?_
 refine gcF K ⟨_, Ep.gt q0v ep_9 (by decide), rfl⟩ rfl rfl ?_
 refine gR0 K O0n V0n 187 [aI 2,aR 11,aD 0,aD 9218868437227405312] rfl ?_
 have f0w := F11.keep k0m (nx N 11 rfl)
 refine gdl K 2 f0w rfl rfl rfl rfl fun d0x q0x => ?_
 refine gmax K (wmax hw) zc2 2 Dz.zero q0x (zmx_43 B q) rfl rfl (by decide) (Nat.le_of_eq rfl) (by decide) (by decide) (by decide) fun d0y q0y => ?_
 refine gR0 K O0n V0n 193 [aD 4472406533629990549,aD d0y,aD 9218868437227405312] rfl ?_
 refine gaddP K (Dge zc2) (Dge.add q0y ep_9 (znn_44 B q).1 (znn_44 B q).2).1 (Dge.add q0y ep_9 (znn_44 B q).1 (znn_44 B q).2).2 rfl fun d0z q0z => ?_
 refine gR0 K O0n V0n 196 [aD d0v,aD d0z,aD 9218868437227405312] rfl ?_
 refine gdivP K (Dge zc2) (Dge.dv q0z q0v) (fin_nn (Dge.dv q0z q0v).1) rfl fun d1a q1a => ?_
 refine gmin K (wmin hw) 0 q1a rfl rfl (by decide) (Nat.le_of_eq rfl) (by decide) (by decide) (by decide) ?_
 refine gR K O0n V0n 234 [aR 0,aI 1,aI 0,aR 9,aI 2,aD 13830554455654793216,aS,aD 4472406533629990549,aS,aD d1a,aS,aI (-1),aD 0,aS,aI 0,aU,aU] [aI 0,aR 13,aD 13830554455654793216] rfl ?_
 refine gdl K 0 f0l rfl rfl rfl rfl fun d1b q1b => ?_
 refine gmul K (z := 0) (Dz.mul Dz.mone q1b rfl (by decide)) rfl fun d1c q1c => ?_
 refine gR K O0n V0n 240 [aR 0,aI 1,aI 0,aR 9,aI 2,aD 13830554455654793216,aS,aD 4472406533629990549,aS,aD d1a,aS,aI (-1),aD 0,aS,aI 0,aD d1c,aS] [aD d1c] rfl ?_
 refine gldc K (wd hw 197 rfl) rfl ?_
 refine gcT K 290 ⟨_, Ep.lt q1c ep_9 (by decide), rfl⟩ rfl rfl rfl ?_
 refine gR K O0n V0n 234 [aR 0,aI 1,aI 0,aR 9,aI 2,aD 13830554455654793216,aS,aD 4472406533629990549,aS,aD d1a,aS,aI (-1),aD 0,aS,aI 1,aD d1c,aS] [aI 1,aR 13,aD 13830554455654793216] rfl ?_
 refine gdl K 1 f0l rfl rfl rfl rfl fun d1d q1d => ?_
 refine gmul K (z := 0) (Dz.mul Dz.mone q1d rfl (by decide)) rfl fun d1e q1e => ?_
 refine gR K O0n V0n 240 [aR 0,aI 1,aI 0,aR 9,aI 2,aD 13830554455654793216,aS,aD 4472406533629990549,aS,aD d1a,aS,aI (-1),aD 0,aS,aI 1,aD d1e,aS] [aD d1e] rfl ?_
 refine gldc K (wd hw 197 rfl) rfl ?_
 refine gcT K 290 ⟨_, Ep.lt q1e ep_9 (by decide), rfl⟩ rfl rfl rfl ?_
 refine gR K O0n V0n 234 [aR 0,aI 1,aI 0,aR 9,aI 2,aD 13830554455654793216,aS,aD 4472406533629990549,aS,aD d1a,aS,aI (-1),aD 0,aS,aI 2,aD d1e,aS] [aI 2,aR 13,aD 13830554455654793216] rfl ?_
 refine gdl K 2 f0l rfl rfl rfl rfl fun d1f q1f => ?_
 refine gmul K (z := 1) (Dz.mul Dz.mone q1f rfl (by decide)) rfl fun d1g q1g => ?_
 refine gR K O0n V0n 240 [aR 0,aI 1,aI 0,aR 9,aI 2,aD 13830554455654793216,aS,aD 4472406533629990549,aS,aD d1a,aS,aI (-1),aD 0,aS,aI 2,aD d1g,aS] [aD d1g] rfl ?_
 refine gldc K (wd hw 197 rfl) rfl ?_
 refine gcF K ⟨_, Ep.gt q1g ep_9 (by decide), rfl⟩ rfl rfl ?_
 refine gR0 K O0n V0n 254 [aI 2,aR 11,aD 0] rfl ?_
 refine gdl K 2 f0w rfl rfl rfl rfl fun d1h q1h => ?_
 refine gmax K (wmax hw) zc2 0 Dz.zero q1h (zmx_43 B q) rfl rfl (by decide) (Nat.le_of_eq rfl) (by decide) (by decide) (by decide) fun d1i q1i => ?_
 refine gR0 K O0n V0n 260 [aD d1g,aD d1i] rfl ?_
 refine gdiv K (z := zc2) (Dz.div1 q1i q1g) rfl fun d1j q1j => ?_
 refine gR0 K O0n V0n 263 [aD d1a,aD d1j] rfl ?_
 refine gcF K (Dge.leF q1j q1a) rfl rfl ?_
 refine gR0 K O0n V0n 278 [aD 0,aD d1g] rfl ?_
 refine gcF K (Dz.nt (cd := .le) q1g Dz.zero (by show (0 : Int) < (1 : Int); decide)) rfl rfl ?_
 refine gR K O0n V0n 298 [aR 0,aI 1,aI 0,aR 9,aI 2,aD 13830554455654793216,aS,aD 4472406533629990549,aS,aD d1a,aS,aI 2,aD d1g,aS,aI 3,aD d1g,aS] [aI 2] rfl ?_
 exact gri K rfl (by decide) (by decide) ⟨rfl, k0m, f0l⟩
theorem zph_166 {zs0 zs1 zc0 zc2 : Int} (B : ZB zs0 zs1 zc0 zc2) (q0 : 0 < zs0 ∧ 0 < zs1 ∧ zs1 ≤ zs0) : (-zs1) < 0 := by unfold ZB at B; obtain ⟨b1, b2, b3, b4, b5, b6⟩ := B; omega
theorem rmPV2 (hw : HW Z a0) (x : Nat → Addr) (rr u16_0 u16_1 u17_0 u17_1 : Int32) (y14_0 y14_1 : Int) (zs0 zs1 zc0 zc2 : Int) (h0 : Heap) (N : NX n0 x) (O : OB Z h0 x DSn (fe 1 rr)) (V : EV Z h0 x [(2,[-1,1]),(3,[0,1,2,3]),(4,[0,1,1]),(6,[0,1]),(7,[0,1,-1,-1,-1]),(16,[u16_0,u16_1]),(17,[u17_0,u17_1])]) (B : ZB zs0 zs1 zc0 zc2) (F5 : AD Z h0 (x 5) [1, (-1), 1]) (F9 : AD Z h0 (x 9) [1, 0, 0, (-1)]) (F10 : AD Z h0 (x 10) [zs0, (-zs1)]) (F11 : AD Z h0 (x 11) [0, 0, zc2]) (F13 : AD Z h0 (x 13) [0, 0, (-1)]) (F14 : AD Z h0 (x 14) [y14_0, y14_1]) :
    Con l Z n0 ⟨DSn, "pivot", "(II)Z"⟩ prog_12_method_12_code 19 (some .boolean) ⟨1, 0, 0, 21⟩ #[(.ref (x 0)), (.int 1), (.int 2)] h0 (fun v h => v = some (.int 1) ∧ KJ x h0 h [0,6,7,9,10,11,14] ∧ OB Z h x DSn (fe 2 0) ∧ EV Z h x [(2,[-1,1]),(3,[0,1,2,3]),(4,[0,1,1]),(6,[0,2]),(7,[0,-1,1,-1,-1]),(16,[u16_0,u16_1]),(17,[u17_0,u17_1])] ∧ AD Z h (x 9) [1, 0, 0, 1] ∧ AD Z h (x 10) [zs0, zs1] ∧ AD Z h (x 11) [0, zc2, 0] ∧ AD Z h (x 14) [0, (-1)]) := by
 refine con_of (plainFor_of_name pn_DS) ?_
 intro p e s m below meth c T0 K0 X0 e0
 have K : KX p s m meth c Z a0 DSn "pivot" prog_12_method_12_code 19 (some .boolean) t30 (fe 1 rr) := ⟨K0, k30, lw hw 1 rr⟩
 refine gE (x := x) (L := [aR 0,aI 1,aI 2,aU,aU,aU,aU,aU,aU,aU,aU,aU,aU,aU,aU,aU,aU,aU,aU]) (by simp [entryFrame, mkF, argsToLocals, Value.category, gL, gS, cs, cv]) X0 e0 ?_
 refine gR K O V 37 ([aR 0,aI 1,aI 2,aI 0,aR 8,aI 1,aI 0,aR 9,aI 0]++un 10) [aR 9,aI 0] rfl ?_
 refine gal K 4 F9 rfl rfl rfl ?_
 refine gR K O V 79 ([aR 0,aI 1,aI 2,aI 0,aR 8,aI 1,aI 0,aR 9,aI 0,aD 0,aS,aI 2]++un 7) [aI 1,aR 9,aD 0] rfl ?_
 refine gdl K 1 F9 rfl rfl rfl rfl fun d0a q0a => ?_
 refine gR0 K O V 86 [aI 2,aR 5,aD d0a,aD 0] rfl ?_
 refine gdl K 2 F5 rfl rfl rfl rfl fun d0b q0b => ?_
 refine gmul K (z := 0) (Dz.mul q0a q0b rfl (by decide)) rfl fun d0c q0c => ?_
 refine gadd K (z := 0) (Dz.add Dz.zero q0c rfl (by decide)) rfl fun d0d q0d => ?_
 refine gR K O V 104 ([aR 0,aI 1,aI 2,aI 0,aR 8,aI 1,aI 0,aR 9,aI 0,aD d0d,aS,aI 3]++un 7) [aD d0d,aI 0,aR 14] rfl ?_
 refine gds K 0 F14 rfl rfl rfl q0d (N.ge 14 rfl) rfl fun h0e (W0e : KJ x h0 h0e [14]) (f0e : AD Z h0e (x 14) [0, y14_1]) => ?_
 obtain ⟨O0f, V0f⟩ := ov N O V (js := [14]) W0e rfl rfl rfl
 refine gR K O0f V0f 37 ([aR 0,aI 1,aI 2,aI 1,aR 8,aI 1,aI 0,aR 9,aI 2,aD d0d,aS,aI 3]++un 7) [aR 9,aI 2] rfl ?_
 have f0g := F9.keep W0e (nx N 9 rfl)
 refine gal K 4 f0g rfl rfl rfl ?_
 refine gR K O0f V0f 79 ([aR 0,aI 1,aI 2,aI 1,aR 8,aI 1,aI 0,aR 9,aI 2,aD 0,aS,aI 2]++un 7) [aI 3,aR 9,aD 0] rfl ?_
 refine gdl K 3 f0g rfl rfl rfl rfl fun d0h q0h => ?_
 refine gR0 K O0f V0f 86 [aI 2,aR 5,aD d0h,aD 0] rfl ?_
 have f0i := F5.keep W0e (nx N 5 rfl)
 refine gdl K 2 f0i rfl rfl rfl rfl fun d0j q0j => ?_
 refine gmul K (z := (-1)) (Dz.mul q0h q0j rfl (by decide)) rfl fun d0k q0k => ?_
 refine gadd K (z := (-1)) (Dz.add Dz.zero q0k rfl (by decide)) rfl fun d0l q0l => ?_
 refine gR K O0f V0f 104 ([aR 0,aI 1,aI 2,aI 1,aR 8,aI 1,aI 0,aR 9,aI 2,aD d0l,aS,aI 3]++un 7) [aD d0l,aI 1,aR 14] rfl ?_
 refine gds K 1 f0e rfl rfl rfl q0l (N.ge 14 rfl) rfl fun h0m (W0m : KJ x h0e h0m [14]) (f0m : AD Z h0m (x 14) [0, (-1)]) => ?_
 have k0n := kx [14] (js' := [14]) W0e W0m rfl rfl
 obtain ⟨O0o, V0o⟩ := ov N O V (js := [14]) k0n rfl rfl rfl
 refine gR K O0o V0o 37 ([aR 0,aI 1,aI 2,aI 2,aR 8,aI 1,aI 0,aR 9,aI 4,aD d0l,aS,aI 3]++un 7) [aR 9,aI 4] rfl ?_
 have f0p := F9.keep k0n (nx N 9 rfl)
 refine gal K 4 f0p rfl rfl rfl ?_
 refine gR K O0o V0o 131 ([aR 0,aI 1,aI 2,aI 2,aR 8,aI 1,aI 1,aR 9,aI 4,aD d0l,aS,aI 3]++un 7) [aI 1,aR 14] rfl ?_
 refine gdl K 1 f0m rfl rfl rfl rfl fun d0q q0q => ?_
 refine gR K O0o V0o 141 ([aR 0,aI 1,aI 2,aI 2,aD d0q,aS,aI 1,aR 9,aI 4,aD d0l,aS,aI 3]++un 7) [aI 2,aR 13,aD d0q] rfl ?_
 have f0r := F13.keep k0n (nx N 13 rfl)
 refine gdl K 2 f0r rfl rfl rfl rfl fun d0s q0s => ?_
 refine gsub K (z := 0) (Dz.sub q0q q0s rfl (by decide)) rfl fun d0t q0t => ?_
 refine gabs K (wabs hw) 0 0 q0t rfl rfl rfl (by decide) (Nat.le_of_eq rfl) (by decide) (by decide) (by decide) fun d0u q0u => ?_
 refine gldc K (wd hw 216 rfl) rfl ?_
 refine gR0 K O0o V0o 152 [aD d0q,aD 4607182418800017408,aD 4502148214488346440,aD d0u] rfl ?_
 refine gabs K (wabs hw) 1 6 q0q rfl rfl rfl (by decide) (Nat.le_of_eq rfl) (by decide) (by decide) (by decide) fun d0v q0v => ?_
 refine gadd K (z := 2) (Dz.add Dz.one q0v rfl (by decide)) rfl fun d0w q0w => ?_
 refine gmulP K Ep (Ep.two q0w) (Ep.two q0w).1 rfl fun d0x q0x => ?_
 refine gcT K 163 ⟨_, Ep.lt q0u q0x (by decide), rfl⟩ rfl rfl rfl ?_
 refine gR0 K O0o V0o 168 [aI 1,aR 10] rfl ?_
 have f0y := F10.keep k0n (nx N 10 rfl)
 refine gdl K 1 f0y rfl rfl rfl rfl fun d0z q0z => ?_
 refine gR0 K O0o V0o 171 [aD d0q,aD d0z] rfl ?_
 refine gdiv K (z := zs1) (Dz.divm q0z q0q zeq_18) rfl fun d1a q1a => ?_
 refine gR K O0o V0o 193 ([aR 0,aI 1,aI 2,aI 2,aD d0q,aS,aD d1a,aS,aI 0,aD d0l,aS,aI 3]++un 7) [aI 0,aR 10,aI 0,aR 10] rfl ?_
 refine gdl K 0 f0y rfl rfl rfl rfl fun d1b q1b => ?_
 refine gR0 K O0o V0o 202 [aI 0,aR 14,aD d1a,aD d1b,aI 0,aR 10] rfl ?_
 refine gdl K 0 f0m rfl rfl rfl rfl fun d1c q1c => ?_
 refine gmul K (z := 0) (Dz.mul q1a q1c zeq_55 (by decide)) rfl fun d1d q1d => ?_
 refine gsub K (z := zs0) (Dz.sub q1b q1d zeq_8 (zbd_9 B)) rfl fun d1e q1e => ?_
 refine gds K 0 f0y rfl rfl rfl q1e (N.ge 10 rfl) rfl fun h1f (W1f : KJ x h0m h1f [10]) (f1f : AD Z h1f (x 10) [zs0, (-zs1)]) => ?_
 have k1g := kx [10,14] (js' := [10]) k0n W1f rfl rfl
 obtain ⟨O1h, V1h⟩ := ov N O V (js := [10,14]) k1g rfl rfl rfl
 refine gR K O1h V1h 193 ([aR 0,aI 1,aI 2,aI 2,aD d0q,aS,aD d1a,aS,aI 1,aD d0l,aS,aI 3]++un 7) [aI 1,aR 10,aI 1,aR 10] rfl ?_
 refine gdl K 1 f1f rfl rfl rfl rfl fun d1i q1i => ?_
 refine gR0 K O1h V1h 202 [aI 1,aR 14,aD d1a,aD d1i,aI 1,aR 10] rfl ?_
 have f1j := f0m.keep W1f (nx N 14 rfl)
 refine gdl K 1 f1j rfl rfl rfl rfl fun d1k q1k => ?_
 refine gmul K (z := (-zs1)) (Dz.mul q1a q1k zeq_56 (zbd_6 B)) rfl fun d1l q1l => ?_
 refine gsub K (z := 0) (Dz.sub q1i q1l zeq_57 (by decide)) rfl fun d1m q1m => ?_
 refine gds K 1 f1f rfl rfl rfl q1m (N.ge 10 rfl) rfl fun h1n (W1n : KJ x h1f h1n [10]) (f1n : AD Z h1n (x 10) [zs0, 0]) => ?_
 have k1o := kx [10,14] (js' := [10]) k1g W1n rfl rfl
 obtain ⟨O1p, V1p⟩ := ov N O V (js := [10,14]) k1o rfl rfl rfl
 refine gR K O1p V1p 219 ([aR 0,aI 1,aI 2,aI 2,aD d0q,aS,aD d1a,aS,aI 2,aD d0l,aS,aI 3]++un 7) [aD d1a,aI 1,aR 10] rfl ?_
 refine gds K 1 f1n rfl rfl rfl q1a (N.ge 10 rfl) rfl fun h1q (W1q : KJ x h1n h1q [10]) (f1q : AD Z h1q (x 10) [zs0, zs1]) => ?_
 have k1r := kx [10,14] (js' := [10]) k1o W1q rfl rfl
 obtain ⟨O1s, V1s⟩ := ov N O V (js := [10,14]) k1r rfl rfl rfl
 refine gR0 K O1s V1s 225 [aI 2,aR 11] rfl ?_
 have f1t := F11.keep k1r (nx N 11 rfl)
 refine gdl K 2 f1t rfl rfl rfl rfl fun d1u q1u => ?_
 refine gR0 K O1s V1s 228 [aD d0q,aD d1u] rfl ?_
 refine gdiv K (z := (-zc2)) (Dz.divm q1u q0q zeq_58) rfl fun d1v q1v => ?_
 refine gR K O1s V1s 250 ([aR 0,aI 1,aI 2,aI 2,aD d0q,aS,aD d1a,aS,aD d1v,aS,aI 0,aI 3]++un 7) [aI 0,aR 11,aI 0,aR 11] rfl ?_
 refine gdl K 0 f1t rfl rfl rfl rfl fun d1w q1w => ?_
 refine gR0 K O1s V1s 259 [aI 0,aR 13,aD d1v,aD d1w,aI 0,aR 11] rfl ?_
 have f1x := F13.keep k1r (nx N 13 rfl)
 refine gdl K 0 f1x rfl rfl rfl rfl fun d1y q1y => ?_
 refine gmul K (z := 0) (Dz.mul q1v q1y zeq_59 (by decide)) rfl fun d1z q1z => ?_
 refine gsub K (z := 0) (Dz.sub q1w q1z rfl (by decide)) rfl fun d2a q2a => ?_
 refine gds K 0 f1t rfl rfl rfl q2a (N.ge 11 rfl) rfl fun h2b (W2b : KJ x h1q h2b [11]) (f2b : AD Z h2b (x 11) [0, 0, zc2]) => ?_
 have k2c := kx [10,11,14] (js' := [11]) k1r W2b rfl rfl
 obtain ⟨O2d, V2d⟩ := ov N O V (js := [10,11,14]) k2c rfl rfl rfl
 refine gR K O2d V2d 250 ([aR 0,aI 1,aI 2,aI 2,aD d0q,aS,aD d1a,aS,aD d1v,aS,aI 1,aI 3]++un 7) [aI 1,aR 11,aI 1,aR 11] rfl ?_
 refine gdl K 1 f2b rfl rfl rfl rfl fun d2e q2e => ?_
 refine gR0 K O2d V2d 259 [aI 1,aR 13,aD d1v,aD d2e,aI 1,aR 11] rfl ?_
 have f2f := F13.keep k2c (nx N 13 rfl)
 refine gdl K 1 f2f rfl rfl rfl rfl fun d2g q2g => ?_
 refine gmul K (z := 0) (Dz.mul q1v q2g zeq_59 (by decide)) rfl fun d2h q2h => ?_
 refine gsub K (z := 0) (Dz.sub q2e q2h rfl (by decide)) rfl fun d2i q2i => ?_
 refine gds K 1 f2b rfl rfl rfl q2i (N.ge 11 rfl) rfl fun h2j (W2j : KJ x h2b h2j [11]) (f2j : AD Z h2j (x 11) [0, 0, zc2]) => ?_
 have k2k := kx [10,11,14] (js' := [11]) k2c W2j rfl rfl
 obtain ⟨O2l, V2l⟩ := ov N O V (js := [10,11,14]) k2k rfl rfl rfl
 refine gR K O2l V2l 250 ([aR 0,aI 1,aI 2,aI 2,aD d0q,aS,aD d1a,aS,aD d1v,aS,aI 2,aI 3]++un 7) [aI 2,aR 11,aI 2,aR 11] rfl ?_
 refine gdl K 2 f2j rfl rfl rfl rfl fun d2m q2m => ?_
 refine gR0 K O2l V2l 259 [aI 2,aR 13,aD d1v,aD d2m,aI 2,aR 11] rfl ?_
 have f2n := F13.keep k2k (nx N 13 rfl)
 refine gdl K 2 f2n rfl rfl rfl rfl fun d2o q2o => ?_
 refine gmul K (z := zc2) (Dz.mul q1v q2o zeq_63 (zbd_64 B)) rfl fun d2p q2p => ?_
 refine gsub K (z := 0) (Dz.sub q2m q2p zeq_65 (by decide)) rfl fun d2q q2q => ?_
 refine gds K 2 f2j rfl rfl rfl q2q (N.ge 11 rfl) rfl fun h2r (W2r : KJ x h2j h2r [11]) (f2r : AD Z h2r (x 11) [0, 0, 0]) => ?_
 have k2s := kx [10,11,14] (js' := [11]) k2k W2r rfl rfl
 obtain ⟨O2t, V2t⟩ := ov N O V (js := [10,11,14]) k2s rfl rfl rfl
 refine gR K O2t V2t 294 ([aR 0,aI 1,aI 2,aI 2,aD d0q,aS,aD d1a,aS,aD d1v,aS,aI 1,aI 3]++un 7) [aD d1v,aI 1,aR 11] rfl ?_
 refine gneg K (z := zc2) (Dz.neg q1v zeq_66) rfl fun d2u q2u => ?_
 refine gds K 1 f2r rfl rfl rfl q2u (N.ge 11 rfl) rfl fun h2v (W2v : KJ x h2r h2v [11]) (f2v : AD Z h2v (x 11) [0, zc2, 0]) => ?_
 have k2w := kx [10,11,14] (js' := [11]) k2s W2v rfl rfl
 obtain ⟨O2x, V2x⟩ := ov N O V (js := [10,11,14]) k2w rfl rfl rfl
 refine gR0 K O2x V2x 302 [aD 0,aI 2,aR 11] rfl ?_
 refine gds K 2 f2v rfl rfl rfl Dz.zero (N.ge 11 rfl) rfl fun h2y (W2y : KJ x h2v h2y [11]) (f2y : AD Z h2y (x 11) [0, zc2, 0]) => ?_
 have k2z := kx [10,11,14] (js' := [11]) k2w W2y rfl rfl
 obtain ⟨O3a, V3a⟩ := ov N O V (js := [10,11,14]) k2z rfl rfl rfl
 refine gR0 K O3a V3a 310 [aI (-1),aI 1,aR 7] rfl ?_
 refine gist K V3a N 1 [(2,[-1,1]),(3,[0,1,2,3]),(4,[0,1,1]),(6,[0,1]),(7,[0,-1,-1,-1,-1]),(16,[u16_0,u16_1]),(17,[u17_0,u17_1])] rfl rfl rfl rfl rfl rfl fun h3b (W3b : KJ x h2y h3b [7]) V3b => ?_
 have O3b := O3a.keep W3b (nx N 0 (js := [7]) rfl)
 refine gR0 K O3b V3b 317 [aI 1,aI 2,aR 7] rfl ?_
 refine gist K V3b N 2 [(2,[-1,1]),(3,[0,1,2,3]),(4,[0,1,1]),(6,[0,1]),(7,[0,-1,1,-1,-1]),(16,[u16_0,u16_1]),(17,[u17_0,u17_1])] rfl rfl rfl rfl rfl rfl fun h3c (W3c : KJ x h3b h3c [7]) V3c => ?_
 have O3c := O3b.keep W3c (nx N 0 (js := [7]) rfl)
 refine gR0 K O3c V3c 324 [aI 2,aI 1,aR 6] rfl ?_
 refine gist K V3c N 1 [(2,[-1,1]),(3,[0,1,2,3]),(4,[0,1,1]),(6,[0,2]),(7,[0,-1,1,-1,-1]),(16,[u16_0,u16_1]),(17,[u17_0,u17_1])] rfl rfl rfl rfl rfl rfl fun h3d (W3d : KJ x h3c h3d [6]) V3d => ?_
 have O3d := O3c.keep W3d (nx N 0 (js := [6]) rfl)
 refine gR0 K O3d V3d 327 [aI 1,aR 0] rfl ?_
 refine gPr K (w_block hw) O3d (rmBlk1 hw x 1 rr 0 2 0 (-1) 1 (-1) (-1) u16_0 u16_1 u17_0 u17_1 zs0 zs1 zc0 zc2 h3d N O3d V3d B) [] 0 rfl rfl rfl rfl (by decide) (Nat.le_of_eq rfl) (by decide) (by decide) (by decide) ?_
 refine gR K O3d V3d 334 ([aR 0,aI 1,aI 2,aI 2,aD d0q,aS,aD d1a,aS,aD d1v,aS,aI 1,aR 9]++un 7) [aI 1,aR 0] rfl ?_
 refine gPi K (w_first hw) O3d (rmFst1 hw x 1 rr 0 2 0 (-1) 1 (-1) (-1) u16_0 u16_1 u17_0 u17_1 zs0 zs1 zc0 zc2 h3d N O3d V3d B) [] 0 rfl rfl rfl rfl (by decide) (Nat.le_of_eq rfl) (by decide) (by decide) (by decide) ?_
 refine gR K O3d V3d 359 ([aR 0,aI 1,aI 2,aI 2,aD d0q,aS,aD d1a,aS,aD d1v,aS,aI 1,aR 9,aI 2,aI 0]++un 5) [aI 2,aR 9,aI 2,aR 9] rfl ?_
 have k3e := kx [7,10,11,14] (js' := [7]) k2z W3b rfl rfl
 have k3f := kx [7,10,11,14] (js' := [7]) k3e W3c rfl rfl
 have k3g := kx [6,7,10,11,14] (js' := [6]) k3f W3d rfl rfl
 have f3h := F9.keep k3g (nx N 9 rfl)
 refine gdl K 2 f3h rfl rfl rfl rfl fun d3i q3i => ?_
 refine gR0 K O3d V3d 362 [aD d0q,aD d3i,aI 2,aR 9] rfl ?_
 refine gdiv K (z := 0) (Dz.divm q3i q0q rfl) rfl fun d3j q3j => ?_
 refine gds K 2 f3h rfl rfl rfl q3j (N.ge 9 rfl) rfl fun h3k (W3k : KJ x h3d h3k [9]) (f3k : AD Z h3k (x 9) [1, 0, 0, (-1)]) => ?_
 obtain ⟨O3l, V3l⟩ := ov N O3d V3d (js := [9]) W3k rfl rfl rfl
 refine gR K O3l V3l 359 ([aR 0,aI 1,aI 2,aI 2,aD d0q,aS,aD d1a,aS,aD d1v,aS,aI 1,aR 9,aI 2,aI 1]++un 5) [aI 3,aR 9,aI 3,aR 9] rfl ?_
 refine gdl K 3 f3k rfl rfl rfl rfl fun d3m q3m => ?_
 refine gR0 K O3l V3l 362 [aD d0q,aD d3m,aI 3,aR 9] rfl ?_
 refine gdiv K (z := 1) (Dz.divm q3m q0q rfl) rfl fun d3n q3n => ?_
 refine gds K 3 f3k rfl rfl rfl q3n (N.ge 9 rfl) rfl fun h3o (W3o : KJ x h3k h3o [9]) (f3o : AD Z h3o (x 9) [1, 0, 0, 1]) => ?_
 have k3p := kx [9] (js' := [9]) W3k W3o rfl rfl
 obtain ⟨O3q, V3q⟩ := ov N O3d V3d (js := [9]) k3p rfl rfl rfl
 refine gR K O3q V3q 388 ([aR 0,aI 1,aI 2,aI 2,aD d0q,aS,aD d1a,aS,aD d1v,aS,aI 1,aR 9,aI 2,aI 0]++un 5) [aI 0,aR 14] rfl ?_
 have k3r := kx [10] (js' := [10]) W1f W1n rfl rfl
 have k3s := kx [10] (js' := [10]) k3r W1q rfl rfl
 have k3t := kx [10,11] (js' := [11]) k3s W2b rfl rfl
 have k3u := kx [10,11] (js' := [11]) k3t W2j rfl rfl
 have k3v := kx [10,11] (js' := [11]) k3u W2r rfl rfl
 have k3w := kx [10,11] (js' := [11]) k3v W2v rfl rfl
 have k3x := kx [10,11] (js' := [11]) k3w W2y rfl rfl
 have k3y := kx [7,10,11] (js' := [7]) k3x W3b rfl rfl
 have k3z := kx [7,10,11] (js' := [7]) k3y W3c rfl rfl
 have k4a := kx [6,7,10,11] (js' := [6]) k3z W3d rfl rfl
 have k4b := kx [6,7,9,10,11] (js' := [9]) k4a W3k rfl rfl
 have k4c := kx [6,7,9,10,11] (js' := [9]) k4b W3o rfl rfl
 have f4d := f0m.keep k4c (nx N 14 rfl)
 refine gdl K 0 f4d rfl rfl rfl rfl fun d4e q4e => ?_
 refine gR K O3q V3q 400 [aR 0,aI 1,aI 2,aI 2,aD d0q,aS,aD d1a,aS,aD d1v,aS,aI 1,aR 9,aI 2,aI 0,aD d4e,aS,aU,aU,aU] [aD 0,aD d4e] rfl ?_
 refine gcT K 460 (Dz.tk (cd := .eq) q4e Dz.zero (by show (0 : Int) = (0 : Int); decide)) rfl rfl rfl ?_
 refine gR K O3q V3q 388 [aR 0,aI 1,aI 2,aI 2,aD d0q,aS,aD d1a,aS,aD d1v,aS,aI 1,aR 9,aI 2,aI 1,aD d4e,aS,aU,aU,aU] [aI 1,aR 14] rfl ?_
 refine gdl K 1 f4d rfl rfl rfl rfl fun d4f q4f => ?_
 refine gR K O3q V3q 468 [aR 0,aI 1,aI 2,aI 2,aD d0q,aS,aD d1a,aS,aD d1v,aS,aI 1,aR 9,aI 2,aI 2,aD d4f,aS,aU,aU,aU] [aI 0,aR 0] rfl ?_
 refine grcc K hw O3q N (Or.inl rfl) rfl fun h4g (W4g : KJ x h3o h4g [0]) O4g => ?_
 have K := K.re hw 1 0
 have V4g := V3q.keep N (js := [0]) W4g rfl rfl
 refine gR0 K O4g V4g 478 [aI 2,aR 0] rfl ?_
 refine gpsr K hw O4g N rfl fun h4h (W4h : KJ x h4g h4h [0]) O4h => ?_
 have K := K.re hw 2 0
 have V4h := V4g.keep N (js := [0]) W4h rfl rfl
 refine gR0 K O4h V4h 496 [aI 1] rfl ?_
 have k4i := kx [0] (js' := [0]) W4g W4h rfl rfl
 have f4j := f3o.keep k4i (nx N 9 rfl)
 have k4k := kx [11] (js' := [11]) W2b W2j rfl rfl
 have k4l := kx [11] (js' := [11]) k4k W2r rfl rfl
 have k4m := kx [11] (js' := [11]) k4l W2v rfl rfl
 have k4n := kx [11] (js' := [11]) k4m W2y rfl rfl
 have k4o := kx [7,11] (js' := [7]) k4n W3b rfl rfl
 have k4p := kx [7,11] (js' := [7]) k4o W3c rfl rfl
 have k4q := kx [6,7,11] (js' := [6]) k4p W3d rfl rfl
 have k4r := kx [6,7,9,11] (js' := [9]) k4q W3k rfl rfl
 have k4s := kx [6,7,9,11] (js' := [9]) k4r W3o rfl rfl
 have k4t := kx [0,6,7,9,11] (js' := [0]) k4s W4g rfl rfl
 have k4u := kx [0,6,7,9,11] (js' := [0]) k4t W4h rfl rfl
 have f4v := f1q.keep k4u (nx N 10 rfl)
 have k4w := kx [7] (js' := [7]) W3b W3c rfl rfl
 have k4x := kx [6,7] (js' := [6]) k4w W3d rfl rfl
 have k4y := kx [6,7,9] (js' := [9]) k4x W3k rfl rfl
 have k4z := kx [6,7,9] (js' := [9]) k4y W3o rfl rfl
 have k5a := kx [0,6,7,9] (js' := [0]) k4z W4g rfl rfl
 have k5b := kx [0,6,7,9] (js' := [0]) k5a W4h rfl rfl
 have f5c := f2y.keep k5b (nx N 11 rfl)
 have k5d := kx [0,6,7,9,10,11] (js' := [0]) k4c W4g rfl rfl
 have k5e := kx [0,6,7,9,10,11] (js' := [0]) k5d W4h rfl rfl
 have f5f := f0m.keep k5e (nx N 14 rfl)
 have k5g := kx [6,7,9,10,11,14] (js' := [9]) k3g W3k rfl rfl
 have k5h := kx [6,7,9,10,11,14] (js' := [9]) k5g W3o rfl rfl
 have k5i := kx [0,6,7,9,10,11,14] (js' := [0]) k5h W4g rfl rfl
 have k5j := kx [0,6,7,9,10,11,14] (js' := [0]) k5i W4h rfl rfl
 exact grz K (Or.inr rfl) rfl (by decide) (by decide) ⟨rfl, k5j, O4h, V4h, f4j, f4v, f5c, f5f⟩
theorem zep_177 {zs0 zs1 zc0 zc2 : Int} (B : ZB zs0 zs1 zc0 zc2) (q0 : 0 < zs0 ∧ 0 < zs1 ∧ zs1 ≤ zs0) : (-zs1) ≤ 0 := by unfold ZB at B; obtain ⟨b1, b2, b3, b4, b5, b6⟩ := B; omega
theorem rmLR10 (hw : HW Z a0) (x : Nat → Addr) (uu rr u7_0 u7_1 u7_2 u7_3 u7_4 u16_0 u16_1 u17_0 u17_1 : Int32) (zs0 zs1 zc0 zc2 : Int) (h0 : Heap) (N : NX n0 x) (O : OB Z h0 x DSn (fe uu rr)) (V : EV Z h0 x [(2,[-1,1]),(3,[0,1,2,3]),(4,[0,1,1]),(6,[0,2]),(7,[u7_0,u7_1,u7_2,u7_3,u7_4]),(16,[u16_0,u16_1]),(17,[u17_0,u17_1])]) (B : ZB zs0 zs1 zc0 zc2) (q : 0 < zs0 ∧ 0 < zs1 ∧ zs1 ≤ zs0) (F10 : AD Z h0 (x 10) [zs0, zs1]) :
    Con l Z n0 ⟨DSn, "leavingRow", "(Z)I"⟩ prog_12_method_10_code 10 (some .int) ⟨0, 0, 0, 0⟩ #[(.ref (x 0)), (.int 0)] h0 (fun v h => v = some (.int (-1)) ∧ h = h0) := by
 refine con_of (plainFor_of_name pn_DS) ?_
 intro p e s m below meth c T0 K0 X0 e0
 have K : KX p s m meth c Z a0 DSn "leavingRow" prog_12_method_10_code 10 (some .int) t25 (fe uu rr) := ⟨K0, k25, lw hw uu rr⟩
 refine gE (x := x) (L := [aR 0,aI 0,aU,aU,aU,aU,aU,aU,aU,aU]) (by simp [entryFrame, mkF, argsToLocals, Value.category, gL, gS, cs, cv]) X0 e0 ?_
 refine gR K O V 2 ([aR 0,aI 0,aI (-1)]++un 7) [] rfl ?_
 refine gldc K (wd hw 197 rfl) rfl ?_
 refine gR K O V 24 ([aR 0,aI 0,aI (-1),aD 4472406533629990549,aS,aI 0]++un 4) [aI 0,aR 10] rfl ?_
 refine gdl K 0 F10 rfl rfl rfl rfl fun d0a q0a => ?_
 refine gR K O V 43 [aR 0,aI 0,aI (-1),aD 4472406533629990549,aS,aI 0,aD d0a,aS,aU,aU] [aD d0a] rfl ?_
 refine gneg K (z := (-zs0)) (Dz.neg q0a zeq_144) rfl fun d0b q0b => ?_
 refine gR K O V 96 [aR 0,aI 0,aI (-1),aD 4472406533629990549,aS,aI 0,aD d0a,aS,aD d0b,aS] [aD 4472406533629990549,aD d0b] rfl ?_
 refine gcT K 106 ⟨_, Ep.lt q0b ep_9 (zep_156 B q), rfl⟩ rfl rfl rfl ?_
 refine gR K O V 24 [aR 0,aI 0,aI (-1),aD 4472406533629990549,aS,aI 1,aD d0a,aS,aD d0b,aS] [aI 1,aR 10] rfl ?_
 refine gdl K 1 F10 rfl rfl rfl rfl fun d0c q0c => ?_
 refine gR K O V 43 [aR 0,aI 0,aI (-1),aD 4472406533629990549,aS,aI 1,aD d0c,aS,aD d0b,aS] [aD d0c] rfl ?_
 refine gneg K (z := (-zs1)) (Dz.neg q0c zeq_69) rfl fun d0d q0d => ?_
 refine gR K O V 96 [aR 0,aI 0,aI (-1),aD 4472406533629990549,aS,aI 1,aD d0c,aS,aD d0d,aS] [aD 4472406533629990549,aD d0d] rfl ?_
 refine gcT K 106 ⟨_, Ep.lt q0d ep_9 (zep_177 B q), rfl⟩ rfl rfl rfl ?_
 refine gR K O V 113 [aR 0,aI 0,aI (-1),aD 4472406533629990549,aS,aI 2,aD d0c,aS,aD d0d,aS] [aI (-1)] rfl ?_
 exact gri K rfl (by decide) (by decide) ⟨rfl, rfl⟩
theorem zeq_180 {zc0 : Int} : (zc0 + 0 : Int) = zc0 := by omega
theorem rmPR3 (hw : HW Z a0) (x : Nat → Addr) (uu rr u7_0 u7_1 u7_2 u7_3 u7_4 u16_0 u16_1 u17_0 u17_1 : Int32) (zs0 zs1 zc0 zc2 : Int) (h0 : Heap) (N : NX n0 x) (O : OB Z h0 x DSn (fe uu rr)) (V : EV Z h0 x [(2,[-1,1]),(3,[0,1,2,3]),(4,[0,1,1]),(6,[0,2]),(7,[u7_0,u7_1,u7_2,u7_3,u7_4]),(16,[u16_0,u16_1]),(17,[u17_0,u17_1])]) (B : ZB zs0 zs1 zc0 zc2) (Z0 : n0 ≤ h0.size) (F1 : AD Z h0 (x 1) [zc0, 0, zc2]) (F9 : AD Z h0 (x 9) [1, 0, 0, 1]) :
    Con l Z n0 ⟨DSn, "prices", "()[D"⟩ prog_12_method_14_code 10 (some (.array .double)) ⟨0, 1, 2, 0⟩ #[(.ref (x 0))] h0 (fun v h => ∃ b, v = some (.ref b) ∧ KJ x h0 h [] ∧ h0.size ≤ b ∧ AD Z h b [zc0, zc2]) := by
 refine con_of (plainFor_of_name pn_DS) ?_
 intro p e s m below meth c T0 K0 X0 e0
 have K : KX p s m meth c Z a0 DSn "prices" prog_12_method_14_code 10 (some (.array .double)) t32 (fe uu rr) := ⟨K0, k32, lw hw uu rr⟩
 refine gE (x := x) (L := [aR 0,aU,aU,aU,aU,aU,aU,aU,aU,aU]) (by simp [entryFrame, mkF, argsToLocals, Value.category, gL, gS, cs, cv]) X0 e0 ?_
 refine gR0 K O V 4 [aI 2] rfl ?_
 refine gnew K (wd hw 15 rfl) 2 rfl (by decide) rfl (by decide) (by decide) fun h0a b0a g0a (W0a : KJ x h0 h0a []) (f0a : AD Z h0a b0a [0, 0]) e0a => ?_
 have g0b : n0 ≤ b0a := Nat.le_trans Z0 g0a
 obtain ⟨O0c, V0c⟩ := ov N O V (js := []) W0a rfl rfl rfl
 refine gR K O0c V0c 41 [aR 0,aA b0a,aI 0,aR 8,aI 1,aI 0,aR 9,aI 0,aU,aU] [aR 9,aI 0] rfl ?_
 have f0d := F9.keep W0a (nx N 9 rfl)
 refine gal K 4 f0d rfl rfl rfl ?_
 refine gR K O0c V0c 68 [aR 0,aA b0a,aI 0,aR 8,aI 1,aI 0,aR 9,aI 0,aI 0,aU] [aI 0,aR 1] rfl ?_
 have f0e := F1.keep W0a (nx N 1 rfl)
 refine gdl K 0 f0e rfl rfl rfl rfl fun d0f q0f => ?_
 refine gR0 K O0c V0c 70 [aD 0,aD d0f] rfl ?_
 refine gcX K 115 q0f Dz.zero rfl rfl rfl ?_ ?_
 · intro (c1921 : zc0 = 0)
   refine gR K O0c V0c 41 [aR 0,aA b0a,aI 1,aR 8,aI 1,aI 0,aR 9,aI 2,aI 0,aU] [aR 9,aI 2] rfl ?_
   refine gal K 4 f0d rfl rfl rfl ?_
   refine gR K O0c V0c 68 [aR 0,aA b0a,aI 1,aR 8,aI 1,aI 0,aR 9,aI 2,aI 2,aU] [aI 2,aR 1] rfl ?_
   refine gdl K 2 f0e rfl rfl rfl rfl fun d0g q0g => ?_
   refine gR0 K O0c V0c 70 [aD 0,aD d0g] rfl ?_
   refine gcX K 115 q0g Dz.zero rfl rfl rfl ?_ ?_
   · intro (c1923 : zc2 = 0)
     refine gR K O0c V0c 41 [aR 0,aA b0a,aI 2,aR 8,aI 1,aI 0,aR 9,aI 4,aI 2,aU] [aR 9,aI 4] rfl ?_
     refine gal K 4 f0d rfl rfl rfl ?_
     refine gR K O0c V0c 137 [aR 0,aA b0a,aI 2,aR 8,aI 1,aI 1,aR 9,aI 4,aI 2,aU] [aA b0a] rfl ?_
     have f0h : AD Z h0a b0a [zc0, zc2] := by simp only [c1921, c1923]; exact f0a
     exact gra K rfl rfl rfl rfl (by decide) (by decide) ⟨b0a, rfl, W0a, g0a, f0h⟩
   · intro (c1923 : ¬ zc2 = 0)
     refine gR K O0c V0c 90 [aR 0,aA b0a,aI 1,aR 8,aI 1,aI 0,aR 9,aI 2,aI 2,aI 0] [aI 0,aA b0a,aI 0,aA b0a] rfl ?_
     refine gdl K 0 f0a rfl rfl rfl rfl fun d0i q0i => ?_
     refine gR0 K O0c V0c 97 [aI 2,aR 1,aD d0i,aI 0,aA b0a] rfl ?_
     refine gdl K 2 f0e rfl rfl rfl rfl fun d0j q0j => ?_
     refine gR0 K O0c V0c 105 [aI 2,aR 9,aD d0j,aD d0i,aI 0,aA b0a] rfl ?_
     refine gdl K 2 f0d rfl rfl rfl rfl fun d0k q0k => ?_
     refine gmul K (z := 0) (Dz.mul q0j q0k zeq_82 (by decide)) rfl fun d0l q0l => ?_
     refine gadd K (z := 0) (Dz.add q0i q0l rfl (by decide)) rfl fun d0m q0m => ?_
     refine gds K 0 f0a rfl rfl rfl q0m g0b rfl fun h0n (W0n : Keep h0a h0n [b0a]) (f0n : AD Z h0n b0a [0, 0]) => ?_
     have k0o := kf (js := []) W0a W0n g0a
     obtain ⟨O0p, V0p⟩ := ov N O V (js := []) k0o rfl rfl rfl
     refine gR K O0p V0p 90 [aR 0,aA b0a,aI 1,aR 8,aI 1,aI 0,aR 9,aI 2,aI 2,aI 1] [aI 1,aA b0a,aI 1,aA b0a] rfl ?_
     refine gdl K 1 f0n rfl rfl rfl rfl fun d0q q0q => ?_
     refine gR0 K O0p V0p 97 [aI 2,aR 1,aD d0q,aI 1,aA b0a] rfl ?_
     have f0r := F1.keep k0o (nx N 1 rfl)
     refine gdl K 2 f0r rfl rfl rfl rfl fun d0s q0s => ?_
     refine gR0 K O0p V0p 105 [aI 3,aR 9,aD d0s,aD d0q,aI 1,aA b0a] rfl ?_
     have f0t := F9.keep k0o (nx N 9 rfl)
     refine gdl K 3 f0t rfl rfl rfl rfl fun d0u q0u => ?_
     refine gmul K (z := zc2) (Dz.mul q0s q0u zeq_84 (zbd_64 B)) rfl fun d0v q0v => ?_
     refine gadd K (z := zc2) (Dz.add q0q q0v zeq_85 (zbd_64 B)) rfl fun d0w q0w => ?_
     refine gds K 1 f0n rfl rfl rfl q0w g0b rfl fun h0x (W0x : Keep h0n h0x [b0a]) (f0x : AD Z h0x b0a [0, zc2]) => ?_
     have k0y := kf (js := []) k0o W0x g0a
     obtain ⟨O0z, V0z⟩ := ov N O V (js := []) k0y rfl rfl rfl
     refine gR K O0z V0z 41 [aR 0,aA b0a,aI 2,aR 8,aI 1,aI 0,aR 9,aI 4,aI 2,aI 2] [aR 9,aI 4] rfl ?_
     have f1a := F9.keep k0y (nx N 9 rfl)
     refine gal K 4 f1a rfl rfl rfl ?_
     refine gR K O0z V0z 137 [aR 0,aA b0a,aI 2,aR 8,aI 1,aI 1,aR 9,aI 4,aI 2,aI 2] [aA b0a] rfl ?_
     have f1b : AD Z h0x b0a [zc0, zc2] := by simp only [c1921]; exact f0x
     exact gra K rfl rfl rfl rfl (by decide) (by decide) ⟨b0a, rfl, k0y, g0a, f1b⟩
 · intro (c1921 : ¬ zc0 = 0)
   refine gR K O0c V0c 90 [aR 0,aA b0a,aI 0,aR 8,aI 1,aI 0,aR 9,aI 0,aI 0,aI 0] [aI 0,aA b0a,aI 0,aA b0a] rfl ?_
   refine gdl K 0 f0a rfl rfl rfl rfl fun d1c q1c => ?_
   refine gR0 K O0c V0c 97 [aI 0,aR 1,aD d1c,aI 0,aA b0a] rfl ?_
   refine gdl K 0 f0e rfl rfl rfl rfl fun d1d q1d => ?_
   refine gR0 K O0c V0c 105 [aI 0,aR 9,aD d1d,aD d1c,aI 0,aA b0a] rfl ?_
   refine gdl K 0 f0d rfl rfl rfl rfl fun d1e q1e => ?_
   refine gmul K (z := zc0) (Dz.mul q1d q1e zeq_140 (zbd_61 B)) rfl fun d1f q1f => ?_
   refine gadd K (z := zc0) (Dz.add q1c q1f zeq_147 (zbd_61 B)) rfl fun d1g q1g => ?_
   refine gds K 0 f0a rfl rfl rfl q1g g0b rfl fun h1h (W1h : Keep h0a h1h [b0a]) (f1h : AD Z h1h b0a [zc0, 0]) => ?_
   have k1i := kf (js := []) W0a W1h g0a
   obtain ⟨O1j, V1j⟩ := ov N O V (js := []) k1i rfl rfl rfl
   refine gR K O1j V1j 90 [aR 0,aA b0a,aI 0,aR 8,aI 1,aI 0,aR 9,aI 0,aI 0,aI 1] [aI 1,aA b0a,aI 1,aA b0a] rfl ?_
   refine gdl K 1 f1h rfl rfl rfl rfl fun d1k q1k => ?_
   refine gR0 K O1j V1j 97 [aI 0,aR 1,aD d1k,aI 1,aA b0a] rfl ?_
   have f1l := F1.keep k1i (nx N 1 rfl)
   refine gdl K 0 f1l rfl rfl rfl rfl fun d1m q1m => ?_
   refine gR0 K O1j V1j 105 [aI 1,aR 9,aD d1m,aD d1k,aI 1,aA b0a] rfl ?_
   have f1n := F9.keep k1i (nx N 9 rfl)
   refine gdl K 1 f1n rfl rfl rfl rfl fun d1o q1o => ?_
   refine gmul K (z := 0) (Dz.mul q1m q1o zeq_142 (by decide)) rfl fun d1p q1p => ?_
   refine gadd K (z := 0) (Dz.add q1k q1p rfl (by decide)) rfl fun d1q q1q => ?_
   refine gds K 1 f1h rfl rfl rfl q1q g0b rfl fun h1r (W1r : Keep h1h h1r [b0a]) (f1r : AD Z h1r b0a [zc0, 0]) => ?_
   have k1s := kf (js := []) k1i W1r g0a
   obtain ⟨O1t, V1t⟩ := ov N O V (js := []) k1s rfl rfl rfl
   refine gR K O1t V1t 41 [aR 0,aA b0a,aI 1,aR 8,aI 1,aI 0,aR 9,aI 2,aI 0,aI 2] [aR 9,aI 2] rfl ?_
   have f1u := F9.keep k1s (nx N 9 rfl)
   refine gal K 4 f1u rfl rfl rfl ?_
   refine gR K O1t V1t 68 [aR 0,aA b0a,aI 1,aR 8,aI 1,aI 0,aR 9,aI 2,aI 2,aI 2] [aI 2,aR 1] rfl ?_
   have f1v := F1.keep k1s (nx N 1 rfl)
   refine gdl K 2 f1v rfl rfl rfl rfl fun d1w q1w => ?_
   refine gR0 K O1t V1t 70 [aD 0,aD d1w] rfl ?_
   refine gcX K 115 q1w Dz.zero rfl rfl rfl ?_ ?_
   · intro (c1966 : zc2 = 0)
     refine gR K O1t V1t 41 [aR 0,aA b0a,aI 2,aR 8,aI 1,aI 0,aR 9,aI 4,aI 2,aI 2] [aR 9,aI 4] rfl ?_
     refine gal K 4 f1u rfl rfl rfl ?_
     refine gR K O1t V1t 137 [aR 0,aA b0a,aI 2,aR 8,aI 1,aI 1,aR 9,aI 4,aI 2,aI 2] [aA b0a] rfl ?_
     have f1x : AD Z h1r b0a [zc0, zc2] := by simp only [c1966]; exact f1r
     exact gra K rfl rfl rfl rfl (by decide) (by decide) ⟨b0a, rfl, k1s, g0a, f1x⟩
   · intro (c1966 : ¬ zc2 = 0)
     refine gR K O1t V1t 90 [aR 0,aA b0a,aI 1,aR 8,aI 1,aI 0,aR 9,aI 2,aI 2,aI 0] [aI 0,aA b0a,aI 0,aA b0a] rfl ?_
     refine gdl K 0 f1r rfl rfl rfl rfl fun d1y q1y => ?_
     refine gR0 K O1t V1t 97 [aI 2,aR 1,aD d1y,aI 0,aA b0a] rfl ?_
     refine gdl K 2 f1v rfl rfl rfl rfl fun d1z q1z => ?_
     refine gR0 K O1t V1t 105 [aI 2,aR 9,aD d1z,aD d1y,aI 0,aA b0a] rfl ?_
     refine gdl K 2 f1u rfl rfl rfl rfl fun d2a q2a => ?_
     refine gmul K (z := 0) (Dz.mul q1z q2a zeq_82 (by decide)) rfl fun d2b q2b => ?_
     refine gadd K (z := zc0) (Dz.add q1y q2b zeq_180 (zbd_61 B)) rfl fun d2c q2c => ?_
     refine gds K 0 f1r rfl rfl rfl q2c g0b rfl fun h2d (W2d : Keep h1r h2d [b0a]) (f2d : AD Z h2d b0a [zc0, 0]) => ?_
     have k2e := kf (js := []) k1s W2d g0a
     obtain ⟨O2f, V2f⟩ := ov N O V (js := []) k2e rfl rfl rfl
     refine gR K O2f V2f 90 [aR 0,aA b0a,aI 1,aR 8,aI 1,aI 0,aR 9,aI 2,aI 2,aI 1] [aI 1,aA b0a,aI 1,aA b0a] rfl ?_
     refine gdl K 1 f2d rfl rfl rfl rfl fun d2g q2g => ?_
     refine gR0 K O2f V2f 97 [aI 2,aR 1,aD d2g,aI 1,aA b0a] rfl ?_
     have f2h := F1.keep k2e (nx N 1 rfl)
     refine gdl K 2 f2h rfl rfl rfl rfl fun d2i q2i => ?_
     refine gR0 K O2f V2f 105 [aI 3,aR 9,aD d2i,aD d2g,aI 1,aA b0a] rfl ?_
     have f2j := F9.keep k2e (nx N 9 rfl)
     refine gdl K 3 f2j rfl rfl rfl rfl fun d2k q2k => ?_
     refine gmul K (z := zc2) (Dz.mul q2i q2k zeq_84 (zbd_64 B)) rfl fun d2l q2l => ?_
     refine gadd K (z := zc2) (Dz.add q2g q2l zeq_85 (zbd_64 B)) rfl fun d2m q2m => ?_
     refine gds K 1 f2d rfl rfl rfl q2m g0b rfl fun h2n (W2n : Keep h2d h2n [b0a]) (f2n : AD Z h2n b0a [zc0, zc2]) => ?_
     have k2o := kf (js := []) k2e W2n g0a
     obtain ⟨O2p, V2p⟩ := ov N O V (js := []) k2o rfl rfl rfl
     refine gR K O2p V2p 41 [aR 0,aA b0a,aI 2,aR 8,aI 1,aI 0,aR 9,aI 4,aI 2,aI 2] [aR 9,aI 4] rfl ?_
     have f2q := F9.keep k2o (nx N 9 rfl)
     refine gal K 4 f2q rfl rfl rfl ?_
     refine gR K O2p V2p 137 [aR 0,aA b0a,aI 2,aR 8,aI 1,aI 1,aR 9,aI 4,aI 2,aI 2] [aA b0a] rfl ?_
     exact gra K rfl rfl rfl rfl (by decide) (by decide) ⟨b0a, rfl, k2o, g0a, f2n⟩
theorem rmRC9 (hw : HW Z a0) (x : Nat → Addr) (uu rr u6_0 u6_1 u7_0 u7_1 u7_2 u7_3 u7_4 u16_0 u16_1 u17_0 u17_1 : Int32) (xq : Addr) (zs0 zs1 zc0 zc2 : Int) (h0 : Heap) (N : NX n0 x) (O : OB Z h0 x DSn (fe uu rr)) (V : EV Z h0 x [(2,[-1,1]),(3,[0,1,2,3]),(4,[0,1,1]),(6,[u6_0,u6_1]),(7,[u7_0,u7_1,u7_2,u7_3,u7_4]),(16,[u16_0,u16_1]),(17,[u17_0,u17_1])]) (B : ZB zs0 zs1 zc0 zc2) (Fxq : AD Z h0 xq [zc0, zc2]) (F1 : AD Z h0 (x 1) [zc0, 0, zc2]) (F5 : AD Z h0 (x 5) [1, (-1), 1]) :
    Con l Z n0 ⟨DSn, "reducedCost", "(I[D)D"⟩ prog_12_method_15_code 6 (some .double) ⟨0, 0, 0, 0⟩ #[(.ref (x 0)), (.int 0), (.ref xq)] h0 (fun v h => ∃ d, v = some (.double d) ∧ h = h0 ∧ Dz 0 d) := by
 refine con_of (plainFor_of_name pn_DS) ?_
 intro p e s m below meth c T0 K0 X0 e0
 have K : KX p s m meth c Z a0 DSn "reducedCost" prog_12_method_15_code 6 (some .double) t33 (fe uu rr) := ⟨K0, k33, lw hw uu rr⟩
 refine gE (x := x) (L := [aR 0,aI 0,aA xq,aU,aU,aU]) (by simp [entryFrame, mkF, argsToLocals, Value.category, gL, gS, cs, cv]) X0 e0 ?_
 refine gR0 K O V 5 [aI 0,aR 1] rfl ?_
 refine gdl K 0 F1 rfl rfl rfl rfl fun d0a q0a => ?_
 refine gR K O V 37 [aR 0,aI 0,aA xq,aD d0a,aS,aI 0] [aI 0,aA xq,aD d0a] rfl ?_
 refine gdl K 0 Fxq rfl rfl rfl rfl fun d0b q0b => ?_
 refine gR0 K O V 44 [aI 0,aR 5,aD d0b,aD d0a] rfl ?_
 refine gdl K 0 F5 rfl rfl rfl rfl fun d0c q0c => ?_
 refine gmul K (z := zc0) (Dz.mul q0b q0c zeq_140 (zbd_61 B)) rfl fun d0d q0d => ?_
 refine gsub K (z := 0) (Dz.sub q0a q0d zeq_141 (by decide)) rfl fun d0e q0e => ?_
 refine gR K O V 55 [aR 0,aI 0,aA xq,aD d0e,aS,aI 1] [aD d0e] rfl ?_
 exact grd K rfl (by decide) (by decide) ⟨d0e, rfl, rfl, q0e⟩
theorem rmRC10 (hw : HW Z a0) (x : Nat → Addr) (uu rr u6_0 u6_1 u7_0 u7_1 u7_2 u7_3 u7_4 u16_0 u16_1 u17_0 u17_1 : Int32) (xq : Addr) (zs0 zs1 zc0 zc2 : Int) (h0 : Heap) (N : NX n0 x) (O : OB Z h0 x DSn (fe uu rr)) (V : EV Z h0 x [(2,[-1,1]),(3,[0,1,2,3]),(4,[0,1,1]),(6,[u6_0,u6_1]),(7,[u7_0,u7_1,u7_2,u7_3,u7_4]),(16,[u16_0,u16_1]),(17,[u17_0,u17_1])]) (B : ZB zs0 zs1 zc0 zc2) (Fxq : AD Z h0 xq [zc0, zc2]) (F1 : AD Z h0 (x 1) [zc0, 0, zc2]) (F5 : AD Z h0 (x 5) [1, (-1), 1]) :
    Con l Z n0 ⟨DSn, "reducedCost", "(I[D)D"⟩ prog_12_method_15_code 6 (some .double) ⟨0, 0, 0, 0⟩ #[(.ref (x 0)), (.int 1), (.ref xq)] h0 (fun v h => ∃ d, v = some (.double d) ∧ h = h0 ∧ Dz zc2 d) := by
 refine con_of (plainFor_of_name pn_DS) ?_
 intro p e s m below meth c T0 K0 X0 e0
 have K : KX p s m meth c Z a0 DSn "reducedCost" prog_12_method_15_code 6 (some .double) t33 (fe uu rr) := ⟨K0, k33, lw hw uu rr⟩
 refine gE (x := x) (L := [aR 0,aI 1,aA xq,aU,aU,aU]) (by simp [entryFrame, mkF, argsToLocals, Value.category, gL, gS, cs, cv]) X0 e0 ?_
 refine gR0 K O V 5 [aI 1,aR 1] rfl ?_
 refine gdl K 1 F1 rfl rfl rfl rfl fun d0a q0a => ?_
 refine gR K O V 37 [aR 0,aI 1,aA xq,aD d0a,aS,aI 1] [aI 1,aA xq,aD d0a] rfl ?_
 refine gdl K 1 Fxq rfl rfl rfl rfl fun d0b q0b => ?_
 refine gR0 K O V 44 [aI 1,aR 5,aD d0b,aD d0a] rfl ?_
 refine gdl K 1 F5 rfl rfl rfl rfl fun d0c q0c => ?_
 refine gmul K (z := (-zc2)) (Dz.mul q0b q0c zeq_87 (zbd_88 B)) rfl fun d0d q0d => ?_
 refine gsub K (z := zc2) (Dz.sub q0a q0d zeq_89 (zbd_64 B)) rfl fun d0e q0e => ?_
 refine gR K O V 55 [aR 0,aI 1,aA xq,aD d0e,aS,aI 2] [aD d0e] rfl ?_
 exact grd K rfl (by decide) (by decide) ⟨d0e, rfl, rfl, q0e⟩
theorem rmRC11 (hw : HW Z a0) (x : Nat → Addr) (uu rr u6_0 u6_1 u7_0 u7_1 u7_2 u7_3 u7_4 u16_0 u16_1 u17_0 u17_1 : Int32) (xq : Addr) (zs0 zs1 zc0 zc2 : Int) (h0 : Heap) (N : NX n0 x) (O : OB Z h0 x DSn (fe uu rr)) (V : EV Z h0 x [(2,[-1,1]),(3,[0,1,2,3]),(4,[0,1,1]),(6,[u6_0,u6_1]),(7,[u7_0,u7_1,u7_2,u7_3,u7_4]),(16,[u16_0,u16_1]),(17,[u17_0,u17_1])]) (B : ZB zs0 zs1 zc0 zc2) (Fxq : AD Z h0 xq [zc0, zc2]) (F1 : AD Z h0 (x 1) [zc0, 0, zc2]) (F5 : AD Z h0 (x 5) [1, (-1), 1]) :
    Con l Z n0 ⟨DSn, "reducedCost", "(I[D)D"⟩ prog_12_method_15_code 6 (some .double) ⟨0, 0, 0, 0⟩ #[(.ref (x 0)), (.int 2), (.ref xq)] h0 (fun v h => ∃ d, v = some (.double d) ∧ h = h0 ∧ Dz 0 d) := by
 refine con_of (plainFor_of_name pn_DS) ?_
 intro p e s m below meth c T0 K0 X0 e0
 have K : KX p s m meth c Z a0 DSn "reducedCost" prog_12_method_15_code 6 (some .double) t33 (fe uu rr) := ⟨K0, k33, lw hw uu rr⟩
 refine gE (x := x) (L := [aR 0,aI 2,aA xq,aU,aU,aU]) (by simp [entryFrame, mkF, argsToLocals, Value.category, gL, gS, cs, cv]) X0 e0 ?_
 refine gR0 K O V 5 [aI 2,aR 1] rfl ?_
 refine gdl K 2 F1 rfl rfl rfl rfl fun d0a q0a => ?_
 refine gR K O V 37 [aR 0,aI 2,aA xq,aD d0a,aS,aI 2] [aI 1,aA xq,aD d0a] rfl ?_
 refine gdl K 1 Fxq rfl rfl rfl rfl fun d0b q0b => ?_
 refine gR0 K O V 44 [aI 2,aR 5,aD d0b,aD d0a] rfl ?_
 refine gdl K 2 F5 rfl rfl rfl rfl fun d0c q0c => ?_
 refine gmul K (z := zc2) (Dz.mul q0b q0c zeq_84 (zbd_64 B)) rfl fun d0d q0d => ?_
 refine gsub K (z := 0) (Dz.sub q0a q0d zeq_65 (by decide)) rfl fun d0e q0e => ?_
 refine gR K O V 55 [aR 0,aI 2,aA xq,aD d0e,aS,aI 3] [aD d0e] rfl ?_
 exact grd K rfl (by decide) (by decide) ⟨d0e, rfl, rfl, q0e⟩
theorem rmIA3 (hw : HW Z a0) (x : Nat → Addr) (uu u16_0 u16_1 u17_0 u17_1 : Int32) (zs0 zs1 zc0 zc2 : Int) (h0 : Heap) (N : NX n0 x) (O : OB Z h0 x DSn (fe uu 0)) (V : EV Z h0 x [(2,[-1,1]),(3,[0,1,2,3]),(4,[0,1,1]),(6,[0,2]),(7,[0,-1,1,-1,-1]),(16,[u16_0,u16_1]),(17,[u17_0,u17_1])]) (B : ZB zs0 zs1 zc0 zc2) (Z0 : n0 ≤ h0.size) (F1 : AD Z h0 (x 1) [zc0, 0, zc2]) (F5 : AD Z h0 (x 5) [1, (-1), 1]) (F9 : AD Z h0 (x 9) [1, 0, 0, 1]) (F10 : AD Z h0 (x 10) [zs0, zs1]) (F12 : AD Z h0 (x 12) [zs0, zs1]) (E12 : Exa Z h0 (x 12) "[D") :
    Con l Z n0 ⟨DSn, "isAccurate", "()Z"⟩ prog_12_method_13_code 7 (some .boolean) ⟨1, 2, 4, 21⟩ #[(.ref (x 0))] h0 (fun v h => v = some (.int 1) ∧ KJ x h0 h [0] ∧ OB Z h x DSn (fe uu 1) ∧ EV Z h x [(2,[-1,1]),(3,[0,1,2,3]),(4,[0,1,1]),(6,[0,2]),(7,[0,-1,1,-1,-1]),(16,[u16_0,u16_1]),(17,[u17_0,u17_1])]) := by
 refine con_of (plainFor_of_name pn_DS) ?_
 intro p e s m below meth c T0 K0 X0 e0
 have K : KX p s m meth c Z a0 DSn "isAccurate" prog_12_method_13_code 7 (some .boolean) t31 (fe uu 0) := ⟨K0, k31, lw hw uu 0⟩
 refine gE (x := x) (L := [aR 0,aU,aU,aU,aU,aU,aU]) (by simp [entryFrame, mkF, argsToLocals, Value.category, gL, gS, cs, cv]) X0 e0 ?_
 refine gR0 K O V 4 [aR 12] rfl ?_
 refine gcl K (wclone hw) 2 0 F12 E12 rfl rfl rfl rfl (by decide) (Nat.le_of_eq rfl) (by decide) (by decide) (by decide) fun h0a b0a g0a (W0a : KJ x h0 h0a []) f0a e0a => ?_
 have g0b : n0 ≤ b0a := Nat.le_trans Z0 g0a
 refine gcc K (wd hw 67 rfl) e0a rfl rfl ?_
 obtain ⟨O0c, V0c⟩ := ov N O V (js := []) W0a rfl rfl rfl
 refine gR K O0c V0c 33 [aR 0,aA b0a,aI 0,aI 0,aU,aU,aU] [aI 0,aR 10] rfl ?_
 have f0d := F10.keep W0a (nx N 10 rfl)
 refine gdl K 0 f0d rfl rfl rfl rfl fun d0e q0e => ?_
 refine gR K O0c V0c 90 [aR 0,aA b0a,aI 0,aI 0,aD d0e,aS,aI 0] [aI 0,aA b0a,aI 0,aA b0a] rfl ?_
 refine gdl K 0 f0a rfl rfl rfl rfl fun d0f q0f => ?_
 refine gR0 K O0c V0c 97 [aI 0,aR 5,aD d0f,aI 0,aA b0a] rfl ?_
 have f0g := F5.keep W0a (nx N 5 rfl)
 refine gdl K 0 f0g rfl rfl rfl rfl fun d0h q0h => ?_
 refine gR0 K O0c V0c 100 [aD d0e,aD d0h,aD d0f,aI 0,aA b0a] rfl ?_
 refine gmul K (z := zs0) (Dz.mul q0h q0e zeq_10 (zbd_9 B)) rfl fun d0i q0i => ?_
 refine gsub K (z := 0) (Dz.sub q0f q0i zeq_99 (by decide)) rfl fun d0j q0j => ?_
 refine gds K 0 f0a rfl rfl rfl q0j g0b rfl fun h0k (W0k : Keep h0a h0k [b0a]) (f0k : AD Z h0k b0a [0, zs1]) => ?_
 have k0l := kf (js := []) W0a W0k g0a
 obtain ⟨O0m, V0m⟩ := ov N O V (js := []) k0l rfl rfl rfl
 refine gR K O0m V0m 33 [aR 0,aA b0a,aI 1,aI 2,aD d0e,aS,aI 1] [aI 1,aR 10] rfl ?_
 have f0n := F10.keep k0l (nx N 10 rfl)
 refine gdl K 1 f0n rfl rfl rfl rfl fun d0o q0o => ?_
 refine gR K O0m V0m 90 [aR 0,aA b0a,aI 1,aI 2,aD d0o,aS,aI 2] [aI 1,aA b0a,aI 1,aA b0a] rfl ?_
 refine gdl K 1 f0k rfl rfl rfl rfl fun d0p q0p => ?_
 refine gR0 K O0m V0m 97 [aI 2,aR 5,aD d0p,aI 1,aA b0a] rfl ?_
 have f0q := F5.keep k0l (nx N 5 rfl)
 refine gdl K 2 f0q rfl rfl rfl rfl fun d0r q0r => ?_
 refine gR0 K O0m V0m 100 [aD d0o,aD d0r,aD d0p,aI 1,aA b0a] rfl ?_
 refine gmul K (z := zs1) (Dz.mul q0r q0o zeq_93 (zbd_2 B)) rfl fun d0s q0s => ?_
 refine gsub K (z := 0) (Dz.sub q0p q0s zeq_101 (by decide)) rfl fun d0t q0t => ?_
 refine gds K 1 f0k rfl rfl rfl q0t g0b rfl fun h0u (W0u : Keep h0k h0u [b0a]) (f0u : AD Z h0u b0a [0, 0]) => ?_
 have k0v := kf (js := []) k0l W0u g0a
 obtain ⟨O0w, V0w⟩ := ov N O V (js := []) k0v rfl rfl rfl
 refine gR K O0w V0w 118 [aR 0,aA b0a,aA b0a,aI 2,aD d0o,aS,aI 3] [aA b0a] rfl ?_
 refine gal K 2 f0u rfl rfl rfl ?_
 refine gR K O0w V0w 132 [aR 0,aA b0a,aA b0a,aI 2,aI 0,aU,aI 3] [aI 0,aA b0a] rfl ?_
 refine gdl K 0 f0u rfl rfl rfl rfl fun d0x q0x => ?_
 refine gR K O0w V0w 137 [aR 0,aA b0a,aA b0a,aI 2,aI 0,aD d0x,aS] [aD d0x] rfl ?_
 refine gabs K (wabs hw) 0 0 q0x rfl rfl rfl (by decide) (Nat.le_of_eq rfl) (by decide) (by decide) (by decide) fun d0y q0y => ?_
 refine gldc K (wd hw 216 rfl) rfl ?_
 refine gcT K 149 ⟨_, Ep.lt q0y ep_7 (by decide), rfl⟩ rfl rfl rfl ?_
 refine gR K O0w V0w 132 [aR 0,aA b0a,aA b0a,aI 2,aI 1,aD d0x,aS] [aI 1,aA b0a] rfl ?_
 refine gdl K 1 f0u rfl rfl rfl rfl fun d0z q0z => ?_
 refine gR K O0w V0w 137 [aR 0,aA b0a,aA b0a,aI 2,aI 1,aD d0z,aS] [aD d0z] rfl ?_
 refine gabs K (wabs hw) 0 0 q0z rfl rfl rfl (by decide) (Nat.le_of_eq rfl) (by decide) (by decide) (by decide) fun d1a q1a => ?_
 refine gldc K (wd hw 216 rfl) rfl ?_
 refine gcT K 149 ⟨_, Ep.lt q1a ep_7 (by decide), rfl⟩ rfl rfl rfl ?_
 refine gR K O0w V0w 163 [aR 0,aA b0a,aA b0a,aI 2,aI 2,aD d0z,aS] [aR 0] rfl ?_
 have f1b := F1.keep k0v (nx N 1 rfl)
 have f1c := F9.keep k0v (nx N 9 rfl)
 refine gP K (w_prices hw) O0w (rmPR3 hw x uu 0 0 (-1) 1 (-1) (-1) u16_0 u16_1 u17_0 u17_1 zs0 zs1 zc0 zc2 h0u N O0w V0w B (Nat.le_trans (Nat.le_trans (Nat.le_trans Z0 W0a.1) W0k.1) W0u.1) f1b f1c) [] 0 rfl rfl rfl rfl (by decide) (Nat.le_of_eq rfl) (by decide) (by decide) (by decide) ?_
 rintro h1d _ ⟨b1d, rfl, W1d, g1d, f1d⟩
 have g1e : n0 ≤ b1d := Nat.le_trans (Nat.le_trans (Nat.le_trans (Nat.le_trans Z0 W0a.1) W0k.1) W0u.1) g1d
 refine sh (FA m x 166 [aR 0,aA b0a,aA b0a,aI 2,aI 2,aD d0z,aS] [aA b1d]) rfl ?_
 have k1f := kx [] (js' := []) k0v W1d rfl rfl
 obtain ⟨O1g, V1g⟩ := ov N O V (js := []) k1f rfl rfl rfl
 refine gR K O1g V1g 180 [aR 0,aA b0a,aA b1d,aI 0,aI 2,aD d0z,aS] [aA b1d,aI 0,aR 0] rfl ?_
 have f1h := F1.keep k1f (nx N 1 rfl)
 have f1i := F5.keep k1f (nx N 5 rfl)
 refine gPd K (w_reducedCost hw) O1g (rmRC9 hw x uu 0 0 2 0 (-1) 1 (-1) (-1) u16_0 u16_1 u17_0 u17_1 b1d zs0 zs1 zc0 zc2 h1d N O1g V1g B f1d f1h f1i) [] 0 rfl rfl rfl rfl (by decide) (Nat.le_of_eq rfl) (by decide) (by decide) (by decide) fun d1j q1j => ?_
 refine gR K O1g V1g 203 [aR 0,aA b0a,aA b1d,aI 0,aD d1j,aS,aI 1] [aD d1j] rfl ?_
 refine gldc K (wd hw 229 rfl) rfl ?_
 refine gcF K ⟨_, En.gt q1j en_7 (by decide), rfl⟩ rfl rfl ?_
 refine gR0 K O1g V1g 217 [aD d1j] rfl ?_
 refine gldc K (wd hw 216 rfl) rfl ?_
 refine gcT K 226 ⟨_, Ep.lt q1j ep_7 (by decide), rfl⟩ rfl rfl rfl ?_
 refine gR K O1g V1g 180 [aR 0,aA b0a,aA b1d,aI 1,aD d1j,aS,aI 1] [aA b1d,aI 1,aR 0] rfl ?_
 refine gPd K (w_reducedCost hw) O1g (rmRC10 hw x uu 0 0 2 0 (-1) 1 (-1) (-1) u16_0 u16_1 u17_0 u17_1 b1d zs0 zs1 zc0 zc2 h1d N O1g V1g B f1d f1h f1i) [] 0 rfl rfl rfl rfl (by decide) (Nat.le_of_eq rfl) (by decide) (by decide) (by decide) fun d1k q1k => ?_
 refine gR K O1g V1g 203 [aR 0,aA b0a,aA b1d,aI 1,aD d1k,aS,aI 0] [aD d1k] rfl ?_
 refine gldc K (wd hw 229 rfl) rfl ?_
 refine gcF K ⟨_, En.gt q1k en_7 (zep_108 B), rfl⟩ rfl rfl ?_
 refine gR K O1g V1g 180 [aR 0,aA b0a,aA b1d,aI 2,aD d1k,aS,aI 0] [aA b1d,aI 2,aR 0] rfl ?_
 refine gPd K (w_reducedCost hw) O1g (rmRC11 hw x uu 0 0 2 0 (-1) 1 (-1) (-1) u16_0 u16_1 u17_0 u17_1 b1d zs0 zs1 zc0 zc2 h1d N O1g V1g B f1d f1h f1i) [] 0 rfl rfl rfl rfl (by decide) (Nat.le_of_eq rfl) (by decide) (by decide) (by decide) fun d1l q1l => ?_
 refine gR K O1g V1g 203 [aR 0,aA b0a,aA b1d,aI 2,aD d1l,aS,aI 1] [aD d1l] rfl ?_
 refine gldc K (wd hw 229 rfl) rfl ?_
 refine gcF K ⟨_, En.gt q1l en_7 (by decide), rfl⟩ rfl rfl ?_
 refine gR0 K O1g V1g 217 [aD d1l] rfl ?_
 refine gldc K (wd hw 216 rfl) rfl ?_
 refine gcT K 226 ⟨_, Ep.lt q1l ep_7 (by decide), rfl⟩ rfl rfl rfl ?_
 refine gR K O1g V1g 234 [aR 0,aA b0a,aA b1d,aI 3,aD d1l,aS,aI 1] [aI 1,aR 0] rfl ?_
 refine grcc K hw O1g N (Or.inr rfl) rfl fun h1m (W1m : KJ x h1d h1m [0]) O1m => ?_
 have K := K.re hw uu 1
 have V1m := V1g.keep N (js := [0]) W1m rfl rfl
 refine gR0 K O1m V1m 238 [aI 1] rfl ?_
 have k1n := kx [0] (js' := [0]) k1f W1m rfl rfl
 exact grz K (Or.inr rfl) rfl (by decide) (by decide) ⟨rfl, k1n, O1m, V1m⟩
theorem rmPvs6 (hw : HW Z a0) (x : Nat → Addr) (u16_0 u16_1 : Int32) (zs0 zs1 zc0 zc2 : Int) (h0 : Heap) (N : NX n0 x) (O : OB Z h0 x DSn (fe 0 0)) (V : EV Z h0 x [(2,[-1,1]),(3,[0,1,2,3]),(4,[0,1,1]),(6,[3,1]),(7,[-1,1,-1,0,-1]),(16,[u16_0,u16_1]),(17,[0,0])]) (B : ZB zs0 zs1 zc0 zc2) (q : 0 < zs0 ∧ 0 < zs1 ∧ zs1 ≤ zs0) (Z0 : n0 ≤ h0.size) (F1 : AD Z h0 (x 1) [zc0, 0, zc2]) (F5 : AD Z h0 (x 5) [1, (-1), 1]) (F9 : AD Z h0 (x 9) [1, 0, 0, (-1)]) (F10 : AD Z h0 (x 10) [zs0, (-zs1)]) (F11 : AD Z h0 (x 11) [zc0, 0, zc2]) (F12 : AD Z h0 (x 12) [zs0, zs1]) (F13 : AD Z h0 (x 13) [0, 0, 0]) (F14 : AD Z h0 (x 14) [0, 0]) (F15 : AD Z h0 (x 15) [0, 0]) (E12 : Exa Z h0 (x 12) "[D") :
    Con l Z n0 ⟨DSn, "pivots", "()I"⟩ prog_12_method_9_code 6 (some .int) ⟨2, 2, 4, 51⟩ #[(.ref (x 0))] h0 (fun v h => v = some (.int 0) ∧ KJ x h0 h [0,6,7,9,10,11,13,14] ∧ OB Z h x DSn (fe 2 1) ∧ EV Z h x [(2,[-1,1]),(3,[0,1,2,3]),(4,[0,1,1]),(6,[0,2]),(7,[0,-1,1,-1,-1]),(16,[u16_0,u16_1]),(17,[0,0])] ∧ AD Z h (x 10) [zs0, zs1]) := by
 refine con_of (plainFor_of_name pn_DS) ?_
 intro p e s m below meth c T0 K0 X0 e0
 have K : KX p s m meth c Z a0 DSn "pivots" prog_12_method_9_code 6 (some .int) t24 (fe 0 0) := ⟨K0, k24, lw hw 0 0⟩
 refine gE (x := x) (L := [aR 0,aU,aU,aU,aU,aU]) (by simp [entryFrame, mkF, argsToLocals, Value.category, gL, gS, cs, cv]) X0 e0 ?_
 refine gR K O V 43 [aR 0,aI 5,aI 0,aI 0,aU,aU] [aI 0,aR 0] rfl ?_
 refine gPi K (w_leavingRow hw) O (rmLR8 hw x 0 0 (-1) 1 (-1) 0 (-1) u16_0 u16_1 0 0 zs0 zs1 zc0 zc2 h0 N O V B q F10) [] 0 rfl rfl rfl rfl (by decide) (Nat.le_of_eq rfl) (by decide) (by decide) (by decide) ?_
 refine gR K O V 82 [aR 0,aI 5,aI 0,aI 0,aI 0,aU] [aI 0,aI 0,aR 0] rfl ?_
 refine gP K (w_enteringColumn hw) O (rmEC3 hw x 0 0 3 1 u16_0 u16_1 0 0 0 0 0 zs0 zs1 zc0 zc2 h0 N O V B (zph_155 B q) F5 F9 F10 F11 F13) [] 0 rfl rfl rfl rfl (by decide) (Nat.le_of_eq rfl) (by decide) (by decide) (by decide) ?_
 rintro h0a _ ⟨rfl, W0a, f0a⟩
 refine sh (FA m x 85 [aR 0,aI 5,aI 0,aI 0,aI 0,aU] [aI 0]) rfl ?_
 obtain ⟨O0b, V0b⟩ := ov N O V (js := [13]) W0a rfl rfl rfl
 refine gR K O0b V0b 113 [aR 0,aI 5,aI 0,aI 0,aI 0,aI 0] [aI 0,aI 0,aR 0] rfl ?_
 have f0c := F5.keep W0a (nx N 5 rfl)
 have f0d := F9.keep W0a (nx N 9 rfl)
 have f0e := F10.keep W0a (nx N 10 rfl)
 have f0f := F11.keep W0a (nx N 11 rfl)
 have f0g := F14.keep W0a (nx N 14 rfl)
 refine gP K (w_pivot hw) O0b (rmPV1 hw x 0 u16_0 u16_1 0 0 0 0 zs0 zs1 zc0 zc2 h0a N O0b V0b B f0c f0d f0e f0f f0a f0g) [] 0 rfl rfl rfl rfl (by decide) (Nat.le_of_eq rfl) (by decide) (by decide) (by decide) ?_
 rintro h0h _ ⟨rfl, W0h, O0h, V0h, f0h_9, f0h_10, f0h_11, f0h_14⟩
 have K := K.re hw 1 0
 refine sh (FA m x 116 [aR 0,aI 5,aI 0,aI 0,aI 0,aI 0] [aI 1]) rfl ?_
 refine gR K O0h V0h 43 [aR 0,aI 5,aI 0,aI 1,aI 0,aI 0] [aI 0,aR 0] rfl ?_
 refine gPi K (w_leavingRow hw) O0h (rmLR9 hw x 1 0 0 1 (-1) (-1) (-1) u16_0 u16_1 0 0 zs0 zs1 zc0 zc2 h0h N O0h V0h B q f0h_10) [] 0 rfl rfl rfl rfl (by decide) (Nat.le_of_eq rfl) (by decide) (by decide) (by decide) ?_
 refine gR K O0h V0h 82 [aR 0,aI 5,aI 0,aI 1,aI 1,aI 0] [aI 0,aI 1,aR 0] rfl ?_
 have k0i := kx [0,6,7,9,10,11,13,14] (js' := [0,6,7,9,10,11,14]) W0a W0h rfl rfl
 have f0j := F5.keep k0i (nx N 5 rfl)
 have f0k := f0a.keep W0h (nx N 13 rfl)
 refine gP K (w_enteringColumn hw) O0h (rmEC4 hw x 1 0 0 1 u16_0 u16_1 0 0 1 0 0 zs0 zs1 zc0 zc2 h0h N O0h V0h B (zph_166 B q) f0j f0h_9 f0h_10 f0h_11 f0k) [] 0 rfl rfl rfl rfl (by decide) (Nat.le_of_eq rfl) (by decide) (by decide) (by decide) ?_
 rintro h0l _ ⟨rfl, W0l, f0l⟩
 refine sh (FA m x 85 [aR 0,aI 5,aI 0,aI 1,aI 1,aI 0] [aI 2]) rfl ?_
 obtain ⟨O0m, V0m⟩ := ov N O0h V0h (js := [13]) W0l rfl rfl rfl
 refine gR K O0m V0m 113 [aR 0,aI 5,aI 0,aI 1,aI 1,aI 2] [aI 2,aI 1,aR 0] rfl ?_
 have k0n := kx [0,6,7,9,10,11,13,14] (js' := [13]) k0i W0l rfl rfl
 have f0o := F5.keep k0n (nx N 5 rfl)
 have f0p := f0h_9.keep W0l (nx N 9 rfl)
 have f0q := f0h_10.keep W0l (nx N 10 rfl)
 have f0r := f0h_11.keep W0l (nx N 11 rfl)
 have f0s := f0h_14.keep W0l (nx N 14 rfl)
 refine gP K (w_pivot hw) O0m (rmPV2 hw x 0 u16_0 u16_1 0 0 1 0 zs0 zs1 zc0 zc2 h0l N O0m V0m B f0o f0p f0q f0r f0l f0s) [] 0 rfl rfl rfl rfl (by decide) (Nat.le_of_eq rfl) (by decide) (by decide) (by decide) ?_
 rintro h0t _ ⟨rfl, W0t, O0t, V0t, f0t_9, f0t_10, f0t_11, f0t_14⟩
 have K := K.re hw 2 0
 refine sh (FA m x 116 [aR 0,aI 5,aI 0,aI 1,aI 1,aI 2] [aI 1]) rfl ?_
 refine gR K O0t V0t 43 [aR 0,aI 5,aI 0,aI 2,aI 1,aI 2] [aI 0,aR 0] rfl ?_
 refine gPi K (w_leavingRow hw) O0t (rmLR10 hw x 2 0 0 (-1) 1 (-1) (-1) u16_0 u16_1 0 0 zs0 zs1 zc0 zc2 h0t N O0t V0t B q f0t_10) [] 0 rfl rfl rfl rfl (by decide) (Nat.le_of_eq rfl) (by decide) (by decide) (by decide) ?_
 refine gR K O0t V0t 54 [aR 0,aI 5,aI 0,aI 2,aI (-1),aI 2] [aR 0] rfl ?_
 have k0u := kx [0,6,7,9,10,11,13,14] (js' := [0,6,7,9,10,11,14]) k0n W0t rfl rfl
 have f0v := F1.keep k0u (nx N 1 rfl)
 have f0w := F5.keep k0u (nx N 5 rfl)
 have f0x := F12.keep k0u (nx N 12 rfl)
 have e0y := ((((E12.keep W0a).keep W0h).keep W0l).keep W0t)
 refine gP K (w_isAccurate hw) O0t (rmIA3 hw x 2 u16_0 u16_1 0 0 zs0 zs1 zc0 zc2 h0t N O0t V0t B (Nat.le_trans (Nat.le_trans (Nat.le_trans (Nat.le_trans Z0 W0a.1) W0h.1) W0l.1) W0t.1) f0v f0w f0t_9 f0t_10 f0x e0y) [] 0 rfl rfl rfl rfl (by decide) (Nat.le_of_eq rfl) (by decide) (by decide) (by decide) ?_
 rintro h0z _ ⟨rfl, W0z, O0z, V0z⟩
 have K := K.re hw 2 1
 refine sh (FA m x 57 [aR 0,aI 5,aI 0,aI 2,aI (-1),aI 2] [aI 1]) rfl ?_
 refine gR0 K O0z V0z 61 [aI 0] rfl ?_
 have f1a := f0t_10.keep W0z (nx N 10 rfl)
 have k1b := kx [0,6,7,9,10,11,13,14] (js' := [0]) k0u W0z rfl rfl
 exact gri K rfl (by decide) (by decide) ⟨rfl, k1b, O0z, V0z, f1a⟩
theorem rmSol6 (hw : HW Z a0) (x : Nat → Addr) (xin : Addr) (zs0 zs1 zc0 zc2 : Int) (h0 : Heap) (N : NX n0 x) (O : OB Z h0 x DSn (fe 0 0)) (V : EV Z h0 x [(2,[-1,1]),(3,[0,1,2,3]),(4,[0,1,1]),(6,[3,1]),(7,[-1,1,-1,0,-1]),(16,[0,0]),(17,[0,0])]) (B : ZB zs0 zs1 zc0 zc2) (q : 0 < zs0 ∧ 0 < zs1 ∧ zs1 ≤ zs0) (Z0 : n0 ≤ h0.size) (Fxin : AD Z h0 xin [zs0, zs1]) (F1 : AD Z h0 (x 1) [zc0, 0, zc2]) (F5 : AD Z h0 (x 5) [1, (-1), 1]) (F9 : AD Z h0 (x 9) [1, 0, 0, (-1)]) (F10 : AD Z h0 (x 10) [0, 0]) (F11 : AD Z h0 (x 11) [zc0, 0, zc2]) (F12 : AD Z h0 (x 12) [0, 0]) (F13 : AD Z h0 (x 13) [0, 0, 0]) (F14 : AD Z h0 (x 14) [0, 0]) (F15 : AD Z h0 (x 15) [0, 0]) (E12 : Exa Z h0 (x 12) "[D") (I : xin ∉ [x 16] ∧ xin ∉ [x 10] ∧ xin ∉ [x 12]) :
    Con l Z n0 ⟨DSn, "solve", "([D)Z"⟩ prog_12_method_2_code 3 (some .boolean) ⟨3, 2, 4, 84⟩ #[(.ref (x 0)), (.ref xin)] h0 (fun v h => ∃ ka kb : Int32, v = some (.int 1) ∧ KJ x h0 h [0,6,7,9,10,11,12,13,14,16] ∧ OB Z h x DSn (fe 2 1) ∧ EV Z h x [(2,[-1,1]),(3,[0,1,2,3]),(4,[0,1,1]),(6,[0,2]),(7,[0,-1,1,-1,-1]),(16,[ka,kb]),(17,[0,0])] ∧ AD Z h (x 1) [zc0, 0, zc2] ∧ AD Z h (x 10) [zs0, zs1]) := by
 refine con_of (plainFor_of_name pn_DS) ?_
 intro p e s m below meth c T0 K0 X0 e0
 have K : KX p s m meth c Z a0 DSn "solve" prog_12_method_2_code 3 (some .boolean) t22 (fe 0 0) := ⟨K0, k22, lw hw 0 0⟩
 refine gE (x := x) (L := [aR 0,aA xin,aU]) (by simp [entryFrame, mkF, argsToLocals, Value.category, gL, gS, cs, cv]) X0 e0 ?_
 refine gR0 K O V 1 [aA xin] rfl ?_
 refine gal K 2 Fxin rfl rfl rfl ?_
 refine gR0 K O V 30 [aA xin,aR 0] rfl ?_
 refine gP K (w_moveValues hw) O (rmMv hw x 0 0 3 1 (-1) 1 (-1) 0 (-1) 0 0 xin zs0 zs1 zc0 zc2 h0 N O V B Fxin F9 F10 F12 I) [] 0 rfl rfl rfl rfl (by decide) (Nat.le_of_eq rfl) (by decide) (by decide) (by decide) ?_
 rintro h0a _ ⟨rfl, ka0a, kb0a, W0a, O0a, V0a, f0a_10, f0a_12⟩
 refine sh (FA m x 33 [aR 0,aA xin,aU] []) rfl ?_
 refine gR0 K O0a V0a 34 [aR 0] rfl ?_
 have f0b := F1.keep W0a (nx N 1 rfl)
 have f0c := F5.keep W0a (nx N 5 rfl)
 have f0d := F9.keep W0a (nx N 9 rfl)
 have f0e := F11.keep W0a (nx N 11 rfl)
 have f0f := F13.keep W0a (nx N 13 rfl)
 have f0g := F14.keep W0a (nx N 14 rfl)
 have f0h := F15.keep W0a (nx N 15 rfl)
 have e0i := (E12.keep W0a)
 refine gP K (w_pivots hw) O0a (rmPvs6 hw x ka0a kb0a zs0 zs1 zc0 zc2 h0a N O0a V0a B q (Nat.le_trans Z0 W0a.1) f0b f0c f0d f0a_10 f0e f0a_12 f0f f0g f0h e0i) [] 0 rfl rfl rfl rfl (by decide) (Nat.le_of_eq rfl) (by decide) (by decide) (by decide) ?_
 rintro h0j _ ⟨rfl, W0j, O0j, V0j, f0j_10⟩
 have K := K.re hw 2 1
 refine sh (FA m x 37 [aR 0,aA xin,aU] [aI 0]) rfl ?_
 refine gR K O0j V0j 87 [aR 0,aA xin,aI 0] [aI 1] rfl ?_
 have k0k := kx [0,6,7,9,10,11,12,13,14,16] (js' := [0,6,7,9,10,11,13,14]) W0a W0j rfl rfl
 have f0l := F1.keep k0k (nx N 1 rfl)
 exact grz K (Or.inr rfl) rfl (by decide) (by decide) ⟨ka0a, kb0a, rfl, k0k, O0j, V0j, f0l, f0j_10⟩
theorem zab_181 {zs0 zs1 zc0 zc2 : Int} (B : ZB zs0 zs1 zc0 zc2) (q0 : 0 < zs0 ∧ zs0 < zs1) : ((zs0).natAbs : Int) = zs0 := by unfold ZB at B; obtain ⟨b1, b2, b3, b4, b5, b6⟩ := B; omega
theorem zep_182 {zs0 zs1 zc0 zc2 : Int} (B : ZB zs0 zs1 zc0 zc2) (q0 : 0 < zs0 ∧ zs0 < zs1) : 0 < zs0 := by unfold ZB at B; obtain ⟨b1, b2, b3, b4, b5, b6⟩ := B; omega
theorem zcm_183 {zs0 zs1 zc0 zc2 : Int} (B : ZB zs0 zs1 zc0 zc2) (q0 : 0 < zs0 ∧ zs0 < zs1) : zs0 < zs1 := by unfold ZB at B; obtain ⟨b1, b2, b3, b4, b5, b6⟩ := B; omega
theorem rmLR11 (hw : HW Z a0) (x : Nat → Addr) (uu rr u7_0 u7_1 u7_2 u7_3 u7_4 u16_0 u16_1 u17_0 u17_1 : Int32) (zs0 zs1 zc0 zc2 : Int) (h0 : Heap) (N : NX n0 x) (O : OB Z h0 x DSn (fe uu rr)) (V : EV Z h0 x [(2,[-1,1]),(3,[0,1,2,3]),(4,[0,1,1]),(6,[3,1]),(7,[u7_0,u7_1,u7_2,u7_3,u7_4]),(16,[u16_0,u16_1]),(17,[u17_0,u17_1])]) (B : ZB zs0 zs1 zc0 zc2) (q : 0 < zs0 ∧ zs0 < zs1) (F10 : AD Z h0 (x 10) [zs0, (-zs1)]) :
    Con l Z n0 ⟨DSn, "leavingRow", "(Z)I"⟩ prog_12_method_10_code 10 (some .int) ⟨1, 0, 0, 15⟩ #[(.ref (x 0)), (.int 0)] h0 (fun v h => v = some (.int 1) ∧ h = h0) := by
 refine con_of (plainFor_of_name pn_DS) ?_
 intro p e s m below meth c T0 K0 X0 e0
 have K : KX p s m meth c Z a0 DSn "leavingRow" prog_12_method_10_code 10 (some .int) t25 (fe uu rr) := ⟨K0, k25, lw hw uu rr⟩
 refine gE (x := x) (L := [aR 0,aI 0,aU,aU,aU,aU,aU,aU,aU,aU]) (by simp [entryFrame, mkF, argsToLocals, Value.category, gL, gS, cs, cv]) X0 e0 ?_
 refine gR K O V 2 ([aR 0,aI 0,aI (-1)]++un 7) [] rfl ?_
 refine gldc K (wd hw 197 rfl) rfl ?_
 refine gR K O V 24 ([aR 0,aI 0,aI (-1),aD 4472406533629990549,aS,aI 0]++un 4) [aI 0,aR 10] rfl ?_
 refine gdl K 0 F10 rfl rfl rfl rfl fun d0a q0a => ?_
 refine gR K O V 49 [aR 0,aI 0,aI (-1),aD 4472406533629990549,aS,aI 0,aD d0a,aS,aU,aU] [aD d0a] rfl ?_
 refine gabs K (wabs hw) zs0 0 q0a (zab_181 B q) rfl rfl (by decide) (Nat.le_of_eq rfl) (by decide) (by decide) (by decide) fun d0b q0b => ?_
 refine gR K O V 96 [aR 0,aI 0,aI (-1),aD 4472406533629990549,aS,aI 0,aD d0a,aS,aD d0b,aS] [aD 4472406533629990549,aD d0b] rfl ?_
 refine gcF K ⟨_, Ep.gt q0b ep_9 (zep_182 B q), rfl⟩ rfl rfl ?_
 refine gR K O V 24 [aR 0,aI 0,aI 0,aD d0b,aS,aI 1,aD d0a,aS,aD d0b,aS] [aI 1,aR 10] rfl ?_
 refine gdl K 1 F10 rfl rfl rfl rfl fun d0c q0c => ?_
 refine gR K O V 43 [aR 0,aI 0,aI 0,aD d0b,aS,aI 1,aD d0c,aS,aD d0b,aS] [aD d0c] rfl ?_
 refine gneg K (z := zs1) (Dz.neg q0c zeq_18) rfl fun d0d q0d => ?_
 refine gR K O V 96 [aR 0,aI 0,aI 0,aD d0b,aS,aI 1,aD d0c,aS,aD d0d,aS] [aD d0b,aD d0d] rfl ?_
 refine gcF K (Dz.nt (cd := .le) q0d q0b (zcm_183 B q)) rfl rfl ?_
 refine gR K O V 113 [aR 0,aI 0,aI 1,aD d0d,aS,aI 2,aD d0c,aS,aD d0d,aS] [aI 1] rfl ?_
 exact gri K rfl (by decide) (by decide) ⟨rfl, rfl⟩
theorem zph_184 {zs0 zs1 zc0 zc2 : Int} (B : ZB zs0 zs1 zc0 zc2) (q0 : 0 < zs0 ∧ zs0 < zs1) : (-zs1) < 0 := by unfold ZB at B; obtain ⟨b1, b2, b3, b4, b5, b6⟩ := B; omega
theorem zcm_185 {zs0 zs1 zc0 zc2 : Int} (B : ZB zs0 zs1 zc0 zc2) (q0 : 0 < zs0 ∧ zs0 < zs1) : ¬ zs0 < (-zs1) := by unfold ZB at B; obtain ⟨b1, b2, b3, b4, b5, b6⟩ := B; omega
theorem rmLR12 (hw : HW Z a0) (x : Nat → Addr) (uu rr u7_0 u7_1 u7_2 u7_3 u7_4 u16_0 u16_1 u17_0 u17_1 : Int32) (zs0 zs1 zc0 zc2 : Int) (h0 : Heap) (N : NX n0 x) (O : OB Z h0 x DSn (fe uu rr)) (V : EV Z h0 x [(2,[-1,1]),(3,[0,1,2,3]),(4,[0,1,1]),(6,[3,2]),(7,[u7_0,u7_1,u7_2,u7_3,u7_4]),(16,[u16_0,u16_1]),(17,[u17_0,u17_1])]) (B : ZB zs0 zs1 zc0 zc2) (q : 0 < zs0 ∧ zs0 < zs1) (F10 : AD Z h0 (x 10) [zs0, zs1]) :
    Con l Z n0 ⟨DSn, "leavingRow", "(Z)I"⟩ prog_12_method_10_code 10 (some .int) ⟨1, 0, 0, 15⟩ #[(.ref (x 0)), (.int 0)] h0 (fun v h => v = some (.int 0) ∧ h = h0) := by
 refine con_of (plainFor_of_name pn_DS) ?_
 intro p e s m below meth c T0 K0 X0 e0
 have K : KX p s m meth c Z a0 DSn "leavingRow" prog_12_method_10_code 10 (some .int) t25 (fe uu rr) := ⟨K0, k25, lw hw uu rr⟩
 refine gE (x := x) (L := [aR 0,aI 0,aU,aU,aU,aU,aU,aU,aU,aU]) (by simp [entryFrame, mkF, argsToLocals, Value.category, gL, gS, cs, cv]) X0 e0 ?_
 refine gR K O V 2 ([aR 0,aI 0,aI (-1)]++un 7) [] rfl ?_
 refine gldc K (wd hw 197 rfl) rfl ?_
 refine gR K O V 24 ([aR 0,aI 0,aI (-1),aD 4472406533629990549,aS,aI 0]++un 4) [aI 0,aR 10] rfl ?_
 refine gdl K 0 F10 rfl rfl rfl rfl fun d0a q0a => ?_
 refine gR K O V 49 [aR 0,aI 0,aI (-1),aD 4472406533629990549,aS,aI 0,aD d0a,aS,aU,aU] [aD d0a] rfl ?_
 refine gabs K (wabs hw) zs0 0 q0a (zab_181 B q) rfl rfl (by decide) (Nat.le_of_eq rfl) (by decide) (by decide) (by decide) fun d0b q0b => ?_
 refine gR K O V 96 [aR 0,aI 0,aI (-1),aD 4472406533629990549,aS,aI 0,aD d0a,aS,aD d0b,aS] [aD 4472406533629990549,aD d0b] rfl ?_
 refine gcF K ⟨_, Ep.gt q0b ep_9 (zep_182 B q), rfl⟩ rfl rfl ?_
 refine gR K O V 24 [aR 0,aI 0,aI 0,aD d0b,aS,aI 1,aD d0a,aS,aD d0b,aS] [aI 1,aR 10] rfl ?_
 refine gdl K 1 F10 rfl rfl rfl rfl fun d0c q0c => ?_
 refine gR K O V 43 [aR 0,aI 0,aI 0,aD d0b,aS,aI 1,aD d0c,aS,aD d0b,aS] [aD d0c] rfl ?_
 refine gneg K (z := (-zs1)) (Dz.neg q0c zeq_69) rfl fun d0d q0d => ?_
 refine gR K O V 96 [aR 0,aI 0,aI 0,aD d0b,aS,aI 1,aD d0c,aS,aD d0d,aS] [aD d0b,aD d0d] rfl ?_
 refine gcT K 106 (Dz.tk (cd := .le) q0d q0b (zcm_185 B q)) rfl rfl rfl ?_
 refine gR K O V 113 [aR 0,aI 0,aI 0,aD d0b,aS,aI 2,aD d0c,aS,aD d0d,aS] [aI 0] rfl ?_
 exact gri K rfl (by decide) (by decide) ⟨rfl, rfl⟩
theorem rmEC5 (hw : HW Z a0) (x : Nat → Addr) (uu rr u6_0 u6_1 u16_0 u16_1 u17_0 u17_1 : Int32) (y13_0 y13_1 y13_2 : Int) (zs0 zs1 zc0 zc2 : Int) (h0 : Heap) (N : NX n0 x) (O : OB Z h0 x DSn (fe uu rr)) (V : EV Z h0 x [(2,[-1,1]),(3,[0,1,2,3]),(4,[0,1,1]),(6,[u6_0,u6_1]),(7,[-1,-1,1,0,-1]),(16,[u16_0,u16_1]),(17,[u17_0,u17_1])]) (B : ZB zs0 zs1 zc0 zc2) (q : 0 < zs0) (F5 : AD Z h0 (x 5) [1, (-1), 1]) (F9 : AD Z h0 (x 9) [1, 0, 0, 1]) (F10 : AD Z h0 (x 10) [zs0, zs1]) (F11 : AD Z h0 (x 11) [zc0, zc2, 0]) (F13 : AD Z h0 (x 13) [y13_0, y13_1, y13_2]) :
    Con l Z n0 ⟨DSn, "enteringColumn", "(IZ)I"⟩ prog_12_method_11_code 17 (some .int) ⟨1, 0, 0, 17⟩ #[(.ref (x 0)), (.int 0), (.int 0)] h0 (fun v h => v = some (.int 0) ∧ KJ x h0 h [13] ∧ AD Z h (x 13) [1, 0, 0]) := by
 refine con_of (plainFor_of_name pn_DS) ?_
 intro p e s m below meth c T0 K0 X0 e0
 have K : KX p s m meth c Z a0 DSn "enteringColumn" prog_12_method_11_code 17 (some .int) t27 (fe uu rr) := ⟨K0, k27, lw hw uu rr⟩
 refine gE (x := x) (L := [aR 0,aI 0,aI 0,aU,aU,aU,aU,aU,aU,aU,aU,aU,aU,aU,aU,aU,aU]) (by simp [entryFrame, mkF, argsToLocals, Value.category, gL, gS, cs, cv]) X0 e0 ?_
 refine gR0 K O V 2 [aI 0,aR 0] rfl ?_
 refine gPr K (w_block hw) O (rmBlk0 hw x uu rr u6_0 u6_1 (-1) (-1) 1 0 (-1) u16_0 u16_1 u17_0 u17_1 zs0 zs1 zc0 zc2 h0 N O V B) [] 0 rfl rfl rfl rfl (by decide) (Nat.le_of_eq rfl) (by decide) (by decide) (by decide) ?_
 refine gR K O V 8 ([aR 0,aI 0,aI 0,aR 9]++un 13) [aI 0,aR 0] rfl ?_
 refine gPi K (w_first hw) O (rmFst0 hw x uu rr u6_0 u6_1 (-1) (-1) 1 0 (-1) u16_0 u16_1 u17_0 u17_1 zs0 zs1 zc0 zc2 h0 N O V B) [] 0 rfl rfl rfl rfl (by decide) (Nat.le_of_eq rfl) (by decide) (by decide) (by decide) ?_
 refine gR K O V 74 ([aR 0,aI 0,aI 0,aR 9,aI 0,aI 0,aD 0,aS,aI 0]++un 8) [aI 0,aR 9,aD 0] rfl ?_
 refine gdl K 0 F9 rfl rfl rfl rfl fun d0a q0a => ?_
 refine gR0 K O V 81 [aI 0,aR 5,aD d0a,aD 0] rfl ?_
 refine gdl K 0 F5 rfl rfl rfl rfl fun d0b q0b => ?_
 refine gmul K (z := 1) (Dz.mul q0a q0b rfl (by decide)) rfl fun d0c q0c => ?_
 refine gadd K (z := 1) (Dz.add Dz.zero q0c rfl (by decide)) rfl fun d0d q0d => ?_
 refine gR K O V 100 ([aR 0,aI 0,aI 0,aR 9,aI 0,aI 0,aD d0d,aS,aI 1]++un 8) [aD d0d,aI 0,aR 13] rfl ?_
 refine gds K 0 F13 rfl rfl rfl q0d (N.ge 13 rfl) rfl fun h0e (W0e : KJ x h0 h0e [13]) (f0e : AD Z h0e (x 13) [1, y13_1, y13_2]) => ?_
 obtain ⟨O0f, V0f⟩ := ov N O V (js := [13]) W0e rfl rfl rfl
 refine gR K O0f V0f 74 ([aR 0,aI 0,aI 0,aR 9,aI 0,aI 1,aD 0,aS,aI 1]++un 8) [aI 1,aR 9,aD 0] rfl ?_
 have f0g := F9.keep W0e (nx N 9 rfl)
 refine gdl K 1 f0g rfl rfl rfl rfl fun d0h q0h => ?_
 refine gR0 K O0f V0f 81 [aI 1,aR 5,aD d0h,aD 0] rfl ?_
 have f0i := F5.keep W0e (nx N 5 rfl)
 refine gdl K 1 f0i rfl rfl rfl rfl fun d0j q0j => ?_
 refine gmul K (z := 0) (Dz.mul q0h q0j rfl (by decide)) rfl fun d0k q0k => ?_
 refine gadd K (z := 0) (Dz.add Dz.zero q0k rfl (by decide)) rfl fun d0l q0l => ?_
 refine gR K O0f V0f 100 ([aR 0,aI 0,aI 0,aR 9,aI 0,aI 1,aD d0l,aS,aI 2]++un 8) [aD d0l,aI 1,aR 13] rfl ?_
 refine gds K 1 f0e rfl rfl rfl q0l (N.ge 13 rfl) rfl fun h0m (W0m : KJ x h0e h0m [13]) (f0m : AD Z h0m (x 13) [1, 0, y13_2]) => ?_
 have k0n := kx [13] (js' := [13]) W0e W0m rfl rfl
 obtain ⟨O0o, V0o⟩ := ov N O V (js := [13]) k0n rfl rfl rfl
 refine gR K O0o V0o 100 ([aR 0,aI 0,aI 0,aR 9,aI 0,aI 2,aD 0,aS,aI 2]++un 8) [aD 0,aI 2,aR 13] rfl ?_
 refine gds K 2 f0m rfl rfl rfl Dz.zero (N.ge 13 rfl) rfl fun h0p (W0p : KJ x h0m h0p [13]) (f0p : AD Z h0p (x 13) [1, 0, 0]) => ?_
 have k0q := kx [13] (js' := [13]) k0n W0p rfl rfl
 obtain ⟨O0r, V0r⟩ := ov N O V (js := [13]) k0q rfl rfl rfl
 refine gR K O0r V0r 112 ([aR 0,aI 0,aI 0,aR 9,aI 0,aI 3,aD 0,aS,aI 2]++un 8) [aI 0,aR 10] rfl ?_
 have f0s := F10.keep k0q (nx N 10 rfl)
 refine gdl K 0 f0s rfl rfl rfl rfl fun d0t q0t => ?_
 refine gR0 K O0r V0r 114 [aD 0,aD d0t] rfl ?_
 refine gcT K 124 (Dz.tk (cd := .ge) q0t Dz.zero (zcm_121 B q)) rfl rfl rfl ?_
 refine gR K O0r V0r 135 ([aR 0,aI 0,aI 0,aR 9,aI 0,aD 4607182418800017408,aS,aU,aI 2]++un 8) [] rfl ?_
 refine gldc K (wd hw 197 rfl) rfl ?_
 refine gR K O0r V0r 140 ([aR 0,aI 0,aI 0,aR 9,aI 0,aD 4607182418800017408,aS,aD 4472406533629990549,aS]++un 8) [] rfl ?_
 refine gldc K (wd hw 205 rfl) rfl ?_
 refine gR K O0r V0r 165 ([aR 0,aI 0,aI 0,aR 9,aI 0,aD 4607182418800017408,aS,aD 4472406533629990549,aS,aD 9218868437227405312,aS,aI 0]++un 5) [aI 0,aR 13,aD 4607182418800017408] rfl ?_
 refine gdl K 0 f0p rfl rfl rfl rfl fun d0u q0u => ?_
 refine gmul K (z := 1) (Dz.mul Dz.one q0u rfl (by decide)) rfl fun d0v q0v => ?_
 refine gR K O0r V0r 171 [aR 0,aI 0,aI 0,aR 9,aI 0,aD 4607182418800017408,aS,aD 4472406533629990549,aS,aD 9218868437227405312,aS,aI 0,aD d0v,aS,aU,aU,aU] [aD d0v] rfl ?_
 refine gldc K (wd hw 197 rfl) rfl ?_
 refine gcF K ⟨_, Ep.gt q0v ep_9 (by decide), rfl⟩ rfl rfl ?_
 refine gR0 K O0r V0r 187 [aI 0,aR 11,aD 0,aD 9218868437227405312] rfl ?_
 have f0w := F11.keep k0q (nx N 11 rfl)
 refine gdl K 0 f0w rfl rfl rfl rfl fun d0x q0x => ?_
 refine gmax K (wmax hw) zc0 2 Dz.zero q0x (zmx_123 B q) rfl rfl (by decide) (Nat.le_of_eq rfl) (by decide) (by decide) (by decide) fun d0y q0y => ?_
 refine gR0 K O0r V0r 193 [aD 4472406533629990549,aD d0y,aD 9218868437227405312] rfl ?_
 refine gaddP K (Dge zc0) (Dge.add q0y ep_9 (znn_124 B q).1 (znn_124 B q).2).1 (Dge.add q0y ep_9 (znn_124 B q).1 (znn_124 B q).2).2 rfl fun d0z q0z => ?_
 refine gR0 K O0r V0r 196 [aD d0v,aD d0z,aD 9218868437227405312] rfl ?_
 refine gdivP K (Dge zc0) (Dge.dv q0z q0v) (fin_nn (Dge.dv q0z q0v).1) rfl fun d1a q1a => ?_
 refine gmin K (wmin hw) 0 q1a rfl rfl (by decide) (Nat.le_of_eq rfl) (by decide) (by decide) (by decide) ?_
 refine gR K O0r V0r 165 [aR 0,aI 0,aI 0,aR 9,aI 0,aD 4607182418800017408,aS,aD 4472406533629990549,aS,aD d1a,aS,aI 1,aD d0v,aS,aU,aU,aU] [aI 1,aR 13,aD 4607182418800017408] rfl ?_
 refine gdl K 1 f0p rfl rfl rfl rfl fun d1b q1b => ?_
 refine gmul K (z := 0) (Dz.mul Dz.one q1b rfl (by decide)) rfl fun d1c q1c => ?_
 refine gR K O0r V0r 171 [aR 0,aI 0,aI 0,aR 9,aI 0,aD 4607182418800017408,aS,aD 4472406533629990549,aS,aD d1a,aS,aI 1,aD d1c,aS,aU,aU,aU] [aD d1c] rfl ?_
 refine gldc K (wd hw 197 rfl) rfl ?_
 refine gcT K 202 ⟨_, Ep.lt q1c ep_9 (by decide), rfl⟩ rfl rfl rfl ?_
 refine gR K O0r V0r 165 [aR 0,aI 0,aI 0,aR 9,aI 0,aD 4607182418800017408,aS,aD 4472406533629990549,aS,aD d1a,aS,aI 2,aD d1c,aS,aU,aU,aU] [aI 2,aR 13,aD 4607182418800017408] rfl ?_
 refine gdl K 2 f0p rfl rfl rfl rfl fun d1d q1d => ?_
 refine gmul K (z := 0) (Dz.mul Dz.one q1d rfl (by decide)) rfl fun d1e q1e => ?_
 refine gR K O0r V0r 171 [aR 0,aI 0,aI 0,aR 9,aI 0,aD 4607182418800017408,aS,aD 4472406533629990549,aS,aD d1a,aS,aI 2,aD d1e,aS,aU,aU,aU] [aD d1e] rfl ?_
 refine gldc K (wd hw 197 rfl) rfl ?_
 refine gcT K 202 ⟨_, Ep.lt q1e ep_9 (by decide), rfl⟩ rfl rfl rfl ?_
 refine gR K O0r V0r 234 [aR 0,aI 0,aI 0,aR 9,aI 0,aD 4607182418800017408,aS,aD 4472406533629990549,aS,aD d1a,aS,aI (-1),aD 0,aS,aI 0,aU,aU] [aI 0,aR 13,aD 4607182418800017408] rfl ?_
 refine gdl K 0 f0p rfl rfl rfl rfl fun d1f q1f => ?_
 refine gmul K (z := 1) (Dz.mul Dz.one q1f rfl (by decide)) rfl fun d1g q1g => ?_
 refine gR K O0r V0r 240 [aR 0,aI 0,aI 0,aR 9,aI 0,aD 4607182418800017408,aS,aD 4472406533629990549,aS,aD d1a,aS,aI (-1),aD 0,aS,aI 0,aD d1g,aS] [aD d1g] rfl ?_
 refine gldc K (wd hw 197 rfl) rfl ?_
 refine gcF K ⟨_, Ep.gt q1g ep_9 (by decide), rfl⟩ rfl rfl ?_
 refine gR0 K O0r V0r 254 [aI 0,aR 11,aD 0] rfl ?_
 refine gdl K 0 f0w rfl rfl rfl rfl fun d1h q1h => ?_
 refine gmax K (wmax hw) zc0 0 Dz.zero q1h (zmx_123 B q) rfl rfl (by decide) (Nat.le_of_eq rfl) (by decide) (by decide) (by decide) fun d1i q1i => ?_
 refine gR0 K O0r V0r 260 [aD d1g,aD d1i] rfl ?_
 refine gdiv K (z := zc0) (Dz.div1 q1i q1g) rfl fun d1j q1j => ?_
 refine gR0 K O0r V0r 263 [aD d1a,aD d1j] rfl ?_
 refine gcF K (Dge.leF q1j q1a) rfl rfl ?_
 refine gR0 K O0r V0r 278 [aD 0,aD d1g] rfl ?_
 refine gcF K (Dz.nt (cd := .le) q1g Dz.zero (by show (0 : Int) < (1 : Int); decide)) rfl rfl ?_
 refine gR K O0r V0r 234 [aR 0,aI 0,aI 0,aR 9,aI 0,aD 4607182418800017408,aS,aD 4472406533629990549,aS,aD d1a,aS,aI 0,aD d1g,aS,aI 1,aD d1g,aS] [aI 1,aR 13,aD 4607182418800017408] rfl ?_
 refine gdl K 1 f0p rfl rfl rfl rfl fun d1k q1k => ?_
 refine gmul K (z := 0) (Dz.mul Dz.one q1k rfl (by decide)) rfl fun d1l q1l => ?_
 refine gR K O0r V0r 240 [aR 0,aI 0,aI 0,aR 9,aI 0,aD 4607182418800017408,aS,aD 4472406533629990549,aS,aD d1a,aS,aI 0,aD d1g,aS,aI 1,aD d1l,aS] [aD d1l] rfl ?_
 refine gldc K (wd hw 197 rfl) rfl ?_
 refine gcT K 290 ⟨_, Ep.lt q1l ep_9 (by decide), rfl⟩ rfl rfl rfl ?_
 refine gR K O0r V0r 234 [aR 0,aI 0,aI 0,aR 9,aI 0,aD 4607182418800017408,aS,aD 4472406533629990549,aS,aD d1a,aS,aI 0,aD d1g,aS,aI 2,aD d1l,aS] [aI 2,aR 13,aD 4607182418800017408] rfl ?_
 refine gdl K 2 f0p rfl rfl rfl rfl fun d1m q1m => ?_
 refine gmul K (z := 0) (Dz.mul Dz.one q1m rfl (by decide)) rfl fun d1n q1n => ?_
 refine gR K O0r V0r 240 [aR 0,aI 0,aI 0,aR 9,aI 0,aD 4607182418800017408,aS,aD 4472406533629990549,aS,aD d1a,aS,aI 0,aD d1g,aS,aI 2,aD d1n,aS] [aD d1n] rfl ?_
 refine gldc K (wd hw 197 rfl) rfl ?_
 refine gcT K 290 ⟨_, Ep.lt q1n ep_9 (by decide), rfl⟩ rfl rfl rfl ?_
 refine gR K O0r V0r 298 [aR 0,aI 0,aI 0,aR 9,aI 0,aD 4607182418800017408,aS,aD 4472406533629990549,aS,aD d1a,aS,aI 0,aD d1g,aS,aI 3,aD d1n,aS] [aI 0] rfl ?_
 exact gri K rfl (by decide) (by decide) ⟨rfl, k0q, f0p⟩
theorem zph_196 {zs0 zs1 zc0 zc2 : Int} (B : ZB zs0 zs1 zc0 zc2) (q0 : 0 < zs0 ∧ zs0 < zs1) : 0 < zs0 := by unfold ZB at B; obtain ⟨b1, b2, b3, b4, b5, b6⟩ := B; omega
theorem rmPV3 (hw : HW Z a0) (x : Nat → Addr) (rr u16_0 u16_1 u17_0 u17_1 : Int32) (y14_0 y14_1 : Int) (zs0 zs1 zc0 zc2 : Int) (h0 : Heap) (N : NX n0 x) (O : OB Z h0 x DSn (fe 1 rr)) (V : EV Z h0 x [(2,[-1,1]),(3,[0,1,2,3]),(4,[0,1,1]),(6,[3,2]),(7,[-1,-1,1,0,-1]),(16,[u16_0,u16_1]),(17,[u17_0,u17_1])]) (B : ZB zs0 zs1 zc0 zc2) (F5 : AD Z h0 (x 5) [1, (-1), 1]) (F9 : AD Z h0 (x 9) [1, 0, 0, 1]) (F10 : AD Z h0 (x 10) [zs0, zs1]) (F11 : AD Z h0 (x 11) [zc0, zc2, 0]) (F13 : AD Z h0 (x 13) [1, 0, 0]) (F14 : AD Z h0 (x 14) [y14_0, y14_1]) :
    Con l Z n0 ⟨DSn, "pivot", "(II)Z"⟩ prog_12_method_12_code 19 (some .boolean) ⟨1, 0, 0, 21⟩ #[(.ref (x 0)), (.int 0), (.int 0)] h0 (fun v h => v = some (.int 1) ∧ KJ x h0 h [0,6,7,9,10,11,14] ∧ OB Z h x DSn (fe 2 0) ∧ EV Z h x [(2,[-1,1]),(3,[0,1,2,3]),(4,[0,1,1]),(6,[0,2]),(7,[0,-1,1,-1,-1]),(16,[u16_0,u16_1]),(17,[u17_0,u17_1])] ∧ AD Z h (x 9) [1, 0, 0, 1] ∧ AD Z h (x 10) [zs0, zs1] ∧ AD Z h (x 11) [0, zc2, 0] ∧ AD Z h (x 14) [1, 0]) := by
 refine con_of (plainFor_of_name pn_DS) ?_
 intro p e s m below meth c T0 K0 X0 e0
 have K : KX p s m meth c Z a0 DSn "pivot" prog_12_method_12_code 19 (some .boolean) t30 (fe 1 rr) := ⟨K0, k30, lw hw 1 rr⟩
 refine gE (x := x) (L := [aR 0,aI 0,aI 0,aU,aU,aU,aU,aU,aU,aU,aU,aU,aU,aU,aU,aU,aU,aU,aU]) (by simp [entryFrame, mkF, argsToLocals, Value.category, gL, gS, cs, cv]) X0 e0 ?_
 refine gR K O V 37 ([aR 0,aI 0,aI 0,aI 0,aR 8,aI 1,aI 0,aR 9,aI 0]++un 10) [aR 9,aI 0] rfl ?_
 refine gal K 4 F9 rfl rfl rfl ?_
 refine gR K O V 79 ([aR 0,aI 0,aI 0,aI 0,aR 8,aI 1,aI 0,aR 9,aI 0,aD 0,aS,aI 0]++un 7) [aI 0,aR 9,aD 0] rfl ?_
 refine gdl K 0 F9 rfl rfl rfl rfl fun d0a q0a => ?_
 refine gR0 K O V 86 [aI 0,aR 5,aD d0a,aD 0] rfl ?_
 refine gdl K 0 F5 rfl rfl rfl rfl fun d0b q0b => ?_
 refine gmul K (z := 1) (Dz.mul q0a q0b rfl (by decide)) rfl fun d0c q0c => ?_
 refine gadd K (z := 1) (Dz.add Dz.zero q0c rfl (by decide)) rfl fun d0d q0d => ?_
 refine gR K O V 104 ([aR 0,aI 0,aI 0,aI 0,aR 8,aI 1,aI 0,aR 9,aI 0,aD d0d,aS,aI 1]++un 7) [aD d0d,aI 0,aR 14] rfl ?_
 refine gds K 0 F14 rfl rfl rfl q0d (N.ge 14 rfl) rfl fun h0e (W0e : KJ x h0 h0e [14]) (f0e : AD Z h0e (x 14) [1, y14_1]) => ?_
 obtain ⟨O0f, V0f⟩ := ov N O V (js := [14]) W0e rfl rfl rfl
 refine gR K O0f V0f 37 ([aR 0,aI 0,aI 0,aI 1,aR 8,aI 1,aI 0,aR 9,aI 2,aD d0d,aS,aI 1]++un 7) [aR 9,aI 2] rfl ?_
 have f0g := F9.keep W0e (nx N 9 rfl)
 refine gal K 4 f0g rfl rfl rfl ?_
 refine gR K O0f V0f 79 ([aR 0,aI 0,aI 0,aI 1,aR 8,aI 1,aI 0,aR 9,aI 2,aD 0,aS,aI 0]++un 7) [aI 2,aR 9,aD 0] rfl ?_
 refine gdl K 2 f0g rfl rfl rfl rfl fun d0h q0h => ?_
 refine gR0 K O0f V0f 86 [aI 0,aR 5,aD d0h,aD 0] rfl ?_
 have f0i := F5.keep W0e (nx N 5 rfl)
 refine gdl K 0 f0i rfl rfl rfl rfl fun d0j q0j => ?_
 refine gmul K (z := 0) (Dz.mul q0h q0j rfl (by decide)) rfl fun d0k q0k => ?_
 refine gadd K (z := 0) (Dz.add Dz.zero q0k rfl (by decide)) rfl fun d0l q0l => ?_
 refine gR K O0f V0f 104 ([aR 0,aI 0,aI 0,aI 1,aR 8,aI 1,aI 0,aR 9,aI 2,aD d0l,aS,aI 1]++un 7) [aD d0l,aI 1,aR 14] rfl ?_
 refine gds K 1 f0e rfl rfl rfl q0l (N.ge 14 rfl) rfl fun h0m (W0m : KJ x h0e h0m [14]) (f0m : AD Z h0m (x 14) [1, 0]) => ?_
 have k0n := kx [14] (js' := [14]) W0e W0m rfl rfl
 obtain ⟨O0o, V0o⟩ := ov N O V (js := [14]) k0n rfl rfl rfl
 refine gR K O0o V0o 37 ([aR 0,aI 0,aI 0,aI 2,aR 8,aI 1,aI 0,aR 9,aI 4,aD d0l,aS,aI 1]++un 7) [aR 9,aI 4] rfl ?_
 have f0p := F9.keep k0n (nx N 9 rfl)
 refine gal K 4 f0p rfl rfl rfl ?_
 refine gR K O0o V0o 131 ([aR 0,aI 0,aI 0,aI 2,aR 8,aI 1,aI 1,aR 9,aI 4,aD d0l,aS,aI 1]++un 7) [aI 0,aR 14] rfl ?_
 refine gdl K 0 f0m rfl rfl rfl rfl fun d0q q0q => ?_
 refine gR K O0o V0o 141 ([aR 0,aI 0,aI 0,aI 2,aD d0q,aS,aI 1,aR 9,aI 4,aD d0l,aS,aI 1]++un 7) [aI 0,aR 13,aD d0q] rfl ?_
 have f0r := F13.keep k0n (nx N 13 rfl)
 refine gdl K 0 f0r rfl rfl rfl rfl fun d0s q0s => ?_
 refine gsub K (z := 0) (Dz.sub q0q q0s rfl (by decide)) rfl fun d0t q0t => ?_
 refine gabs K (wabs hw) 0 0 q0t rfl rfl rfl (by decide) (Nat.le_of_eq rfl) (by decide) (by decide) (by decide) fun d0u q0u => ?_
 refine gldc K (wd hw 216 rfl) rfl ?_
 refine gR0 K O0o V0o 152 [aD d0q,aD 4607182418800017408,aD 4502148214488346440,aD d0u] rfl ?_
 refine gabs K (wabs hw) 1 6 q0q rfl rfl rfl (by decide) (Nat.le_of_eq rfl) (by decide) (by decide) (by decide) fun d0v q0v => ?_
 refine gadd K (z := 2) (Dz.add Dz.one q0v rfl (by decide)) rfl fun d0w q0w => ?_
 refine gmulP K Ep (Ep.two q0w) (Ep.two q0w).1 rfl fun d0x q0x => ?_
 refine gcT K 163 ⟨_, Ep.lt q0u q0x (by decide), rfl⟩ rfl rfl rfl ?_
 refine gR0 K O0o V0o 168 [aI 0,aR 10] rfl ?_
 have f0y := F10.keep k0n (nx N 10 rfl)
 refine gdl K 0 f0y rfl rfl rfl rfl fun d0z q0z => ?_
 refine gR0 K O0o V0o 171 [aD d0q,aD d0z] rfl ?_
 refine gdiv K (z := zs0) (Dz.div1 q0z q0q) rfl fun d1a q1a => ?_
 refine gR K O0o V0o 193 ([aR 0,aI 0,aI 0,aI 2,aD d0q,aS,aD d1a,aS,aI 0,aD d0l,aS,aI 1]++un 7) [aI 0,aR 10,aI 0,aR 10] rfl ?_
 refine gdl K 0 f0y rfl rfl rfl rfl fun d1b q1b => ?_
 refine gR0 K O0o V0o 202 [aI 0,aR 14,aD d1a,aD d1b,aI 0,aR 10] rfl ?_
 refine gdl K 0 f0m rfl rfl rfl rfl fun d1c q1c => ?_
 refine gmul K (z := zs0) (Dz.mul q1a q1c zeq_137 (zbd_9 B)) rfl fun d1d q1d => ?_
 refine gsub K (z := 0) (Dz.sub q1b q1d zeq_99 (by decide)) rfl fun d1e q1e => ?_
 refine gds K 0 f0y rfl rfl rfl q1e (N.ge 10 rfl) rfl fun h1f (W1f : KJ x h0m h1f [10]) (f1f : AD Z h1f (x 10) [0, zs1]) => ?_
 have k1g := kx [10,14] (js' := [10]) k0n W1f rfl rfl
 obtain ⟨O1h, V1h⟩ := ov N O V (js := [10,14]) k1g rfl rfl rfl
 refine gR K O1h V1h 193 ([aR 0,aI 0,aI 0,aI 2,aD d0q,aS,aD d1a,aS,aI 1,aD d0l,aS,aI 1]++un 7) [aI 1,aR 10,aI 1,aR 10] rfl ?_
 refine gdl K 1 f1f rfl rfl rfl rfl fun d1i q1i => ?_
 refine gR0 K O1h V1h 202 [aI 1,aR 14,aD d1a,aD d1i,aI 1,aR 10] rfl ?_
 have f1j := f0m.keep W1f (nx N 14 rfl)
 refine gdl K 1 f1j rfl rfl rfl rfl fun d1k q1k => ?_
 refine gmul K (z := 0) (Dz.mul q1a q1k zeq_138 (by decide)) rfl fun d1l q1l => ?_
 refine gsub K (z := zs1) (Dz.sub q1i q1l zeq_1 (zbd_2 B)) rfl fun d1m q1m => ?_
 refine gds K 1 f1f rfl rfl rfl q1m (N.ge 10 rfl) rfl fun h1n (W1n : KJ x h1f h1n [10]) (f1n : AD Z h1n (x 10) [0, zs1]) => ?_
 have k1o := kx [10,14] (js' := [10]) k1g W1n rfl rfl
 obtain ⟨O1p, V1p⟩ := ov N O V (js := [10,14]) k1o rfl rfl rfl
 refine gR K O1p V1p 219 ([aR 0,aI 0,aI 0,aI 2,aD d0q,aS,aD d1a,aS,aI 2,aD d0l,aS,aI 1]++un 7) [aD d1a,aI 0,aR 10] rfl ?_
 refine gds K 0 f1n rfl rfl rfl q1a (N.ge 10 rfl) rfl fun h1q (W1q : KJ x h1n h1q [10]) (f1q : AD Z h1q (x 10) [zs0, zs1]) => ?_
 have k1r := kx [10,14] (js' := [10]) k1o W1q rfl rfl
 obtain ⟨O1s, V1s⟩ := ov N O V (js := [10,14]) k1r rfl rfl rfl
 refine gR0 K O1s V1s 225 [aI 0,aR 11] rfl ?_
 have f1t := F11.keep k1r (nx N 11 rfl)
 refine gdl K 0 f1t rfl rfl rfl rfl fun d1u q1u => ?_
 refine gR0 K O1s V1s 228 [aD d0q,aD d1u] rfl ?_
 refine gdiv K (z := zc0) (Dz.div1 q1u q0q) rfl fun d1v q1v => ?_
 refine gR K O1s V1s 250 ([aR 0,aI 0,aI 0,aI 2,aD d0q,aS,aD d1a,aS,aD d1v,aS,aI 0,aI 1]++un 7) [aI 0,aR 11,aI 0,aR 11] rfl ?_
 refine gdl K 0 f1t rfl rfl rfl rfl fun d1w q1w => ?_
 refine gR0 K O1s V1s 259 [aI 0,aR 13,aD d1v,aD d1w,aI 0,aR 11] rfl ?_
 have f1x := F13.keep k1r (nx N 13 rfl)
 refine gdl K 0 f1x rfl rfl rfl rfl fun d1y q1y => ?_
 refine gmul K (z := zc0) (Dz.mul q1v q1y zeq_140 (zbd_61 B)) rfl fun d1z q1z => ?_
 refine gsub K (z := 0) (Dz.sub q1w q1z zeq_141 (by decide)) rfl fun d2a q2a => ?_
 refine gds K 0 f1t rfl rfl rfl q2a (N.ge 11 rfl) rfl fun h2b (W2b : KJ x h1q h2b [11]) (f2b : AD Z h2b (x 11) [0, zc2, 0]) => ?_
 have k2c := kx [10,11,14] (js' := [11]) k1r W2b rfl rfl
 obtain ⟨O2d, V2d⟩ := ov N O V (js := [10,11,14]) k2c rfl rfl rfl
 refine gR K O2d V2d 250 ([aR 0,aI 0,aI 0,aI 2,aD d0q,aS,aD d1a,aS,aD d1v,aS,aI 1,aI 1]++un 7) [aI 1,aR 11,aI 1,aR 11] rfl ?_
 refine gdl K 1 f2b rfl rfl rfl rfl fun d2e q2e => ?_
 refine gR0 K O2d V2d 259 [aI 1,aR 13,aD d1v,aD d2e,aI 1,aR 11] rfl ?_
 have f2f := F13.keep k2c (nx N 13 rfl)
 refine gdl K 1 f2f rfl rfl rfl rfl fun d2g q2g => ?_
 refine gmul K (z := 0) (Dz.mul q1v q2g zeq_142 (by decide)) rfl fun d2h q2h => ?_
 refine gsub K (z := zc2) (Dz.sub q2e q2h zeq_107 (zbd_64 B)) rfl fun d2i q2i => ?_
 refine gds K 1 f2b rfl rfl rfl q2i (N.ge 11 rfl) rfl fun h2j (W2j : KJ x h2b h2j [11]) (f2j : AD Z h2j (x 11) [0, zc2, 0]) => ?_
 have k2k := kx [10,11,14] (js' := [11]) k2c W2j rfl rfl
 obtain ⟨O2l, V2l⟩ := ov N O V (js := [10,11,14]) k2k rfl rfl rfl
 refine gR K O2l V2l 250 ([aR 0,aI 0,aI 0,aI 2,aD d0q,aS,aD d1a,aS,aD d1v,aS,aI 2,aI 1]++un 7) [aI 2,aR 11,aI 2,aR 11] rfl ?_
 refine gdl K 2 f2j rfl rfl rfl rfl fun d2m q2m => ?_
 refine gR0 K O2l V2l 259 [aI 2,aR 13,aD d1v,aD d2m,aI 2,aR 11] rfl ?_
 have f2n := F13.keep k2k (nx N 13 rfl)
 refine gdl K 2 f2n rfl rfl rfl rfl fun d2o q2o => ?_
 refine gmul K (z := 0) (Dz.mul q1v q2o zeq_142 (by decide)) rfl fun d2p q2p => ?_
 refine gsub K (z := 0) (Dz.sub q2m q2p rfl (by decide)) rfl fun d2q q2q => ?_
 refine gds K 2 f2j rfl rfl rfl q2q (N.ge 11 rfl) rfl fun h2r (W2r : KJ x h2j h2r [11]) (f2r : AD Z h2r (x 11) [0, zc2, 0]) => ?_
 have k2s := kx [10,11,14] (js' := [11]) k2k W2r rfl rfl
 obtain ⟨O2t, V2t⟩ := ov N O V (js := [10,11,14]) k2s rfl rfl rfl
 refine gR K O2t V2t 302 ([aR 0,aI 0,aI 0,aI 2,aD d0q,aS,aD d1a,aS,aD d1v,aS,aI 3,aI 1]++un 7) [aD 0,aI 0,aR 11] rfl ?_
 refine gds K 0 f2r rfl rfl rfl Dz.zero (N.ge 11 rfl) rfl fun h2u (W2u : KJ x h2r h2u [11]) (f2u : AD Z h2u (x 11) [0, zc2, 0]) => ?_
 have k2v := kx [10,11,14] (js' := [11]) k2s W2u rfl rfl
 obtain ⟨O2w, V2w⟩ := ov N O V (js := [10,11,14]) k2v rfl rfl rfl
 refine gR0 K O2w V2w 310 [aI (-1),aI 3,aR 7] rfl ?_
 refine gist K V2w N 3 [(2,[-1,1]),(3,[0,1,2,3]),(4,[0,1,1]),(6,[3,2]),(7,[-1,-1,1,-1,-1]),(16,[u16_0,u16_1]),(17,[u17_0,u17_1])] rfl rfl rfl rfl rfl rfl fun h2x (W2x : KJ x h2u h2x [7]) V2x => ?_
 have O2x := O2w.keep W2x (nx N 0 (js := [7]) rfl)
 refine gR0 K O2x V2x 317 [aI 0,aI 0,aR 7] rfl ?_
 refine gist K V2x N 0 [(2,[-1,1]),(3,[0,1,2,3]),(4,[0,1,1]),(6,[3,2]),(7,[0,-1,1,-1,-1]),(16,[u16_0,u16_1]),(17,[u17_0,u17_1])] rfl rfl rfl rfl rfl rfl fun h2y (W2y : KJ x h2x h2y [7]) V2y => ?_
 have O2y := O2x.keep W2y (nx N 0 (js := [7]) rfl)
 refine gR0 K O2y V2y 324 [aI 0,aI 0,aR 6] rfl ?_
 refine gist K V2y N 0 [(2,[-1,1]),(3,[0,1,2,3]),(4,[0,1,1]),(6,[0,2]),(7,[0,-1,1,-1,-1]),(16,[u16_0,u16_1]),(17,[u17_0,u17_1])] rfl rfl rfl rfl rfl rfl fun h2z (W2z : KJ x h2y h2z [6]) V2z => ?_
 have O2z := O2y.keep W2z (nx N 0 (js := [6]) rfl)
 refine gR0 K O2z V2z 327 [aI 0,aR 0] rfl ?_
 refine gPr K (w_block hw) O2z (rmBlk0 hw x 1 rr 0 2 0 (-1) 1 (-1) (-1) u16_0 u16_1 u17_0 u17_1 zs0 zs1 zc0 zc2 h2z N O2z V2z B) [] 0 rfl rfl rfl rfl (by decide) (Nat.le_of_eq rfl) (by decide) (by decide) (by decide) ?_
 refine gR K O2z V2z 334 ([aR 0,aI 0,aI 0,aI 2,aD d0q,aS,aD d1a,aS,aD d1v,aS,aI 3,aR 9]++un 7) [aI 0,aR 0] rfl ?_
 refine gPi K (w_first hw) O2z (rmFst0 hw x 1 rr 0 2 0 (-1) 1 (-1) (-1) u16_0 u16_1 u17_0 u17_1 zs0 zs1 zc0 zc2 h2z N O2z V2z B) [] 0 rfl rfl rfl rfl (by decide) (Nat.le_of_eq rfl) (by decide) (by decide) (by decide) ?_
 refine gR K O2z V2z 359 ([aR 0,aI 0,aI 0,aI 2,aD d0q,aS,aD d1a,aS,aD d1v,aS,aI 3,aR 9,aI 0,aI 0]++un 5) [aI 0,aR 9,aI 0,aR 9] rfl ?_
 have k3a := kx [7,10,11,14] (js' := [7]) k2v W2x rfl rfl
 have k3b := kx [7,10,11,14] (js' := [7]) k3a W2y rfl rfl
 have k3c := kx [6,7,10,11,14] (js' := [6]) k3b W2z rfl rfl
 have f3d := F9.keep k3c (nx N 9 rfl)
 refine gdl K 0 f3d rfl rfl rfl rfl fun d3e q3e => ?_
 refine gR0 K O2z V2z 362 [aD d0q,aD d3e,aI 0,aR 9] rfl ?_
 refine gdiv K (z := 1) (Dz.div1 q3e q0q) rfl fun d3f q3f => ?_
 refine gds K 0 f3d rfl rfl rfl q3f (N.ge 9 rfl) rfl fun h3g (W3g : KJ x h2z h3g [9]) (f3g : AD Z h3g (x 9) [1, 0, 0, 1]) => ?_
 obtain ⟨O3h, V3h⟩ := ov N O2z V2z (js := [9]) W3g rfl rfl rfl
 refine gR K O3h V3h 359 ([aR 0,aI 0,aI 0,aI 2,aD d0q,aS,aD d1a,aS,aD d1v,aS,aI 3,aR 9,aI 0,aI 1]++un 5) [aI 1,aR 9,aI 1,aR 9] rfl ?_
 refine gdl K 1 f3g rfl rfl rfl rfl fun d3i q3i => ?_
 refine gR0 K O3h V3h 362 [aD d0q,aD d3i,aI 1,aR 9] rfl ?_
 refine gdiv K (z := 0) (Dz.div1 q3i q0q) rfl fun d3j q3j => ?_
 refine gds K 1 f3g rfl rfl rfl q3j (N.ge 9 rfl) rfl fun h3k (W3k : KJ x h3g h3k [9]) (f3k : AD Z h3k (x 9) [1, 0, 0, 1]) => ?_
 have k3l := kx [9] (js' := [9]) W3g W3k rfl rfl
 obtain ⟨O3m, V3m⟩ := ov N O2z V2z (js := [9]) k3l rfl rfl rfl
 refine gR K O3m V3m 388 ([aR 0,aI 0,aI 0,aI 2,aD d0q,aS,aD d1a,aS,aD d1v,aS,aI 3,aR 9,aI 0,aI 0]++un 5) [aI 0,aR 14] rfl ?_
 have k3n := kx [10] (js' := [10]) W1f W1n rfl rfl
 have k3o := kx [10] (js' := [10]) k3n W1q rfl rfl
 have k3p := kx [10,11] (js' := [11]) k3o W2b rfl rfl
 have k3q := kx [10,11] (js' := [11]) k3p W2j rfl rfl
 have k3r := kx [10,11] (js' := [11]) k3q W2r rfl rfl
 have k3s := kx [10,11] (js' := [11]) k3r W2u rfl rfl
 have k3t := kx [7,10,11] (js' := [7]) k3s W2x rfl rfl
 have k3u := kx [7,10,11] (js' := [7]) k3t W2y rfl rfl
 have k3v := kx [6,7,10,11] (js' := [6]) k3u W2z rfl rfl
 have k3w := kx [6,7,9,10,11] (js' := [9]) k3v W3g rfl rfl
 have k3x := kx [6,7,9,10,11] (js' := [9]) k3w W3k rfl rfl
 have f3y := f0m.keep k3x (nx N 14 rfl)
 refine gdl K 0 f3y rfl rfl rfl rfl fun d3z q3z => ?_
 refine gR K O3m V3m 388 [aR 0,aI 0,aI 0,aI 2,aD d0q,aS,aD d1a,aS,aD d1v,aS,aI 3,aR 9,aI 0,aI 1,aD d3z,aS,aU,aU,aU] [aI 1,aR 14] rfl ?_
 refine gdl K 1 f3y rfl rfl rfl rfl fun d4a q4a => ?_
 refine gR K O3m V3m 400 [aR 0,aI 0,aI 0,aI 2,aD d0q,aS,aD d1a,aS,aD d1v,aS,aI 3,aR 9,aI 0,aI 1,aD d4a,aS,aU,aU,aU] [aD 0,aD d4a] rfl ?_
 refine gcT K 460 (Dz.tk (cd := .eq) q4a Dz.zero (by show (0 : Int) = (0 : Int); decide)) rfl rfl rfl ?_
 refine gR K O3m V3m 468 [aR 0,aI 0,aI 0,aI 2,aD d0q,aS,aD d1a,aS,aD d1v,aS,aI 3,aR 9,aI 0,aI 2,aD d4a,aS,aU,aU,aU] [aI 0,aR 0] rfl ?_
 refine grcc K hw O3m N (Or.inl rfl) rfl fun h4b (W4b : KJ x h3k h4b [0]) O4b => ?_
 have K := K.re hw 1 0
 have V4b := V3m.keep N (js := [0]) W4b rfl rfl
 refine gR0 K O4b V4b 478 [aI 2,aR 0] rfl ?_
 refine gpsr K hw O4b N rfl fun h4c (W4c : KJ x h4b h4c [0]) O4c => ?_
 have K := K.re hw 2 0
 have V4c := V4b.keep N (js := [0]) W4c rfl rfl
 refine gR0 K O4c V4c 496 [aI 1] rfl ?_
 have k4d := kx [0] (js' := [0]) W4b W4c rfl rfl
 have f4e := f3k.keep k4d (nx N 9 rfl)
 have k4f := kx [11] (js' := [11]) W2b W2j rfl rfl
 have k4g := kx [11] (js' := [11]) k4f W2r rfl rfl
 have k4h := kx [11] (js' := [11]) k4g W2u rfl rfl
 have k4i := kx [7,11] (js' := [7]) k4h W2x rfl rfl
 have k4j := kx [7,11] (js' := [7]) k4i W2y rfl rfl
 have k4k := kx [6,7,11] (js' := [6]) k4j W2z rfl rfl
 have k4l := kx [6,7,9,11] (js' := [9]) k4k W3g rfl rfl
 have k4m := kx [6,7,9,11] (js' := [9]) k4l W3k rfl rfl
 have k4n := kx [0,6,7,9,11] (js' := [0]) k4m W4b rfl rfl
 have k4o := kx [0,6,7,9,11] (js' := [0]) k4n W4c rfl rfl
 have f4p := f1q.keep k4o (nx N 10 rfl)
 have k4q := kx [7] (js' := [7]) W2x W2y rfl rfl
 have k4r := kx [6,7] (js' := [6]) k4q W2z rfl rfl
 have k4s := kx [6,7,9] (js' := [9]) k4r W3g rfl rfl
 have k4t := kx [6,7,9] (js' := [9]) k4s W3k rfl rfl
 have k4u := kx [0,6,7,9] (js' := [0]) k4t W4b rfl rfl
 have k4v := kx [0,6,7,9] (js' := [0]) k4u W4c rfl rfl
 have f4w := f2u.keep k4v (nx N 11 rfl)
 have k4x := kx [0,6,7,9,10,11] (js' := [0]) k3x W4b rfl rfl
 have k4y := kx [0,6,7,9,10,11] (js' := [0]) k4x W4c rfl rfl
 have f4z := f0m.keep k4y (nx N 14 rfl)
 have k5a := kx [6,7,9,10,11,14] (js' := [9]) k3c W3g rfl rfl
 have k5b := kx [6,7,9,10,11,14] (js' := [9]) k5a W3k rfl rfl
 have k5c := kx [0,6,7,9,10,11,14] (js' := [0]) k5b W4b rfl rfl
 have k5d := kx [0,6,7,9,10,11,14] (js' := [0]) k5c W4c rfl rfl
 exact grz K (Or.inr rfl) rfl (by decide) (by decide) ⟨rfl, k5d, O4c, V4c, f4e, f4p, f4w, f4z⟩
theorem zep_204 {zs0 zs1 zc0 zc2 : Int} (B : ZB zs0 zs1 zc0 zc2) (q0 : 0 < zs0 ∧ zs0 < zs1) : (-zs0) ≤ 0 := by unfold ZB at B; obtain ⟨b1, b2, b3, b4, b5, b6⟩ := B; omega
theorem zep_205 {zs0 zs1 zc0 zc2 : Int} (B : ZB zs0 zs1 zc0 zc2) (q0 : 0 < zs0 ∧ zs0 < zs1) : (-zs1) ≤ 0 := by unfold ZB at B; obtain ⟨b1, b2, b3, b4, b5, b6⟩ := B; omega
theorem rmLR13 (hw : HW Z a0) (x : Nat → Addr) (uu rr u7_0 u7_1 u7_2 u7_3 u7_4 u16_0 u16_1 u17_0 u17_1 : Int32) (zs0 zs1 zc0 zc2 : Int) (h0 : Heap) (N : NX n0 x) (O : OB Z h0 x DSn (fe uu rr)) (V : EV Z h0 x [(2,[-1,1]),(3,[0,1,2,3]),(4,[0,1,1]),(6,[0,2]),(7,[u7_0,u7_1,u7_2,u7_3,u7_4]),(16,[u16_0,u16_1]),(17,[u17_0,u17_1])]) (B : ZB zs0 zs1 zc0 zc2) (q : 0 < zs0 ∧ zs0 < zs1) (F10 : AD Z h0 (x 10) [zs0, zs1]) :
    Con l Z n0 ⟨DSn, "leavingRow", "(Z)I"⟩ prog_12_method_10_code 10 (some .int) ⟨0, 0, 0, 0⟩ #[(.ref (x 0)), (.int 0)] h0 (fun v h => v = some (.int (-1)) ∧ h = h0) := by
 refine con_of (plainFor_of_name pn_DS) ?_
 intro p e s m below meth c T0 K0 X0 e0
 have K : KX p s m meth c Z a0 DSn "leavingRow" prog_12_method_10_code 10 (some .int) t25 (fe uu rr) := ⟨K0, k25, lw hw uu rr⟩
 refine gE (x := x) (L := [aR 0,aI 0,aU,aU,aU,aU,aU,aU,aU,aU]) (by simp [entryFrame, mkF, argsToLocals, Value.category, gL, gS, cs, cv]) X0 e0 ?_
 refine gR K O V 2 ([aR 0,aI 0,aI (-1)]++un 7) [] rfl ?_
 refine gldc K (wd hw 197 rfl) rfl ?_
 refine gR K O V 24 ([aR 0,aI 0,aI (-1),aD 4472406533629990549,aS,aI 0]++un 4) [aI 0,aR 10] rfl ?_
 refine gdl K 0 F10 rfl rfl rfl rfl fun d0a q0a => ?_
 refine gR K O V 43 [aR 0,aI 0,aI (-1),aD 4472406533629990549,aS,aI 0,aD d0a,aS,aU,aU] [aD d0a] rfl ?_
 refine gneg K (z := (-zs0)) (Dz.neg q0a zeq_144) rfl fun d0b q0b => ?_
 refine gR K O V 96 [aR 0,aI 0,aI (-1),aD 4472406533629990549,aS,aI 0,aD d0a,aS,aD d0b,aS] [aD 4472406533629990549,aD d0b] rfl ?_
 refine gcT K 106 ⟨_, Ep.lt q0b ep_9 (zep_204 B q), rfl⟩ rfl rfl rfl ?_
 refine gR K O V 24 [aR 0,aI 0,aI (-1),aD 4472406533629990549,aS,aI 1,aD d0a,aS,aD d0b,aS] [aI 1,aR 10] rfl ?_
 refine gdl K 1 F10 rfl rfl rfl rfl fun d0c q0c => ?_
 refine gR K O V 43 [aR 0,aI 0,aI (-1),aD 4472406533629990549,aS,aI 1,aD d0c,aS,aD d0b,aS] [aD d0c] rfl ?_
 refine gneg K (z := (-zs1)) (Dz.neg q0c zeq_69) rfl fun d0d q0d => ?_
 refine gR K O V 96 [aR 0,aI 0,aI (-1),aD 4472406533629990549,aS,aI 1,aD d0c,aS,aD d0d,aS] [aD 4472406533629990549,aD d0d] rfl ?_
 refine gcT K 106 ⟨_, Ep.lt q0d ep_9 (zep_205 B q), rfl⟩ rfl rfl rfl ?_
 refine gR K O V 113 [aR 0,aI 0,aI (-1),aD 4472406533629990549,aS,aI 2,aD d0c,aS,aD d0d,aS] [aI (-1)] rfl ?_
 exact gri K rfl (by decide) (by decide) ⟨rfl, rfl⟩
theorem rmPvs7 (hw : HW Z a0) (x : Nat → Addr) (u16_0 u16_1 : Int32) (zs0 zs1 zc0 zc2 : Int) (h0 : Heap) (N : NX n0 x) (O : OB Z h0 x DSn (fe 0 0)) (V : EV Z h0 x [(2,[-1,1]),(3,[0,1,2,3]),(4,[0,1,1]),(6,[3,1]),(7,[-1,1,-1,0,-1]),(16,[u16_0,u16_1]),(17,[0,0])]) (B : ZB zs0 zs1 zc0 zc2) (q : 0 < zs0 ∧ zs0 < zs1) (Z0 : n0 ≤ h0.size) (F1 : AD Z h0 (x 1) [zc0, 0, zc2]) (F5 : AD Z h0 (x 5) [1, (-1), 1]) (F9 : AD Z h0 (x 9) [1, 0, 0, (-1)]) (F10 : AD Z h0 (x 10) [zs0, (-zs1)]) (F11 : AD Z h0 (x 11) [zc0, 0, zc2]) (F12 : AD Z h0 (x 12) [zs0, zs1]) (F13 : AD Z h0 (x 13) [0, 0, 0]) (F14 : AD Z h0 (x 14) [0, 0]) (F15 : AD Z h0 (x 15) [0, 0]) (E12 : Exa Z h0 (x 12) "[D") :
    Con l Z n0 ⟨DSn, "pivots", "()I"⟩ prog_12_method_9_code 6 (some .int) ⟨2, 2, 4, 51⟩ #[(.ref (x 0))] h0 (fun v h => v = some (.int 0) ∧ KJ x h0 h [0,6,7,9,10,11,13,14] ∧ OB Z h x DSn (fe 2 1) ∧ EV Z h x [(2,[-1,1]),(3,[0,1,2,3]),(4,[0,1,1]),(6,[0,2]),(7,[0,-1,1,-1,-1]),(16,[u16_0,u16_1]),(17,[0,0])] ∧ AD Z h (x 10) [zs0, zs1]) := by
 refine con_of (plainFor_of_name pn_DS) ?_
 intro p e s m below meth c T0 K0 X0 e0
 have K : KX p s m meth c Z a0 DSn "pivots" prog_12_method_9_code 6 (some .int) t24 (fe 0 0) := ⟨K0, k24, lw hw 0 0⟩
 refine gE (x := x) (L := [aR 0,aU,aU,aU,aU,aU]) (by simp [entryFrame, mkF, argsToLocals, Value.category, gL, gS, cs, cv]) X0 e0 ?_
 refine gR K O V 43 [aR 0,aI 5,aI 0,aI 0,aU,aU] [aI 0,aR 0] rfl ?_
 refine gPi K (w_leavingRow hw) O (rmLR11 hw x 0 0 (-1) 1 (-1) 0 (-1) u16_0 u16_1 0 0 zs0 zs1 zc0 zc2 h0 N O V B q F10) [] 0 rfl rfl rfl rfl (by decide) (Nat.le_of_eq rfl) (by decide) (by decide) (by decide) ?_
 refine gR K O V 82 [aR 0,aI 5,aI 0,aI 0,aI 1,aU] [aI 0,aI 1,aR 0] rfl ?_
 refine gP K (w_enteringColumn hw) O (rmEC1 hw x 0 0 3 1 u16_0 u16_1 0 0 0 0 0 zs0 zs1 zc0 zc2 h0 N O V B (zph_184 B q) F5 F9 F10 F11 F13) [] 0 rfl rfl rfl rfl (by decide) (Nat.le_of_eq rfl) (by decide) (by decide) (by decide) ?_
 rintro h0a _ ⟨rfl, W0a, f0a⟩
 refine sh (FA m x 85 [aR 0,aI 5,aI 0,aI 0,aI 1,aU] [aI 2]) rfl ?_
 obtain ⟨O0b, V0b⟩ := ov N O V (js := [13]) W0a rfl rfl rfl
 refine gR K O0b V0b 113 [aR 0,aI 5,aI 0,aI 0,aI 1,aI 2] [aI 2,aI 1,aR 0] rfl ?_
 have f0c := F5.keep W0a (nx N 5 rfl)
 have f0d := F9.keep W0a (nx N 9 rfl)
 have f0e := F10.keep W0a (nx N 10 rfl)
 have f0f := F11.keep W0a (nx N 11 rfl)
 have f0g := F14.keep W0a (nx N 14 rfl)
 refine gP K (w_pivot hw) O0b (rmPV0 hw x 0 u16_0 u16_1 0 0 0 0 zs0 zs1 zc0 zc2 h0a N O0b V0b B f0c f0d f0e f0f f0a f0g) [] 0 rfl rfl rfl rfl (by decide) (Nat.le_of_eq rfl) (by decide) (by decide) (by decide) ?_
 rintro h0h _ ⟨rfl, W0h, O0h, V0h, f0h_9, f0h_10, f0h_11, f0h_14⟩
 have K := K.re hw 1 0
 refine sh (FA m x 116 [aR 0,aI 5,aI 0,aI 0,aI 1,aI 2] [aI 1]) rfl ?_
 refine gR K O0h V0h 43 [aR 0,aI 5,aI 0,aI 1,aI 1,aI 2] [aI 0,aR 0] rfl ?_
 refine gPi K (w_leavingRow hw) O0h (rmLR12 hw x 1 0 (-1) (-1) 1 0 (-1) u16_0 u16_1 0 0 zs0 zs1 zc0 zc2 h0h N O0h V0h B q f0h_10) [] 0 rfl rfl rfl rfl (by decide) (Nat.le_of_eq rfl) (by decide) (by decide) (by decide) ?_
 refine gR K O0h V0h 82 [aR 0,aI 5,aI 0,aI 1,aI 0,aI 2] [aI 0,aI 0,aR 0] rfl ?_
 have k0i := kx [0,6,7,9,10,11,13,14] (js' := [0,6,7,9,10,11,14]) W0a W0h rfl rfl
 have f0j := F5.keep k0i (nx N 5 rfl)
 have f0k := f0a.keep W0h (nx N 13 rfl)
 refine gP K (w_enteringColumn hw) O0h (rmEC5 hw x 1 0 3 2 u16_0 u16_1 0 0 0 0 (-1) zs0 zs1 zc0 zc2 h0h N O0h V0h B (zph_196 B q) f0j f0h_9 f0h_10 f0h_11 f0k) [] 0 rfl rfl rfl rfl (by decide) (Nat.le_of_eq rfl) (by decide) (by decide) (by decide) ?_
 rintro h0l _ ⟨rfl, W0l, f0l⟩
 refine sh (FA m x 85 [aR 0,aI 5,aI 0,aI 1,aI 0,aI 2] [aI 0]) rfl ?_
 obtain ⟨O0m, V0m⟩ := ov N O0h V0h (js := [13]) W0l rfl rfl rfl
 refine gR K O0m V0m 113 [aR 0,aI 5,aI 0,aI 1,aI 0,aI 0] [aI 0,aI 0,aR 0] rfl ?_
 have k0n := kx [0,6,7,9,10,11,13,14] (js' := [13]) k0i W0l rfl rfl
 have f0o := F5.keep k0n (nx N 5 rfl)
 have f0p := f0h_9.keep W0l (nx N 9 rfl)
 have f0q := f0h_10.keep W0l (nx N 10 rfl)
 have f0r := f0h_11.keep W0l (nx N 11 rfl)
 have f0s := f0h_14.keep W0l (nx N 14 rfl)
 refine gP K (w_pivot hw) O0m (rmPV3 hw x 0 u16_0 u16_1 0 0 0 (-1) zs0 zs1 zc0 zc2 h0l N O0m V0m B f0o f0p f0q f0r f0l f0s) [] 0 rfl rfl rfl rfl (by decide) (Nat.le_of_eq rfl) (by decide) (by decide) (by decide) ?_
 rintro h0t _ ⟨rfl, W0t, O0t, V0t, f0t_9, f0t_10, f0t_11, f0t_14⟩
 have K := K.re hw 2 0
 refine sh (FA m x 116 [aR 0,aI 5,aI 0,aI 1,aI 0,aI 0] [aI 1]) rfl ?_
 refine gR K O0t V0t 43 [aR 0,aI 5,aI 0,aI 2,aI 0,aI 0] [aI 0,aR 0] rfl ?_
 refine gPi K (w_leavingRow hw) O0t (rmLR13 hw x 2 0 0 (-1) 1 (-1) (-1) u16_0 u16_1 0 0 zs0 zs1 zc0 zc2 h0t N O0t V0t B q f0t_10) [] 0 rfl rfl rfl rfl (by decide) (Nat.le_of_eq rfl) (by decide) (by decide) (by decide) ?_
 refine gR K O0t V0t 54 [aR 0,aI 5,aI 0,aI 2,aI (-1),aI 0] [aR 0] rfl ?_
 have k0u := kx [0,6,7,9,10,11,13,14] (js' := [0,6,7,9,10,11,14]) k0n W0t rfl rfl
 have f0v := F1.keep k0u (nx N 1 rfl)
 have f0w := F5.keep k0u (nx N 5 rfl)
 have f0x := F12.keep k0u (nx N 12 rfl)
 have e0y := ((((E12.keep W0a).keep W0h).keep W0l).keep W0t)
 refine gP K (w_isAccurate hw) O0t (rmIA3 hw x 2 u16_0 u16_1 0 0 zs0 zs1 zc0 zc2 h0t N O0t V0t B (Nat.le_trans (Nat.le_trans (Nat.le_trans (Nat.le_trans Z0 W0a.1) W0h.1) W0l.1) W0t.1) f0v f0w f0t_9 f0t_10 f0x e0y) [] 0 rfl rfl rfl rfl (by decide) (Nat.le_of_eq rfl) (by decide) (by decide) (by decide) ?_
 rintro h0z _ ⟨rfl, W0z, O0z, V0z⟩
 have K := K.re hw 2 1
 refine sh (FA m x 57 [aR 0,aI 5,aI 0,aI 2,aI (-1),aI 0] [aI 1]) rfl ?_
 refine gR0 K O0z V0z 61 [aI 0] rfl ?_
 have f1a := f0t_10.keep W0z (nx N 10 rfl)
 have k1b := kx [0,6,7,9,10,11,13,14] (js' := [0]) k0u W0z rfl rfl
 exact gri K rfl (by decide) (by decide) ⟨rfl, k1b, O0z, V0z, f1a⟩
theorem rmSol7 (hw : HW Z a0) (x : Nat → Addr) (xin : Addr) (zs0 zs1 zc0 zc2 : Int) (h0 : Heap) (N : NX n0 x) (O : OB Z h0 x DSn (fe 0 0)) (V : EV Z h0 x [(2,[-1,1]),(3,[0,1,2,3]),(4,[0,1,1]),(6,[3,1]),(7,[-1,1,-1,0,-1]),(16,[0,0]),(17,[0,0])]) (B : ZB zs0 zs1 zc0 zc2) (q : 0 < zs0 ∧ zs0 < zs1) (Z0 : n0 ≤ h0.size) (Fxin : AD Z h0 xin [zs0, zs1]) (F1 : AD Z h0 (x 1) [zc0, 0, zc2]) (F5 : AD Z h0 (x 5) [1, (-1), 1]) (F9 : AD Z h0 (x 9) [1, 0, 0, (-1)]) (F10 : AD Z h0 (x 10) [0, 0]) (F11 : AD Z h0 (x 11) [zc0, 0, zc2]) (F12 : AD Z h0 (x 12) [0, 0]) (F13 : AD Z h0 (x 13) [0, 0, 0]) (F14 : AD Z h0 (x 14) [0, 0]) (F15 : AD Z h0 (x 15) [0, 0]) (E12 : Exa Z h0 (x 12) "[D") (I : xin ∉ [x 16] ∧ xin ∉ [x 10] ∧ xin ∉ [x 12]) :
    Con l Z n0 ⟨DSn, "solve", "([D)Z"⟩ prog_12_method_2_code 3 (some .boolean) ⟨3, 2, 4, 84⟩ #[(.ref (x 0)), (.ref xin)] h0 (fun v h => ∃ ka kb : Int32, v = some (.int 1) ∧ KJ x h0 h [0,6,7,9,10,11,12,13,14,16] ∧ OB Z h x DSn (fe 2 1) ∧ EV Z h x [(2,[-1,1]),(3,[0,1,2,3]),(4,[0,1,1]),(6,[0,2]),(7,[0,-1,1,-1,-1]),(16,[ka,kb]),(17,[0,0])] ∧ AD Z h (x 1) [zc0, 0, zc2] ∧ AD Z h (x 10) [zs0, zs1]) := by
 refine con_of (plainFor_of_name pn_DS) ?_
 intro p e s m below meth c T0 K0 X0 e0
 have K : KX p s m meth c Z a0 DSn "solve" prog_12_method_2_code 3 (some .boolean) t22 (fe 0 0) := ⟨K0, k22, lw hw 0 0⟩
 refine gE (x := x) (L := [aR 0,aA xin,aU]) (by simp [entryFrame, mkF, argsToLocals, Value.category, gL, gS, cs, cv]) X0 e0 ?_
 refine gR0 K O V 1 [aA xin] rfl ?_
 refine gal K 2 Fxin rfl rfl rfl ?_
 refine gR0 K O V 30 [aA xin,aR 0] rfl ?_
 refine gP K (w_moveValues hw) O (rmMv hw x 0 0 3 1 (-1) 1 (-1) 0 (-1) 0 0 xin zs0 zs1 zc0 zc2 h0 N O V B Fxin F9 F10 F12 I) [] 0 rfl rfl rfl rfl (by decide) (Nat.le_of_eq rfl) (by decide) (by decide) (by decide) ?_
 rintro h0a _ ⟨rfl, ka0a, kb0a, W0a, O0a, V0a, f0a_10, f0a_12⟩
 refine sh (FA m x 33 [aR 0,aA xin,aU] []) rfl ?_
 refine gR0 K O0a V0a 34 [aR 0] rfl ?_
 have f0b := F1.keep W0a (nx N 1 rfl)
 have f0c := F5.keep W0a (nx N 5 rfl)
 have f0d := F9.keep W0a (nx N 9 rfl)
 have f0e := F11.keep W0a (nx N 11 rfl)
 have f0f := F13.keep W0a (nx N 13 rfl)
 have f0g := F14.keep W0a (nx N 14 rfl)
 have f0h := F15.keep W0a (nx N 15 rfl)
 have e0i := (E12.keep W0a)
 refine gP K (w_pivots hw) O0a (rmPvs7 hw x ka0a kb0a zs0 zs1 zc0 zc2 h0a N O0a V0a B q (Nat.le_trans Z0 W0a.1) f0b f0c f0d f0a_10 f0e f0a_12 f0f f0g f0h e0i) [] 0 rfl rfl rfl rfl (by decide) (Nat.le_of_eq rfl) (by decide) (by decide) (by decide) ?_
 rintro h0j _ ⟨rfl, W0j, O0j, V0j, f0j_10⟩
 have K := K.re hw 2 1
 refine sh (FA m x 37 [aR 0,aA xin,aU] [aI 0]) rfl ?_
 refine gR K O0j V0j 87 [aR 0,aA xin,aI 0] [aI 1] rfl ?_
 have k0k := kx [0,6,7,9,10,11,12,13,14,16] (js' := [0,6,7,9,10,11,13,14]) W0a W0j rfl rfl
 have f0l := F1.keep k0k (nx N 1 rfl)
 exact grz K (Or.inr rfl) rfl (by decide) (by decide) ⟨ka0a, kb0a, rfl, k0k, O0j, V0j, f0l, f0j_10⟩
def t34 : List (List (Nat × Instr × Nat)) := [[(0,.dconst 0,1),(1,.dstore_n 1,1),(2,.iconst 0,1),(3,.istore_n 3,1),(4,.iload_n 3,1),(5,.aload_n 0,1),(6,.getfield 13,3),(9,.if_icmp .ge 43,3),(12,.aload_n 0,1),(13,.getfield 71,3)],
  [(16,.iload_n 3,1),(17,.iaload,1),(18,.aload_n 0,1),(19,.getfield 16,3),(22,.if_icmp .ge 24,3),(25,.dload_n 1,1),(26,.aload_n 0,1),(27,.getfield 25,3),(30,.aload_n 0,1),(31,.getfield 71,3)],
  [(34,.iload_n 3,1),(35,.iaload,1),(36,.daload,1),(37,.aload_n 0,1),(38,.getfield 99,3),(41,.iload_n 3,1),(42,.daload,1),(43,.dmul,1),(44,.dadd,1),(45,.dstore_n 1,1),(46,.iinc 3 1,3)],
  [(49,.goto (-45),3),(52,.dload_n 1,1),(53,.dreturn,1)]]
theorem k34 : TB prog_12_method_3_code t34 := tb_of (by decide +kernel)
theorem zeq_206 {zs1 : Int} : (0 * (-zs1) : Int) = 0 := by omega
theorem rmVal3 (hw : HW Z a0) (x : Nat → Addr) (uu rr u7_0 u7_1 u7_2 u7_3 u7_4 u16_0 u16_1 u17_0 u17_1 : Int32) (zs0 zs1 zc0 zc2 : Int) (h0 : Heap) (N : NX n0 x) (O : OB Z h0 x DSn (fe uu rr)) (V : EV Z h0 x [(2,[-1,1]),(3,[0,1,2,3]),(4,[0,1,1]),(6,[3,1]),(7,[u7_0,u7_1,u7_2,u7_3,u7_4]),(16,[u16_0,u16_1]),(17,[u17_0,u17_1])]) (B : ZB zs0 zs1 zc0 zc2) (F1 : AD Z h0 (x 1) [zc0, 0, zc2]) (F10 : AD Z h0 (x 10) [zs0, (-zs1)]) :
    Con l Z n0 ⟨DSn, "value", "()D"⟩ prog_12_method_3_code 4 (some .double) ⟨0, 0, 0, 0⟩ #[(.ref (x 0))] h0 (fun v h => ∃ d, v = some (.double d) ∧ h = h0 ∧ Dz 0 d) := by
 refine con_of (plainFor_of_name pn_DS) ?_
 intro p e s m below meth c T0 K0 X0 e0
 have K : KX p s m meth c Z a0 DSn "value" prog_12_method_3_code 4 (some .double) t34 (fe uu rr) := ⟨K0, k34, lw hw uu rr⟩
 refine gE (x := x) (L := [aR 0,aU,aU,aU]) (by simp [entryFrame, mkF, argsToLocals, Value.category, gL, gS, cs, cv]) X0 e0 ?_
 refine gR K O V 36 [aR 0,aD 0,aS,aI 1] [aI 1,aR 1,aD 0] rfl ?_
 refine gdl K 1 F1 rfl rfl rfl rfl fun d0a q0a => ?_
 refine gR0 K O V 42 [aI 1,aR 10,aD d0a,aD 0] rfl ?_
 refine gdl K 1 F10 rfl rfl rfl rfl fun d0b q0b => ?_
 refine gmul K (z := 0) (Dz.mul q0a q0b zeq_206 (by decide)) rfl fun d0c q0c => ?_
 refine gadd K (z := 0) (Dz.add Dz.zero q0c rfl (by decide)) rfl fun d0d q0d => ?_
 refine gR K O V 53 [aR 0,aD d0d,aS,aI 2] [aD d0d] rfl ?_
 exact grd K rfl (by decide) (by decide) ⟨d0d, rfl, rfl, q0d⟩
theorem zeq_208 {zs1 zc2 : Int} : (zc2 * zs1 : Int) = (zc2 * zs1) := by omega
theorem zbd_209 {zs0 zs1 zc0 zc2 : Int} (B : ZB zs0 zs1 zc0 zc2) : -9007199254740992 ≤ (zc2 * zs1) ∧ (zc2 * zs1) ≤ 9007199254740992 := by unfold ZB at B; obtain ⟨b1, b2, b3, b4, b5, b6⟩ := B; omega
theorem zeq_210 {zs1 zc2 : Int} : (0 + (zc2 * zs1) : Int) = (zc2 * zs1) := by omega
theorem rmVal4 (hw : HW Z a0) (x : Nat → Addr) (uu rr u7_0 u7_1 u7_2 u7_3 u7_4 u16_0 u16_1 u17_0 u17_1 : Int32) (zs0 zs1 zc0 zc2 : Int) (h0 : Heap) (N : NX n0 x) (O : OB Z h0 x DSn (fe uu rr)) (V : EV Z h0 x [(2,[-1,1]),(3,[0,1,2,3]),(4,[0,1,1]),(6,[3,2]),(7,[u7_0,u7_1,u7_2,u7_3,u7_4]),(16,[u16_0,u16_1]),(17,[u17_0,u17_1])]) (B : ZB zs0 zs1 zc0 zc2) (F1 : AD Z h0 (x 1) [zc0, 0, zc2]) (F10 : AD Z h0 (x 10) [zs0, zs1]) :
    Con l Z n0 ⟨DSn, "value", "()D"⟩ prog_12_method_3_code 4 (some .double) ⟨0, 0, 0, 0⟩ #[(.ref (x 0))] h0 (fun v h => ∃ d, v = some (.double d) ∧ h = h0 ∧ Dz (zc2 * zs1) d) := by
 refine con_of (plainFor_of_name pn_DS) ?_
 intro p e s m below meth c T0 K0 X0 e0
 have K : KX p s m meth c Z a0 DSn "value" prog_12_method_3_code 4 (some .double) t34 (fe uu rr) := ⟨K0, k34, lw hw uu rr⟩
 refine gE (x := x) (L := [aR 0,aU,aU,aU]) (by simp [entryFrame, mkF, argsToLocals, Value.category, gL, gS, cs, cv]) X0 e0 ?_
 refine gR K O V 36 [aR 0,aD 0,aS,aI 1] [aI 2,aR 1,aD 0] rfl ?_
 refine gdl K 2 F1 rfl rfl rfl rfl fun d0a q0a => ?_
 refine gR0 K O V 42 [aI 1,aR 10,aD d0a,aD 0] rfl ?_
 refine gdl K 1 F10 rfl rfl rfl rfl fun d0b q0b => ?_
 refine gmul K (z := (zc2 * zs1)) (Dz.mul q0a q0b zeq_208 (zbd_209 B)) rfl fun d0c q0c => ?_
 refine gadd K (z := (zc2 * zs1)) (Dz.add Dz.zero q0c zeq_210 (zbd_209 B)) rfl fun d0d q0d => ?_
 refine gR K O V 53 [aR 0,aD d0d,aS,aI 2] [aD d0d] rfl ?_
 exact grd K rfl (by decide) (by decide) ⟨d0d, rfl, rfl, q0d⟩
theorem zeq_211 {zs0 zc0 : Int} : (zc0 * zs0 : Int) = (zc0 * zs0) := by omega
theorem zbd_212 {zs0 zs1 zc0 zc2 : Int} (B : ZB zs0 zs1 zc0 zc2) : -9007199254740992 ≤ (zc0 * zs0) ∧ (zc0 * zs0) ≤ 9007199254740992 := by unfold ZB at B; obtain ⟨b1, b2, b3, b4, b5, b6⟩ := B; omega
theorem zeq_213 {zs0 zc0 : Int} : (0 + (zc0 * zs0) : Int) = (zc0 * zs0) := by omega
theorem zeq_214 {zs0 zc0 : Int} : ((zc0 * zs0) + 0 : Int) = (zc0 * zs0) := by omega
theorem rmVal5 (hw : HW Z a0) (x : Nat → Addr) (uu rr u7_0 u7_1 u7_2 u7_3 u7_4 u16_0 u16_1 u17_0 u17_1 : Int32) (zs0 zs1 zc0 zc2 : Int) (h0 : Heap) (N : NX n0 x) (O : OB Z h0 x DSn (fe uu rr)) (V : EV Z h0 x [(2,[-1,1]),(3,[0,1,2,3]),(4,[0,1,1]),(6,[0,1]),(7,[u7_0,u7_1,u7_2,u7_3,u7_4]),(16,[u16_0,u16_1]),(17,[u17_0,u17_1])]) (B : ZB zs0 zs1 zc0 zc2) (F1 : AD Z h0 (x 1) [zc0, 0, zc2]) (F10 : AD Z h0 (x 10) [zs0, (-zs1)]) :
    Con l Z n0 ⟨DSn, "value", "()D"⟩ prog_12_method_3_code 4 (some .double) ⟨0, 0, 0, 0⟩ #[(.ref (x 0))] h0 (fun v h => ∃ d, v = some (.double d) ∧ h = h0 ∧ Dz (zc0 * zs0) d) := by
 refine con_of (plainFor_of_name pn_DS) ?_
 intro p e s m below meth c T0 K0 X0 e0
 have K : KX p s m meth c Z a0 DSn "value" prog_12_method_3_code 4 (some .double) t34 (fe uu rr) := ⟨K0, k34, lw hw uu rr⟩
 refine gE (x := x) (L := [aR 0,aU,aU,aU]) (by simp [entryFrame, mkF, argsToLocals, Value.category, gL, gS, cs, cv]) X0 e0 ?_
 refine gR K O V 36 [aR 0,aD 0,aS,aI 0] [aI 0,aR 1,aD 0] rfl ?_
 refine gdl K 0 F1 rfl rfl rfl rfl fun d0a q0a => ?_
 refine gR0 K O V 42 [aI 0,aR 10,aD d0a,aD 0] rfl ?_
 refine gdl K 0 F10 rfl rfl rfl rfl fun d0b q0b => ?_
 refine gmul K (z := (zc0 * zs0)) (Dz.mul q0a q0b zeq_211 (zbd_212 B)) rfl fun d0c q0c => ?_
 refine gadd K (z := (zc0 * zs0)) (Dz.add Dz.zero q0c zeq_213 (zbd_212 B)) rfl fun d0d q0d => ?_
 refine gR K O V 36 [aR 0,aD d0d,aS,aI 1] [aI 1,aR 1,aD d0d] rfl ?_
 refine gdl K 1 F1 rfl rfl rfl rfl fun d0e q0e => ?_
 refine gR0 K O V 42 [aI 1,aR 10,aD d0e,aD d0d] rfl ?_
 refine gdl K 1 F10 rfl rfl rfl rfl fun d0f q0f => ?_
 refine gmul K (z := 0) (Dz.mul q0e q0f zeq_206 (by decide)) rfl fun d0g q0g => ?_
 refine gadd K (z := (zc0 * zs0)) (Dz.add q0d q0g zeq_214 (zbd_212 B)) rfl fun d0h q0h => ?_
 refine gR K O V 53 [aR 0,aD d0h,aS,aI 2] [aD d0h] rfl ?_
 exact grd K rfl (by decide) (by decide) ⟨d0h, rfl, rfl, q0h⟩
theorem zeq_215 {zs0 zs1 zc0 zc2 : Int} : ((zc0 * zs0) + (zc2 * zs1) : Int) = (zc0 * zs0 + zc2 * zs1) := by omega
theorem zbd_216 {zs0 zs1 zc0 zc2 : Int} (B : ZB zs0 zs1 zc0 zc2) : -9007199254740992 ≤ (zc0 * zs0 + zc2 * zs1) ∧ (zc0 * zs0 + zc2 * zs1) ≤ 9007199254740992 := by unfold ZB at B; obtain ⟨b1, b2, b3, b4, b5, b6⟩ := B; omega
theorem rmVal6 (hw : HW Z a0) (x : Nat → Addr) (uu rr u7_0 u7_1 u7_2 u7_3 u7_4 u16_0 u16_1 u17_0 u17_1 : Int32) (zs0 zs1 zc0 zc2 : Int) (h0 : Heap) (N : NX n0 x) (O : OB Z h0 x DSn (fe uu rr)) (V : EV Z h0 x [(2,[-1,1]),(3,[0,1,2,3]),(4,[0,1,1]),(6,[0,2]),(7,[u7_0,u7_1,u7_2,u7_3,u7_4]),(16,[u16_0,u16_1]),(17,[u17_0,u17_1])]) (B : ZB zs0 zs1 zc0 zc2) (F1 : AD Z h0 (x 1) [zc0, 0, zc2]) (F10 : AD Z h0 (x 10) [zs0, zs1]) :
    Con l Z n0 ⟨DSn, "value", "()D"⟩ prog_12_method_3_code 4 (some .double) ⟨0, 0, 0, 0⟩ #[(.ref (x 0))] h0 (fun v h => ∃ d, v = some (.double d) ∧ h = h0 ∧ Dz (zc0 * zs0 + zc2 * zs1) d) := by
 refine con_of (plainFor_of_name pn_DS) ?_
 intro p e s m below meth c T0 K0 X0 e0
 have K : KX p s m meth c Z a0 DSn "value" prog_12_method_3_code 4 (some .double) t34 (fe uu rr) := ⟨K0, k34, lw hw uu rr⟩
 refine gE (x := x) (L := [aR 0,aU,aU,aU]) (by simp [entryFrame, mkF, argsToLocals, Value.category, gL, gS, cs, cv]) X0 e0 ?_
 refine gR K O V 36 [aR 0,aD 0,aS,aI 0] [aI 0,aR 1,aD 0] rfl ?_
 refine gdl K 0 F1 rfl rfl rfl rfl fun d0a q0a => ?_
 refine gR0 K O V 42 [aI 0,aR 10,aD d0a,aD 0] rfl ?_
 refine gdl K 0 F10 rfl rfl rfl rfl fun d0b q0b => ?_
 refine gmul K (z := (zc0 * zs0)) (Dz.mul q0a q0b zeq_211 (zbd_212 B)) rfl fun d0c q0c => ?_
 refine gadd K (z := (zc0 * zs0)) (Dz.add Dz.zero q0c zeq_213 (zbd_212 B)) rfl fun d0d q0d => ?_
 refine gR K O V 36 [aR 0,aD d0d,aS,aI 1] [aI 2,aR 1,aD d0d] rfl ?_
 refine gdl K 2 F1 rfl rfl rfl rfl fun d0e q0e => ?_
 refine gR0 K O V 42 [aI 1,aR 10,aD d0e,aD d0d] rfl ?_
 refine gdl K 1 F10 rfl rfl rfl rfl fun d0f q0f => ?_
 refine gmul K (z := (zc2 * zs1)) (Dz.mul q0e q0f zeq_208 (zbd_209 B)) rfl fun d0g q0g => ?_
 refine gadd K (z := (zc0 * zs0 + zc2 * zs1)) (Dz.add q0d q0g zeq_215 (zbd_216 B)) rfl fun d0h q0h => ?_
 refine gR K O V 53 [aR 0,aD d0h,aS,aI 2] [aD d0h] rfl ?_
 exact grd K rfl (by decide) (by decide) ⟨d0h, rfl, rfl, q0h⟩
def dl (v0 v1 v2 v3 v4 v5 v6 v7 v8 v9 v10 v11 v12 v13 v14 v15 v16 v17 v18 v19 v20 : AW) : List (Nat × String × String × AW) := [(0, "rows", "I", v0), (0, "columns", "I", v1), (0, "costs", "[D", v2), (0, "surpluses", "[I", v3), (0, "starts", "[I", v4), (0, "entryRows", "[I", v5), (0, "entryValues", "[D", v6), (0, "basis", "[I", v7), (0, "basicIn", "[I", v8), (0, "blockShift", "I", v9), (0, "inverse", "[[D", v10), (0, "values", "[D", v11), (0, "reduced", "[D", v12), (0, "sides", "[D", v13), (0, "pivotRow", "[D", v14), (0, "pivotColumn", "[D", v15), (0, "stepColumn", "[D", v16), (0, "picked", "[I", v17), (0, "pivotRows", "[I", v18), (0, "pivotsSinceReinversion", "I", v19), (0, "reducedCostsChecked", "Z", v20)]
def t7 : List (List (Nat × Instr × Nat)) := [[(0,.aload_n 0,1),(1,.invokespecial 1,3),(4,.aload_n 0,1),(5,.aload_n 1,1),(6,.getfield 7,3),(9,.putfield 13,3),(12,.aload_n 0,1),(13,.aload_n 2,1),(14,.arraylength,1),(15,.putfield 16,3)],
  [(18,.aload_n 0,1),(19,.aload_n 2,1),(20,.invokevirtual 19,3),(23,.checkcast 20,3),(26,.putfield 25,3),(29,.aload_n 0,1),(30,.getfield 25,3)],
  [(33,.astore_n 3,1),(34,.aload_n 3,1),(35,.arraylength,1),(36,.istore 4,2),(38,.iconst 0,1),(39,.istore 5,2),(41,.iload 5,2),(43,.iload 4,2),(45,.if_icmp .ge 37,3)],
  [(48,.aload_n 3,1),(49,.iload 5,2),(51,.daload,1),(52,.dstore 6,2),(54,.dload 6,2),(56,.dconst 0,1),(57,.dcmp .l,1),(58,.ifCond .ge 18,3),(61,.new 28,3)],
  [(64,.dup,1),(65,.dload 6,2),(67,.invokedynamic 30,5),(72,.invokespecial 34,3),(75,.athrow,1),(76,.iinc 5 1,3),(79,.goto (-38),3)],
  [(82,.aload_n 1,1),(83,.getfield 37,3),(86,.aload_n 0,1),(87,.getfield 16,3),(90,.if_icmp .eq 24,3),(93,.new 28,3)],
  [(96,.dup,1),(97,.aload_n 1,1),(98,.getfield 37,3),(101,.aload_n 0,1),(102,.getfield 16,3),(105,.invokedynamic 38,5),(110,.invokespecial 34,3)],
  [(113,.athrow,1),(114,.aload_n 0,1),(115,.aload_n 1,1),(116,.getfield 41,3),(119,.aload_n 0,1),(120,.getfield 13,3),(123,.invokestatic 45,3),(126,.putfield 51,3)],
  [(129,.aload_n 0,1),(130,.getfield 51,3),(133,.astore_n 3,1),(134,.aload_n 3,1),(135,.arraylength,1),(136,.istore 4,2),(138,.iconst 0,1),(139,.istore 5,2),(141,.iload 5,2),(143,.iload 4,2)],
  [(145,.if_icmp .ge 52,3),(148,.aload_n 3,1),(149,.iload 5,2),(151,.iaload,1),(152,.istore 6,2),(154,.iload 6,2),(156,.ifCond .lt 35,3),(159,.aload_n 0,1)],
  [(160,.getfield 25,3),(163,.iload 6,2),(165,.daload,1),(166,.dconst 0,1),(167,.dcmp .l,1),(168,.ifCond .eq 23,3),(171,.new 28,3),(174,.dup,1),(175,.aload_n 0,1)],
  [(176,.getfield 25,3),(179,.iload 6,2),(181,.daload,1),(182,.invokedynamic 52,5),(187,.invokespecial 34,3),(190,.athrow,1),(191,.iinc 5 1,3)],
  [(194,.goto (-53),3),(197,.aload_n 0,1),(198,.aload_n 1,1),(199,.getfield 53,3),(202,.aload_n 0,1),(203,.getfield 16,3),(206,.iconst 1,1),(207,.iadd,1)],
  [(208,.invokestatic 45,3),(211,.putfield 56,3),(214,.aload_n 0,1),(215,.aload_n 1,1),(216,.getfield 57,3),(219,.aload_n 1,1),(220,.getfield 60,3),(223,.invokestatic 45,3)],
  [(226,.putfield 63,3),(229,.aload_n 0,1),(230,.aload_n 1,1),(231,.getfield 64,3),(234,.aload_n 1,1),(235,.getfield 60,3),(238,.invokestatic 67,3)],
  [(241,.putfield 70,3),(244,.aload_n 0,1),(245,.aload_n 0,1),(246,.getfield 13,3),(249,.newarray .int,2),(251,.putfield 71,3),(254,.aload_n 0,1),(255,.aload_n 0,1)],
  [(256,.getfield 16,3),(259,.aload_n 0,1),(260,.getfield 13,3),(263,.iadd,1),(264,.newarray .int,2),(266,.putfield 74,3),(269,.aload_n 0,1),(270,.aload_n 0,1),(271,.getfield 13,3)],
  [(274,.invokestatic 77,3),(277,.invokestatic 81,3),(280,.putfield 86,3),(283,.iconst 1,1),(284,.aload_n 0,1),(285,.getfield 86,3)],
  [(288,.ishl,1),(289,.istore_n 3,1),(290,.aload_n 0,1),(291,.aload_n 0,1),(292,.getfield 13,3),(295,.iload_n 3,1),(296,.iadd,1),(297,.iconst 1,1),(298,.isub,1),(299,.aload_n 0,1),(300,.getfield 86,3),(303,.ishr,1)],
  [(304,.anewarray 20,3),(307,.putfield 89,3),(310,.iconst 0,1),(311,.istore 4,2),(313,.iload 4,2),(315,.aload_n 0,1),(316,.getfield 89,3),(319,.arraylength,1)],
  [(320,.if_icmp .ge 43,3),(323,.iload_n 3,1),(324,.aload_n 0,1),(325,.getfield 13,3),(328,.iload 4,2),(330,.aload_n 0,1),(331,.getfield 86,3),(334,.ishl,1),(335,.isub,1)],
  [(336,.invokestatic 93,3),(339,.istore 5,2),(341,.aload_n 0,1),(342,.getfield 89,3),(345,.iload 4,2),(347,.iload 5,2),(349,.aload_n 0,1),(350,.getfield 13,3)],
  [(353,.imul,1),(354,.newarray .double,2),(356,.aastore,1),(357,.iinc 4 1,3),(360,.goto (-47),3),(363,.aload_n 0,1),(364,.aload_n 0,1),(365,.getfield 13,3)],
  [(368,.newarray .double,2),(370,.putfield 99,3),(373,.aload_n 0,1),(374,.aload_n 0,1),(375,.getfield 16,3),(378,.newarray .double,2),(380,.putfield 102,3),(383,.aload_n 0,1)],
  [(384,.aload_n 0,1),(385,.getfield 13,3),(388,.newarray .double,2),(390,.putfield 105,3),(393,.aload_n 0,1),(394,.aload_n 0,1),(395,.getfield 16,3),(398,.newarray .double,2)],
  [(400,.putfield 108,3),(403,.aload_n 0,1),(404,.aload_n 0,1),(405,.getfield 13,3),(408,.newarray .double,2),(410,.putfield 111,3),(413,.aload_n 0,1),(414,.aload_n 0,1),(415,.getfield 13,3)],
  [(418,.newarray .double,2),(420,.putfield 114,3),(423,.aload_n 0,1),(424,.aload_n 0,1),(425,.getfield 13,3),(428,.newarray .int,2),(430,.putfield 117,3)],
  [(433,.aload_n 0,1),(434,.aload_n 0,1),(435,.getfield 13,3),(438,.newarray .int,2),(440,.putfield 120,3),(443,.aload_n 0,1),(444,.invokevirtual 123,3),(447,.return_,1)]]
theorem k7 : TB prog_12_method_1_code t7 := tb_of (by decide +kernel)
theorem zcm_217 {zs0 zs1 zc0 zc2 : Int} (B : ZB zs0 zs1 zc0 zc2) : ¬ zc0 < 0 := by unfold ZB at B; obtain ⟨b1, b2, b3, b4, b5, b6⟩ := B; omega
theorem zcm_218 {zs0 zs1 zc0 zc2 : Int} (B : ZB zs0 zs1 zc0 zc2) : ¬ zc2 < 0 := by unfold ZB at B; obtain ⟨b1, b2, b3, b4, b5, b6⟩ := B; omega
theorem pd_16 : parseMethodDescriptor "([II)[I" = some ⟨[(.array .int), .int], some (.array .int)⟩ := by decide +kernel
theorem pd_17 : parseMethodDescriptor "([DI)[D" = some ⟨[(.array .double), .int], some (.array .double)⟩ := by decide +kernel
theorem ef_rmmin4 (m : MethodId)  : entryFrame m #[(.int (16384 : Int32)), (.int (2 : Int32))] 2 = mkF m 0 #[.val (.int (16384 : Int32)), .val (.int (2 : Int32))] [] := by first | (simp [entryFrame, mkF, argsToLocals, Value.category]; done) | rfl
def Q_rmmin4 (Z : State) (n0 : Nat)  (h0 : Heap) (v : Option Value) (h : Heap) : Prop := v = some (.int (2 : Int32)) ∧ h = h0
abbrev R_rmmin4 : Room := { frames := 0, cells := 0, slots := 0, locals := 0 }
theorem rmmin4 (hw : HW Z a0)  (h0 : Heap) :
    Con l Z n0 (⟨"java/lang/Math", "min", "(II)I"⟩ : MethodName) jdk_29_method_69_code 2 (some .int) R_rmmin4 #[(.int (16384 : Int32)), (.int (2 : Int32))] h0 (Q_rmmin4 Z n0  h0) := by
 refine con_of (Jvm.Free.JP.mathPlain rfl (by decide +kernel)) ?_
 intro p e s m below meth c T0 K X0 e0
 replace K : Ctx p s m meth c Z "java/lang/Math" "min" jdk_29_method_69_code 2 (some .int) := K
 refine go_entry (ef_rmmin4 m ) ?_
 refine go_iloadN K X0 (k9 rfl) rfl rfl ?_
 refine go_iloadN K X0 (k9 rfl) rfl rfl ?_
 refine go_icmpT K X0 (k9 rfl) (by decide) rfl (by decide : (2 : Int32) < (16384 : Int32)) ?_
 refine go_iloadN K X0 (k9 rfl) rfl rfl ?_
 refine go_retI K X0 (k9 rfl) (by decide) (by decide) ?_
 rw [e0]
 exact ⟨rfl, rfl⟩
theorem ef_rmDsi (m : MethodId) (a1 : Addr) (x_cq : Addr) (x_cs : Addr) : entryFrame m #[(.ref a1), (.ref x_cq), (.ref x_cs)] 8 = mkF m 0 #[.val (.ref a1), .val (.ref x_cq), .val (.ref x_cs), .unset, .unset, .unset, .unset, .unset] [] := by first | (simp [entryFrame, mkF, argsToLocals, Value.category]; done) | rfl
def Q_rmDsi (Z : State) (n0 : Nat) (a1 x_cq x_cs c_st c_er c_ev c_su : Addr) (zs0 zs1 zc0 zc2 : Int) (h0 : Heap) (v : Option Value) (h : Heap) : Prop := ∃ x : Nat → Addr, v = none ∧ Keep h0 h [a1] ∧ OB Z h x DSn (fe 0 0) ∧ EV Z h x [(2,[-1,1]),(3,[0,1,2,3]),(4,[0,1,1]),(6,[3,1]),(7,[-1,1,-1,0,-1]),(16,[0,0]),(17,[0,0])] ∧ AD Z h (x 1) [zc0, 0, zc2] ∧ AD Z h (x 5) [1, (-1), 1] ∧ AD Z h (x 9) [1, 0, 0, (-1)] ∧ AD Z h (x 10) [0, 0] ∧ AD Z h (x 11) [zc0, 0, zc2] ∧ AD Z h (x 12) [0, 0] ∧ AD Z h (x 13) [0, 0, 0] ∧ AD Z h (x 14) [0, 0] ∧ AD Z h (x 15) [0, 0] ∧ Exa Z h (x 12) "[D" ∧ (NX n0 x) ∧ (x 0 = a1)
abbrev R_rmDsi : Room := { frames := 3, cells := 17, slots := 45, locals := 76 }
theorem rmDsi (hw : HW Z a0) (a1 x_cq x_cs c_st c_er c_ev c_su : Addr) (zs0 zs1 zc0 zc2 : Int) (h0 : Heap) (H0 : n0 ≤ h0.size) (H1 : n0 ≤ a1) (H2 : ZB zs0 zs1 zc0 zc2) (H3 : Exa Z h0 a1 "com/example/plumbline/plumbline/align/DualSimplex") (H4 : Fld Z h0 a1 "com/example/plumbline/plumbline/align/DualSimplex" "rows" "I" (.int (0 : Int32))) (H5 : Fld Z h0 a1 "com/example/plumbline/plumbline/align/DualSimplex" "columns" "I" (.int (0 : Int32))) (H6 : Fld Z h0 a1 "com/example/plumbline/plumbline/align/DualSimplex" "costs" "[D" .null) (H7 : Fld Z h0 a1 "com/example/plumbline/plumbline/align/DualSimplex" "surpluses" "[I" .null) (H8 : Fld Z h0 a1 "com/example/plumbline/plumbline/align/DualSimplex" "starts" "[I" .null) (H9 : Fld Z h0 a1 "com/example/plumbline/plumbline/align/DualSimplex" "entryRows" "[I" .null) (H10 : Fld Z h0 a1 "com/example/plumbline/plumbline/align/DualSimplex" "entryValues" "[D" .null) (H11 : Fld Z h0 a1 "com/example/plumbline/plumbline/align/DualSimplex" "basis" "[I" .null) (H12 : Fld Z h0 a1 "com/example/plumbline/plumbline/align/DualSimplex" "basicIn" "[I" .null) (H13 : Fld Z h0 a1 "com/example/plumbline/plumbline/align/DualSimplex" "blockShift" "I" (.int (0 : Int32))) (H14 : Fld Z h0 a1 "com/example/plumbline/plumbline/align/DualSimplex" "inverse" "[[D" .null) (H15 : Fld Z h0 a1 "com/example/plumbline/plumbline/align/DualSimplex" "values" "[D" .null) (H16 : Fld Z h0 a1 "com/example/plumbline/plumbline/align/DualSimplex" "reduced" "[D" .null) (H17 : Fld Z h0 a1 "com/example/plumbline/plumbline/align/DualSimplex" "sides" "[D" .null) (H18 : Fld Z h0 a1 "com/example/plumbline/plumbline/align/DualSimplex" "pivotRow" "[D" .null) (H19 : Fld Z h0 a1 "com/example/plumbline/plumbline/align/DualSimplex" "pivotColumn" "[D" .null) (H20 : Fld Z h0 a1 "com/example/plumbline/plumbline/align/DualSimplex" "stepColumn" "[D" .null) (H21 : Fld Z h0 a1 "com/example/plumbline/plumbline/align/DualSimplex" "picked" "[I" .null) (H22 : Fld Z h0 a1 "com/example/plumbline/plumbline/align/DualSimplex" "pivotRows" "[I" .null) (H23 : Fld Z h0 a1 "com/example/plumbline/plumbline/align/DualSimplex" "pivotsSinceReinversion" "I" (.int (0 : Int32))) (H24 : Fld Z h0 a1 "com/example/plumbline/plumbline/align/DualSimplex" "reducedCostsChecked" "Z" (.int (0 : Int32))) (H25 : Exa Z h0 x_cq "com/example/plumbline/plumbline/align/DualSimplex$Columns") (H26 : Fld Z h0 x_cq "com/example/plumbline/plumbline/align/DualSimplex$Columns" "starts" "[I" (.ref c_st)) (H27 : Fld Z h0 x_cq "com/example/plumbline/plumbline/align/DualSimplex$Columns" "entryRows" "[I" (.ref c_er)) (H28 : Fld Z h0 x_cq "com/example/plumbline/plumbline/align/DualSimplex$Columns" "entryValues" "[D" (.ref c_ev)) (H29 : Fld Z h0 x_cq "com/example/plumbline/plumbline/align/DualSimplex$Columns" "rows" "I" (.int (2 : Int32))) (H30 : Fld Z h0 x_cq "com/example/plumbline/plumbline/align/DualSimplex$Columns" "surpluses" "[I" (.ref c_su)) (H31 : Fld Z h0 x_cq "com/example/plumbline/plumbline/align/DualSimplex$Columns" "entries" "I" (.int (3 : Int32))) (H32 : Fld Z h0 x_cq "com/example/plumbline/plumbline/align/DualSimplex$Columns" "columns" "I" (.int (3 : Int32))) (H33 : AV Z h0 c_st .int ((((List.replicate 16 (.int (0 : Int32))).set 1 (.int (1 : Int32))).set 2 (.int (2 : Int32))).set 3 (.int (3 : Int32)))) (H34 : AV Z h0 c_er .int ((((List.replicate 64 (.int (0 : Int32))).set 0 (.int (0 : Int32))).set 1 (.int (1 : Int32))).set 2 (.int (1 : Int32)))) (H35 : AD Z h0 c_ev ((((List.replicate 64 0).set 0 1).set 1 (-1)).set 2 1)) (H36 : AV Z h0 c_su .int [(.int (-1 : Int32)), (.int (1 : Int32))]) (H37 : Exa Z h0 c_su "[I") (H38 : AD Z h0 x_cs [zc0, 0, zc2]) (H39 : Exa Z h0 x_cs "[D") (H40 : inc [x_cq, c_st, c_er, c_ev, c_su, x_cs, a1]) :
    Con l Z n0 (⟨"com/example/plumbline/plumbline/align/DualSimplex", "<init>", "(Lcom/example/plumbline/plumbline/align/DualSimplex$Columns;[D)V"⟩ : MethodName) prog_12_method_1_code 8 none R_rmDsi #[(.ref a1), (.ref x_cq), (.ref x_cs)] h0 (Q_rmDsi Z n0 a1 x_cq x_cs c_st c_er c_ev c_su zs0 zs1 zc0 zc2 h0) := by
 refine con_of (plainFor_of_name pn_com_example_plumbline_plumbline_align_DualSimplex) ?_
 intro p e s m below meth c T0 K X0 e0
 replace K : Ctx p s m meth c Z "com/example/plumbline/plumbline/align/DualSimplex" "<init>" prog_12_method_1_code 8 none := K
 refine go_entry (ef_rmDsi m a1 x_cq x_cs) ?_
 have D0 : FD Z h0 a1 DSn (fun _ => 0) (dl (aI 0) (aI 0) aU aU aU aU aU aU aU (aI 0) aU aU aU aU aU aU aU aU aU (aI 0) (aI 0)) := And.intro H4 (And.intro H5 (And.intro H6 (And.intro H7 (And.intro H8 (And.intro H9 (And.intro H10 (And.intro H11 (And.intro H12 (And.intro H13 (And.intro H14 (And.intro H15 (And.intro H16 (And.intro H17 (And.intro H18 (And.intro H19 (And.intro H20 (And.intro H21 (And.intro H22 (And.intro H23 (And.intro H24 (trivial)))))))))))))))))))))
 refine go_aloadN K X0 (k7 rfl) rfl rfl rfl ?_
 refine go_initO K X0 (wd hw 54 rfl) (wd hw 8 rfl) (wd hw 9 rfl) e0 rfl (k7 rfl) rfl (by decide) (W := 0) (Nat.le_of_eq rfl) (by decide) ?_
 intro T0a X0a e0a
 refine go_aloadN K X0a (k7 rfl) rfl rfl rfl ?_
 refine go_aloadN K X0a (k7 rfl) rfl rfl rfl ?_
 refine go_getFR K X0a (wd hw 55 rfl) e0a H29 (k7 rfl) rfl ?_
 refine go_putF K X0a (host := "") (Or.inl (wd hw 56 rfl)) Via.refl e0a (fdg 0 D0 rfl) H3 (Or.inr ⟨(wd hw 57 rfl), rfl, rfl⟩) (wd hw 49 rfl) (ty := .int) (by decide) rfl rfl H1 (k7 rfl) rfl ?_
 intro T0b h0b X0b e0b W0b
 have kp0c : Keep h0 h0b [a1] := (Keep.refl h0 [a1]).trans (Keep.of_wr W0b) (allS (Or.inl (List.mem_of_getElem? (i := 0) rfl)) all0)
 have D0b : FD Z h0b a1 DSn (fun _ => 0) (dl (aI 2) (aI 0) aU aU aU aU aU aU aU (aI 0) aU aU aU aU aU aU aU aU aU (aI 0) (aI 0)) := fdp hw 0 (aI 2) D0 rfl rfl W0b
 refine go_aloadN K X0b (k7 rfl) rfl rfl rfl ?_
 refine go_aloadN K X0b (k7 rfl) rfl rfl rfl ?_
 have f0d := (H38.keep (Keep.of_wr W0b) (ninS (inc_ne H40 5 6 rfl rfl (by decide)) nin0))
 refine go_arraylengthD K X0b e0b f0d (z := (3 : Int32)) rfl (k7 rfl) rfl ?_
 have f0e := (H3.keep (Keep.of_wr W0b))
 refine go_putF K X0b (host := "") (Or.inl (wd hw 58 rfl)) Via.refl e0b (fdg 1 D0b rfl) f0e (Or.inr ⟨(wd hw 59 rfl), rfl, rfl⟩) (wd hw 49 rfl) (ty := .int) (by decide) rfl rfl H1 (k7 rfl) rfl ?_
 intro T0f h0f X0f e0f W0f
 have kp0g : Keep h0 h0f [a1] := kp0c.trans (Keep.of_wr W0f) (allS (Or.inl (List.mem_of_getElem? (i := 0) rfl)) all0)
 have D0f : FD Z h0f a1 DSn (fun _ => 0) (dl (aI 2) (aI 3) aU aU aU aU aU aU aU (aI 0) aU aU aU aU aU aU aU aU aU (aI 0) (aI 0)) := fdp hw 1 (aI 3) D0b rfl rfl W0f
 refine go_aloadN K X0f (k7 rfl) rfl rfl rfl ?_
 refine go_aloadN K X0f (k7 rfl) rfl rfl rfl ?_
 have f0h := (f0d.keep (Keep.of_wr W0f) (ninS (inc_ne H40 5 6 rfl rfl (by decide)) nin0))
 have f0i := ((H39.keep (Keep.of_wr W0b)).keep (Keep.of_wr W0f))
 refine go_cloneD K X0f (wd hw 60 rfl) (wd hw 61 rfl) (wd hw 65 rfl) (wd hw 63 rfl) (wd hw 64 rfl) (wd hw 66 rfl) e0f f0h f0i rfl (k7 rfl) rfl (by decide) (W := 1) (Nat.le_of_eq rfl) (by decide) (cap := 3) (Nat.le_of_ble_eq_true rfl) (cells' := 1) (slots' := 3) rfl rfl (by decide) (by decide) ?_
 intro T0j h0j b0j g0j X0j e0j E0j A2314 C0j
 have z0k := (Nat.le_trans (Nat.le_trans H0 (Keep.of_wr W0b).1) (Keep.of_wr W0f).1)
 have ga2317 : n0 ≤ b0j := Nat.le_trans z0k (Nat.le_of_eq g0j.symm)
 have gb0l : h0.size ≤ b0j := Nat.le_trans kp0g.1 (Nat.le_of_eq g0j.symm)
 have kp0m : Keep h0 h0j [a1] := kp0g.trans (Keep.ext (Keep.refl _ []) E0j) all0
 refine go_cast K X0j (wd hw 67 rfl) e0j (Ins.self C0j) (k7 rfl) rfl ?_
 intro T0n X0n e0n
 have f0o := ((f0e.keep (Keep.of_wr W0f)).keep (Keep.ext (Keep.refl _ []) E0j))
 have D0p := (FD.keep (Keep.ext (Keep.refl _ []) E0j) nin0 D0f)
 refine go_putF K X0n (host := "") (Or.inl (wd hw 69 rfl)) Via.refl e0n (fdg 2 D0p rfl) f0o (Or.inr ⟨(wd hw 70 rfl), rfl, rfl⟩) (wd hw 49 rfl) (ty := (.array .double)) (by decide) rfl rfl H1 (k7 rfl) rfl ?_
 intro T0q h0q X0q e0q W0q
 have kp0r : Keep h0 h0q [a1] := kp0m.trans (Keep.of_wr W0q) (allS (Or.inl (List.mem_of_getElem? (i := 0) rfl)) all0)
 have D0q : FD Z h0q a1 DSn (fun _ => 0) (dl (aI 2) (aI 3) (aA b0j) aU aU aU aU aU aU (aI 0) aU aU aU aU aU aU aU aU aU (aI 0) (aI 0)) := fdp hw 2 (aA b0j) D0p rfl rfl W0q
 refine go_aloadN K X0q (k7 rfl) rfl rfl rfl ?_
 refine go_getF K X0q (host := "") (Or.inl (wd hw 69 rfl)) Via.refl e0q (fdg 2 D0q rfl) (k7 rfl) rfl ?_
 intro T0s X0s e0s
 refine go_astoreN K X0s #[.val (.ref a1), .val (.ref x_cq), .val (.ref x_cs), .val (.ref b0j), .unset, .unset, .unset, .unset] (k7 rfl) rfl rfl rfl ?_
 refine go_aloadN K X0s (k7 rfl) rfl rfl rfl ?_
 have f0t := (A2314.keep (Keep.of_wr W0q) (ninS (Ne.symm (Nat.ne_of_lt (Nat.lt_of_lt_of_le H3.lt gb0l))) nin0))
 refine go_arraylengthD K X0s e0s f0t (z := (3 : Int32)) rfl (k7 rfl) rfl ?_
 refine go_istore K X0s #[.val (.ref a1), .val (.ref x_cq), .val (.ref x_cs), .val (.ref b0j), .val (.int (3 : Int32)), .unset, .unset, .unset] (k7 rfl) rfl rfl ?_
 refine go_iconst K X0s (0 : Int32) (k7 rfl) rfl rfl ?_
 refine go_istore K X0s #[.val (.ref a1), .val (.ref x_cq), .val (.ref x_cs), .val (.ref b0j), .val (.int (3 : Int32)), .val (.int (0 : Int32)), .unset, .unset] (k7 rfl) rfl rfl ?_
 refine go_iload K X0s (k7 rfl) rfl rfl ?_
 refine go_iload K X0s (k7 rfl) rfl rfl ?_
 refine go_icmpF K X0s (k7 rfl) rfl (by decide : (0 : Int32) < (3 : Int32)) ?_
 refine go_aloadN K X0s (k7 rfl) rfl rfl rfl ?_
 refine go_iload K X0s (k7 rfl) rfl rfl ?_
 refine go_daload K X0s e0s f0t (i := 0) (z := zc0) rfl rfl (k7 rfl) rfl ?_
 intro d0u hd0u
 refine go_dstore K X0s #[.val (.ref a1), .val (.ref x_cq), .val (.ref x_cs), .val (.ref b0j), .val (.int (3 : Int32)), .val (.int (0 : Int32)), .val (.double d0u), .second] (k7 rfl) rfl rfl ?_
 refine go_dload K X0s (k7 rfl) rfl rfl ?_
 refine go_dconst0 K X0s (k7 rfl) rfl ?_
 refine go_difT K X0s (k7 rfl) rfl (k7 rfl) (by decide) rfl (Dz.tk (cd := .ge) hd0u Dz.zero (zcm_217 H2)) ?_
 refine go_iinc K X0s (1 : Int32) #[.val (.ref a1), .val (.ref x_cq), .val (.ref x_cs), .val (.ref b0j), .val (.int (3 : Int32)), .val (.int ((0 : Int32) + (1 : Int32))), .val (.double d0u), .second] (k7 rfl) rfl rfl rfl rfl ?_
 rw [show ((0 : Int32) + (1 : Int32)) = (1 : Int32) from by decide]
 refine go_goto K X0s (k7 rfl) (by decide) rfl ?_
 refine go_iload K X0s (k7 rfl) rfl rfl ?_
 refine go_iload K X0s (k7 rfl) rfl rfl ?_
 refine go_icmpF K X0s (k7 rfl) rfl (by decide : (1 : Int32) < (3 : Int32)) ?_
 refine go_aloadN K X0s (k7 rfl) rfl rfl rfl ?_
 refine go_iload K X0s (k7 rfl) rfl rfl ?_
 refine go_daload K X0s e0s f0t (i := 1) (z := 0) rfl rfl (k7 rfl) rfl ?_
 intro d0v hd0v
 refine go_dstore K X0s #[.val (.ref a1), .val (.ref x_cq), .val (.ref x_cs), .val (.ref b0j), .val (.int (3 : Int32)), .val (.int (1 : Int32)), .val (.double d0v), .second] (k7 rfl) rfl rfl ?_
 refine go_dload K X0s (k7 rfl) rfl rfl ?_
 refine go_dconst0 K X0s (k7 rfl) rfl ?_
 refine go_difT K X0s (k7 rfl) rfl (k7 rfl) (by decide) rfl (Dz.tk (cd := .ge) hd0v Dz.zero (by show ¬ (0 : Int) < (0 : Int); decide)) ?_
 refine go_iinc K X0s (1 : Int32) #[.val (.ref a1), .val (.ref x_cq), .val (.ref x_cs), .val (.ref b0j), .val (.int (3 : Int32)), .val (.int ((1 : Int32) + (1 : Int32))), .val (.double d0v), .second] (k7 rfl) rfl rfl rfl rfl ?_
 rw [show ((1 : Int32) + (1 : Int32)) = (2 : Int32) from by decide]
 refine go_goto K X0s (k7 rfl) (by decide) rfl ?_
 refine go_iload K X0s (k7 rfl) rfl rfl ?_
 refine go_iload K X0s (k7 rfl) rfl rfl ?_
 refine go_icmpF K X0s (k7 rfl) rfl (by decide : (2 : Int32) < (3 : Int32)) ?_
 refine go_aloadN K X0s (k7 rfl) rfl rfl rfl ?_
 refine go_iload K X0s (k7 rfl) rfl rfl ?_
 refine go_daload K X0s e0s f0t (i := 2) (z := zc2) rfl rfl (k7 rfl) rfl ?_
 intro d0w hd0w
 refine go_dstore K X0s #[.val (.ref a1), .val (.ref x_cq), .val (.ref x_cs), .val (.ref b0j), .val (.int (3 : Int32)), .val (.int (2 : Int32)), .val (.double d0w), .second] (k7 rfl) rfl rfl ?_
 refine go_dload K X0s (k7 rfl) rfl rfl ?_
 refine go_dconst0 K X0s (k7 rfl) rfl ?_
 refine go_difT K X0s (k7 rfl) rfl (k7 rfl) (by decide) rfl (Dz.tk (cd := .ge) hd0w Dz.zero (zcm_218 H2)) ?_
 refine go_iinc K X0s (1 : Int32) #[.val (.ref a1), .val (.ref x_cq), .val (.ref x_cs), .val (.ref b0j), .val (.int (3 : Int32)), .val (.int ((2 : Int32) + (1 : Int32))), .val (.double d0w), .second] (k7 rfl) rfl rfl rfl rfl ?_
 rw [show ((2 : Int32) + (1 : Int32)) = (3 : Int32) from by decide]
 refine go_goto K X0s (k7 rfl) (by decide) rfl ?_
 refine go_iload K X0s (k7 rfl) rfl rfl ?_
 refine go_iload K X0s (k7 rfl) rfl rfl ?_
 refine go_icmpT K X0s (k7 rfl) (by decide) rfl (by decide : ¬ (3 : Int32) < (3 : Int32)) ?_
 refine go_aloadN K X0s (k7 rfl) rfl rfl rfl ?_
 have f0x := ((((H32.keep (Keep.of_wr W0b) (ninS (inc_ne H40 0 6 rfl rfl (by decide)) nin0)).keep (Keep.of_wr W0f) (ninS (inc_ne H40 0 6 rfl rfl (by decide)) nin0)).keep (Keep.ext (Keep.refl _ []) E0j) nin0).keep (Keep.of_wr W0q) (ninS (inc_ne H40 0 6 rfl rfl (by decide)) nin0))
 refine go_getFR K X0s (wd hw 71 rfl) e0s f0x (k7 rfl) rfl ?_
 refine go_aloadN K X0s (k7 rfl) rfl rfl rfl ?_
 refine go_getF K X0s (host := "") (Or.inl (wd hw 58 rfl)) Via.refl e0s (fdg 1 D0q rfl) (k7 rfl) rfl ?_
 intro T0y X0y e0y
 refine go_icmpT K X0y (k7 rfl) (by decide) rfl (by decide : (3 : Int32) = (3 : Int32)) ?_
 refine go_aloadN K X0y (k7 rfl) rfl rfl rfl ?_
 refine go_aloadN K X0y (k7 rfl) rfl rfl rfl ?_
 have f0z := ((((H30.keep (Keep.of_wr W0b) (ninS (inc_ne H40 0 6 rfl rfl (by decide)) nin0)).keep (Keep.of_wr W0f) (ninS (inc_ne H40 0 6 rfl rfl (by decide)) nin0)).keep (Keep.ext (Keep.refl _ []) E0j) nin0).keep (Keep.of_wr W0q) (ninS (inc_ne H40 0 6 rfl rfl (by decide)) nin0))
 refine go_getFR K X0y (wd hw 72 rfl) e0y f0z (k7 rfl) rfl ?_
 refine go_aloadN K X0y (k7 rfl) rfl rfl rfl ?_
 refine go_getF K X0y (host := "") (Or.inl (wd hw 56 rfl)) Via.refl e0y (fdg 0 D0q rfl) (k7 rfl) rfl ?_
 intro T1a X1a e1a
 have z1b := (Nat.le_trans (Nat.le_trans z0k (Keep.ext (Keep.refl _ []) E0j).1) (Keep.of_wr W0q).1)
 have f1c := ((((H37.keep (Keep.of_wr W0b)).keep (Keep.of_wr W0f)).keep (Keep.ext (Keep.refl _ []) E0j)).keep (Keep.of_wr W0q))
 have f1d := ((((H36.keep (Keep.of_wr W0b) (ninS (inc_ne H40 4 6 rfl rfl (by decide)) nin0)).keep (Keep.of_wr W0f) (ninS (inc_ne H40 4 6 rfl rfl (by decide)) nin0)).keep (Keep.ext (Keep.refl _ []) E0j) nin0).keep (Keep.of_wr W0q) (ninS (inc_ne H40 4 6 rfl rfl (by decide)) nin0))
 refine go_static K X1a (argsL := [(.ref c_su), (.int (2 : Int32))]) (stk := [(.ref a1)]) (wd hw 73 rfl) (wd hw 74 rfl) (wd hw 24 rfl) (wd hw 75 rfl) (by decide) (lenOf pd_16 rfl) e1a (rmCpy2 hw c_su (-1 : Int32) (1 : Int32) h0q z1b f1c f1d) rfl rfl (k7 rfl) rfl (by decide) (W := 1) (Nat.le_of_eq rfl) (by decide) (cells' := 2) (slots' := 5) rfl rfl (by decide) (by decide) ?_
 rintro T1e h1e _ X1e e1e ⟨r1f, rfl, K1e, f1g, f1h⟩
 show Go _ _ _ _ _ _ _ (T1e.setTop (mkF m 126 #[.val (.ref a1), .val (.ref x_cq), .val (.ref x_cs), .val (.ref b0j), .val (.int (3 : Int32)), .val (.int (3 : Int32)), .val (.double d0w), .second] [(.ref r1f), (.ref a1)]))
 have ga2342 : n0 ≤ r1f := Nat.le_trans z1b f1g
 have gb1i : h0.size ≤ r1f := Nat.le_trans kp0r.1 f1g
 have kp1j : Keep h0 h1e [a1] := kp0r.trans K1e all0
 have f1k := ((f0o.keep (Keep.of_wr W0q)).keep K1e)
 have D1l := (FD.keep K1e nin0 D0q)
 refine go_putF K X1e (host := "") (Or.inl (wd hw 82 rfl)) Via.refl e1e (fdg 3 D1l rfl) f1k (Or.inr ⟨(wd hw 83 rfl), rfl, rfl⟩) (wd hw 49 rfl) (ty := (.array .int)) (by decide) rfl rfl H1 (k7 rfl) rfl ?_
 intro T1m h1m X1m e1m W1m
 have kp1n : Keep h0 h1m [a1] := kp1j.trans (Keep.of_wr W1m) (allS (Or.inl (List.mem_of_getElem? (i := 0) rfl)) all0)
 have D1m : FD Z h1m a1 DSn (fun _ => 0) (dl (aI 2) (aI 3) (aA b0j) (aA r1f) aU aU aU aU aU (aI 0) aU aU aU aU aU aU aU aU aU (aI 0) (aI 0)) := fdp hw 3 (aA r1f) D1l rfl rfl W1m
 refine go_aloadN K X1m (k7 rfl) rfl rfl rfl ?_
 refine go_getF K X1m (host := "") (Or.inl (wd hw 82 rfl)) Via.refl e1m (fdg 3 D1m rfl) (k7 rfl) rfl ?_
 intro T1o X1o e1o
 refine go_astoreN K X1o #[.val (.ref a1), .val (.ref x_cq), .val (.ref x_cs), .val (.ref r1f), .val (.int (3 : Int32)), .val (.int (3 : Int32)), .val (.double d0w), .second] (k7 rfl) rfl rfl rfl ?_
 refine go_aloadN K X1o (k7 rfl) rfl rfl rfl ?_
 have f1p := (f1h.keep (Keep.of_wr W1m) (ninS (Ne.symm (Nat.ne_of_lt (Nat.lt_of_lt_of_le H3.lt gb1i))) nin0))
 refine go_arraylength K X1o e1o f1p (z := (2 : Int32)) rfl (k7 rfl) rfl ?_
 refine go_istore K X1o #[.val (.ref a1), .val (.ref x_cq), .val (.ref x_cs), .val (.ref r1f), .val (.int (2 : Int32)), .val (.int (3 : Int32)), .val (.double d0w), .second] (k7 rfl) rfl rfl ?_
 refine go_iconst K X1o (0 : Int32) (k7 rfl) rfl rfl ?_
 refine go_istore K X1o #[.val (.ref a1), .val (.ref x_cq), .val (.ref x_cs), .val (.ref r1f), .val (.int (2 : Int32)), .val (.int (0 : Int32)), .val (.double d0w), .second] (k7 rfl) rfl rfl ?_
 refine go_iload K X1o (k7 rfl) rfl rfl ?_
 refine go_iload K X1o (k7 rfl) rfl rfl ?_
 refine go_icmpF K X1o (k7 rfl) rfl (by decide : (0 : Int32) < (2 : Int32)) ?_
 refine go_aloadN K X1o (k7 rfl) rfl rfl rfl ?_
 refine go_iload K X1o (k7 rfl) rfl rfl ?_
 refine go_iaload K X1o e1o f1p (i := 0) rfl rfl (k7 rfl) rfl ?_
 refine go_istore K X1o #[.val (.ref a1), .val (.ref x_cq), .val (.ref x_cs), .val (.ref r1f), .val (.int (2 : Int32)), .val (.int (0 : Int32)), .val (.int (-1 : Int32)), .unset] (k7 rfl) rfl rfl ?_
 refine go_iload K X1o (k7 rfl) rfl rfl ?_
 refine go_ifT K X1o (k7 rfl) (by decide) rfl (by decide : (-1 : Int32) < (0 : Int32)) ?_
 refine go_iinc K X1o (1 : Int32) #[.val (.ref a1), .val (.ref x_cq), .val (.ref x_cs), .val (.ref r1f), .val (.int (2 : Int32)), .val (.int ((0 : Int32) + (1 : Int32))), .val (.int (-1 : Int32)), .unset] (k7 rfl) rfl rfl rfl rfl ?_
 rw [show ((0 : Int32) + (1 : Int32)) = (1 : Int32) from by decide]
 refine go_goto K X1o (k7 rfl) (by decide) rfl ?_
 refine go_iload K X1o (k7 rfl) rfl rfl ?_
 refine go_iload K X1o (k7 rfl) rfl rfl ?_
 refine go_icmpF K X1o (k7 rfl) rfl (by decide : (1 : Int32) < (2 : Int32)) ?_
 refine go_aloadN K X1o (k7 rfl) rfl rfl rfl ?_
 refine go_iload K X1o (k7 rfl) rfl rfl ?_
 refine go_iaload K X1o e1o f1p (i := 1) rfl rfl (k7 rfl) rfl ?_
 refine go_istore K X1o #[.val (.ref a1), .val (.ref x_cq), .val (.ref x_cs), .val (.ref r1f), .val (.int (2 : Int32)), .val (.int (1 : Int32)), .val (.int (1 : Int32)), .unset] (k7 rfl) rfl rfl ?_
 refine go_iload K X1o (k7 rfl) rfl rfl ?_
 refine go_ifF K X1o (k7 rfl) rfl (by decide : ¬ (1 : Int32) < (0 : Int32)) ?_
 refine go_aloadN K X1o (k7 rfl) rfl rfl rfl ?_
 refine go_getF K X1o (host := "") (Or.inl (wd hw 69 rfl)) Via.refl e1o (fdg 2 D1m rfl) (k7 rfl) rfl ?_
 intro T1q X1q e1q
 refine go_iload K X1q (k7 rfl) rfl rfl ?_
 have f1r := ((f0t.keep K1e nin0).keep (Keep.of_wr W1m) (ninS (Ne.symm (Nat.ne_of_lt (Nat.lt_of_lt_of_le H3.lt gb0l))) nin0))
 refine go_daload K X1q e1q f1r (i := 1) (z := 0) rfl rfl (k7 rfl) rfl ?_
 intro d1s hd1s
 refine go_dconst0 K X1q (k7 rfl) rfl ?_
 refine go_difT K X1q (k7 rfl) rfl (k7 rfl) (by decide) rfl (Dz.tk (cd := .eq) hd1s Dz.zero (by show (0 : Int) = (0 : Int); decide)) ?_
 refine go_iinc K X1q (1 : Int32) #[.val (.ref a1), .val (.ref x_cq), .val (.ref x_cs), .val (.ref r1f), .val (.int (2 : Int32)), .val (.int ((1 : Int32) + (1 : Int32))), .val (.int (1 : Int32)), .unset] (k7 rfl) rfl rfl rfl rfl ?_
 rw [show ((1 : Int32) + (1 : Int32)) = (2 : Int32) from by decide]
 refine go_goto K X1q (k7 rfl) (by decide) rfl ?_
 refine go_iload K X1q (k7 rfl) rfl rfl ?_
 refine go_iload K X1q (k7 rfl) rfl rfl ?_
 refine go_icmpT K X1q (k7 rfl) (by decide) rfl (by decide : ¬ (2 : Int32) < (2 : Int32)) ?_
 refine go_aloadN K X1q (k7 rfl) rfl rfl rfl ?_
 refine go_aloadN K X1q (k7 rfl) rfl rfl rfl ?_
 have f1t := ((((((H26.keep (Keep.of_wr W0b) (ninS (inc_ne H40 0 6 rfl rfl (by decide)) nin0)).keep (Keep.of_wr W0f) (ninS (inc_ne H40 0 6 rfl rfl (by decide)) nin0)).keep (Keep.ext (Keep.refl _ []) E0j) nin0).keep (Keep.of_wr W0q) (ninS (inc_ne H40 0 6 rfl rfl (by decide)) nin0)).keep K1e nin0).keep (Keep.of_wr W1m) (ninS (inc_ne H40 0 6 rfl rfl (by decide)) nin0))
 refine go_getFR K X1q (wd hw 84 rfl) e1q f1t (k7 rfl) rfl ?_
 refine go_aloadN K X1q (k7 rfl) rfl rfl rfl ?_
 refine go_getF K X1q (host := "") (Or.inl (wd hw 58 rfl)) Via.refl e1q (fdg 1 D1m rfl) (k7 rfl) rfl ?_
 intro T1u X1u e1u
 refine go_iconst K X1u (1 : Int32) (k7 rfl) rfl rfl ?_
 refine go_iadd K X1u (k7 rfl) rfl ?_
 rw [show ((3 : Int32) + (1 : Int32)) = (4 : Int32) from by decide]
 have z1v := (Nat.le_trans (Nat.le_trans z1b K1e.1) (Keep.of_wr W1m).1)
 have f1w := ((((((H33.keep (Keep.of_wr W0b) (ninS (inc_ne H40 1 6 rfl rfl (by decide)) nin0)).keep (Keep.of_wr W0f) (ninS (inc_ne H40 1 6 rfl rfl (by decide)) nin0)).keep (Keep.ext (Keep.refl _ []) E0j) nin0).keep (Keep.of_wr W0q) (ninS (inc_ne H40 1 6 rfl rfl (by decide)) nin0)).keep K1e nin0).keep (Keep.of_wr W1m) (ninS (inc_ne H40 1 6 rfl rfl (by decide)) nin0))
 refine go_static K X1u (argsL := [(.ref c_st), (.int (4 : Int32))]) (stk := [(.ref a1)]) (wd hw 73 rfl) (wd hw 74 rfl) (wd hw 24 rfl) (wd hw 75 rfl) (by decide) (lenOf pd_16 rfl) e1u (rmCpyS hw c_st ((((List.replicate 16 (.int (0 : Int32))).set 1 (.int (1 : Int32))).set 2 (.int (2 : Int32))).set 3 (.int (3 : Int32))) h1m z1v f1w (by simp) (fitB rfl)) rfl rfl (k7 rfl) rfl (by decide) (W := 1) (Nat.le_of_eq rfl) (by decide) (cells' := 3) (slots' := 9) rfl rfl (by decide) (by decide) ?_
 rintro T1x h1x _ X1x e1x ⟨r1y, rfl, K1x, f1z, f2a⟩
 show Go _ _ _ _ _ _ _ (T1x.setTop (mkF m 211 #[.val (.ref a1), .val (.ref x_cq), .val (.ref x_cs), .val (.ref r1f), .val (.int (2 : Int32)), .val (.int (2 : Int32)), .val (.int (1 : Int32)), .unset] [(.ref r1y), (.ref a1)]))
 have ga2362 : n0 ≤ r1y := Nat.le_trans z1v f1z
 have gb2b : h0.size ≤ r1y := Nat.le_trans kp1n.1 f1z
 have kp2c : Keep h0 h1x [a1] := kp1n.trans K1x all0
 have f2d := ((f1k.keep (Keep.of_wr W1m)).keep K1x)
 have D2e := (FD.keep K1x nin0 D1m)
 refine go_putF K X1x (host := "") (Or.inl (wd hw 93 rfl)) Via.refl e1x (fdg 4 D2e rfl) f2d (Or.inr ⟨(wd hw 94 rfl), rfl, rfl⟩) (wd hw 49 rfl) (ty := (.array .int)) (by decide) rfl rfl H1 (k7 rfl) rfl ?_
 intro T2f h2f X2f e2f W2f
 have kp2g : Keep h0 h2f [a1] := kp2c.trans (Keep.of_wr W2f) (allS (Or.inl (List.mem_of_getElem? (i := 0) rfl)) all0)
 have D2f : FD Z h2f a1 DSn (fun _ => 0) (dl (aI 2) (aI 3) (aA b0j) (aA r1f) (aA r1y) aU aU aU aU (aI 0) aU aU aU aU aU aU aU aU aU (aI 0) (aI 0)) := fdp hw 4 (aA r1y) D2e rfl rfl W2f
 refine go_aloadN K X2f (k7 rfl) rfl rfl rfl ?_
 refine go_aloadN K X2f (k7 rfl) rfl rfl rfl ?_
 have f2h := ((((((((H27.keep (Keep.of_wr W0b) (ninS (inc_ne H40 0 6 rfl rfl (by decide)) nin0)).keep (Keep.of_wr W0f) (ninS (inc_ne H40 0 6 rfl rfl (by decide)) nin0)).keep (Keep.ext (Keep.refl _ []) E0j) nin0).keep (Keep.of_wr W0q) (ninS (inc_ne H40 0 6 rfl rfl (by decide)) nin0)).keep K1e nin0).keep (Keep.of_wr W1m) (ninS (inc_ne H40 0 6 rfl rfl (by decide)) nin0)).keep K1x nin0).keep (Keep.of_wr W2f) (ninS (inc_ne H40 0 6 rfl rfl (by decide)) nin0))
 refine go_getFR K X2f (wd hw 95 rfl) e2f f2h (k7 rfl) rfl ?_
 refine go_aloadN K X2f (k7 rfl) rfl rfl rfl ?_
 have f2i := ((((((((H31.keep (Keep.of_wr W0b) (ninS (inc_ne H40 0 6 rfl rfl (by decide)) nin0)).keep (Keep.of_wr W0f) (ninS (inc_ne H40 0 6 rfl rfl (by decide)) nin0)).keep (Keep.ext (Keep.refl _ []) E0j) nin0).keep (Keep.of_wr W0q) (ninS (inc_ne H40 0 6 rfl rfl (by decide)) nin0)).keep K1e nin0).keep (Keep.of_wr W1m) (ninS (inc_ne H40 0 6 rfl rfl (by decide)) nin0)).keep K1x nin0).keep (Keep.of_wr W2f) (ninS (inc_ne H40 0 6 rfl rfl (by decide)) nin0))
 refine go_getFR K X2f (wd hw 96 rfl) e2f f2i (k7 rfl) rfl ?_
 have z2j := (Nat.le_trans (Nat.le_trans z1v K1x.1) (Keep.of_wr W2f).1)
 have f2k := ((((((((H34.keep (Keep.of_wr W0b) (ninS (inc_ne H40 2 6 rfl rfl (by decide)) nin0)).keep (Keep.of_wr W0f) (ninS (inc_ne H40 2 6 rfl rfl (by decide)) nin0)).keep (Keep.ext (Keep.refl _ []) E0j) nin0).keep (Keep.of_wr W0q) (ninS (inc_ne H40 2 6 rfl rfl (by decide)) nin0)).keep K1e nin0).keep (Keep.of_wr W1m) (ninS (inc_ne H40 2 6 rfl rfl (by decide)) nin0)).keep K1x nin0).keep (Keep.of_wr W2f) (ninS (inc_ne H40 2 6 rfl rfl (by decide)) nin0))
 refine go_static K X2f (argsL := [(.ref c_er), (.int (3 : Int32))]) (stk := [(.ref a1)]) (wd hw 73 rfl) (wd hw 74 rfl) (wd hw 24 rfl) (wd hw 75 rfl) (by decide) (lenOf pd_16 rfl) e2f (rmCpyR hw c_er ((((List.replicate 64 (.int (0 : Int32))).set 0 (.int (0 : Int32))).set 1 (.int (1 : Int32))).set 2 (.int (1 : Int32))) h2f z2j f2k (by simp) (fitB rfl)) rfl rfl (k7 rfl) rfl (by decide) (W := 1) (Nat.le_of_eq rfl) (by decide) (cells' := 4) (slots' := 12) rfl rfl (by decide) (by decide) ?_
 rintro T2l h2l _ X2l e2l ⟨r2m, rfl, K2l, f2n, f2o⟩
 show Go _ _ _ _ _ _ _ (T2l.setTop (mkF m 226 #[.val (.ref a1), .val (.ref x_cq), .val (.ref x_cs), .val (.ref r1f), .val (.int (2 : Int32)), .val (.int (2 : Int32)), .val (.int (1 : Int32)), .unset] [(.ref r2m), (.ref a1)]))
 have ga2377 : n0 ≤ r2m := Nat.le_trans z2j f2n
 have gb2p : h0.size ≤ r2m := Nat.le_trans kp2g.1 f2n
 have kp2q : Keep h0 h2l [a1] := kp2g.trans K2l all0
 have f2r := ((f2d.keep (Keep.of_wr W2f)).keep K2l)
 have D2s := (FD.keep K2l nin0 D2f)
 refine go_putF K X2l (host := "") (Or.inl (wd hw 97 rfl)) Via.refl e2l (fdg 5 D2s rfl) f2r (Or.inr ⟨(wd hw 98 rfl), rfl, rfl⟩) (wd hw 49 rfl) (ty := (.array .int)) (by decide) rfl rfl H1 (k7 rfl) rfl ?_
 intro T2t h2t X2t e2t W2t
 have kp2u : Keep h0 h2t [a1] := kp2q.trans (Keep.of_wr W2t) (allS (Or.inl (List.mem_of_getElem? (i := 0) rfl)) all0)
 have D2t : FD Z h2t a1 DSn (fun _ => 0) (dl (aI 2) (aI 3) (aA b0j) (aA r1f) (aA r1y) (aA r2m) aU aU aU (aI 0) aU aU aU aU aU aU aU aU aU (aI 0) (aI 0)) := fdp hw 5 (aA r2m) D2s rfl rfl W2t
 refine go_aloadN K X2t (k7 rfl) rfl rfl rfl ?_
 refine go_aloadN K X2t (k7 rfl) rfl rfl rfl ?_
 have f2v := ((((((((((H28.keep (Keep.of_wr W0b) (ninS (inc_ne H40 0 6 rfl rfl (by decide)) nin0)).keep (Keep.of_wr W0f) (ninS (inc_ne H40 0 6 rfl rfl (by decide)) nin0)).keep (Keep.ext (Keep.refl _ []) E0j) nin0).keep (Keep.of_wr W0q) (ninS (inc_ne H40 0 6 rfl rfl (by decide)) nin0)).keep K1e nin0).keep (Keep.of_wr W1m) (ninS (inc_ne H40 0 6 rfl rfl (by decide)) nin0)).keep K1x nin0).keep (Keep.of_wr W2f) (ninS (inc_ne H40 0 6 rfl rfl (by decide)) nin0)).keep K2l nin0).keep (Keep.of_wr W2t) (ninS (inc_ne H40 0 6 rfl rfl (by decide)) nin0))
 refine go_getFR K X2t (wd hw 99 rfl) e2t f2v (k7 rfl) rfl ?_
 refine go_aloadN K X2t (k7 rfl) rfl rfl rfl ?_
 have f2w := ((f2i.keep K2l nin0).keep (Keep.of_wr W2t) (ninS (inc_ne H40 0 6 rfl rfl (by decide)) nin0))
 refine go_getFR K X2t (wd hw 96 rfl) e2t f2w (k7 rfl) rfl ?_
 have z2x := (Nat.le_trans (Nat.le_trans z2j K2l.1) (Keep.of_wr W2t).1)
 have f2y := ((((((((((H35.keep (Keep.of_wr W0b) (ninS (inc_ne H40 3 6 rfl rfl (by decide)) nin0)).keep (Keep.of_wr W0f) (ninS (inc_ne H40 3 6 rfl rfl (by decide)) nin0)).keep (Keep.ext (Keep.refl _ []) E0j) nin0).keep (Keep.of_wr W0q) (ninS (inc_ne H40 3 6 rfl rfl (by decide)) nin0)).keep K1e nin0).keep (Keep.of_wr W1m) (ninS (inc_ne H40 3 6 rfl rfl (by decide)) nin0)).keep K1x nin0).keep (Keep.of_wr W2f) (ninS (inc_ne H40 3 6 rfl rfl (by decide)) nin0)).keep K2l nin0).keep (Keep.of_wr W2t) (ninS (inc_ne H40 3 6 rfl rfl (by decide)) nin0))
 refine go_static K X2t (argsL := [(.ref c_ev), (.int (3 : Int32))]) (stk := [(.ref a1)]) (wd hw 100 rfl) (wd hw 101 rfl) (wd hw 24 rfl) (wd hw 102 rfl) (by decide) (lenOf pd_17 rfl) e2t (rmCpyD hw c_ev ((((List.replicate 64 0).set 0 1).set 1 (-1)).set 2 1) h2t z2x f2y (by simp)) rfl rfl (k7 rfl) rfl (by decide) (W := 1) (Nat.le_of_eq rfl) (by decide) (cells' := 5) (slots' := 15) rfl rfl (by decide) (by decide) ?_
 rintro T2z h2z _ X2z e2z ⟨r3a, rfl, K2z, f3b, f3c⟩
 show Go _ _ _ _ _ _ _ (T2z.setTop (mkF m 241 #[.val (.ref a1), .val (.ref x_cq), .val (.ref x_cs), .val (.ref r1f), .val (.int (2 : Int32)), .val (.int (2 : Int32)), .val (.int (1 : Int32)), .unset] [(.ref r3a), (.ref a1)]))
 have ga2392 : n0 ≤ r3a := Nat.le_trans z2x f3b
 have gb3d : h0.size ≤ r3a := Nat.le_trans kp2u.1 f3b
 have kp3e : Keep h0 h2z [a1] := kp2u.trans K2z all0
 have f3f := ((f2r.keep (Keep.of_wr W2t)).keep K2z)
 have D3g := (FD.keep K2z nin0 D2t)
 refine go_putF K X2z (host := "") (Or.inl (wd hw 103 rfl)) Via.refl e2z (fdg 6 D3g rfl) f3f (Or.inr ⟨(wd hw 104 rfl), rfl, rfl⟩) (wd hw 49 rfl) (ty := (.array .double)) (by decide) rfl rfl H1 (k7 rfl) rfl ?_
 intro T3h h3h X3h e3h W3h
 have kp3i : Keep h0 h3h [a1] := kp3e.trans (Keep.of_wr W3h) (allS (Or.inl (List.mem_of_getElem? (i := 0) rfl)) all0)
 have D3h : FD Z h3h a1 DSn (fun _ => 0) (dl (aI 2) (aI 3) (aA b0j) (aA r1f) (aA r1y) (aA r2m) (aA r3a) aU aU (aI 0) aU aU aU aU aU aU aU aU aU (aI 0) (aI 0)) := fdp hw 6 (aA r3a) D3g rfl rfl W3h
 refine go_aloadN K X3h (k7 rfl) rfl rfl rfl ?_
 refine go_aloadN K X3h (k7 rfl) rfl rfl rfl ?_
 refine go_getF K X3h (host := "") (Or.inl (wd hw 56 rfl)) Via.refl e3h (fdg 0 D3h rfl) (k7 rfl) rfl ?_
 intro T3j X3j e3j
 refine go_newarray K X3j (wd hw 10 rfl) e3j (k7 rfl) (i := 2) (cap := 2) rfl (by decide) (by decide) rfl (cells' := 6) (slots' := 17) rfl rfl (by decide) (by decide) ?_
 intro T3k h3k b3k g3k X3k e3k E3k A2400
 have z3l := (Nat.le_trans (Nat.le_trans z2x K2z.1) (Keep.of_wr W3h).1)
 have ga2401 : n0 ≤ b3k := Nat.le_trans z3l (Nat.le_of_eq g3k.symm)
 have gb3m : h0.size ≤ b3k := Nat.le_trans kp3i.1 (Nat.le_of_eq g3k.symm)
 have kp3n : Keep h0 h3k [a1] := kp3i.trans (Keep.ext (Keep.refl _ []) E3k) all0
 have f3o : AV Z h3k b3k .int [(.int (0 : Int32)), (.int (0 : Int32))] := A2400
 have f3p := ((f3f.keep (Keep.of_wr W3h)).keep (Keep.ext (Keep.refl _ []) E3k))
 have D3q := (FD.keep (Keep.ext (Keep.refl _ []) E3k) nin0 D3h)
 refine go_putF K X3k (host := "") (Or.inl (wd hw 105 rfl)) Via.refl e3k (fdg 7 D3q rfl) f3p (Or.inr ⟨(wd hw 106 rfl), rfl, rfl⟩) (wd hw 49 rfl) (ty := (.array .int)) (by decide) rfl rfl H1 (k7 rfl) rfl ?_
 intro T3r h3r X3r e3r W3r
 have kp3s : Keep h0 h3r [a1] := kp3n.trans (Keep.of_wr W3r) (allS (Or.inl (List.mem_of_getElem? (i := 0) rfl)) all0)
 have D3r : FD Z h3r a1 DSn (fun _ => 0) (dl (aI 2) (aI 3) (aA b0j) (aA r1f) (aA r1y) (aA r2m) (aA r3a) (aA b3k) aU (aI 0) aU aU aU aU aU aU aU aU aU (aI 0) (aI 0)) := fdp hw 7 (aA b3k) D3q rfl rfl W3r
 refine go_aloadN K X3r (k7 rfl) rfl rfl rfl ?_
 refine go_aloadN K X3r (k7 rfl) rfl rfl rfl ?_
 refine go_getF K X3r (host := "") (Or.inl (wd hw 58 rfl)) Via.refl e3r (fdg 1 D3r rfl) (k7 rfl) rfl ?_
 intro T3t X3t e3t
 refine go_aloadN K X3t (k7 rfl) rfl rfl rfl ?_
 refine go_getF K X3t (host := "") (Or.inl (wd hw 56 rfl)) Via.refl e3t (fdg 0 D3r rfl) (k7 rfl) rfl ?_
 intro T3u X3u e3u
 refine go_iadd K X3u (k7 rfl) rfl ?_
 rw [show ((3 : Int32) + (2 : Int32)) = (5 : Int32) from by decide]
 refine go_newarray K X3u (wd hw 10 rfl) e3u (k7 rfl) (i := 5) (cap := 5) rfl (by decide) (by decide) rfl (cells' := 7) (slots' := 22) rfl rfl (by decide) (by decide) ?_
 intro T3v h3v b3v g3v X3v e3v E3v A2412
 have z3w := (Nat.le_trans (Nat.le_trans z3l (Keep.ext (Keep.refl _ []) E3k).1) (Keep.of_wr W3r).1)
 have ga2413 : n0 ≤ b3v := Nat.le_trans z3w (Nat.le_of_eq g3v.symm)
 have gb3x : h0.size ≤ b3v := Nat.le_trans kp3s.1 (Nat.le_of_eq g3v.symm)
 have kp3y : Keep h0 h3v [a1] := kp3s.trans (Keep.ext (Keep.refl _ []) E3v) all0
 have f3z : AV Z h3v b3v .int [(.int (0 : Int32)), (.int (0 : Int32)), (.int (0 : Int32)), (.int (0 : Int32)), (.int (0 : Int32))] := A2412
 have f4a := ((f3p.keep (Keep.of_wr W3r)).keep (Keep.ext (Keep.refl _ []) E3v))
 have D4b := (FD.keep (Keep.ext (Keep.refl _ []) E3v) nin0 D3r)
 refine go_putF K X3v (host := "") (Or.inl (wd hw 107 rfl)) Via.refl e3v (fdg 8 D4b rfl) f4a (Or.inr ⟨(wd hw 108 rfl), rfl, rfl⟩) (wd hw 49 rfl) (ty := (.array .int)) (by decide) rfl rfl H1 (k7 rfl) rfl ?_
 intro T4c h4c X4c e4c W4c
 have kp4d : Keep h0 h4c [a1] := kp3y.trans (Keep.of_wr W4c) (allS (Or.inl (List.mem_of_getElem? (i := 0) rfl)) all0)
 have D4c : FD Z h4c a1 DSn (fun _ => 0) (dl (aI 2) (aI 3) (aA b0j) (aA r1f) (aA r1y) (aA r2m) (aA r3a) (aA b3k) (aA b3v) (aI 0) aU aU aU aU aU aU aU aU aU (aI 0) (aI 0)) := fdp hw 8 (aA b3v) D4b rfl rfl W4c
 refine go_aloadN K X4c (k7 rfl) rfl rfl rfl ?_
 refine go_aloadN K X4c (k7 rfl) rfl rfl rfl ?_
 refine go_getF K X4c (host := "") (Or.inl (wd hw 56 rfl)) Via.refl e4c (fdg 0 D4c rfl) (k7 rfl) rfl ?_
 intro T4e X4e e4e
 refine go_static K X4e (argsL := [(.int (2 : Int32))]) (stk := [(.ref a1)]) (wd hw 109 rfl) (wd hw 110 rfl) (wd hw 50 rfl) (wd hw 111 rfl) (by decide) (lenOf pd_4 rfl) e4e (rmBrw hw  h4c ) rfl rfl (k7 rfl) rfl (by decide) (W := 1) (Nat.le_of_eq rfl) (by decide) (cells' := 7) (slots' := 22) rfl rfl (by decide) (by decide) ?_
 rintro T4f h4f _ X4f e4f ⟨rfl, qe2423⟩
 show Go _ _ _ _ _ _ _ (T4f.setTop (mkF m 277 #[.val (.ref a1), .val (.ref x_cq), .val (.ref x_cs), .val (.ref r1f), .val (.int (2 : Int32)), .val (.int (2 : Int32)), .val (.int (1 : Int32)), .unset] [(.int (16384 : Int32)), (.ref a1)]))
 replace e4f := e4f.trans qe2423
 refine go_static K X4f (argsL := [(.int (16384 : Int32))]) (stk := [(.ref a1)]) (wd hw 129 rfl) (wd hw 130 rfl) (wd hw 122 rfl) (wd hw 131 rfl) (by decide) (lenOf pd_4 rfl) e4f (rmNtz hw  h4c ) rfl rfl (k7 rfl) rfl (by decide) (W := 1) (Nat.le_of_eq rfl) (by decide) (cells' := 7) (slots' := 22) rfl rfl (by decide) (by decide) ?_
 rintro T4g h4g _ X4g e4g ⟨rfl, qe2424⟩
 show Go _ _ _ _ _ _ _ (T4g.setTop (mkF m 280 #[.val (.ref a1), .val (.ref x_cq), .val (.ref x_cs), .val (.ref r1f), .val (.int (2 : Int32)), .val (.int (2 : Int32)), .val (.int (1 : Int32)), .unset] [(.int (14 : Int32)), (.ref a1)]))
 replace e4g := e4g.trans qe2424
 have f4h := (f4a.keep (Keep.of_wr W4c))
 refine go_putF K X4g (host := "") (Or.inl (wd hw 132 rfl)) Via.refl e4g (fdg 9 D4c rfl) f4h (Or.inr ⟨(wd hw 133 rfl), rfl, rfl⟩) (wd hw 49 rfl) (ty := .int) (by decide) rfl rfl H1 (k7 rfl) rfl ?_
 intro T4i h4i X4i e4i W4i
 have kp4j : Keep h0 h4i [a1] := kp4d.trans (Keep.of_wr W4i) (allS (Or.inl (List.mem_of_getElem? (i := 0) rfl)) all0)
 have D4i : FD Z h4i a1 DSn (fun _ => 0) (dl (aI 2) (aI 3) (aA b0j) (aA r1f) (aA r1y) (aA r2m) (aA r3a) (aA b3k) (aA b3v) (aI 14) aU aU aU aU aU aU aU aU aU (aI 0) (aI 0)) := fdp hw 9 (aI 14) D4c rfl rfl W4i
 refine go_iconst K X4i (1 : Int32) (k7 rfl) rfl rfl ?_
 refine go_aloadN K X4i (k7 rfl) rfl rfl rfl ?_
 refine go_getF K X4i (host := "") (Or.inl (wd hw 132 rfl)) Via.refl e4i (fdg 9 D4i rfl) (k7 rfl) rfl ?_
 intro T4k X4k e4k
 refine go_ishl K X4k (k7 rfl) rfl ?_
 rw [show ((1 : Int32) <<< ((14 : Int32) &&& 31)) = (16384 : Int32) from by decide]
 refine go_istoreN K X4k #[.val (.ref a1), .val (.ref x_cq), .val (.ref x_cs), .val (.int (16384 : Int32)), .val (.int (2 : Int32)), .val (.int (2 : Int32)), .val (.int (1 : Int32)), .unset] (k7 rfl) rfl rfl ?_
 refine go_aloadN K X4k (k7 rfl) rfl rfl rfl ?_
 refine go_aloadN K X4k (k7 rfl) rfl rfl rfl ?_
 refine go_getF K X4k (host := "") (Or.inl (wd hw 56 rfl)) Via.refl e4k (fdg 0 D4i rfl) (k7 rfl) rfl ?_
 intro T4l X4l e4l
 refine go_iloadN K X4l (k7 rfl) rfl rfl ?_
 refine go_iadd K X4l (k7 rfl) rfl ?_
 rw [show ((2 : Int32) + (16384 : Int32)) = (16386 : Int32) from by decide]
 refine go_iconst K X4l (1 : Int32) (k7 rfl) rfl rfl ?_
 refine go_isub K X4l (k7 rfl) rfl ?_
 rw [show ((16386 : Int32) - (1 : Int32)) = (16385 : Int32) from by decide]
 refine go_aloadN K X4l (k7 rfl) rfl rfl rfl ?_
 refine go_getF K X4l (host := "") (Or.inl (wd hw 132 rfl)) Via.refl e4l (fdg 9 D4i rfl) (k7 rfl) rfl ?_
 intro T4m X4m e4m
 refine go_ishr K X4m (k7 rfl) rfl ?_
 rw [show ((16385 : Int32) >>> ((14 : Int32) &&& 31)) = (1 : Int32) from by decide]
 refine go_anewD K X4m (wd hw 67 rfl) (wd hw 134 rfl) e4m (i := 1) (cap := 1) (k7 rfl) rfl (by decide) (by decide) rfl (cells' := 8) (slots' := 23) rfl rfl (by decide) (by decide) ?_
 intro T4n h4n b4n g4n X4n e4n E4n A2431
 have z4o := (Nat.le_trans (Nat.le_trans (Nat.le_trans z3w (Keep.ext (Keep.refl _ []) E3v).1) (Keep.of_wr W4c).1) (Keep.of_wr W4i).1)
 have ga2432 : n0 ≤ b4n := Nat.le_trans z4o (Nat.le_of_eq g4n.symm)
 have gb4p : h0.size ≤ b4n := Nat.le_trans kp4j.1 (Nat.le_of_eq g4n.symm)
 have kp4q : Keep h0 h4n [a1] := kp4j.trans (Keep.ext (Keep.refl _ []) E4n) all0
 have f4r : AA Z h4n b4n [.null] := A2431
 have f4s := ((f4h.keep (Keep.of_wr W4i)).keep (Keep.ext (Keep.refl _ []) E4n))
 have D4t := (FD.keep (Keep.ext (Keep.refl _ []) E4n) nin0 D4i)
 refine go_putF K X4n (host := "") (Or.inl (wd hw 135 rfl)) Via.refl e4n (fdg 10 D4t rfl) f4s (Or.inr ⟨(wd hw 136 rfl), rfl, rfl⟩) (wd hw 49 rfl) (ty := (.array (.array .double))) (by decide) rfl rfl H1 (k7 rfl) rfl ?_
 intro T4u h4u X4u e4u W4u
 have kp4v : Keep h0 h4u [a1] := kp4q.trans (Keep.of_wr W4u) (allS (Or.inl (List.mem_of_getElem? (i := 0) rfl)) all0)
 have D4u : FD Z h4u a1 DSn (fun _ => 0) (dl (aI 2) (aI 3) (aA b0j) (aA r1f) (aA r1y) (aA r2m) (aA r3a) (aA b3k) (aA b3v) (aI 14) (aA b4n) aU aU aU aU aU aU aU aU (aI 0) (aI 0)) := fdp hw 10 (aA b4n) D4t rfl rfl W4u
 refine go_iconst K X4u (0 : Int32) (k7 rfl) rfl rfl ?_
 refine go_istore K X4u #[.val (.ref a1), .val (.ref x_cq), .val (.ref x_cs), .val (.int (16384 : Int32)), .val (.int (0 : Int32)), .val (.int (2 : Int32)), .val (.int (1 : Int32)), .unset] (k7 rfl) rfl rfl ?_
 refine go_iload K X4u (k7 rfl) rfl rfl ?_
 refine go_aloadN K X4u (k7 rfl) rfl rfl rfl ?_
 refine go_getF K X4u (host := "") (Or.inl (wd hw 135 rfl)) Via.refl e4u (fdg 10 D4u rfl) (k7 rfl) rfl ?_
 intro T4w X4w e4w
 have f4x := (f4r.keep (Keep.of_wr W4u) (ninS (Ne.symm (Nat.ne_of_lt (Nat.lt_of_lt_of_le H3.lt gb4p))) nin0))
 refine go_arraylength K X4w e4w f4x.av (z := (1 : Int32)) rfl (k7 rfl) rfl ?_
 refine go_icmpF K X4w (k7 rfl) rfl (by decide : (0 : Int32) < (1 : Int32)) ?_
 refine go_iloadN K X4w (k7 rfl) rfl rfl ?_
 refine go_aloadN K X4w (k7 rfl) rfl rfl rfl ?_
 refine go_getF K X4w (host := "") (Or.inl (wd hw 56 rfl)) Via.refl e4w (fdg 0 D4u rfl) (k7 rfl) rfl ?_
 intro T4y X4y e4y
 refine go_iload K X4y (k7 rfl) rfl rfl ?_
 refine go_aloadN K X4y (k7 rfl) rfl rfl rfl ?_
 refine go_getF K X4y (host := "") (Or.inl (wd hw 132 rfl)) Via.refl e4y (fdg 9 D4u rfl) (k7 rfl) rfl ?_
 intro T4z X4z e4z
 refine go_ishl K X4z (k7 rfl) rfl ?_
 rw [show ((0 : Int32) <<< ((14 : Int32) &&& 31)) = (0 : Int32) from by decide]
 refine go_isub K X4z (k7 rfl) rfl ?_
 rw [show ((2 : Int32) - (0 : Int32)) = (2 : Int32) from by decide]
 refine go_static K X4z (argsL := [(.int (16384 : Int32)), (.int (2 : Int32))]) (stk := []) (wd hw 137 rfl) (wd hw 86 rfl) (wd hw 87 rfl) (wd hw 88 rfl) (by decide) (lenOf pd_3 rfl) e4z (rmmin4 hw  h4u ) rfl rfl (k7 rfl) rfl (by decide) (W := 0) (Nat.le_of_eq rfl) (by decide) (cells' := 8) (slots' := 23) rfl rfl (by decide) (by decide) ?_
 rintro T5a h5a _ X5a e5a ⟨rfl, qe2445⟩
 show Go _ _ _ _ _ _ _ (T5a.setTop (mkF m 339 #[.val (.ref a1), .val (.ref x_cq), .val (.ref x_cs), .val (.int (16384 : Int32)), .val (.int (0 : Int32)), .val (.int (2 : Int32)), .val (.int (1 : Int32)), .unset] [(.int (2 : Int32))]))
 replace e5a := e5a.trans qe2445
 refine go_istore K X5a #[.val (.ref a1), .val (.ref x_cq), .val (.ref x_cs), .val (.int (16384 : Int32)), .val (.int (0 : Int32)), .val (.int (2 : Int32)), .val (.int (1 : Int32)), .unset] (k7 rfl) rfl rfl ?_
 refine go_aloadN K X5a (k7 rfl) rfl rfl rfl ?_
 refine go_getF K X5a (host := "") (Or.inl (wd hw 135 rfl)) Via.refl e5a (fdg 10 D4u rfl) (k7 rfl) rfl ?_
 intro T5b X5b e5b
 refine go_iload K X5b (k7 rfl) rfl rfl ?_
 refine go_iload K X5b (k7 rfl) rfl rfl ?_
 refine go_aloadN K X5b (k7 rfl) rfl rfl rfl ?_
 refine go_getF K X5b (host := "") (Or.inl (wd hw 56 rfl)) Via.refl e5b (fdg 0 D4u rfl) (k7 rfl) rfl ?_
 intro T5c X5c e5c
 refine go_imul K X5c (k7 rfl) rfl ?_
 rw [show ((2 : Int32) * (2 : Int32)) = (4 : Int32) from by decide]
 refine go_newarrayD K X5c (wd hw 15 rfl) e5c (k7 rfl) (i := 4) (cap := 4) rfl (by decide) (by decide) rfl (cells' := 9) (slots' := 27) rfl rfl (by decide) (by decide) ?_
 intro T5d h5d b5d g5d X5d e5d E5d A2448 C5d
 have z5e := (Nat.le_trans (Nat.le_trans z4o (Keep.ext (Keep.refl _ []) E4n).1) (Keep.of_wr W4u).1)
 have ga2449 : n0 ≤ b5d := Nat.le_trans z5e (Nat.le_of_eq g5d.symm)
 have gb5f : h0.size ≤ b5d := Nat.le_trans kp4v.1 (Nat.le_of_eq g5d.symm)
 have kp5g : Keep h0 h5d [a1] := kp4v.trans (Keep.ext (Keep.refl _ []) E5d) all0
 have f5h : AD Z h5d b5d [0, 0, 0, 0] := A2448
 have f5i := (f4x.keep (Keep.ext (Keep.refl _ []) E5d) nin0)
 refine go_aastoreD K X5d e5d f5i (i := 0) rfl (Nat.le_of_ble_eq_true rfl) (f5i.sto (Ins.self C5d)) ga2432 (k7 rfl) rfl ?_
 intro T5j h5j X5j e5j W5j A2455
 have kp5k : Keep h0 h5j [a1] := kp5g.trans (Keep.of_wr W5j) (allS (Or.inr gb4p) all0)
 have f5l : AA Z h5j b4n [(.ref b5d)] := A2455
 refine go_iinc K X5j (1 : Int32) #[.val (.ref a1), .val (.ref x_cq), .val (.ref x_cs), .val (.int (16384 : Int32)), .val (.int ((0 : Int32) + (1 : Int32))), .val (.int (2 : Int32)), .val (.int (1 : Int32)), .unset] (k7 rfl) rfl rfl rfl rfl ?_
 rw [show ((0 : Int32) + (1 : Int32)) = (1 : Int32) from by decide]
 refine go_goto K X5j (k7 rfl) (by decide) rfl ?_
 refine go_iload K X5j (k7 rfl) rfl rfl ?_
 refine go_aloadN K X5j (k7 rfl) rfl rfl rfl ?_
 have D5m := (FD.keep (Keep.of_wr W5j) (ninS (Nat.ne_of_lt (Nat.lt_of_lt_of_le H3.lt gb4p)) nin0) (FD.keep (Keep.ext (Keep.refl _ []) E5d) nin0 D4u))
 refine go_getF K X5j (host := "") (Or.inl (wd hw 135 rfl)) Via.refl e5j (fdg 10 D5m rfl) (k7 rfl) rfl ?_
 intro T5n X5n e5n
 refine go_arraylength K X5n e5n f5l.av (z := (1 : Int32)) rfl (k7 rfl) rfl ?_
 refine go_icmpT K X5n (k7 rfl) (by decide) rfl (by decide : ¬ (1 : Int32) < (1 : Int32)) ?_
 refine go_aloadN K X5n (k7 rfl) rfl rfl rfl ?_
 refine go_aloadN K X5n (k7 rfl) rfl rfl rfl ?_
 refine go_getF K X5n (host := "") (Or.inl (wd hw 56 rfl)) Via.refl e5n (fdg 0 D5m rfl) (k7 rfl) rfl ?_
 intro T5o X5o e5o
 refine go_newarrayD K X5o (wd hw 15 rfl) e5o (k7 rfl) (i := 2) (cap := 2) rfl (by decide) (by decide) rfl (cells' := 10) (slots' := 29) rfl rfl (by decide) (by decide) ?_
 intro T5p h5p b5p g5p X5p e5p E5p A2461 C5p
 have z5q := (Nat.le_trans (Nat.le_trans z5e (Keep.ext (Keep.refl _ []) E5d).1) (Keep.of_wr W5j).1)
 have ga2462 : n0 ≤ b5p := Nat.le_trans z5q (Nat.le_of_eq g5p.symm)
 have gb5r : h0.size ≤ b5p := Nat.le_trans kp5k.1 (Nat.le_of_eq g5p.symm)
 have kp5s : Keep h0 h5p [a1] := kp5k.trans (Keep.ext (Keep.refl _ []) E5p) all0
 have f5t : AD Z h5p b5p [0, 0] := A2461
 have f5u := ((((f4s.keep (Keep.of_wr W4u)).keep (Keep.ext (Keep.refl _ []) E5d)).keep (Keep.of_wr W5j)).keep (Keep.ext (Keep.refl _ []) E5p))
 have D5v := (FD.keep (Keep.ext (Keep.refl _ []) E5p) nin0 D5m)
 refine go_putF K X5p (host := "") (Or.inl (wd hw 138 rfl)) Via.refl e5p (fdg 11 D5v rfl) f5u (Or.inr ⟨(wd hw 139 rfl), rfl, rfl⟩) (wd hw 49 rfl) (ty := (.array .double)) (by decide) rfl rfl H1 (k7 rfl) rfl ?_
 intro T5w h5w X5w e5w W5w
 have kp5x : Keep h0 h5w [a1] := kp5s.trans (Keep.of_wr W5w) (allS (Or.inl (List.mem_of_getElem? (i := 0) rfl)) all0)
 have D5w : FD Z h5w a1 DSn (fun _ => 0) (dl (aI 2) (aI 3) (aA b0j) (aA r1f) (aA r1y) (aA r2m) (aA r3a) (aA b3k) (aA b3v) (aI 14) (aA b4n) (aA b5p) aU aU aU aU aU aU aU (aI 0) (aI 0)) := fdp hw 11 (aA b5p) D5v rfl rfl W5w
 refine go_aloadN K X5w (k7 rfl) rfl rfl rfl ?_
 refine go_aloadN K X5w (k7 rfl) rfl rfl rfl ?_
 refine go_getF K X5w (host := "") (Or.inl (wd hw 58 rfl)) Via.refl e5w (fdg 1 D5w rfl) (k7 rfl) rfl ?_
 intro T5y X5y e5y
 refine go_newarrayD K X5y (wd hw 15 rfl) e5y (k7 rfl) (i := 3) (cap := 3) rfl (by decide) (by decide) rfl (cells' := 11) (slots' := 32) rfl rfl (by decide) (by decide) ?_
 intro T5z h5z b5z g5z X5z e5z E5z A2472 C5z
 have z6a := (Nat.le_trans (Nat.le_trans z5q (Keep.ext (Keep.refl _ []) E5p).1) (Keep.of_wr W5w).1)
 have ga2473 : n0 ≤ b5z := Nat.le_trans z6a (Nat.le_of_eq g5z.symm)
 have gb6b : h0.size ≤ b5z := Nat.le_trans kp5x.1 (Nat.le_of_eq g5z.symm)
 have kp6c : Keep h0 h5z [a1] := kp5x.trans (Keep.ext (Keep.refl _ []) E5z) all0
 have f6d : AD Z h5z b5z [0, 0, 0] := A2472
 have f6e := ((f5u.keep (Keep.of_wr W5w)).keep (Keep.ext (Keep.refl _ []) E5z))
 have D6f := (FD.keep (Keep.ext (Keep.refl _ []) E5z) nin0 D5w)
 refine go_putF K X5z (host := "") (Or.inl (wd hw 140 rfl)) Via.refl e5z (fdg 12 D6f rfl) f6e (Or.inr ⟨(wd hw 141 rfl), rfl, rfl⟩) (wd hw 49 rfl) (ty := (.array .double)) (by decide) rfl rfl H1 (k7 rfl) rfl ?_
 intro T6g h6g X6g e6g W6g
 have kp6h : Keep h0 h6g [a1] := kp6c.trans (Keep.of_wr W6g) (allS (Or.inl (List.mem_of_getElem? (i := 0) rfl)) all0)
 have D6g : FD Z h6g a1 DSn (fun _ => 0) (dl (aI 2) (aI 3) (aA b0j) (aA r1f) (aA r1y) (aA r2m) (aA r3a) (aA b3k) (aA b3v) (aI 14) (aA b4n) (aA b5p) (aA b5z) aU aU aU aU aU aU (aI 0) (aI 0)) := fdp hw 12 (aA b5z) D6f rfl rfl W6g
 refine go_aloadN K X6g (k7 rfl) rfl rfl rfl ?_
 refine go_aloadN K X6g (k7 rfl) rfl rfl rfl ?_
 refine go_getF K X6g (host := "") (Or.inl (wd hw 56 rfl)) Via.refl e6g (fdg 0 D6g rfl) (k7 rfl) rfl ?_
 intro T6i X6i e6i
 refine go_newarrayD K X6i (wd hw 15 rfl) e6i (k7 rfl) (i := 2) (cap := 2) rfl (by decide) (by decide) rfl (cells' := 12) (slots' := 34) rfl rfl (by decide) (by decide) ?_
 intro T6j h6j b6j g6j X6j e6j E6j A2483 C6j
 have z6k := (Nat.le_trans (Nat.le_trans z6a (Keep.ext (Keep.refl _ []) E5z).1) (Keep.of_wr W6g).1)
 have ga2484 : n0 ≤ b6j := Nat.le_trans z6k (Nat.le_of_eq g6j.symm)
 have gb6l : h0.size ≤ b6j := Nat.le_trans kp6h.1 (Nat.le_of_eq g6j.symm)
 have kp6m : Keep h0 h6j [a1] := kp6h.trans (Keep.ext (Keep.refl _ []) E6j) all0
 have f6n : AD Z h6j b6j [0, 0] := A2483
 have f6o := ((f6e.keep (Keep.of_wr W6g)).keep (Keep.ext (Keep.refl _ []) E6j))
 have D6p := (FD.keep (Keep.ext (Keep.refl _ []) E6j) nin0 D6g)
 refine go_putF K X6j (host := "") (Or.inl (wd hw 142 rfl)) Via.refl e6j (fdg 13 D6p rfl) f6o (Or.inr ⟨(wd hw 143 rfl), rfl, rfl⟩) (wd hw 49 rfl) (ty := (.array .double)) (by decide) rfl rfl H1 (k7 rfl) rfl ?_
 intro T6q h6q X6q e6q W6q
 have kp6r : Keep h0 h6q [a1] := kp6m.trans (Keep.of_wr W6q) (allS (Or.inl (List.mem_of_getElem? (i := 0) rfl)) all0)
 have D6q : FD Z h6q a1 DSn (fun _ => 0) (dl (aI 2) (aI 3) (aA b0j) (aA r1f) (aA r1y) (aA r2m) (aA r3a) (aA b3k) (aA b3v) (aI 14) (aA b4n) (aA b5p) (aA b5z) (aA b6j) aU aU aU aU aU (aI 0) (aI 0)) := fdp hw 13 (aA b6j) D6p rfl rfl W6q
 refine go_aloadN K X6q (k7 rfl) rfl rfl rfl ?_
 refine go_aloadN K X6q (k7 rfl) rfl rfl rfl ?_
 refine go_getF K X6q (host := "") (Or.inl (wd hw 58 rfl)) Via.refl e6q (fdg 1 D6q rfl) (k7 rfl) rfl ?_
 intro T6s X6s e6s
 refine go_newarrayD K X6s (wd hw 15 rfl) e6s (k7 rfl) (i := 3) (cap := 3) rfl (by decide) (by decide) rfl (cells' := 13) (slots' := 37) rfl rfl (by decide) (by decide) ?_
 intro T6t h6t b6t g6t X6t e6t E6t A2494 C6t
 have z6u := (Nat.le_trans (Nat.le_trans z6k (Keep.ext (Keep.refl _ []) E6j).1) (Keep.of_wr W6q).1)
 have ga2495 : n0 ≤ b6t := Nat.le_trans z6u (Nat.le_of_eq g6t.symm)
 have gb6v : h0.size ≤ b6t := Nat.le_trans kp6r.1 (Nat.le_of_eq g6t.symm)
 have kp6w : Keep h0 h6t [a1] := kp6r.trans (Keep.ext (Keep.refl _ []) E6t) all0
 have f6x : AD Z h6t b6t [0, 0, 0] := A2494
 have f6y := ((f6o.keep (Keep.of_wr W6q)).keep (Keep.ext (Keep.refl _ []) E6t))
 have D6z := (FD.keep (Keep.ext (Keep.refl _ []) E6t) nin0 D6q)
 refine go_putF K X6t (host := "") (Or.inl (wd hw 144 rfl)) Via.refl e6t (fdg 14 D6z rfl) f6y (Or.inr ⟨(wd hw 145 rfl), rfl, rfl⟩) (wd hw 49 rfl) (ty := (.array .double)) (by decide) rfl rfl H1 (k7 rfl) rfl ?_
 intro T7a h7a X7a e7a W7a
 have kp7b : Keep h0 h7a [a1] := kp6w.trans (Keep.of_wr W7a) (allS (Or.inl (List.mem_of_getElem? (i := 0) rfl)) all0)
 have D7a : FD Z h7a a1 DSn (fun _ => 0) (dl (aI 2) (aI 3) (aA b0j) (aA r1f) (aA r1y) (aA r2m) (aA r3a) (aA b3k) (aA b3v) (aI 14) (aA b4n) (aA b5p) (aA b5z) (aA b6j) (aA b6t) aU aU aU aU (aI 0) (aI 0)) := fdp hw 14 (aA b6t) D6z rfl rfl W7a
 refine go_aloadN K X7a (k7 rfl) rfl rfl rfl ?_
 refine go_aloadN K X7a (k7 rfl) rfl rfl rfl ?_
 refine go_getF K X7a (host := "") (Or.inl (wd hw 56 rfl)) Via.refl e7a (fdg 0 D7a rfl) (k7 rfl) rfl ?_
 intro T7c X7c e7c
 refine go_newarrayD K X7c (wd hw 15 rfl) e7c (k7 rfl) (i := 2) (cap := 2) rfl (by decide) (by decide) rfl (cells' := 14) (slots' := 39) rfl rfl (by decide) (by decide) ?_
 intro T7d h7d b7d g7d X7d e7d E7d A2505 C7d
 have z7e := (Nat.le_trans (Nat.le_trans z6u (Keep.ext (Keep.refl _ []) E6t).1) (Keep.of_wr W7a).1)
 have ga2506 : n0 ≤ b7d := Nat.le_trans z7e (Nat.le_of_eq g7d.symm)
 have gb7f : h0.size ≤ b7d := Nat.le_trans kp7b.1 (Nat.le_of_eq g7d.symm)
 have kp7g : Keep h0 h7d [a1] := kp7b.trans (Keep.ext (Keep.refl _ []) E7d) all0
 have f7h : AD Z h7d b7d [0, 0] := A2505
 have f7i := ((f6y.keep (Keep.of_wr W7a)).keep (Keep.ext (Keep.refl _ []) E7d))
 have D7j := (FD.keep (Keep.ext (Keep.refl _ []) E7d) nin0 D7a)
 refine go_putF K X7d (host := "") (Or.inl (wd hw 146 rfl)) Via.refl e7d (fdg 15 D7j rfl) f7i (Or.inr ⟨(wd hw 147 rfl), rfl, rfl⟩) (wd hw 49 rfl) (ty := (.array .double)) (by decide) rfl rfl H1 (k7 rfl) rfl ?_
 intro T7k h7k X7k e7k W7k
 have kp7l : Keep h0 h7k [a1] := kp7g.trans (Keep.of_wr W7k) (allS (Or.inl (List.mem_of_getElem? (i := 0) rfl)) all0)
 have D7k : FD Z h7k a1 DSn (fun _ => 0) (dl (aI 2) (aI 3) (aA b0j) (aA r1f) (aA r1y) (aA r2m) (aA r3a) (aA b3k) (aA b3v) (aI 14) (aA b4n) (aA b5p) (aA b5z) (aA b6j) (aA b6t) (aA b7d) aU aU aU (aI 0) (aI 0)) := fdp hw 15 (aA b7d) D7j rfl rfl W7k
 refine go_aloadN K X7k (k7 rfl) rfl rfl rfl ?_
 refine go_aloadN K X7k (k7 rfl) rfl rfl rfl ?_
 refine go_getF K X7k (host := "") (Or.inl (wd hw 56 rfl)) Via.refl e7k (fdg 0 D7k rfl) (k7 rfl) rfl ?_
 intro T7m X7m e7m
 refine go_newarrayD K X7m (wd hw 15 rfl) e7m (k7 rfl) (i := 2) (cap := 2) rfl (by decide) (by decide) rfl (cells' := 15) (slots' := 41) rfl rfl (by decide) (by decide) ?_
 intro T7n h7n b7n g7n X7n e7n E7n A2516 C7n
 have z7o := (Nat.le_trans (Nat.le_trans z7e (Keep.ext (Keep.refl _ []) E7d).1) (Keep.of_wr W7k).1)
 have ga2517 : n0 ≤ b7n := Nat.le_trans z7o (Nat.le_of_eq g7n.symm)
 have gb7p : h0.size ≤ b7n := Nat.le_trans kp7l.1 (Nat.le_of_eq g7n.symm)
 have kp7q : Keep h0 h7n [a1] := kp7l.trans (Keep.ext (Keep.refl _ []) E7n) all0
 have f7r : AD Z h7n b7n [0, 0] := A2516
 have f7s := ((f7i.keep (Keep.of_wr W7k)).keep (Keep.ext (Keep.refl _ []) E7n))
 have D7t := (FD.keep (Keep.ext (Keep.refl _ []) E7n) nin0 D7k)
 refine go_putF K X7n (host := "") (Or.inl (wd hw 148 rfl)) Via.refl e7n (fdg 16 D7t rfl) f7s (Or.inr ⟨(wd hw 149 rfl), rfl, rfl⟩) (wd hw 49 rfl) (ty := (.array .double)) (by decide) rfl rfl H1 (k7 rfl) rfl ?_
 intro T7u h7u X7u e7u W7u
 have kp7v : Keep h0 h7u [a1] := kp7q.trans (Keep.of_wr W7u) (allS (Or.inl (List.mem_of_getElem? (i := 0) rfl)) all0)
 have D7u : FD Z h7u a1 DSn (fun _ => 0) (dl (aI 2) (aI 3) (aA b0j) (aA r1f) (aA r1y) (aA r2m) (aA r3a) (aA b3k) (aA b3v) (aI 14) (aA b4n) (aA b5p) (aA b5z) (aA b6j) (aA b6t) (aA b7d) (aA b7n) aU aU (aI 0) (aI 0)) := fdp hw 16 (aA b7n) D7t rfl rfl W7u
 refine go_aloadN K X7u (k7 rfl) rfl rfl rfl ?_
 refine go_aloadN K X7u (k7 rfl) rfl rfl rfl ?_
 refine go_getF K X7u (host := "") (Or.inl (wd hw 56 rfl)) Via.refl e7u (fdg 0 D7u rfl) (k7 rfl) rfl ?_
 intro T7w X7w e7w
 refine go_newarray K X7w (wd hw 10 rfl) e7w (k7 rfl) (i := 2) (cap := 2) rfl (by decide) (by decide) rfl (cells' := 16) (slots' := 43) rfl rfl (by decide) (by decide) ?_
 intro T7x h7x b7x g7x X7x e7x E7x A2527
 have z7y := (Nat.le_trans (Nat.le_trans z7o (Keep.ext (Keep.refl _ []) E7n).1) (Keep.of_wr W7u).1)
 have ga2528 : n0 ≤ b7x := Nat.le_trans z7y (Nat.le_of_eq g7x.symm)
 have gb7z : h0.size ≤ b7x := Nat.le_trans kp7v.1 (Nat.le_of_eq g7x.symm)
 have kp8a : Keep h0 h7x [a1] := kp7v.trans (Keep.ext (Keep.refl _ []) E7x) all0
 have f8b : AV Z h7x b7x .int [(.int (0 : Int32)), (.int (0 : Int32))] := A2527
 have f8c := ((f7s.keep (Keep.of_wr W7u)).keep (Keep.ext (Keep.refl _ []) E7x))
 have D8d := (FD.keep (Keep.ext (Keep.refl _ []) E7x) nin0 D7u)
 refine go_putF K X7x (host := "") (Or.inl (wd hw 150 rfl)) Via.refl e7x (fdg 17 D8d rfl) f8c (Or.inr ⟨(wd hw 151 rfl), rfl, rfl⟩) (wd hw 49 rfl) (ty := (.array .int)) (by decide) rfl rfl H1 (k7 rfl) rfl ?_
 intro T8e h8e X8e e8e W8e
 have kp8f : Keep h0 h8e [a1] := kp8a.trans (Keep.of_wr W8e) (allS (Or.inl (List.mem_of_getElem? (i := 0) rfl)) all0)
 have D8e : FD Z h8e a1 DSn (fun _ => 0) (dl (aI 2) (aI 3) (aA b0j) (aA r1f) (aA r1y) (aA r2m) (aA r3a) (aA b3k) (aA b3v) (aI 14) (aA b4n) (aA b5p) (aA b5z) (aA b6j) (aA b6t) (aA b7d) (aA b7n) (aA b7x) aU (aI 0) (aI 0)) := fdp hw 17 (aA b7x) D8d rfl rfl W8e
 refine go_aloadN K X8e (k7 rfl) rfl rfl rfl ?_
 refine go_aloadN K X8e (k7 rfl) rfl rfl rfl ?_
 refine go_getF K X8e (host := "") (Or.inl (wd hw 56 rfl)) Via.refl e8e (fdg 0 D8e rfl) (k7 rfl) rfl ?_
 intro T8g X8g e8g
 refine go_newarray K X8g (wd hw 10 rfl) e8g (k7 rfl) (i := 2) (cap := 2) rfl (by decide) (by decide) rfl (cells' := 17) (slots' := 45) rfl rfl (by decide) (by decide) ?_
 intro T8h h8h b8h g8h X8h e8h E8h A2538
 have z8i := (Nat.le_trans (Nat.le_trans z7y (Keep.ext (Keep.refl _ []) E7x).1) (Keep.of_wr W8e).1)
 have ga2539 : n0 ≤ b8h := Nat.le_trans z8i (Nat.le_of_eq g8h.symm)
 have gb8j : h0.size ≤ b8h := Nat.le_trans kp8f.1 (Nat.le_of_eq g8h.symm)
 have kp8k : Keep h0 h8h [a1] := kp8f.trans (Keep.ext (Keep.refl _ []) E8h) all0
 have f8l : AV Z h8h b8h .int [(.int (0 : Int32)), (.int (0 : Int32))] := A2538
 have f8m := ((f8c.keep (Keep.of_wr W8e)).keep (Keep.ext (Keep.refl _ []) E8h))
 have D8n := (FD.keep (Keep.ext (Keep.refl _ []) E8h) nin0 D8e)
 refine go_putF K X8h (host := "") (Or.inl (wd hw 152 rfl)) Via.refl e8h (fdg 18 D8n rfl) f8m (Or.inr ⟨(wd hw 153 rfl), rfl, rfl⟩) (wd hw 49 rfl) (ty := (.array .int)) (by decide) rfl rfl H1 (k7 rfl) rfl ?_
 intro T8o h8o X8o e8o W8o
 have kp8p : Keep h0 h8o [a1] := kp8k.trans (Keep.of_wr W8o) (allS (Or.inl (List.mem_of_getElem? (i := 0) rfl)) all0)
 have D8o : FD Z h8o a1 DSn (fun _ => 0) (dl (aI 2) (aI 3) (aA b0j) (aA r1f) (aA r1y) (aA r2m) (aA r3a) (aA b3k) (aA b3v) (aI 14) (aA b4n) (aA b5p) (aA b5z) (aA b6j) (aA b6t) (aA b7d) (aA b7n) (aA b7x) (aA b8h) (aI 0) (aI 0)) := fdp hw 18 (aA b8h) D8n rfl rfl W8o
 refine go_aloadN K X8o (k7 rfl) rfl rfl rfl ?_
 have l8q := (Nat.le_trans (Keep.of_wr W4c).1 (Keep.of_wr W4i).1)
 have l8r := (Nat.le_trans (Keep.of_wr W0b).1 (Keep.of_wr W0f).1)
 have N : NX n0 (xl [a1, b0j, r1f, r1y, r2m, r3a, b3k, b3v, b4n, b5d, b5p, b5z, b6j, b6t, b7d, b7n, b7x, b8h]) := nx_of (inc2 (Nat.lt_of_lt_of_le (Nat.lt_of_lt_of_le H3.lt l8r) (Nat.le_of_eq g0j.symm)) (inc2 (Nat.lt_of_lt_of_le (Nat.lt_of_lt_of_le C0j.lt (Keep.of_wr W0q).1) f1g) (inc2 (Nat.lt_of_lt_of_le (Nat.lt_of_lt_of_le f1h.lt (Keep.of_wr W1m).1) f1z) (inc2 (Nat.lt_of_lt_of_le (Nat.lt_of_lt_of_le f2a.lt (Keep.of_wr W2f).1) f2n) (inc2 (Nat.lt_of_lt_of_le (Nat.lt_of_lt_of_le f2o.lt (Keep.of_wr W2t).1) f3b) (inc2 (Nat.lt_of_lt_of_le (Nat.lt_of_lt_of_le f3c.lt (Keep.of_wr W3h).1) (Nat.le_of_eq g3k.symm)) (inc2 (Nat.lt_of_lt_of_le (Nat.lt_of_lt_of_le f3o.lt (Keep.of_wr W3r).1) (Nat.le_of_eq g3v.symm)) (inc2 (Nat.lt_of_lt_of_le (Nat.lt_of_lt_of_le f3z.lt l8q) (Nat.le_of_eq g4n.symm)) (inc2 (Nat.lt_of_lt_of_le (Nat.lt_of_lt_of_le f4r.lt (Keep.of_wr W4u).1) (Nat.le_of_eq g5d.symm)) (inc2 (Nat.lt_of_lt_of_le (Nat.lt_of_lt_of_le C5d.lt (Keep.of_wr W5j).1) (Nat.le_of_eq g5p.symm)) (inc2 (Nat.lt_of_lt_of_le (Nat.lt_of_lt_of_le C5p.lt (Keep.of_wr W5w).1) (Nat.le_of_eq g5z.symm)) (inc2 (Nat.lt_of_lt_of_le (Nat.lt_of_lt_of_le C5z.lt (Keep.of_wr W6g).1) (Nat.le_of_eq g6j.symm)) (inc2 (Nat.lt_of_lt_of_le (Nat.lt_of_lt_of_le C6j.lt (Keep.of_wr W6q).1) (Nat.le_of_eq g6t.symm)) (inc2 (Nat.lt_of_lt_of_le (Nat.lt_of_lt_of_le C6t.lt (Keep.of_wr W7a).1) (Nat.le_of_eq g7d.symm)) (inc2 (Nat.lt_of_lt_of_le (Nat.lt_of_lt_of_le C7d.lt (Keep.of_wr W7k).1) (Nat.le_of_eq g7n.symm)) (inc2 (Nat.lt_of_lt_of_le (Nat.lt_of_lt_of_le C7n.lt (Keep.of_wr W7u).1) (Nat.le_of_eq g7x.symm)) (inc2 (Nat.lt_of_lt_of_le (Nat.lt_of_lt_of_le f8b.lt (Keep.of_wr W8e).1) (Nat.le_of_eq g8h.symm)) inc1))))))))))))))))) H1 rfl
 have s8s := ks (Keep.of_wr W8o) (Keep.refl _ [a1, b4n]) (allS List.mem_cons_self all0)
 have s8t := ks (Keep.ext (Keep.refl _ []) E8h) s8s all0
 have s8u := ks (Keep.of_wr W8e) s8t (allS List.mem_cons_self all0)
 have s8v := ks (Keep.ext (Keep.refl _ []) E7x) s8u all0
 have s8w := ks (Keep.of_wr W7u) s8v (allS List.mem_cons_self all0)
 have s8x := ks (Keep.ext (Keep.refl _ []) E7n) s8w all0
 have s8y := ks (Keep.of_wr W7k) s8x (allS List.mem_cons_self all0)
 have s8z := ks (Keep.ext (Keep.refl _ []) E7d) s8y all0
 have s9a := ks (Keep.of_wr W7a) s8z (allS List.mem_cons_self all0)
 have s9b := ks (Keep.ext (Keep.refl _ []) E6t) s9a all0
 have s9c := ks (Keep.of_wr W6q) s9b (allS List.mem_cons_self all0)
 have s9d := ks (Keep.ext (Keep.refl _ []) E6j) s9c all0
 have s9e := ks (Keep.of_wr W6g) s9d (allS List.mem_cons_self all0)
 have s9f := ks (Keep.ext (Keep.refl _ []) E5z) s9e all0
 have s9g := ks (Keep.of_wr W5w) s9f (allS List.mem_cons_self all0)
 have s9h := ks (Keep.ext (Keep.refl _ []) E5p) s9g all0
 have s9i := ks (Keep.of_wr W5j) s9h (allS (List.mem_cons_of_mem _ List.mem_cons_self) all0)
 have s9j := ks (Keep.ext (Keep.refl _ []) E5d) s9i all0
 have s9k := ks (Keep.of_wr W4u) s9j (allS List.mem_cons_self all0)
 have s9l := ks (Keep.ext (Keep.refl _ []) E4n) s9k all0
 have s9m := ks (Keep.of_wr W4i) s9l (allS List.mem_cons_self all0)
 have s9n := ks (Keep.of_wr W4c) s9m (allS List.mem_cons_self all0)
 have s9o := ks (Keep.ext (Keep.refl _ []) E3v) s9n all0
 have s9p := ks (Keep.of_wr W3r) s9o (allS List.mem_cons_self all0)
 have s9q := ks (Keep.ext (Keep.refl _ []) E3k) s9p all0
 have s9r := ks (Keep.of_wr W3h) s9q (allS List.mem_cons_self all0)
 have s9s := ks K2z s9r all0
 have s9t := ks (Keep.of_wr W2t) s9s (allS List.mem_cons_self all0)
 have s9u := ks K2l s9t all0
 have s9v := ks (Keep.of_wr W2f) s9u (allS List.mem_cons_self all0)
 have s9w := ks K1x s9v all0
 have s9x := ks (Keep.of_wr W1m) s9w (allS List.mem_cons_self all0)
 have s9y := ks K1e s9x all0
 have s9z := ks (Keep.of_wr W0q) s9y (allS List.mem_cons_self all0)
 have s10a := ks (Keep.ext (Keep.refl _ []) E0j) s9z all0
 have l10b := (Nat.le_trans (Nat.le_trans (Nat.le_trans (Nat.le_trans (Nat.le_trans (Nat.le_trans (Nat.le_trans (Nat.le_trans (Nat.le_trans (Nat.le_trans (Nat.le_trans (Nat.le_trans (Nat.le_trans (Keep.of_wr W0q).1 K1e.1) (Keep.of_wr W1m).1) K1x.1) (Keep.of_wr W2f).1) K2l.1) (Keep.of_wr W2t).1) K2z.1) (Keep.of_wr W3h).1) (Keep.ext (Keep.refl _ []) E3k).1) (Keep.of_wr W3r).1) (Keep.ext (Keep.refl _ []) E3v).1) (Keep.of_wr W4c).1) (Keep.of_wr W4i).1)
 have f10c := f1r.keep s9w (ninS (Ne.symm (Nat.ne_of_lt (Nat.lt_of_lt_of_le H3.lt gb0l))) (ninS (Nat.ne_of_lt (Nat.lt_of_lt_of_le (Nat.lt_of_lt_of_le C0j.lt l10b) (Nat.le_of_eq g4n.symm))) nin0))
 have l10d := (Nat.le_trans (Nat.le_trans (Nat.le_trans (Nat.le_trans (Nat.le_trans (Nat.le_trans (Nat.le_trans (Nat.le_trans (Nat.le_trans (Nat.le_trans (Nat.le_trans (Keep.of_wr W1m).1 K1x.1) (Keep.of_wr W2f).1) K2l.1) (Keep.of_wr W2t).1) K2z.1) (Keep.of_wr W3h).1) (Keep.ext (Keep.refl _ []) E3k).1) (Keep.of_wr W3r).1) (Keep.ext (Keep.refl _ []) E3v).1) (Keep.of_wr W4c).1) (Keep.of_wr W4i).1)
 have f10e := f1p.keep s9w (ninS (Ne.symm (Nat.ne_of_lt (Nat.lt_of_lt_of_le H3.lt gb1i))) (ninS (Nat.ne_of_lt (Nat.lt_of_lt_of_le (Nat.lt_of_lt_of_le f1h.lt l10d) (Nat.le_of_eq g4n.symm))) nin0))
 have l10f := (Nat.le_trans (Nat.le_trans (Nat.le_trans (Nat.le_trans (Nat.le_trans (Nat.le_trans (Nat.le_trans (Nat.le_trans (Nat.le_trans (Keep.of_wr W2f).1 K2l.1) (Keep.of_wr W2t).1) K2z.1) (Keep.of_wr W3h).1) (Keep.ext (Keep.refl _ []) E3k).1) (Keep.of_wr W3r).1) (Keep.ext (Keep.refl _ []) E3v).1) (Keep.of_wr W4c).1) (Keep.of_wr W4i).1)
 have f10g := f2a.keep s9v (ninS (Ne.symm (Nat.ne_of_lt (Nat.lt_of_lt_of_le H3.lt gb2b))) (ninS (Nat.ne_of_lt (Nat.lt_of_lt_of_le (Nat.lt_of_lt_of_le f2a.lt l10f) (Nat.le_of_eq g4n.symm))) nin0))
 have l10h := (Nat.le_trans (Nat.le_trans (Nat.le_trans (Nat.le_trans (Nat.le_trans (Nat.le_trans (Nat.le_trans (Keep.of_wr W2t).1 K2z.1) (Keep.of_wr W3h).1) (Keep.ext (Keep.refl _ []) E3k).1) (Keep.of_wr W3r).1) (Keep.ext (Keep.refl _ []) E3v).1) (Keep.of_wr W4c).1) (Keep.of_wr W4i).1)
 have f10i := f2o.keep s9t (ninS (Ne.symm (Nat.ne_of_lt (Nat.lt_of_lt_of_le H3.lt gb2p))) (ninS (Nat.ne_of_lt (Nat.lt_of_lt_of_le (Nat.lt_of_lt_of_le f2o.lt l10h) (Nat.le_of_eq g4n.symm))) nin0))
 have l10j := (Nat.le_trans (Nat.le_trans (Nat.le_trans (Nat.le_trans (Nat.le_trans (Keep.of_wr W3h).1 (Keep.ext (Keep.refl _ []) E3k).1) (Keep.of_wr W3r).1) (Keep.ext (Keep.refl _ []) E3v).1) (Keep.of_wr W4c).1) (Keep.of_wr W4i).1)
 have f10k := f3c.keep s9r (ninS (Ne.symm (Nat.ne_of_lt (Nat.lt_of_lt_of_le H3.lt gb3d))) (ninS (Nat.ne_of_lt (Nat.lt_of_lt_of_le (Nat.lt_of_lt_of_le f3c.lt l10j) (Nat.le_of_eq g4n.symm))) nin0))
 have l10l := (Nat.le_trans (Nat.le_trans (Nat.le_trans (Keep.of_wr W3r).1 (Keep.ext (Keep.refl _ []) E3v).1) (Keep.of_wr W4c).1) (Keep.of_wr W4i).1)
 have f10m := f3o.keep s9p (ninS (Ne.symm (Nat.ne_of_lt (Nat.lt_of_lt_of_le H3.lt gb3m))) (ninS (Nat.ne_of_lt (Nat.lt_of_lt_of_le (Nat.lt_of_lt_of_le f3o.lt l10l) (Nat.le_of_eq g4n.symm))) nin0))
 have f10n := f3z.keep s9n (ninS (Ne.symm (Nat.ne_of_lt (Nat.lt_of_lt_of_le H3.lt gb3x))) (ninS (Nat.ne_of_lt (Nat.lt_of_lt_of_le (Nat.lt_of_lt_of_le f3z.lt l8q) (Nat.le_of_eq g4n.symm))) nin0))
 have f10o := ((((((((((((((((f5l.keep (Keep.ext (Keep.refl _ []) E5p) nin0).keep (Keep.of_wr W5w) (ninS (Ne.symm (Nat.ne_of_lt (Nat.lt_of_lt_of_le H3.lt gb4p))) nin0)).keep (Keep.ext (Keep.refl _ []) E5z) nin0).keep (Keep.of_wr W6g) (ninS (Ne.symm (Nat.ne_of_lt (Nat.lt_of_lt_of_le H3.lt gb4p))) nin0)).keep (Keep.ext (Keep.refl _ []) E6j) nin0).keep (Keep.of_wr W6q) (ninS (Ne.symm (Nat.ne_of_lt (Nat.lt_of_lt_of_le H3.lt gb4p))) nin0)).keep (Keep.ext (Keep.refl _ []) E6t) nin0).keep (Keep.of_wr W7a) (ninS (Ne.symm (Nat.ne_of_lt (Nat.lt_of_lt_of_le H3.lt gb4p))) nin0)).keep (Keep.ext (Keep.refl _ []) E7d) nin0).keep (Keep.of_wr W7k) (ninS (Ne.symm (Nat.ne_of_lt (Nat.lt_of_lt_of_le H3.lt gb4p))) nin0)).keep (Keep.ext (Keep.refl _ []) E7n) nin0).keep (Keep.of_wr W7u) (ninS (Ne.symm (Nat.ne_of_lt (Nat.lt_of_lt_of_le H3.lt gb4p))) nin0)).keep (Keep.ext (Keep.refl _ []) E7x) nin0).keep (Keep.of_wr W8e) (ninS (Ne.symm (Nat.ne_of_lt (Nat.lt_of_lt_of_le H3.lt gb4p))) nin0)).keep (Keep.ext (Keep.refl _ []) E8h) nin0).keep (Keep.of_wr W8o) (ninS (Ne.symm (Nat.ne_of_lt (Nat.lt_of_lt_of_le H3.lt gb4p))) nin0))
 have f10p := f10o
 have f10q := f5h.keep s9i (ninS (Ne.symm (Nat.ne_of_lt (Nat.lt_of_lt_of_le H3.lt gb5f))) (ninS (Ne.symm (Nat.ne_of_lt (Nat.lt_of_lt_of_le (Nat.lt_of_lt_of_le f4r.lt (Keep.of_wr W4u).1) (Nat.le_of_eq g5d.symm)))) nin0))
 have l10r := (Nat.le_trans (Nat.le_trans (Keep.of_wr W4u).1 (Keep.ext (Keep.refl _ []) E5d).1) (Keep.of_wr W5j).1)
 have f10s := f5t.keep s9g (ninS (Ne.symm (Nat.ne_of_lt (Nat.lt_of_lt_of_le H3.lt gb5r))) (ninS (Ne.symm (Nat.ne_of_lt (Nat.lt_of_lt_of_le (Nat.lt_of_lt_of_le f4r.lt l10r) (Nat.le_of_eq g5p.symm)))) nin0))
 have l10t := (Nat.le_trans (Nat.le_trans l10r (Keep.ext (Keep.refl _ []) E5p).1) (Keep.of_wr W5w).1)
 have f10u := f6d.keep s9e (ninS (Ne.symm (Nat.ne_of_lt (Nat.lt_of_lt_of_le H3.lt gb6b))) (ninS (Ne.symm (Nat.ne_of_lt (Nat.lt_of_lt_of_le (Nat.lt_of_lt_of_le f4r.lt l10t) (Nat.le_of_eq g5z.symm)))) nin0))
 have l10v := (Nat.le_trans (Nat.le_trans l10t (Keep.ext (Keep.refl _ []) E5z).1) (Keep.of_wr W6g).1)
 have f10w := f6n.keep s9c (ninS (Ne.symm (Nat.ne_of_lt (Nat.lt_of_lt_of_le H3.lt gb6l))) (ninS (Ne.symm (Nat.ne_of_lt (Nat.lt_of_lt_of_le (Nat.lt_of_lt_of_le f4r.lt l10v) (Nat.le_of_eq g6j.symm)))) nin0))
 have l10x := (Nat.le_trans (Nat.le_trans l10v (Keep.ext (Keep.refl _ []) E6j).1) (Keep.of_wr W6q).1)
 have f10y := f6x.keep s9a (ninS (Ne.symm (Nat.ne_of_lt (Nat.lt_of_lt_of_le H3.lt gb6v))) (ninS (Ne.symm (Nat.ne_of_lt (Nat.lt_of_lt_of_le (Nat.lt_of_lt_of_le f4r.lt l10x) (Nat.le_of_eq g6t.symm)))) nin0))
 have l10z := (Nat.le_trans (Nat.le_trans l10x (Keep.ext (Keep.refl _ []) E6t).1) (Keep.of_wr W7a).1)
 have f11a := f7h.keep s8y (ninS (Ne.symm (Nat.ne_of_lt (Nat.lt_of_lt_of_le H3.lt gb7f))) (ninS (Ne.symm (Nat.ne_of_lt (Nat.lt_of_lt_of_le (Nat.lt_of_lt_of_le f4r.lt l10z) (Nat.le_of_eq g7d.symm)))) nin0))
 have l11b := (Nat.le_trans (Nat.le_trans l10z (Keep.ext (Keep.refl _ []) E7d).1) (Keep.of_wr W7k).1)
 have f11c := f7r.keep s8w (ninS (Ne.symm (Nat.ne_of_lt (Nat.lt_of_lt_of_le H3.lt gb7p))) (ninS (Ne.symm (Nat.ne_of_lt (Nat.lt_of_lt_of_le (Nat.lt_of_lt_of_le f4r.lt l11b) (Nat.le_of_eq g7n.symm)))) nin0))
 have l11d := (Nat.le_trans (Nat.le_trans l11b (Keep.ext (Keep.refl _ []) E7n).1) (Keep.of_wr W7u).1)
 have f11e := f8b.keep s8u (ninS (Ne.symm (Nat.ne_of_lt (Nat.lt_of_lt_of_le H3.lt gb7z))) (ninS (Ne.symm (Nat.ne_of_lt (Nat.lt_of_lt_of_le (Nat.lt_of_lt_of_le f4r.lt l11d) (Nat.le_of_eq g7x.symm)))) nin0))
 have l11f := (Nat.le_trans (Nat.le_trans l11d (Keep.ext (Keep.refl _ []) E7x).1) (Keep.of_wr W8e).1)
 have f11g := f8l.keep s8s (ninS (Ne.symm (Nat.ne_of_lt (Nat.lt_of_lt_of_le H3.lt gb8j))) (ninS (Ne.symm (Nat.ne_of_lt (Nat.lt_of_lt_of_le (Nat.lt_of_lt_of_le f4r.lt l11f) (Nat.le_of_eq g8h.symm)))) nin0))
 have f11h := (f8m.keep (Keep.of_wr W8o))
 have O : OB Z h8o (xl [a1, b0j, r1f, r1y, r2m, r3a, b3k, b3v, b4n, b5d, b5p, b5z, b6j, b6t, b7d, b7n, b7x, b8h]) DSn (fe 0 0) := And.intro f11h D8o
 have V : EV Z h8o (xl [a1, b0j, r1f, r1y, r2m, r3a, b3k, b3v, b4n, b5d, b5p, b5z, b6j, b6t, b7d, b7n, b7x, b8h]) [(2,[-1,1]),(3,[0,1,2,3]),(4,[0,1,1]),(6,[0,0]),(7,[0,0,0,0,0]),(16,[0,0]),(17,[0,0])] := And.intro f10p (And.intro f10e (And.intro f10g (And.intro f10i (And.intro f10m (And.intro f10n (And.intro f11e (And.intro f11g (trivial))))))))
 have f11i := (((((((((((C6j.keep (Keep.of_wr W6q)).keep (Keep.ext (Keep.refl _ []) E6t)).keep (Keep.of_wr W7a)).keep (Keep.ext (Keep.refl _ []) E7d)).keep (Keep.of_wr W7k)).keep (Keep.ext (Keep.refl _ []) E7n)).keep (Keep.of_wr W7u)).keep (Keep.ext (Keep.refl _ []) E7x)).keep (Keep.of_wr W8e)).keep (Keep.ext (Keep.refl _ []) E8h)).keep (Keep.of_wr W8o))
 refine go_priv K X8o (a := a1) (argsL := []) (stk := []) (wd hw 154 rfl) (wd hw 155 rfl) (own_psel (wd hw 49 rfl) (wd hw 156 rfl) (wd hw 155 rfl) (by decide)) (wd hw 156 rfl) (wd hw 157 rfl) (wd hw 50 rfl) (by decide) (lenOf pd_2 rfl) e8o f11h (rmSto hw (xl [a1, b0j, r1f, r1y, r2m, r3a, b3k, b3v, b4n, b5d, b5p, b5z, b6j, b6t, b7d, b7n, b7x, b8h]) zs0 zs1 zc0 zc2 h8o N O V H2 f10c f10k f10q f10s f10u f10w f10y f11a f11c f11i) rfl rfl (k7 rfl) rfl (by decide) (W := 0) (Nat.le_of_eq rfl) (by decide) (cells' := 17) (slots' := 45) rfl rfl (by decide) (by decide) ?_
 rintro T11j h11j _ X11j e11j ⟨rfl, K11j, f11k, f11l, f11m, f11n, f11o, f11p, f11q, f11r, f11s, f11t, f11u, f11v⟩
 show Go _ _ _ _ _ _ _ (T11j.setTop (mkF m 447 #[.val (.ref a1), .val (.ref x_cq), .val (.ref x_cs), .val (.int (16384 : Int32)), .val (.int (1 : Int32)), .val (.int (2 : Int32)), .val (.int (1 : Int32)), .unset] []))
 have kp11w : Keep h0 h11j [a1] := kp8p.trans K11j (allS (Or.inl (List.mem_of_getElem? (i := 0) rfl)) (allS (Or.inr gb3m) (allS (Or.inr gb3x) (allS (Or.inr gb5f) (allS (Or.inr gb5r) (allS (Or.inr gb6b) (allS (Or.inr gb7z) all0)))))))
 refine go_ret K X11j (k7 rfl) (by decide) (by decide) ?_
 rw [e11j]
 exact ⟨(xl [a1, b0j, r1f, r1y, r2m, r3a, b3k, b3v, b4n, b5d, b5p, b5z, b6j, b6t, b7d, b7n, b7x, b8h]), rfl, kp11w, f11k, f11l, f11m, f11n, f11o, f11p, f11q, f11r, f11s, f11t, f11u, f11v, N, rfl⟩
theorem ef_rmMaxG (m : MethodId) (p1 : Int32) (p2 : Int32) : entryFrame m #[(.int p1), (.int p2)] 2 = mkF m 0 #[.val (.int p1), .val (.int p2)] [] := by first | (simp [entryFrame, mkF, argsToLocals, Value.category]; done) | rfl
def Q_rmMaxG (Z : State) (n0 : Nat) (p1 p2 : Int32) (h0 : Heap) (v : Option Value) (h : Heap) : Prop := v = some (.int (own_max p1 p2)) ∧ h = h0
abbrev R_rmMaxG : Room := { frames := 0, cells := 0, slots := 0, locals := 0 }
theorem rmMaxG (hw : HW Z a0) (p1 p2 : Int32) (h0 : Heap) :
    Con l Z n0 (⟨"java/lang/Math", "max", "(II)I"⟩ : MethodName) jdk_29_method_65_code 2 (some .int) R_rmMaxG #[(.int p1), (.int p2)] h0 (Q_rmMaxG Z n0 p1 p2 h0) := by
 refine con_of (Jvm.Free.JP.mathPlain rfl (by decide +kernel)) ?_
 intro p e s m below meth c T0 K X0 e0
 replace K : Ctx p s m meth c Z "java/lang/Math" "max" jdk_29_method_65_code 2 (some .int) := K
 refine go_entry (ef_rmMaxG m p1 p2) ?_
 refine go_iloadN K X0 (k13 rfl) rfl rfl ?_
 refine go_iloadN K X0 (k13 rfl) rfl rfl ?_
 refine go_icmp K X0 (k13 rfl) (by decide) rfl rfl ?_ ?_
 · intro (hc0a : p1 < p2)
   refine go_iloadN K X0 (k13 rfl) rfl rfl ?_
   refine go_retI K X0 (k13 rfl) (by decide) (by decide) ?_
   rw [e0]
   exact ⟨(by simp [own_max, hc0a]), rfl⟩
 · intro (hc0a : ¬ p1 < p2)
   refine go_iloadN K X0 (k13 rfl) rfl rfl ?_
   refine go_goto K X0 (k13 rfl) (by decide) rfl ?_
   refine go_retI K X0 (k13 rfl) (by decide) (by decide) ?_
   rw [e0]
   exact ⟨(by simp [own_max, hc0a]), rfl⟩
theorem pd_18 : parseMethodDescriptor "(I)V" = some ⟨[.int], none⟩ := by decide +kernel
theorem pd_19 : parseMethodDescriptor "(Lcom/example/plumbline/plumbline/align/DualSimplex$Columns;[D)V" = some ⟨[(.object "com/example/plumbline/plumbline/align/DualSimplex$Columns"), (.array .double)], none⟩ := by decide +kernel
theorem pd_20 : parseMethodDescriptor "([D)Z" = some ⟨[(.array .double)], some .boolean⟩ := by decide +kernel
theorem pd_21 : parseMethodDescriptor "()D" = some ⟨[], some .double⟩ := by decide +kernel
theorem zcm_219 {zs0 zs1 zc0 zc2 : Int} (B : ZB zs0 zs1 zc0 zc2) (q0 : zs0 = 0 ∧ 0 < zs1) : (zc2 * zs1) = (zc2 * zs1) := by unfold ZB at B; obtain ⟨b1, b2, b3, b4, b5, b6⟩ := B; omega
theorem zcm_220 {zs0 zs1 zc0 zc2 : Int} (B : ZB zs0 zs1 zc0 zc2) (q0 : 0 < zs0 ∧ zs1 ≤ 0) : (zc0 * zs0) = (zc0 * zs0) := by unfold ZB at B; obtain ⟨b1, b2, b3, b4, b5, b6⟩ := B; omega
theorem zcm_221 {zs0 zs1 zc0 zc2 : Int} (B : ZB zs0 zs1 zc0 zc2) (q0 : 0 < zs0 ∧ 0 < zs1 ∧ zs1 ≤ zs0) : (zc0 * zs0 + zc2 * zs1) = (zc0 * zs0 + zc2 * zs1) := by unfold ZB at B; obtain ⟨b1, b2, b3, b4, b5, b6⟩ := B; omega
theorem zcm_222 {zs0 zs1 zc0 zc2 : Int} (B : ZB zs0 zs1 zc0 zc2) (q0 : 0 < zs0 ∧ zs0 < zs1) : (zc0 * zs0 + zc2 * zs1) = (zc0 * zs0 + zc2 * zs1) := by unfold ZB at B; obtain ⟨b1, b2, b3, b4, b5, b6⟩ := B; omega
theorem pn_com_example_plumbline_plumbline_align_DualSimplexValuePinLaw : plainName "com/example/plumbline/plumbline/align/DualSimplexValuePinLaw" = true := by first | (simp [plainName, overriddenIn]; done) | decide +kernel
theorem ef_rmLaw (m : MethodId) (v0 : Int32) (v1 : Int32) (v2 : Int32) (v3 : Int32) (v4 : Int32) : entryFrame m #[(.int v0), (.int v1), (.int v2), (.int v3), (.int v4)] maxLocals = mkF m 0 #[.val (.int v0), .val (.int v1), .val (.int v2), .val (.int v3), .val (.int v4), .unset, .unset, .unset, .unset, .unset, .unset, .unset, .unset, .unset, .unset, .unset] [] := by first | (simp [entryFrame, mkF, argsToLocals, Value.category, maxLocals]; done) | rfl
def Q_rmLaw (Z : State) (n0 : Nat) (v0 v1 v2 v3 v4 : Int32) (h0 : Heap) (v : Option Value) (h : Heap) : Prop := v = some (.int (1 : Int32)) ∧ Keep h0 h []
theorem rmLaw (hw : HW Z a0) (v0 v1 v2 v3 v4 : Int32) (h0 : Heap) (H0 : n0 ≤ h0.size) :
    Con l Z n0 x code maxLocals ret room_1 #[(.int v0), (.int v1), (.int v2), (.int v3), (.int v4)] h0 (Q_rmLaw Z n0 v0 v1 v2 v3 v4 h0) := by
 refine con_of (plainFor_of_name pn_com_example_plumbline_plumbline_align_DualSimplexValuePinLaw) ?_
 intro p e s m below meth c T0 K X0 e0
 replace K : Ctx p s m meth c Z "com/example/plumbline/plumbline/align/DualSimplexValuePinLaw" "law" code maxLocals (some .boolean) := K
 refine go_entry (ef_rmLaw m v0 v1 v2 v3 v4) ?_
 refine go_iloadN K X0 at_0 rfl rfl ?_
 refine go_ldcI K X0 (wd hw 0 rfl) at_1 rfl ?_
 refine go_iand K X0 at_3 rfl ?_
 refine go_istore K X0 #[.val (.int v0), .val (.int v1), .val (.int v2), .val (.int v3), .val (.int v4), .val (.int (v2 &&& (1048575 : Int32))), .unset, .unset, .unset, .unset, .unset, .unset, .unset, .unset, .unset, .unset] at_4 rfl rfl ?_
 refine go_iloadN K X0 at_6 rfl rfl ?_
 refine go_ldcI K X0 (wd hw 0 rfl) at_7 rfl ?_
 refine go_iand K X0 at_9 rfl ?_
 refine go_istore K X0 #[.val (.int v0), .val (.int v1), .val (.int v2), .val (.int v3), .val (.int v4), .val (.int (v2 &&& (1048575 : Int32))), .val (.int (v3 &&& (1048575 : Int32))), .unset, .unset, .unset, .unset, .unset, .unset, .unset, .unset, .unset] at_10 rfl rfl ?_
 refine go_iload K X0 at_12 rfl rfl ?_
 refine go_iconst K X0 (1 : Int32) at_14 rfl rfl ?_
 refine go_iand K X0 at_15 rfl ?_
 refine own_cut (P := fun vs0 : Int32 => True) (S := fun vs0 : Int32 => T0.setTop (mkF m 24 #[.val (.int v0), .val (.int v1), .val (.int v2), .val (.int v3), .val (.int v4), .val (.int (v2 &&& (1048575 : Int32))), .val (.int (v3 &&& (1048575 : Int32))), .unset, .unset, .unset, .unset, .unset, .unset, .unset, .unset, .unset] [(.int vs0)])) ?_ ?_
 · intro J0a
   refine go_if K X0 at_16 (by decide) rfl rfl ?_ ?_
   · intro (hc0b : (v4 &&& (1 : Int32)) = (0 : Int32))
     refine go_iloadN K X0 at_23 rfl rfl ?_
     exact J0a _ trivial
   · intro (hc0b : ¬ (v4 &&& (1 : Int32)) = (0 : Int32))
     refine go_iconst K X0 (0 : Int32) at_19 rfl rfl ?_
     refine go_goto K X0 at_20 (by decide) rfl ?_
     exact J0a _ trivial
 intro vs0 (h_vs0 : True)
 show Go _ _ _ _ _ _ _ (T0.setTop (mkF m 24 #[.val (.int v0), .val (.int v1), .val (.int v2), .val (.int v3), .val (.int v4), .val (.int (v2 &&& (1048575 : Int32))), .val (.int (v3 &&& (1048575 : Int32))), .unset, .unset, .unset, .unset, .unset, .unset, .unset, .unset, .unset] [(.int vs0)]))
 refine go_istore K X0 #[.val (.int v0), .val (.int v1), .val (.int v2), .val (.int v3), .val (.int v4), .val (.int (v2 &&& (1048575 : Int32))), .val (.int (v3 &&& (1048575 : Int32))), .val (.int vs0), .unset, .unset, .unset, .unset, .unset, .unset, .unset, .unset] at_24 rfl rfl ?_
 refine go_iload K X0 at_26 rfl rfl ?_
 refine go_iconst K X0 (2 : Int32) at_28 rfl rfl ?_
 refine go_iand K X0 at_29 rfl ?_
 refine own_cut (P := fun vs1 : Int32 => True) (S := fun vs1 : Int32 => T0.setTop (mkF m 38 #[.val (.int v0), .val (.int v1), .val (.int v2), .val (.int v3), .val (.int v4), .val (.int (v2 &&& (1048575 : Int32))), .val (.int (v3 &&& (1048575 : Int32))), .val (.int vs0), .unset, .unset, .unset, .unset, .unset, .unset, .unset, .unset] [(.int vs1)])) ?_ ?_
 · intro J0c
   refine go_if K X0 at_30 (by decide) rfl rfl ?_ ?_
   · intro (hc0d : (v4 &&& (2 : Int32)) = (0 : Int32))
     refine go_iloadN K X0 at_37 rfl rfl ?_
     exact J0c _ trivial
   · intro (hc0d : ¬ (v4 &&& (2 : Int32)) = (0 : Int32))
     refine go_iconst K X0 (0 : Int32) at_33 rfl rfl ?_
     refine go_goto K X0 at_34 (by decide) rfl ?_
     exact J0c _ trivial
 intro vs1 (h_vs1 : True)
 show Go _ _ _ _ _ _ _ (T0.setTop (mkF m 38 #[.val (.int v0), .val (.int v1), .val (.int v2), .val (.int v3), .val (.int v4), .val (.int (v2 &&& (1048575 : Int32))), .val (.int (v3 &&& (1048575 : Int32))), .val (.int vs0), .unset, .unset, .unset, .unset, .unset, .unset, .unset, .unset] [(.int vs1)]))
 obtain ⟨zs0, hzs0⟩ : ∃ z : Int, vs0.toInt = z := ⟨_, rfl⟩
 obtain ⟨zs1, hzs1⟩ : ∃ z : Int, vs1.toInt = z := ⟨_, rfl⟩
 obtain ⟨zc0, hzc0⟩ : ∃ z : Int, (v2 &&& (1048575 : Int32)).toInt = z := ⟨_, rfl⟩
 obtain ⟨zc2, hzc2⟩ : ∃ z : Int, (v3 &&& (1048575 : Int32)).toInt = z := ⟨_, rfl⟩
 have B : ZB zs0 zs1 zc0 zc2 := own_zb hzs0 hzs1 hzc0 hzc2
 refine go_istore K X0 #[.val (.int v0), .val (.int v1), .val (.int v2), .val (.int v3), .val (.int v4), .val (.int (v2 &&& (1048575 : Int32))), .val (.int (v3 &&& (1048575 : Int32))), .val (.int vs0), .val (.int vs1), .unset, .unset, .unset, .unset, .unset, .unset, .unset] at_38 rfl rfl ?_
 refine go_new K X0 (wd hw 1 rfl) (wd hw 2 rfl) (wd hw 3 rfl) e0 at_40 rfl (cells' := 1) (slots' := 7) rfl rfl (by decide) (by decide) ?_
 intro T0e h0e b0e g0e X0e e0e E0e A2638 D0e
 have ga2639 : n0 ≤ b0e := Nat.le_trans H0 (Nat.le_of_eq g0e.symm)
 have gb0f : h0.size ≤ b0e := Nat.le_trans (Keep.refl h0 []).1 (Nat.le_of_eq g0e.symm)
 have kp0g : Keep h0 h0e [] := (Keep.refl h0 []).trans (Keep.ext (Keep.refl _ []) E0e) all0
 refine go_dup K X0e at_43 rfl rfl ?_
 refine go_iconst K X0e (2 : Int32) at_44 rfl rfl ?_
 refine go_init K X0e (a := b0e) (argsL := [(.int (2 : Int32))]) (stk := [(.ref b0e)]) (wd hw 4 rfl) (wd hw 5 rfl) (wd hw 3 rfl) (wd hw 6 rfl) (by decide) rfl (lenOf pd_18 rfl) e0e (rmCI hw b0e h0e (Nat.le_trans H0 (Keep.ext (Keep.refl _ []) E0e).1) ga2639 A2638 (D0e (Or.inl (wd hw 12 rfl)) (ty := (.array .int)) (by decide) : Fld Z h0e b0e "com/example/plumbline/plumbline/align/DualSimplex$Columns" "starts" "[I" .null) (D0e (Or.inl (wd hw 14 rfl)) (ty := (.array .int)) (by decide) : Fld Z h0e b0e "com/example/plumbline/plumbline/align/DualSimplex$Columns" "entryRows" "[I" .null) (D0e (Or.inl (wd hw 17 rfl)) (ty := (.array .double)) (by decide) : Fld Z h0e b0e "com/example/plumbline/plumbline/align/DualSimplex$Columns" "entryValues" "[D" .null) (D0e (Or.inr (wd hw 19 rfl)) (ty := .int) (by decide) : Fld Z h0e b0e "com/example/plumbline/plumbline/align/DualSimplex$Columns" "rows" "I" (.int (0 : Int32))) (D0e (Or.inr (wd hw 21 rfl)) (ty := (.array .int)) (by decide) : Fld Z h0e b0e "com/example/plumbline/plumbline/align/DualSimplex$Columns" "surpluses" "[I" .null) (D0e (Or.inl (wd hw 32 rfl)) (ty := .int) (by decide) : Fld Z h0e b0e "com/example/plumbline/plumbline/align/DualSimplex$Columns" "entries" "I" (.int (0 : Int32))) (D0e (Or.inl (wd hw 39 rfl)) (ty := .int) (by decide) : Fld Z h0e b0e "com/example/plumbline/plumbline/align/DualSimplex$Columns" "columns" "I" (.int (0 : Int32)))) rfl rfl at_45 rfl (by decide) (W := 1) (Nat.le_of_eq rfl) (by decide) (cells' := 5) (slots' := 153) rfl rfl (by decide) (by decide) ?_
 rintro T0h h0h _ X0h e0h ⟨c_st2643, c_er2644, c_ev2645, c_su2646, rfl, K0h, f0i, f0j, f0k, f0l, f0m, f0n, f0o, f0p, f0q, f0r, f0s, f0t, f0u, f0v, f0w, f0x, f0y, r0z⟩
 show Go _ _ _ _ _ _ _ (T0h.setTop (mkF m 48 #[.val (.int v0), .val (.int v1), .val (.int v2), .val (.int v3), .val (.int v4), .val (.int (v2 &&& (1048575 : Int32))), .val (.int (v3 &&& (1048575 : Int32))), .val (.int vs0), .val (.int vs1), .unset, .unset, .unset, .unset, .unset, .unset, .unset] [(.ref b0e)]))
 have ga2665 : n0 ≤ c_st2643 := Nat.le_trans (Nat.le_trans H0 (Keep.ext (Keep.refl _ []) E0e).1) f0i
 have gb1a : h0.size ≤ c_st2643 := Nat.le_trans kp0g.1 f0i
 have ga2667 : n0 ≤ c_er2644 := Nat.le_trans (Nat.le_trans H0 (Keep.ext (Keep.refl _ []) E0e).1) f0j
 have gb1b : h0.size ≤ c_er2644 := Nat.le_trans kp0g.1 f0j
 have ga2669 : n0 ≤ c_ev2645 := Nat.le_trans (Nat.le_trans H0 (Keep.ext (Keep.refl _ []) E0e).1) f0k
 have gb1c : h0.size ≤ c_ev2645 := Nat.le_trans kp0g.1 f0k
 have ga2671 : n0 ≤ c_su2646 := Nat.le_trans (Nat.le_trans H0 (Keep.ext (Keep.refl _ []) E0e).1) f0l
 have gb1d : h0.size ≤ c_su2646 := Nat.le_trans kp0g.1 f0l
 have kp1e : Keep h0 h0h [] := kp0g.trans K0h (allS (Or.inr gb0f) all0)
 refine go_astore K X0h #[.val (.int v0), .val (.int v1), .val (.int v2), .val (.int v3), .val (.int v4), .val (.int (v2 &&& (1048575 : Int32))), .val (.int (v3 &&& (1048575 : Int32))), .val (.int vs0), .val (.int vs1), .val (.ref b0e), .unset, .unset, .unset, .unset, .unset, .unset] at_48 rfl rfl rfl ?_
 refine go_aload K X0h at_50 rfl rfl rfl ?_
 refine go_iconst K X0h (0 : Int32) at_52 rfl rfl ?_
 refine go_dconst1 K X0h at_53 rfl ?_
 refine go_virt K X0h (a := b0e) (argsL := [(.int (0 : Int32)), (.double 4607182418800017408)]) (stk := []) (wd hw 26 rfl) (wd hw 27 rfl) (wd hw 29 rfl) (wd hw 29 rfl) (wd hw 28 rfl) (wd hw 30 rfl) (wd hw 3 rfl) (by decide) (lenOf pd_1 rfl) e0h f0m (rmAdd0 hw b0e c_st2643 c_er2644 c_ev2645 c_su2646 (List.replicate 64 (.int (0 : Int32))) (List.replicate 64 0) (.int (0 : Int32)) h0h ga2639 r0z f0m f0n f0o f0p f0q f0r f0s f0t f0v (by simp) f0w (by simp)) rfl rfl at_54 rfl (by decide) (W := 0) (Nat.le_of_eq rfl) (by decide) (cells' := 5) (slots' := 153) rfl rfl (by decide) (by decide) ?_
 rintro T1f h1f _ X1f e1f ⟨rfl, K1f, f1g, f1h, f1i, f1j, f1k, f1l, f1m, f1n, f1o, f1p⟩
 show Go _ _ _ _ _ _ _ (T1f.setTop (mkF m 57 #[.val (.int v0), .val (.int v1), .val (.int v2), .val (.int v3), .val (.int v4), .val (.int (v2 &&& (1048575 : Int32))), .val (.int (v3 &&& (1048575 : Int32))), .val (.int vs0), .val (.int vs1), .val (.ref b0e), .unset, .unset, .unset, .unset, .unset, .unset] []))
 have kp1q : Keep h0 h1f [] := kp1e.trans K1f (allS (Or.inr gb0f) (allS (Or.inr gb1b) (allS (Or.inr gb1c) all0)))
 refine go_aload K X1f at_57 rfl rfl rfl ?_
 have f1r := (f0u.keep K1f (ninS (Ne.symm (inc_ne r0z 0 1 rfl rfl (by decide))) (ninS (inc_ne r0z 1 2 rfl rfl (by decide)) (ninS (inc_ne r0z 1 3 rfl rfl (by decide)) nin0))))
 refine go_virt K X1f (a := b0e) (argsL := []) (stk := []) (wd hw 33 rfl) (wd hw 34 rfl) (wd hw 36 rfl) (wd hw 36 rfl) (wd hw 35 rfl) (wd hw 37 rfl) (wd hw 3 rfl) (by decide) (lenOf pd_2 rfl) e1f f1g (rmEnd0 hw b0e c_st2643 c_er2644 c_ev2645 c_su2646 (List.replicate 16 (.int (0 : Int32))) h1f ga2639 r0z f1g f1h f1i f1j f1k f1l f1m f1n f1r (by simp)) rfl rfl at_59 rfl (by decide) (W := 0) (Nat.le_of_eq rfl) (by decide) (cells' := 5) (slots' := 153) rfl rfl (by decide) (by decide) ?_
 rintro T1s h1s _ X1s e1s ⟨rfl, K1s, f1t, f1u, f1v, f1w, f1x, f1y, f1z, f2a, f2b⟩
 show Go _ _ _ _ _ _ _ (T1s.setTop (mkF m 62 #[.val (.int v0), .val (.int v1), .val (.int v2), .val (.int v3), .val (.int v4), .val (.int (v2 &&& (1048575 : Int32))), .val (.int (v3 &&& (1048575 : Int32))), .val (.int vs0), .val (.int vs1), .val (.ref b0e), .unset, .unset, .unset, .unset, .unset, .unset] []))
 have kp2c : Keep h0 h1s [] := kp1q.trans K1s (allS (Or.inr gb0f) (allS (Or.inr gb1a) all0))
 refine go_aload K X1s at_62 rfl rfl rfl ?_
 refine go_iconst K X1s (1 : Int32) at_64 rfl rfl ?_
 have f2d := (f1o.keep K1s (ninS (Ne.symm (inc_ne r0z 0 2 rfl rfl (by decide))) (ninS (Ne.symm (inc_ne r0z 1 2 rfl rfl (by decide))) nin0)))
 have f2e := (f1p.keep K1s (ninS (Ne.symm (inc_ne r0z 0 3 rfl rfl (by decide))) (ninS (Ne.symm (inc_ne r0z 1 3 rfl rfl (by decide))) nin0)))
 have f2f := ((f0x.keep K1f (ninS (Ne.symm (inc_ne r0z 0 4 rfl rfl (by decide))) (ninS (Ne.symm (inc_ne r0z 2 4 rfl rfl (by decide))) (ninS (Ne.symm (inc_ne r0z 3 4 rfl rfl (by decide))) nin0)))).keep K1s (ninS (Ne.symm (inc_ne r0z 0 4 rfl rfl (by decide))) (ninS (Ne.symm (inc_ne r0z 1 4 rfl rfl (by decide))) nin0)))
 refine go_virt K X1s (a := b0e) (argsL := [(.int (1 : Int32))]) (stk := []) (wd hw 40 rfl) (wd hw 41 rfl) (wd hw 43 rfl) (wd hw 43 rfl) (wd hw 42 rfl) (wd hw 44 rfl) (wd hw 3 rfl) (by decide) (lenOf pd_18 rfl) e1s f1t (rmSur hw b0e c_st2643 c_er2644 c_ev2645 c_su2646 ((List.replicate 64 (.int (0 : Int32))).set 0 (.int (0 : Int32))) ((List.replicate 64 0).set 0 1) ((List.replicate 16 (.int (0 : Int32))).set 1 (.int (1 : Int32))) h1s ga2639 r0z f1t f1u f1v f1w f1x f1y f1z f2a f2d (by simp) f2e (by simp) f2b (by simp) rfl f2f) rfl rfl at_65 rfl (by decide) (W := 0) (Nat.le_of_eq rfl) (by decide) (cells' := 5) (slots' := 153) rfl rfl (by decide) (by decide) ?_
 rintro T2g h2g _ X2g e2g ⟨rfl, K2g, f2h, f2i, f2j, f2k, f2l, f2m, f2n, f2o, f2p, f2q, f2r, f2s⟩
 show Go _ _ _ _ _ _ _ (T2g.setTop (mkF m 68 #[.val (.int v0), .val (.int v1), .val (.int v2), .val (.int v3), .val (.int v4), .val (.int (v2 &&& (1048575 : Int32))), .val (.int (v3 &&& (1048575 : Int32))), .val (.int vs0), .val (.int vs1), .val (.ref b0e), .unset, .unset, .unset, .unset, .unset, .unset] []))
 have kp2t : Keep h0 h2g [] := kp2c.trans K2g (allS (Or.inr gb0f) (allS (Or.inr gb1b) (allS (Or.inr gb1c) (allS (Or.inr gb1a) (allS (Or.inr gb1d) all0)))))
 refine go_aload K X2g at_68 rfl rfl rfl ?_
 refine go_iconst K X2g (1 : Int32) at_70 rfl rfl ?_
 refine go_dconst1 K X2g at_71 rfl ?_
 refine go_virt K X2g (a := b0e) (argsL := [(.int (1 : Int32)), (.double 4607182418800017408)]) (stk := []) (wd hw 26 rfl) (wd hw 27 rfl) (wd hw 29 rfl) (wd hw 29 rfl) (wd hw 28 rfl) (wd hw 30 rfl) (wd hw 3 rfl) (by decide) (lenOf pd_1 rfl) e2g f2h (rmAdd2 hw b0e c_st2643 c_er2644 c_ev2645 c_su2646 (((List.replicate 64 (.int (0 : Int32))).set 0 (.int (0 : Int32))).set 1 (.int (1 : Int32))) (((List.replicate 64 0).set 0 1).set 1 (-1)) (.int (2 : Int32)) h2g ga2639 r0z f2h f2i f2j f2k f2l f2m f2n f2o f2p (by simp) f2q (by simp)) rfl rfl at_72 rfl (by decide) (W := 0) (Nat.le_of_eq rfl) (by decide) (cells' := 5) (slots' := 153) rfl rfl (by decide) (by decide) ?_
 rintro T2u h2u _ X2u e2u ⟨rfl, K2u, f2v, f2w, f2x, f2y, f2z, f3a, f3b, f3c, f3d, f3e⟩
 show Go _ _ _ _ _ _ _ (T2u.setTop (mkF m 75 #[.val (.int v0), .val (.int v1), .val (.int v2), .val (.int v3), .val (.int v4), .val (.int (v2 &&& (1048575 : Int32))), .val (.int (v3 &&& (1048575 : Int32))), .val (.int vs0), .val (.int vs1), .val (.ref b0e), .unset, .unset, .unset, .unset, .unset, .unset] []))
 have kp3f : Keep h0 h2u [] := kp2t.trans K2u (allS (Or.inr gb0f) (allS (Or.inr gb1b) (allS (Or.inr gb1c) all0)))
 refine go_aload K X2u at_75 rfl rfl rfl ?_
 have f3g := (f2r.keep K2u (ninS (Ne.symm (inc_ne r0z 0 1 rfl rfl (by decide))) (ninS (inc_ne r0z 1 2 rfl rfl (by decide)) (ninS (inc_ne r0z 1 3 rfl rfl (by decide)) nin0))))
 refine go_virt K X2u (a := b0e) (argsL := []) (stk := []) (wd hw 33 rfl) (wd hw 34 rfl) (wd hw 36 rfl) (wd hw 36 rfl) (wd hw 35 rfl) (wd hw 37 rfl) (wd hw 3 rfl) (by decide) (lenOf pd_2 rfl) e2u f2v (rmEnd2 hw b0e c_st2643 c_er2644 c_ev2645 c_su2646 (((List.replicate 16 (.int (0 : Int32))).set 1 (.int (1 : Int32))).set 2 (.int (2 : Int32))) h2u ga2639 r0z f2v f2w f2x f2y f2z f3a f3b f3c f3g (by simp)) rfl rfl at_77 rfl (by decide) (W := 0) (Nat.le_of_eq rfl) (by decide) (cells' := 5) (slots' := 153) rfl rfl (by decide) (by decide) ?_
 rintro T3h h3h _ X3h e3h ⟨rfl, K3h, f3i, f3j, f3k, f3l, f3m, f3n, f3o, f3p, f3q⟩
 show Go _ _ _ _ _ _ _ (T3h.setTop (mkF m 80 #[.val (.int v0), .val (.int v1), .val (.int v2), .val (.int v3), .val (.int v4), .val (.int (v2 &&& (1048575 : Int32))), .val (.int (v3 &&& (1048575 : Int32))), .val (.int vs0), .val (.int vs1), .val (.ref b0e), .unset, .unset, .unset, .unset, .unset, .unset] []))
 have kp3r : Keep h0 h3h [] := kp3f.trans K3h (allS (Or.inr gb0f) (allS (Or.inr gb1a) all0))
 refine go_iconst K X3h (3 : Int32) at_80 rfl rfl ?_
 refine go_newarrayD K X3h (wd hw 15 rfl) e3h at_81 (i := 3) (cap := 3) rfl (by decide) (by decide) rfl (cells' := 6) (slots' := 156) rfl rfl (by decide) (by decide) ?_
 intro T3s h3s b3s g3s X3s e3s E3s A2740 C3s
 have z3t := (Nat.le_trans (Nat.le_trans (Nat.le_trans (Nat.le_trans (Nat.le_trans (Nat.le_trans (Nat.le_trans H0 (Keep.ext (Keep.refl _ []) E0e).1) K0h.1) K1f.1) K1s.1) K2g.1) K2u.1) K3h.1)
 have ga2741 : n0 ≤ b3s := Nat.le_trans z3t (Nat.le_of_eq g3s.symm)
 have gb3u : h0.size ≤ b3s := Nat.le_trans kp3r.1 (Nat.le_of_eq g3s.symm)
 have kp3v : Keep h0 h3s [] := kp3r.trans (Keep.ext (Keep.refl _ []) E3s) all0
 have f3w : AD Z h3s b3s [0, 0, 0] := A2740
 refine go_dup K X3s at_83 rfl rfl ?_
 refine go_iconst K X3s (0 : Int32) at_84 rfl rfl ?_
 refine go_iload K X3s at_85 rfl rfl ?_
 refine go_i2d K X3s (z := zc0) hzc0 at_87 rfl ?_
 intro d3x hd3x
 refine go_dastore K X3s e3s f3w (i := 0) rfl (Nat.le_of_ble_eq_true rfl) hd3x ga2741 at_88 rfl ?_
 intro T3y h3y X3y e3y W3y A2747
 have kp3z : Keep h0 h3y [] := kp3v.trans (Keep.of_wr W3y) (allS (Or.inr gb3u) all0)
 have f4a : AD Z h3y b3s [zc0, 0, 0] := A2747
 refine go_dup K X3y at_89 rfl rfl ?_
 refine go_iconst K X3y (1 : Int32) at_90 rfl rfl ?_
 refine go_dconst0 K X3y at_91 rfl ?_
 refine go_dastore K X3y e3y f4a (i := 1) rfl (Nat.le_of_ble_eq_true rfl) Dz.zero ga2741 at_92 rfl ?_
 intro T4b h4b X4b e4b W4b A2750
 have kp4c : Keep h0 h4b [] := kp3z.trans (Keep.of_wr W4b) (allS (Or.inr gb3u) all0)
 have f4d : AD Z h4b b3s [zc0, 0, 0] := A2750
 refine go_dup K X4b at_93 rfl rfl ?_
 refine go_iconst K X4b (2 : Int32) at_94 rfl rfl ?_
 refine go_iload K X4b at_95 rfl rfl ?_
 refine go_i2d K X4b (z := zc2) hzc2 at_97 rfl ?_
 intro d4e hd4e
 refine go_dastore K X4b e4b f4d (i := 2) rfl (Nat.le_of_ble_eq_true rfl) hd4e ga2741 at_98 rfl ?_
 intro T4f h4f X4f e4f W4f A2754
 have kp4g : Keep h0 h4f [] := kp4c.trans (Keep.of_wr W4f) (allS (Or.inr gb3u) all0)
 have f4h : AD Z h4f b3s [zc0, 0, zc2] := A2754
 refine go_astore K X4f #[.val (.int v0), .val (.int v1), .val (.int v2), .val (.int v3), .val (.int v4), .val (.int (v2 &&& (1048575 : Int32))), .val (.int (v3 &&& (1048575 : Int32))), .val (.int vs0), .val (.int vs1), .val (.ref b0e), .val (.ref b3s), .unset, .unset, .unset, .unset, .unset] at_99 rfl rfl rfl ?_
 refine go_iconst K X4f (2 : Int32) at_101 rfl rfl ?_
 refine go_newarrayD K X4f (wd hw 15 rfl) e4f at_102 (i := 2) (cap := 2) rfl (by decide) (by decide) rfl (cells' := 7) (slots' := 158) rfl rfl (by decide) (by decide) ?_
 intro T4i h4i b4i g4i X4i e4i E4i A2757 C4i
 have z4j := (Nat.le_trans (Nat.le_trans (Nat.le_trans (Nat.le_trans z3t (Keep.ext (Keep.refl _ []) E3s).1) (Keep.of_wr W3y).1) (Keep.of_wr W4b).1) (Keep.of_wr W4f).1)
 have ga2758 : n0 ≤ b4i := Nat.le_trans z4j (Nat.le_of_eq g4i.symm)
 have gb4k : h0.size ≤ b4i := Nat.le_trans kp4g.1 (Nat.le_of_eq g4i.symm)
 have kp4l : Keep h0 h4i [] := kp4g.trans (Keep.ext (Keep.refl _ []) E4i) all0
 have f4m : AD Z h4i b4i [0, 0] := A2757
 refine go_dup K X4i at_104 rfl rfl ?_
 refine go_iconst K X4i (0 : Int32) at_105 rfl rfl ?_
 refine go_iload K X4i at_106 rfl rfl ?_
 refine go_i2d K X4i (z := zs0) hzs0 at_108 rfl ?_
 intro d4n hd4n
 refine go_dastore K X4i e4i f4m (i := 0) rfl (Nat.le_of_ble_eq_true rfl) hd4n ga2758 at_109 rfl ?_
 intro T4o h4o X4o e4o W4o A2764
 have kp4p : Keep h0 h4o [] := kp4l.trans (Keep.of_wr W4o) (allS (Or.inr gb4k) all0)
 have f4q : AD Z h4o b4i [zs0, 0] := A2764
 refine go_dup K X4o at_110 rfl rfl ?_
 refine go_iconst K X4o (1 : Int32) at_111 rfl rfl ?_
 refine go_iload K X4o at_112 rfl rfl ?_
 refine go_i2d K X4o (z := zs1) hzs1 at_114 rfl ?_
 intro d4r hd4r
 refine go_dastore K X4o e4o f4q (i := 1) rfl (Nat.le_of_ble_eq_true rfl) hd4r ga2758 at_115 rfl ?_
 intro T4s h4s X4s e4s W4s A2768
 have kp4t : Keep h0 h4s [] := kp4p.trans (Keep.of_wr W4s) (allS (Or.inr gb4k) all0)
 have f4u : AD Z h4s b4i [zs0, zs1] := A2768
 refine go_astore K X4s #[.val (.int v0), .val (.int v1), .val (.int v2), .val (.int v3), .val (.int v4), .val (.int (v2 &&& (1048575 : Int32))), .val (.int (v3 &&& (1048575 : Int32))), .val (.int vs0), .val (.int vs1), .val (.ref b0e), .val (.ref b3s), .val (.ref b4i), .unset, .unset, .unset, .unset] at_116 rfl rfl rfl ?_
 refine go_new K X4s (wd hw 48 rfl) (wd hw 49 rfl) (wd hw 50 rfl) e4s at_118 rfl (cells' := 8) (slots' := 179) rfl rfl (by decide) (by decide) ?_
 intro T4v h4v b4v g4v X4v e4v E4v A2771 D4v
 have z4w := (Nat.le_trans (Nat.le_trans (Nat.le_trans z4j (Keep.ext (Keep.refl _ []) E4i).1) (Keep.of_wr W4o).1) (Keep.of_wr W4s).1)
 have ga2772 : n0 ≤ b4v := Nat.le_trans z4w (Nat.le_of_eq g4v.symm)
 have gb4x : h0.size ≤ b4v := Nat.le_trans kp4t.1 (Nat.le_of_eq g4v.symm)
 have kp4y : Keep h0 h4v [] := kp4t.trans (Keep.ext (Keep.refl _ []) E4v) all0
 refine go_dup K X4v at_121 rfl rfl ?_
 refine go_aload K X4v at_122 rfl rfl rfl ?_
 refine go_aload K X4v at_124 rfl rfl rfl ?_
 have l4z := (Nat.le_trans (Nat.le_trans (Nat.le_trans (Nat.le_trans K1f.1 K1s.1) K2g.1) K2u.1) K3h.1)
 have l5a := (Nat.le_trans (Nat.le_trans (Nat.le_trans (Nat.le_trans (Nat.le_trans (Keep.of_wr W3y).1 (Keep.of_wr W4b).1) (Keep.of_wr W4f).1) (Keep.ext (Keep.refl _ []) E4i).1) (Keep.of_wr W4o).1) (Keep.of_wr W4s).1)
 have l5b := (Nat.le_trans (Keep.of_wr W4o).1 (Keep.of_wr W4s).1)
 have ltx : b4i < b4v := (Nat.lt_of_lt_of_le (Nat.lt_of_lt_of_le C4i.lt l5b) (Nat.le_of_eq g4v.symm))
 have f5c := ((((((((f3i.keep (Keep.ext (Keep.refl _ []) E3s)).keep (Keep.of_wr W3y)).keep (Keep.of_wr W4b)).keep (Keep.of_wr W4f)).keep (Keep.ext (Keep.refl _ []) E4i)).keep (Keep.of_wr W4o)).keep (Keep.of_wr W4s)).keep (Keep.ext (Keep.refl _ []) E4v))
 have l5d := (Nat.le_trans (Nat.le_trans (Nat.le_trans (Nat.le_trans (Nat.le_trans K0h.1 K1f.1) K1s.1) K2g.1) K2u.1) K3h.1)
 have l5e := (Nat.le_trans (Nat.le_trans (Nat.le_trans (Nat.le_trans l5d (Keep.ext (Keep.refl _ []) E3s).1) (Keep.of_wr W3y).1) (Keep.of_wr W4b).1) (Keep.of_wr W4f).1)
 have f5f := ((((((((f3j.keep (Keep.ext (Keep.refl _ []) E3s) nin0).keep (Keep.of_wr W3y) (ninS (Nat.ne_of_lt (Nat.lt_of_lt_of_le (Nat.lt_of_lt_of_le A2638.lt l5d) (Nat.le_of_eq g3s.symm))) nin0)).keep (Keep.of_wr W4b) (ninS (Nat.ne_of_lt (Nat.lt_of_lt_of_le (Nat.lt_of_lt_of_le A2638.lt l5d) (Nat.le_of_eq g3s.symm))) nin0)).keep (Keep.of_wr W4f) (ninS (Nat.ne_of_lt (Nat.lt_of_lt_of_le (Nat.lt_of_lt_of_le A2638.lt l5d) (Nat.le_of_eq g3s.symm))) nin0)).keep (Keep.ext (Keep.refl _ []) E4i) nin0).keep (Keep.of_wr W4o) (ninS (Nat.ne_of_lt (Nat.lt_of_lt_of_le (Nat.lt_of_lt_of_le A2638.lt l5e) (Nat.le_of_eq g4i.symm))) nin0)).keep (Keep.of_wr W4s) (ninS (Nat.ne_of_lt (Nat.lt_of_lt_of_le (Nat.lt_of_lt_of_le A2638.lt l5e) (Nat.le_of_eq g4i.symm))) nin0)).keep (Keep.ext (Keep.refl _ []) E4v) nin0)
 have f5g := ((((((((f3k.keep (Keep.ext (Keep.refl _ []) E3s) nin0).keep (Keep.of_wr W3y) (ninS (Nat.ne_of_lt (Nat.lt_of_lt_of_le (Nat.lt_of_lt_of_le A2638.lt l5d) (Nat.le_of_eq g3s.symm))) nin0)).keep (Keep.of_wr W4b) (ninS (Nat.ne_of_lt (Nat.lt_of_lt_of_le (Nat.lt_of_lt_of_le A2638.lt l5d) (Nat.le_of_eq g3s.symm))) nin0)).keep (Keep.of_wr W4f) (ninS (Nat.ne_of_lt (Nat.lt_of_lt_of_le (Nat.lt_of_lt_of_le A2638.lt l5d) (Nat.le_of_eq g3s.symm))) nin0)).keep (Keep.ext (Keep.refl _ []) E4i) nin0).keep (Keep.of_wr W4o) (ninS (Nat.ne_of_lt (Nat.lt_of_lt_of_le (Nat.lt_of_lt_of_le A2638.lt l5e) (Nat.le_of_eq g4i.symm))) nin0)).keep (Keep.of_wr W4s) (ninS (Nat.ne_of_lt (Nat.lt_of_lt_of_le (Nat.lt_of_lt_of_le A2638.lt l5e) (Nat.le_of_eq g4i.symm))) nin0)).keep (Keep.ext (Keep.refl _ []) E4v) nin0)
 have f5h := ((((((((f3l.keep (Keep.ext (Keep.refl _ []) E3s) nin0).keep (Keep.of_wr W3y) (ninS (Nat.ne_of_lt (Nat.lt_of_lt_of_le (Nat.lt_of_lt_of_le A2638.lt l5d) (Nat.le_of_eq g3s.symm))) nin0)).keep (Keep.of_wr W4b) (ninS (Nat.ne_of_lt (Nat.lt_of_lt_of_le (Nat.lt_of_lt_of_le A2638.lt l5d) (Nat.le_of_eq g3s.symm))) nin0)).keep (Keep.of_wr W4f) (ninS (Nat.ne_of_lt (Nat.lt_of_lt_of_le (Nat.lt_of_lt_of_le A2638.lt l5d) (Nat.le_of_eq g3s.symm))) nin0)).keep (Keep.ext (Keep.refl _ []) E4i) nin0).keep (Keep.of_wr W4o) (ninS (Nat.ne_of_lt (Nat.lt_of_lt_of_le (Nat.lt_of_lt_of_le A2638.lt l5e) (Nat.le_of_eq g4i.symm))) nin0)).keep (Keep.of_wr W4s) (ninS (Nat.ne_of_lt (Nat.lt_of_lt_of_le (Nat.lt_of_lt_of_le A2638.lt l5e) (Nat.le_of_eq g4i.symm))) nin0)).keep (Keep.ext (Keep.refl _ []) E4v) nin0)
 have f5i := ((((((((f3m.keep (Keep.ext (Keep.refl _ []) E3s) nin0).keep (Keep.of_wr W3y) (ninS (Nat.ne_of_lt (Nat.lt_of_lt_of_le (Nat.lt_of_lt_of_le A2638.lt l5d) (Nat.le_of_eq g3s.symm))) nin0)).keep (Keep.of_wr W4b) (ninS (Nat.ne_of_lt (Nat.lt_of_lt_of_le (Nat.lt_of_lt_of_le A2638.lt l5d) (Nat.le_of_eq g3s.symm))) nin0)).keep (Keep.of_wr W4f) (ninS (Nat.ne_of_lt (Nat.lt_of_lt_of_le (Nat.lt_of_lt_of_le A2638.lt l5d) (Nat.le_of_eq g3s.symm))) nin0)).keep (Keep.ext (Keep.refl _ []) E4i) nin0).keep (Keep.of_wr W4o) (ninS (Nat.ne_of_lt (Nat.lt_of_lt_of_le (Nat.lt_of_lt_of_le A2638.lt l5e) (Nat.le_of_eq g4i.symm))) nin0)).keep (Keep.of_wr W4s) (ninS (Nat.ne_of_lt (Nat.lt_of_lt_of_le (Nat.lt_of_lt_of_le A2638.lt l5e) (Nat.le_of_eq g4i.symm))) nin0)).keep (Keep.ext (Keep.refl _ []) E4v) nin0)
 have f5j := ((((((((f3n.keep (Keep.ext (Keep.refl _ []) E3s) nin0).keep (Keep.of_wr W3y) (ninS (Nat.ne_of_lt (Nat.lt_of_lt_of_le (Nat.lt_of_lt_of_le A2638.lt l5d) (Nat.le_of_eq g3s.symm))) nin0)).keep (Keep.of_wr W4b) (ninS (Nat.ne_of_lt (Nat.lt_of_lt_of_le (Nat.lt_of_lt_of_le A2638.lt l5d) (Nat.le_of_eq g3s.symm))) nin0)).keep (Keep.of_wr W4f) (ninS (Nat.ne_of_lt (Nat.lt_of_lt_of_le (Nat.lt_of_lt_of_le A2638.lt l5d) (Nat.le_of_eq g3s.symm))) nin0)).keep (Keep.ext (Keep.refl _ []) E4i) nin0).keep (Keep.of_wr W4o) (ninS (Nat.ne_of_lt (Nat.lt_of_lt_of_le (Nat.lt_of_lt_of_le A2638.lt l5e) (Nat.le_of_eq g4i.symm))) nin0)).keep (Keep.of_wr W4s) (ninS (Nat.ne_of_lt (Nat.lt_of_lt_of_le (Nat.lt_of_lt_of_le A2638.lt l5e) (Nat.le_of_eq g4i.symm))) nin0)).keep (Keep.ext (Keep.refl _ []) E4v) nin0)
 have f5k := ((((((((f3o.keep (Keep.ext (Keep.refl _ []) E3s) nin0).keep (Keep.of_wr W3y) (ninS (Nat.ne_of_lt (Nat.lt_of_lt_of_le (Nat.lt_of_lt_of_le A2638.lt l5d) (Nat.le_of_eq g3s.symm))) nin0)).keep (Keep.of_wr W4b) (ninS (Nat.ne_of_lt (Nat.lt_of_lt_of_le (Nat.lt_of_lt_of_le A2638.lt l5d) (Nat.le_of_eq g3s.symm))) nin0)).keep (Keep.of_wr W4f) (ninS (Nat.ne_of_lt (Nat.lt_of_lt_of_le (Nat.lt_of_lt_of_le A2638.lt l5d) (Nat.le_of_eq g3s.symm))) nin0)).keep (Keep.ext (Keep.refl _ []) E4i) nin0).keep (Keep.of_wr W4o) (ninS (Nat.ne_of_lt (Nat.lt_of_lt_of_le (Nat.lt_of_lt_of_le A2638.lt l5e) (Nat.le_of_eq g4i.symm))) nin0)).keep (Keep.of_wr W4s) (ninS (Nat.ne_of_lt (Nat.lt_of_lt_of_le (Nat.lt_of_lt_of_le A2638.lt l5e) (Nat.le_of_eq g4i.symm))) nin0)).keep (Keep.ext (Keep.refl _ []) E4v) nin0)
 have f5l := ((((((((f3p.keep (Keep.ext (Keep.refl _ []) E3s) nin0).keep (Keep.of_wr W3y) (ninS (Nat.ne_of_lt (Nat.lt_of_lt_of_le (Nat.lt_of_lt_of_le A2638.lt l5d) (Nat.le_of_eq g3s.symm))) nin0)).keep (Keep.of_wr W4b) (ninS (Nat.ne_of_lt (Nat.lt_of_lt_of_le (Nat.lt_of_lt_of_le A2638.lt l5d) (Nat.le_of_eq g3s.symm))) nin0)).keep (Keep.of_wr W4f) (ninS (Nat.ne_of_lt (Nat.lt_of_lt_of_le (Nat.lt_of_lt_of_le A2638.lt l5d) (Nat.le_of_eq g3s.symm))) nin0)).keep (Keep.ext (Keep.refl _ []) E4i) nin0).keep (Keep.of_wr W4o) (ninS (Nat.ne_of_lt (Nat.lt_of_lt_of_le (Nat.lt_of_lt_of_le A2638.lt l5e) (Nat.le_of_eq g4i.symm))) nin0)).keep (Keep.of_wr W4s) (ninS (Nat.ne_of_lt (Nat.lt_of_lt_of_le (Nat.lt_of_lt_of_le A2638.lt l5e) (Nat.le_of_eq g4i.symm))) nin0)).keep (Keep.ext (Keep.refl _ []) E4v) nin0)
 have l5m := (Nat.le_trans (Nat.le_trans (Nat.le_trans (Nat.le_trans l4z (Keep.ext (Keep.refl _ []) E3s).1) (Keep.of_wr W3y).1) (Keep.of_wr W4b).1) (Keep.of_wr W4f).1)
 have f5n := ((((((((f3q.keep (Keep.ext (Keep.refl _ []) E3s) nin0).keep (Keep.of_wr W3y) (ninS (Nat.ne_of_lt (Nat.lt_of_lt_of_le (Nat.lt_of_lt_of_le f0u.lt l4z) (Nat.le_of_eq g3s.symm))) nin0)).keep (Keep.of_wr W4b) (ninS (Nat.ne_of_lt (Nat.lt_of_lt_of_le (Nat.lt_of_lt_of_le f0u.lt l4z) (Nat.le_of_eq g3s.symm))) nin0)).keep (Keep.of_wr W4f) (ninS (Nat.ne_of_lt (Nat.lt_of_lt_of_le (Nat.lt_of_lt_of_le f0u.lt l4z) (Nat.le_of_eq g3s.symm))) nin0)).keep (Keep.ext (Keep.refl _ []) E4i) nin0).keep (Keep.of_wr W4o) (ninS (Nat.ne_of_lt (Nat.lt_of_lt_of_le (Nat.lt_of_lt_of_le f0u.lt l5m) (Nat.le_of_eq g4i.symm))) nin0)).keep (Keep.of_wr W4s) (ninS (Nat.ne_of_lt (Nat.lt_of_lt_of_le (Nat.lt_of_lt_of_le f0u.lt l5m) (Nat.le_of_eq g4i.symm))) nin0)).keep (Keep.ext (Keep.refl _ []) E4v) nin0)
 have f5o := (((((((((f3d.keep K3h (ninS (Ne.symm (inc_ne r0z 0 2 rfl rfl (by decide))) (ninS (Ne.symm (inc_ne r0z 1 2 rfl rfl (by decide))) nin0))).keep (Keep.ext (Keep.refl _ []) E3s) nin0).keep (Keep.of_wr W3y) (ninS (Nat.ne_of_lt (Nat.lt_of_lt_of_le (Nat.lt_of_lt_of_le f0v.lt l4z) (Nat.le_of_eq g3s.symm))) nin0)).keep (Keep.of_wr W4b) (ninS (Nat.ne_of_lt (Nat.lt_of_lt_of_le (Nat.lt_of_lt_of_le f0v.lt l4z) (Nat.le_of_eq g3s.symm))) nin0)).keep (Keep.of_wr W4f) (ninS (Nat.ne_of_lt (Nat.lt_of_lt_of_le (Nat.lt_of_lt_of_le f0v.lt l4z) (Nat.le_of_eq g3s.symm))) nin0)).keep (Keep.ext (Keep.refl _ []) E4i) nin0).keep (Keep.of_wr W4o) (ninS (Nat.ne_of_lt (Nat.lt_of_lt_of_le (Nat.lt_of_lt_of_le f0v.lt l5m) (Nat.le_of_eq g4i.symm))) nin0)).keep (Keep.of_wr W4s) (ninS (Nat.ne_of_lt (Nat.lt_of_lt_of_le (Nat.lt_of_lt_of_le f0v.lt l5m) (Nat.le_of_eq g4i.symm))) nin0)).keep (Keep.ext (Keep.refl _ []) E4v) nin0)
 have f5p := (((((((((f3e.keep K3h (ninS (Ne.symm (inc_ne r0z 0 3 rfl rfl (by decide))) (ninS (Ne.symm (inc_ne r0z 1 3 rfl rfl (by decide))) nin0))).keep (Keep.ext (Keep.refl _ []) E3s) nin0).keep (Keep.of_wr W3y) (ninS (Nat.ne_of_lt (Nat.lt_of_lt_of_le (Nat.lt_of_lt_of_le f0w.lt l4z) (Nat.le_of_eq g3s.symm))) nin0)).keep (Keep.of_wr W4b) (ninS (Nat.ne_of_lt (Nat.lt_of_lt_of_le (Nat.lt_of_lt_of_le f0w.lt l4z) (Nat.le_of_eq g3s.symm))) nin0)).keep (Keep.of_wr W4f) (ninS (Nat.ne_of_lt (Nat.lt_of_lt_of_le (Nat.lt_of_lt_of_le f0w.lt l4z) (Nat.le_of_eq g3s.symm))) nin0)).keep (Keep.ext (Keep.refl _ []) E4i) nin0).keep (Keep.of_wr W4o) (ninS (Nat.ne_of_lt (Nat.lt_of_lt_of_le (Nat.lt_of_lt_of_le f0w.lt l5m) (Nat.le_of_eq g4i.symm))) nin0)).keep (Keep.of_wr W4s) (ninS (Nat.ne_of_lt (Nat.lt_of_lt_of_le (Nat.lt_of_lt_of_le f0w.lt l5m) (Nat.le_of_eq g4i.symm))) nin0)).keep (Keep.ext (Keep.refl _ []) E4v) nin0)
 have f5q := ((((((((((f2s.keep K2u (ninS (Ne.symm (inc_ne r0z 0 4 rfl rfl (by decide))) (ninS (Ne.symm (inc_ne r0z 2 4 rfl rfl (by decide))) (ninS (Ne.symm (inc_ne r0z 3 4 rfl rfl (by decide))) nin0)))).keep K3h (ninS (Ne.symm (inc_ne r0z 0 4 rfl rfl (by decide))) (ninS (Ne.symm (inc_ne r0z 1 4 rfl rfl (by decide))) nin0))).keep (Keep.ext (Keep.refl _ []) E3s) nin0).keep (Keep.of_wr W3y) (ninS (Nat.ne_of_lt (Nat.lt_of_lt_of_le (Nat.lt_of_lt_of_le f0x.lt l4z) (Nat.le_of_eq g3s.symm))) nin0)).keep (Keep.of_wr W4b) (ninS (Nat.ne_of_lt (Nat.lt_of_lt_of_le (Nat.lt_of_lt_of_le f0x.lt l4z) (Nat.le_of_eq g3s.symm))) nin0)).keep (Keep.of_wr W4f) (ninS (Nat.ne_of_lt (Nat.lt_of_lt_of_le (Nat.lt_of_lt_of_le f0x.lt l4z) (Nat.le_of_eq g3s.symm))) nin0)).keep (Keep.ext (Keep.refl _ []) E4i) nin0).keep (Keep.of_wr W4o) (ninS (Nat.ne_of_lt (Nat.lt_of_lt_of_le (Nat.lt_of_lt_of_le f0x.lt l5m) (Nat.le_of_eq g4i.symm))) nin0)).keep (Keep.of_wr W4s) (ninS (Nat.ne_of_lt (Nat.lt_of_lt_of_le (Nat.lt_of_lt_of_le f0x.lt l5m) (Nat.le_of_eq g4i.symm))) nin0)).keep (Keep.ext (Keep.refl _ []) E4v) nin0)
 have f5r := (((((((((((((f0y.keep K1f).keep K1s).keep K2g).keep K2u).keep K3h).keep (Keep.ext (Keep.refl _ []) E3s)).keep (Keep.of_wr W3y)).keep (Keep.of_wr W4b)).keep (Keep.of_wr W4f)).keep (Keep.ext (Keep.refl _ []) E4i)).keep (Keep.of_wr W4o)).keep (Keep.of_wr W4s)).keep (Keep.ext (Keep.refl _ []) E4v))
 have l5s := (Nat.le_trans (Nat.le_trans (Keep.of_wr W3y).1 (Keep.of_wr W4b).1) (Keep.of_wr W4f).1)
 have f5t := ((((f4h.keep (Keep.ext (Keep.refl _ []) E4i) nin0).keep (Keep.of_wr W4o) (ninS (Nat.ne_of_lt (Nat.lt_of_lt_of_le (Nat.lt_of_lt_of_le C3s.lt l5s) (Nat.le_of_eq g4i.symm))) nin0)).keep (Keep.of_wr W4s) (ninS (Nat.ne_of_lt (Nat.lt_of_lt_of_le (Nat.lt_of_lt_of_le C3s.lt l5s) (Nat.le_of_eq g4i.symm))) nin0)).keep (Keep.ext (Keep.refl _ []) E4v) nin0)
 have f5u := (((((((C3s.keep (Keep.of_wr W3y)).keep (Keep.of_wr W4b)).keep (Keep.of_wr W4f)).keep (Keep.ext (Keep.refl _ []) E4i)).keep (Keep.of_wr W4o)).keep (Keep.of_wr W4s)).keep (Keep.ext (Keep.refl _ []) E4v))
 refine go_init K X4v (a := b4v) (argsL := [(.ref b0e), (.ref b3s)]) (stk := [(.ref b4v)]) (wd hw 51 rfl) (wd hw 52 rfl) (wd hw 50 rfl) (wd hw 53 rfl) (by decide) rfl (lenOf pd_19 rfl) e4v (rmDsi hw b4v b0e b3s c_st2643 c_er2644 c_ev2645 c_su2646 zs0 zs1 zc0 zc2 h4v (Nat.le_trans z4w (Keep.ext (Keep.refl _ []) E4v).1) ga2772 B A2771 (D4v (Or.inr (wd hw 57 rfl)) (ty := .int) (by decide) : Fld Z h4v b4v "com/example/plumbline/plumbline/align/DualSimplex" "rows" "I" (.int (0 : Int32))) (D4v (Or.inr (wd hw 59 rfl)) (ty := .int) (by decide) : Fld Z h4v b4v "com/example/plumbline/plumbline/align/DualSimplex" "columns" "I" (.int (0 : Int32))) (D4v (Or.inr (wd hw 70 rfl)) (ty := (.array .double)) (by decide) : Fld Z h4v b4v "com/example/plumbline/plumbline/align/DualSimplex" "costs" "[D" .null) (D4v (Or.inr (wd hw 83 rfl)) (ty := (.array .int)) (by decide) : Fld Z h4v b4v "com/example/plumbline/plumbline/align/DualSimplex" "surpluses" "[I" .null) (D4v (Or.inr (wd hw 94 rfl)) (ty := (.array .int)) (by decide) : Fld Z h4v b4v "com/example/plumbline/plumbline/align/DualSimplex" "starts" "[I" .null) (D4v (Or.inr (wd hw 98 rfl)) (ty := (.array .int)) (by decide) : Fld Z h4v b4v "com/example/plumbline/plumbline/align/DualSimplex" "entryRows" "[I" .null) (D4v (Or.inr (wd hw 104 rfl)) (ty := (.array .double)) (by decide) : Fld Z h4v b4v "com/example/plumbline/plumbline/align/DualSimplex" "entryValues" "[D" .null) (D4v (Or.inr (wd hw 106 rfl)) (ty := (.array .int)) (by decide) : Fld Z h4v b4v "com/example/plumbline/plumbline/align/DualSimplex" "basis" "[I" .null) (D4v (Or.inr (wd hw 108 rfl)) (ty := (.array .int)) (by decide) : Fld Z h4v b4v "com/example/plumbline/plumbline/align/DualSimplex" "basicIn" "[I" .null) (D4v (Or.inr (wd hw 133 rfl)) (ty := .int) (by decide) : Fld Z h4v b4v "com/example/plumbline/plumbline/align/DualSimplex" "blockShift" "I" (.int (0 : Int32))) (D4v (Or.inr (wd hw 136 rfl)) (ty := (.array (.array .double))) (by decide) : Fld Z h4v b4v "com/example/plumbline/plumbline/align/DualSimplex" "inverse" "[[D" .null) (D4v (Or.inr (wd hw 139 rfl)) (ty := (.array .double)) (by decide) : Fld Z h4v b4v "com/example/plumbline/plumbline/align/DualSimplex" "values" "[D" .null) (D4v (Or.inr (wd hw 141 rfl)) (ty := (.array .double)) (by decide) : Fld Z h4v b4v "com/example/plumbline/plumbline/align/DualSimplex" "reduced" "[D" .null) (D4v (Or.inr (wd hw 143 rfl)) (ty := (.array .double)) (by decide) : Fld Z h4v b4v "com/example/plumbline/plumbline/align/DualSimplex" "sides" "[D" .null) (D4v (Or.inr (wd hw 145 rfl)) (ty := (.array .double)) (by decide) : Fld Z h4v b4v "com/example/plumbline/plumbline/align/DualSimplex" "pivotRow" "[D" .null) (D4v (Or.inr (wd hw 147 rfl)) (ty := (.array .double)) (by decide) : Fld Z h4v b4v "com/example/plumbline/plumbline/align/DualSimplex" "pivotColumn" "[D" .null) (D4v (Or.inr (wd hw 149 rfl)) (ty := (.array .double)) (by decide) : Fld Z h4v b4v "com/example/plumbline/plumbline/align/DualSimplex" "stepColumn" "[D" .null) (D4v (Or.inr (wd hw 151 rfl)) (ty := (.array .int)) (by decide) : Fld Z h4v b4v "com/example/plumbline/plumbline/align/DualSimplex" "picked" "[I" .null) (D4v (Or.inr (wd hw 153 rfl)) (ty := (.array .int)) (by decide) : Fld Z h4v b4v "com/example/plumbline/plumbline/align/DualSimplex" "pivotRows" "[I" .null) (D4v (Or.inl (wd hw 173 rfl)) (ty := .int) (by decide) : Fld Z h4v b4v "com/example/plumbline/plumbline/align/DualSimplex" "pivotsSinceReinversion" "I" (.int (0 : Int32))) (D4v (Or.inl (wd hw 175 rfl)) (ty := .boolean) (by decide) : Fld Z h4v b4v "com/example/plumbline/plumbline/align/DualSimplex" "reducedCostsChecked" "Z" (.int (0 : Int32))) f5c f5f f5g f5h f5i f5j f5k f5l f5n f5o f5p f5q f5r f5t f5u (inc2 (inc_lt r0z (i := 0) (j := 1) rfl rfl (by decide)) (inc2 (inc_lt r0z (i := 1) (j := 2) rfl rfl (by decide)) (inc2 (inc_lt r0z (i := 2) (j := 3) rfl rfl (by decide)) (inc2 (inc_lt r0z (i := 3) (j := 4) rfl rfl (by decide)) (inc2 (Nat.lt_of_lt_of_le (Nat.lt_of_lt_of_le f0x.lt l4z) (Nat.le_of_eq g3s.symm)) (inc2 (Nat.lt_of_lt_of_le (Nat.lt_of_lt_of_le C3s.lt l5a) (Nat.le_of_eq g4v.symm)) inc1))))))) rfl rfl at_126 rfl (by decide) (W := 1) (Nat.le_of_eq rfl) (by decide) (cells' := 25) (slots' := 224) rfl rfl (by decide) (by decide) ?_
 rintro T5v h5v _ X5v e5v ⟨x2799, rfl, K5v, f5w, f5x, f5y, f5z, f6a, f6b, f6c, f6d, f6e, f6f, f6g, f6h, r6i, r6j⟩
 show Go _ _ _ _ _ _ _ (T5v.setTop (mkF m 129 #[.val (.int v0), .val (.int v1), .val (.int v2), .val (.int v3), .val (.int v4), .val (.int (v2 &&& (1048575 : Int32))), .val (.int (v3 &&& (1048575 : Int32))), .val (.int vs0), .val (.int vs1), .val (.ref b0e), .val (.ref b3s), .val (.ref b4i), .unset, .unset, .unset, .unset] [(.ref b4v)]))
 have kp6k : Keep h0 h5v [] := kp4y.trans K5v (allS (Or.inr gb4x) all0)
 subst r6j
 show Go _ _ _ _ _ _ _ (T5v.setTop (mkF m 129 #[.val (.int v0), .val (.int v1), .val (.int v2), .val (.int v3), .val (.int v4), .val (.int (v2 &&& (1048575 : Int32))), .val (.int (v3 &&& (1048575 : Int32))), .val (.int vs0), .val (.int vs1), .val (.ref b0e), .val (.ref b3s), .val (.ref b4i), .unset, .unset, .unset, .unset] [(.ref (x2799 0))]))
 refine go_astore K X5v #[.val (.int v0), .val (.int v1), .val (.int v2), .val (.int v3), .val (.int v4), .val (.int (v2 &&& (1048575 : Int32))), .val (.int (v3 &&& (1048575 : Int32))), .val (.int vs0), .val (.int vs1), .val (.ref b0e), .val (.ref b3s), .val (.ref b4i), .val (.ref (x2799 0)), .unset, .unset, .unset] at_129 rfl rfl rfl ?_
 refine go_aload K X5v at_131 rfl rfl rfl ?_
 refine go_aload K X5v at_133 rfl rfl rfl ?_
 rcases own_paths zs0 zs1 with q1 | q2 | q3 | q4 | q5 | q6 | q7
 · show Go _ _ _ _ _ _ _ (T5v.setTop (mkF m 135 #[.val (.int v0), .val (.int v1), .val (.int v2), .val (.int v3), .val (.int v4), .val (.int (v2 &&& (1048575 : Int32))), .val (.int (v3 &&& (1048575 : Int32))), .val (.int vs0), .val (.int vs1), .val (.ref b0e), .val (.ref b3s), .val (.ref b4i), .val (.ref (x2799 0)), .unset, .unset, .unset] [(.ref b4i), (.ref (x2799 0))]))
   have z6l := (Nat.le_trans (Nat.le_trans z4w (Keep.ext (Keep.refl _ []) E4v).1) K5v.1)
   have f6m := ((f4u.keep (Keep.ext (Keep.refl _ []) E4v) nin0).keep K5v (ninS (Nat.ne_of_lt (Nat.lt_of_lt_of_le (Nat.lt_of_lt_of_le C4i.lt l5b) (Nat.le_of_eq g4v.symm))) nin0))
   refine go_virt K X5v (a := (x2799 0)) (argsL := [(.ref b4i)]) (stk := []) (wd hw 180 rfl) (wd hw 181 rfl) (wd hw 183 rfl) (wd hw 183 rfl) (wd hw 182 rfl) (wd hw 184 rfl) (wd hw 50 rfl) (by decide) (lenOf pd_20 rfl) e5v f5w.1 (rmSol1 hw x2799 b4i zs0 zs1 zc0 zc2 h5v r6i f5w f5x B q1 z6l f6m f5y f5z f6a f6b f6c f6d f6e f6f f6g f6h (own_nin r6i ltx)) rfl rfl at_135 rfl (by decide) (W := 0) (Nat.le_of_eq rfl) (by decide) (cells' := 25) (slots' := 224) rfl rfl (by decide) (by decide) ?_
   rintro T6n h6n _ X6n e6n ⟨ka6o, kb6p, rfl, K6n, f6q, f6r, f6s, f6t⟩
   show Go _ _ _ _ _ _ _ (T6n.setTop (mkF m 138 #[.val (.int v0), .val (.int v1), .val (.int v2), .val (.int v3), .val (.int v4), .val (.int (v2 &&& (1048575 : Int32))), .val (.int (v3 &&& (1048575 : Int32))), .val (.int vs0), .val (.int vs1), .val (.ref b0e), .val (.ref b3s), .val (.ref b4i), .val (.ref (x2799 0)), .unset, .unset, .unset] [(.int (0 : Int32))]))
   have kp6u : Keep h0 h6n [] := kp6k.trans K6n (allS (Or.inr (gex r6i gb4x 10 rfl)) (allS (Or.inr (gex r6i gb4x 12 rfl)) (allS (Or.inr (gex r6i gb4x 13 rfl)) (allS (Or.inr (gex r6i gb4x 16 rfl)) all0))))
   refine go_istore K X6n #[.val (.int v0), .val (.int v1), .val (.int v2), .val (.int v3), .val (.int v4), .val (.int (v2 &&& (1048575 : Int32))), .val (.int (v3 &&& (1048575 : Int32))), .val (.int vs0), .val (.int vs1), .val (.ref b0e), .val (.ref b3s), .val (.ref b4i), .val (.ref (x2799 0)), .val (.int (0 : Int32)), .unset, .unset] at_138 rfl rfl ?_
   refine go_iload K X6n at_140 rfl rfl ?_
   refine go_ifF K X6n at_142 rfl (own_lt0 hzs0 q1.1 : vs0 < (0 : Int32)) ?_
   refine go_iload K X6n at_145 rfl rfl ?_
   refine go_ifF K X6n at_147 rfl (by decide : (0 : Int32) = (0 : Int32)) ?_
   refine go_iconst K X6n (1 : Int32) at_150 rfl rfl ?_
   refine go_goto K X6n at_151 (by decide) rfl ?_
   refine go_retZ K X6n (Or.inr rfl) at_155 (by decide) (by decide) ?_
   rw [e6n]
   exact ⟨rfl, kp6u⟩
 · show Go _ _ _ _ _ _ _ (T5v.setTop (mkF m 135 #[.val (.int v0), .val (.int v1), .val (.int v2), .val (.int v3), .val (.int v4), .val (.int (v2 &&& (1048575 : Int32))), .val (.int (v3 &&& (1048575 : Int32))), .val (.int vs0), .val (.int vs1), .val (.ref b0e), .val (.ref b3s), .val (.ref b4i), .val (.ref (x2799 0)), .unset, .unset, .unset] [(.ref b4i), (.ref (x2799 0))]))
   have z6v := (Nat.le_trans (Nat.le_trans z4w (Keep.ext (Keep.refl _ []) E4v).1) K5v.1)
   have f6w := ((f4u.keep (Keep.ext (Keep.refl _ []) E4v) nin0).keep K5v (ninS (Nat.ne_of_lt (Nat.lt_of_lt_of_le (Nat.lt_of_lt_of_le C4i.lt l5b) (Nat.le_of_eq g4v.symm))) nin0))
   refine go_virt K X5v (a := (x2799 0)) (argsL := [(.ref b4i)]) (stk := []) (wd hw 180 rfl) (wd hw 181 rfl) (wd hw 183 rfl) (wd hw 183 rfl) (wd hw 182 rfl) (wd hw 184 rfl) (wd hw 50 rfl) (by decide) (lenOf pd_20 rfl) e5v f5w.1 (rmSol2 hw x2799 b4i zs0 zs1 zc0 zc2 h5v r6i f5w f5x B q2 z6v f6w f5y f5z f6a f6b f6c f6d f6e f6f f6g f6h (own_nin r6i ltx)) rfl rfl at_135 rfl (by decide) (W := 0) (Nat.le_of_eq rfl) (by decide) (cells' := 26) (slots' := 226) rfl rfl (by decide) (by decide) ?_
   rintro T6x h6x _ X6x e6x ⟨ka6y, kb6z, rfl, K6x, f7a, f7b, f7c, f7d⟩
   show Go _ _ _ _ _ _ _ (T6x.setTop (mkF m 138 #[.val (.int v0), .val (.int v1), .val (.int v2), .val (.int v3), .val (.int v4), .val (.int (v2 &&& (1048575 : Int32))), .val (.int (v3 &&& (1048575 : Int32))), .val (.int vs0), .val (.int vs1), .val (.ref b0e), .val (.ref b3s), .val (.ref b4i), .val (.ref (x2799 0)), .unset, .unset, .unset] [(.int (0 : Int32))]))
   have kp7e : Keep h0 h6x [] := kp6k.trans K6x (allS (Or.inr (gex r6i gb4x 0 rfl)) (allS (Or.inr (gex r6i gb4x 6 rfl)) (allS (Or.inr (gex r6i gb4x 7 rfl)) (allS (Or.inr (gex r6i gb4x 9 rfl)) (allS (Or.inr (gex r6i gb4x 10 rfl)) (allS (Or.inr (gex r6i gb4x 11 rfl)) (allS (Or.inr (gex r6i gb4x 12 rfl)) (allS (Or.inr (gex r6i gb4x 13 rfl)) (allS (Or.inr (gex r6i gb4x 14 rfl)) (allS (Or.inr (gex r6i gb4x 15 rfl)) (allS (Or.inr (gex r6i gb4x 16 rfl)) (allS (Or.inr (gex r6i gb4x 17 rfl)) all0))))))))))))
   refine go_istore K X6x #[.val (.int v0), .val (.int v1), .val (.int v2), .val (.int v3), .val (.int v4), .val (.int (v2 &&& (1048575 : Int32))), .val (.int (v3 &&& (1048575 : Int32))), .val (.int vs0), .val (.int vs1), .val (.ref b0e), .val (.ref b3s), .val (.ref b4i), .val (.ref (x2799 0)), .val (.int (0 : Int32)), .unset, .unset] at_138 rfl rfl ?_
   refine go_iload K X6x at_140 rfl rfl ?_
   refine go_ifF K X6x at_142 rfl (own_lt0 hzs0 q2.1 : vs0 < (0 : Int32)) ?_
   refine go_iload K X6x at_145 rfl rfl ?_
   refine go_ifF K X6x at_147 rfl (by decide : (0 : Int32) = (0 : Int32)) ?_
   refine go_iconst K X6x (1 : Int32) at_150 rfl rfl ?_
   refine go_goto K X6x at_151 (by decide) rfl ?_
   refine go_retZ K X6x (Or.inr rfl) at_155 (by decide) (by decide) ?_
   rw [e6x]
   exact ⟨rfl, kp7e⟩
 · show Go _ _ _ _ _ _ _ (T5v.setTop (mkF m 135 #[.val (.int v0), .val (.int v1), .val (.int v2), .val (.int v3), .val (.int v4), .val (.int (v2 &&& (1048575 : Int32))), .val (.int (v3 &&& (1048575 : Int32))), .val (.int vs0), .val (.int vs1), .val (.ref b0e), .val (.ref b3s), .val (.ref b4i), .val (.ref (x2799 0)), .unset, .unset, .unset] [(.ref b4i), (.ref (x2799 0))]))
   have z7f := (Nat.le_trans (Nat.le_trans z4w (Keep.ext (Keep.refl _ []) E4v).1) K5v.1)
   have f7g := ((f4u.keep (Keep.ext (Keep.refl _ []) E4v) nin0).keep K5v (ninS (Nat.ne_of_lt (Nat.lt_of_lt_of_le (Nat.lt_of_lt_of_le C4i.lt l5b) (Nat.le_of_eq g4v.symm))) nin0))
   refine go_virt K X5v (a := (x2799 0)) (argsL := [(.ref b4i)]) (stk := []) (wd hw 180 rfl) (wd hw 181 rfl) (wd hw 183 rfl) (wd hw 183 rfl) (wd hw 182 rfl) (wd hw 184 rfl) (wd hw 50 rfl) (by decide) (lenOf pd_20 rfl) e5v f5w.1 (rmSol3 hw x2799 b4i zs0 zs1 zc0 zc2 h5v r6i f5w f5x B q3 z7f f7g f5y f5z f6a f6b f6c f6d f6e f6f f6g f6h (own_nin r6i ltx)) rfl rfl at_135 rfl (by decide) (W := 0) (Nat.le_of_eq rfl) (by decide) (cells' := 27) (slots' := 228) rfl rfl (by decide) (by decide) ?_
   rintro T7h h7h _ X7h e7h ⟨ka7i, kb7j, rfl, K7h, f7k, f7l, f7m, f7n⟩
   show Go _ _ _ _ _ _ _ (T7h.setTop (mkF m 138 #[.val (.int v0), .val (.int v1), .val (.int v2), .val (.int v3), .val (.int v4), .val (.int (v2 &&& (1048575 : Int32))), .val (.int (v3 &&& (1048575 : Int32))), .val (.int vs0), .val (.int vs1), .val (.ref b0e), .val (.ref b3s), .val (.ref b4i), .val (.ref (x2799 0)), .unset, .unset, .unset] [(.int (1 : Int32))]))
   have kp7o : Keep h0 h7h [] := kp6k.trans K7h (allS (Or.inr (gex r6i gb4x 0 rfl)) (allS (Or.inr (gex r6i gb4x 10 rfl)) (allS (Or.inr (gex r6i gb4x 12 rfl)) (allS (Or.inr (gex r6i gb4x 16 rfl)) all0))))
   refine go_istore K X7h #[.val (.int v0), .val (.int v1), .val (.int v2), .val (.int v3), .val (.int v4), .val (.int (v2 &&& (1048575 : Int32))), .val (.int (v3 &&& (1048575 : Int32))), .val (.int vs0), .val (.int vs1), .val (.ref b0e), .val (.ref b3s), .val (.ref b4i), .val (.ref (x2799 0)), .val (.int (1 : Int32)), .unset, .unset] at_138 rfl rfl ?_
   refine go_iload K X7h at_140 rfl rfl ?_
   refine go_ifT K X7h at_142 (by decide) rfl (own_ge0 hzs0 (by omega) : ¬ vs0 < (0 : Int32)) ?_
   refine go_iload K X7h at_156 rfl rfl ?_
   refine go_ifT K X7h at_158 (by decide) rfl (by decide : ¬ (1 : Int32) = (0 : Int32)) ?_
   refine go_iload K X7h at_163 rfl rfl ?_
   refine go_i2l K X7h at_165 rfl ?_
   refine go_iload K X7h at_166 rfl rfl ?_
   refine go_i2l K X7h at_168 rfl ?_
   refine go_lmul K X7h at_169 rfl ?_
   refine go_iload K X7h at_170 rfl rfl ?_
   refine go_iconst K X7h (0 : Int32) at_172 rfl rfl ?_
   refine go_static K X7h (argsL := [(.int vs1), (.int (0 : Int32))]) (stk := [(.long ((vs0.toInt64) * ((v2 &&& (1048575 : Int32)).toInt64)))]) (wd hw 230 rfl) (wd hw 118 rfl) (wd hw 87 rfl) (wd hw 119 rfl) (by decide) (lenOf pd_3 rfl) e7h (rmMaxG hw vs1 (0 : Int32) h7h ) rfl rfl at_173 rfl (by decide) (W := 2) (Nat.le_of_eq rfl) (by decide) (cells' := 27) (slots' := 228) rfl rfl (by decide) (by decide) ?_
   rintro T7p h7p _ X7p e7p ⟨rfl, qe2847⟩
   show Go _ _ _ _ _ _ _ (T7p.setTop (mkF m 176 #[.val (.int v0), .val (.int v1), .val (.int v2), .val (.int v3), .val (.int v4), .val (.int (v2 &&& (1048575 : Int32))), .val (.int (v3 &&& (1048575 : Int32))), .val (.int vs0), .val (.int vs1), .val (.ref b0e), .val (.ref b3s), .val (.ref b4i), .val (.ref (x2799 0)), .val (.int (1 : Int32)), .unset, .unset] [(.int (own_max vs1 (0 : Int32))), (.long ((vs0.toInt64) * ((v2 &&& (1048575 : Int32)).toInt64)))]))
   replace e7p := e7p.trans qe2847
   refine go_i2l K X7p at_176 rfl ?_
   refine go_iload K X7p at_177 rfl rfl ?_
   refine go_i2l K X7p at_179 rfl ?_
   refine go_lmul K X7p at_180 rfl ?_
   refine go_ladd K X7p at_181 rfl ?_
   refine go_lstore K X7p #[.val (.int v0), .val (.int v1), .val (.int v2), .val (.int v3), .val (.int v4), .val (.int (v2 &&& (1048575 : Int32))), .val (.int (v3 &&& (1048575 : Int32))), .val (.int vs0), .val (.int vs1), .val (.ref b0e), .val (.ref b3s), .val (.ref b4i), .val (.ref (x2799 0)), .val (.int (1 : Int32)), .val (.long (((vs0.toInt64) * ((v2 &&& (1048575 : Int32)).toInt64)) + (((own_max vs1 (0 : Int32)).toInt64) * ((v3 &&& (1048575 : Int32)).toInt64)))), .second] at_182 rfl rfl ?_
   refine go_aload K X7p at_184 rfl rfl rfl ?_
   have f7q := (f5w.1.keep K7h)
   refine go_virt K X7p (a := (x2799 0)) (argsL := []) (stk := []) (wd hw 231 rfl) (wd hw 232 rfl) (wd hw 234 rfl) (wd hw 234 rfl) (wd hw 233 rfl) (wd hw 235 rfl) (wd hw 50 rfl) (by decide) (lenOf pd_21 rfl) e7p f7q (rmVal3 hw x2799 0 1 (-1) 1 (-1) 0 (-1) ka7i kb7j 0 0 zs0 zs1 zc0 zc2 h7h r6i f7k f7l B f7m f7n) rfl rfl at_186 rfl (by decide) (W := 0) (Nat.le_of_eq rfl) (by decide) (cells' := 27) (slots' := 228) rfl rfl (by decide) (by decide) ?_
   rintro T7r h7r _ X7r e7r ⟨dr2850, rfl, qe2849, r7s⟩
   show Go _ _ _ _ _ _ _ (T7r.setTop (mkF m 189 #[.val (.int v0), .val (.int v1), .val (.int v2), .val (.int v3), .val (.int v4), .val (.int (v2 &&& (1048575 : Int32))), .val (.int (v3 &&& (1048575 : Int32))), .val (.int vs0), .val (.int vs1), .val (.ref b0e), .val (.ref b3s), .val (.ref b4i), .val (.ref (x2799 0)), .val (.int (1 : Int32)), .val (.long (((vs0.toInt64) * ((v2 &&& (1048575 : Int32)).toInt64)) + (((own_max vs1 (0 : Int32)).toInt64) * ((v3 &&& (1048575 : Int32)).toInt64)))), .second] [(.double dr2850)]))
   replace e7r := e7r.trans qe2849
   refine go_lload K X7r at_189 rfl rfl ?_
   refine go_l2d K X7r (z := 0) (own_refN0 B hzs0 hzs1 hzc0 hzc2 q3) (by decide) (by decide) at_191 rfl ?_
   intro d7t hd7t
   refine go_difF K X7r at_192 rfl at_193 rfl (Dz.nt (cd := .ne) r7s hd7t (by show (0 : Int) = (0 : Int); decide)) ?_
   refine go_iconst K X7r (1 : Int32) at_196 rfl rfl ?_
   refine go_goto K X7r at_197 (by decide) rfl ?_
   refine go_retZ K X7r (Or.inr rfl) at_201 (by decide) (by decide) ?_
   rw [e7r]
   exact ⟨rfl, kp7o⟩
 · show Go _ _ _ _ _ _ _ (T5v.setTop (mkF m 135 #[.val (.int v0), .val (.int v1), .val (.int v2), .val (.int v3), .val (.int v4), .val (.int (v2 &&& (1048575 : Int32))), .val (.int (v3 &&& (1048575 : Int32))), .val (.int vs0), .val (.int vs1), .val (.ref b0e), .val (.ref b3s), .val (.ref b4i), .val (.ref (x2799 0)), .unset, .unset, .unset] [(.ref b4i), (.ref (x2799 0))]))
   have z7u := (Nat.le_trans (Nat.le_trans z4w (Keep.ext (Keep.refl _ []) E4v).1) K5v.1)
   have f7v := ((f4u.keep (Keep.ext (Keep.refl _ []) E4v) nin0).keep K5v (ninS (Nat.ne_of_lt (Nat.lt_of_lt_of_le (Nat.lt_of_lt_of_le C4i.lt l5b) (Nat.le_of_eq g4v.symm))) nin0))
   refine go_virt K X5v (a := (x2799 0)) (argsL := [(.ref b4i)]) (stk := []) (wd hw 180 rfl) (wd hw 181 rfl) (wd hw 183 rfl) (wd hw 183 rfl) (wd hw 182 rfl) (wd hw 184 rfl) (wd hw 50 rfl) (by decide) (lenOf pd_20 rfl) e5v f5w.1 (rmSol4 hw x2799 b4i zs0 zs1 zc0 zc2 h5v r6i f5w f5x B q4 z7u f7v f5y f5z f6a f6b f6c f6d f6e f6f f6g f6h (own_nin r6i ltx)) rfl rfl at_135 rfl (by decide) (W := 0) (Nat.le_of_eq rfl) (by decide) (cells' := 27) (slots' := 228) rfl rfl (by decide) (by decide) ?_
   rintro T7w h7w _ X7w e7w ⟨ka7x, kb7y, rfl, K7w, f7z, f8a, f8b, f8c⟩
   show Go _ _ _ _ _ _ _ (T7w.setTop (mkF m 138 #[.val (.int v0), .val (.int v1), .val (.int v2), .val (.int v3), .val (.int v4), .val (.int (v2 &&& (1048575 : Int32))), .val (.int (v3 &&& (1048575 : Int32))), .val (.int vs0), .val (.int vs1), .val (.ref b0e), .val (.ref b3s), .val (.ref b4i), .val (.ref (x2799 0)), .unset, .unset, .unset] [(.int (1 : Int32))]))
   have kp8d : Keep h0 h7w [] := kp6k.trans K7w (allS (Or.inr (gex r6i gb4x 0 rfl)) (allS (Or.inr (gex r6i gb4x 6 rfl)) (allS (Or.inr (gex r6i gb4x 7 rfl)) (allS (Or.inr (gex r6i gb4x 9 rfl)) (allS (Or.inr (gex r6i gb4x 10 rfl)) (allS (Or.inr (gex r6i gb4x 11 rfl)) (allS (Or.inr (gex r6i gb4x 12 rfl)) (allS (Or.inr (gex r6i gb4x 13 rfl)) (allS (Or.inr (gex r6i gb4x 14 rfl)) (allS (Or.inr (gex r6i gb4x 16 rfl)) all0))))))))))
   refine go_istore K X7w #[.val (.int v0), .val (.int v1), .val (.int v2), .val (.int v3), .val (.int v4), .val (.int (v2 &&& (1048575 : Int32))), .val (.int (v3 &&& (1048575 : Int32))), .val (.int vs0), .val (.int vs1), .val (.ref b0e), .val (.ref b3s), .val (.ref b4i), .val (.ref (x2799 0)), .val (.int (1 : Int32)), .unset, .unset] at_138 rfl rfl ?_
   refine go_iload K X7w at_140 rfl rfl ?_
   refine go_ifT K X7w at_142 (by decide) rfl (own_ge0 hzs0 (by omega) : ¬ vs0 < (0 : Int32)) ?_
   refine go_iload K X7w at_156 rfl rfl ?_
   refine go_ifT K X7w at_158 (by decide) rfl (by decide : ¬ (1 : Int32) = (0 : Int32)) ?_
   refine go_iload K X7w at_163 rfl rfl ?_
   refine go_i2l K X7w at_165 rfl ?_
   refine go_iload K X7w at_166 rfl rfl ?_
   refine go_i2l K X7w at_168 rfl ?_
   refine go_lmul K X7w at_169 rfl ?_
   refine go_iload K X7w at_170 rfl rfl ?_
   refine go_iconst K X7w (0 : Int32) at_172 rfl rfl ?_
   refine go_static K X7w (argsL := [(.int vs1), (.int (0 : Int32))]) (stk := [(.long ((vs0.toInt64) * ((v2 &&& (1048575 : Int32)).toInt64)))]) (wd hw 230 rfl) (wd hw 118 rfl) (wd hw 87 rfl) (wd hw 119 rfl) (by decide) (lenOf pd_3 rfl) e7w (rmMaxG hw vs1 (0 : Int32) h7w ) rfl rfl at_173 rfl (by decide) (W := 2) (Nat.le_of_eq rfl) (by decide) (cells' := 27) (slots' := 228) rfl rfl (by decide) (by decide) ?_
   rintro T8e h8e _ X8e e8e ⟨rfl, qe2863⟩
   show Go _ _ _ _ _ _ _ (T8e.setTop (mkF m 176 #[.val (.int v0), .val (.int v1), .val (.int v2), .val (.int v3), .val (.int v4), .val (.int (v2 &&& (1048575 : Int32))), .val (.int (v3 &&& (1048575 : Int32))), .val (.int vs0), .val (.int vs1), .val (.ref b0e), .val (.ref b3s), .val (.ref b4i), .val (.ref (x2799 0)), .val (.int (1 : Int32)), .unset, .unset] [(.int (own_max vs1 (0 : Int32))), (.long ((vs0.toInt64) * ((v2 &&& (1048575 : Int32)).toInt64)))]))
   replace e8e := e8e.trans qe2863
   refine go_i2l K X8e at_176 rfl ?_
   refine go_iload K X8e at_177 rfl rfl ?_
   refine go_i2l K X8e at_179 rfl ?_
   refine go_lmul K X8e at_180 rfl ?_
   refine go_ladd K X8e at_181 rfl ?_
   refine go_lstore K X8e #[.val (.int v0), .val (.int v1), .val (.int v2), .val (.int v3), .val (.int v4), .val (.int (v2 &&& (1048575 : Int32))), .val (.int (v3 &&& (1048575 : Int32))), .val (.int vs0), .val (.int vs1), .val (.ref b0e), .val (.ref b3s), .val (.ref b4i), .val (.ref (x2799 0)), .val (.int (1 : Int32)), .val (.long (((vs0.toInt64) * ((v2 &&& (1048575 : Int32)).toInt64)) + (((own_max vs1 (0 : Int32)).toInt64) * ((v3 &&& (1048575 : Int32)).toInt64)))), .second] at_182 rfl rfl ?_
   refine go_aload K X8e at_184 rfl rfl rfl ?_
   have f8f := (f5w.1.keep K7w)
   refine go_virt K X8e (a := (x2799 0)) (argsL := []) (stk := []) (wd hw 231 rfl) (wd hw 232 rfl) (wd hw 234 rfl) (wd hw 234 rfl) (wd hw 233 rfl) (wd hw 235 rfl) (wd hw 50 rfl) (by decide) (lenOf pd_21 rfl) e8e f8f (rmVal4 hw x2799 1 1 (-1) (-1) 1 0 (-1) ka7x kb7y 0 0 zs0 zs1 zc0 zc2 h7w r6i f7z f8a B f8b f8c) rfl rfl at_186 rfl (by decide) (W := 0) (Nat.le_of_eq rfl) (by decide) (cells' := 27) (slots' := 228) rfl rfl (by decide) (by decide) ?_
   rintro T8g h8g _ X8g e8g ⟨dr2866, rfl, qe2865, r8h⟩
   show Go _ _ _ _ _ _ _ (T8g.setTop (mkF m 189 #[.val (.int v0), .val (.int v1), .val (.int v2), .val (.int v3), .val (.int v4), .val (.int (v2 &&& (1048575 : Int32))), .val (.int (v3 &&& (1048575 : Int32))), .val (.int vs0), .val (.int vs1), .val (.ref b0e), .val (.ref b3s), .val (.ref b4i), .val (.ref (x2799 0)), .val (.int (1 : Int32)), .val (.long (((vs0.toInt64) * ((v2 &&& (1048575 : Int32)).toInt64)) + (((own_max vs1 (0 : Int32)).toInt64) * ((v3 &&& (1048575 : Int32)).toInt64)))), .second] [(.double dr2866)]))
   replace e8g := e8g.trans qe2865
   refine go_lload K X8g at_189 rfl rfl ?_
   refine go_l2d K X8g (z := (zc2 * zs1)) (own_refP0 B hzs0 hzs1 hzc0 hzc2 q4) (zbd_209 B).1 (zbd_209 B).2 at_191 rfl ?_
   intro d8i hd8i
   refine go_difF K X8g at_192 rfl at_193 rfl (Dz.nt (cd := .ne) r8h hd8i (zcm_219 B q4)) ?_
   refine go_iconst K X8g (1 : Int32) at_196 rfl rfl ?_
   refine go_goto K X8g at_197 (by decide) rfl ?_
   refine go_retZ K X8g (Or.inr rfl) at_201 (by decide) (by decide) ?_
   rw [e8g]
   exact ⟨rfl, kp8d⟩
 · show Go _ _ _ _ _ _ _ (T5v.setTop (mkF m 135 #[.val (.int v0), .val (.int v1), .val (.int v2), .val (.int v3), .val (.int v4), .val (.int (v2 &&& (1048575 : Int32))), .val (.int (v3 &&& (1048575 : Int32))), .val (.int vs0), .val (.int vs1), .val (.ref b0e), .val (.ref b3s), .val (.ref b4i), .val (.ref (x2799 0)), .unset, .unset, .unset] [(.ref b4i), (.ref (x2799 0))]))
   have z8j := (Nat.le_trans (Nat.le_trans z4w (Keep.ext (Keep.refl _ []) E4v).1) K5v.1)
   have f8k := ((f4u.keep (Keep.ext (Keep.refl _ []) E4v) nin0).keep K5v (ninS (Nat.ne_of_lt (Nat.lt_of_lt_of_le (Nat.lt_of_lt_of_le C4i.lt l5b) (Nat.le_of_eq g4v.symm))) nin0))
   refine go_virt K X5v (a := (x2799 0)) (argsL := [(.ref b4i)]) (stk := []) (wd hw 180 rfl) (wd hw 181 rfl) (wd hw 183 rfl) (wd hw 183 rfl) (wd hw 182 rfl) (wd hw 184 rfl) (wd hw 50 rfl) (by decide) (lenOf pd_20 rfl) e5v f5w.1 (rmSol5 hw x2799 b4i zs0 zs1 zc0 zc2 h5v r6i f5w f5x B q5 z8j f8k f5y f5z f6a f6b f6c f6d f6e f6f f6g f6h (own_nin r6i ltx)) rfl rfl at_135 rfl (by decide) (W := 0) (Nat.le_of_eq rfl) (by decide) (cells' := 27) (slots' := 228) rfl rfl (by decide) (by decide) ?_
   rintro T8l h8l _ X8l e8l ⟨ka8m, kb8n, rfl, K8l, f8o, f8p, f8q, f8r⟩
   show Go _ _ _ _ _ _ _ (T8l.setTop (mkF m 138 #[.val (.int v0), .val (.int v1), .val (.int v2), .val (.int v3), .val (.int v4), .val (.int (v2 &&& (1048575 : Int32))), .val (.int (v3 &&& (1048575 : Int32))), .val (.int vs0), .val (.int vs1), .val (.ref b0e), .val (.ref b3s), .val (.ref b4i), .val (.ref (x2799 0)), .unset, .unset, .unset] [(.int (1 : Int32))]))
   have kp8s : Keep h0 h8l [] := kp6k.trans K8l (allS (Or.inr (gex r6i gb4x 0 rfl)) (allS (Or.inr (gex r6i gb4x 6 rfl)) (allS (Or.inr (gex r6i gb4x 7 rfl)) (allS (Or.inr (gex r6i gb4x 9 rfl)) (allS (Or.inr (gex r6i gb4x 10 rfl)) (allS (Or.inr (gex r6i gb4x 11 rfl)) (allS (Or.inr (gex r6i gb4x 12 rfl)) (allS (Or.inr (gex r6i gb4x 13 rfl)) (allS (Or.inr (gex r6i gb4x 14 rfl)) (allS (Or.inr (gex r6i gb4x 16 rfl)) all0))))))))))
   refine go_istore K X8l #[.val (.int v0), .val (.int v1), .val (.int v2), .val (.int v3), .val (.int v4), .val (.int (v2 &&& (1048575 : Int32))), .val (.int (v3 &&& (1048575 : Int32))), .val (.int vs0), .val (.int vs1), .val (.ref b0e), .val (.ref b3s), .val (.ref b4i), .val (.ref (x2799 0)), .val (.int (1 : Int32)), .unset, .unset] at_138 rfl rfl ?_
   refine go_iload K X8l at_140 rfl rfl ?_
   refine go_ifT K X8l at_142 (by decide) rfl (own_ge0 hzs0 (by omega) : ¬ vs0 < (0 : Int32)) ?_
   refine go_iload K X8l at_156 rfl rfl ?_
   refine go_ifT K X8l at_158 (by decide) rfl (by decide : ¬ (1 : Int32) = (0 : Int32)) ?_
   refine go_iload K X8l at_163 rfl rfl ?_
   refine go_i2l K X8l at_165 rfl ?_
   refine go_iload K X8l at_166 rfl rfl ?_
   refine go_i2l K X8l at_168 rfl ?_
   refine go_lmul K X8l at_169 rfl ?_
   refine go_iload K X8l at_170 rfl rfl ?_
   refine go_iconst K X8l (0 : Int32) at_172 rfl rfl ?_
   refine go_static K X8l (argsL := [(.int vs1), (.int (0 : Int32))]) (stk := [(.long ((vs0.toInt64) * ((v2 &&& (1048575 : Int32)).toInt64)))]) (wd hw 230 rfl) (wd hw 118 rfl) (wd hw 87 rfl) (wd hw 119 rfl) (by decide) (lenOf pd_3 rfl) e8l (rmMaxG hw vs1 (0 : Int32) h8l ) rfl rfl at_173 rfl (by decide) (W := 2) (Nat.le_of_eq rfl) (by decide) (cells' := 27) (slots' := 228) rfl rfl (by decide) (by decide) ?_
   rintro T8t h8t _ X8t e8t ⟨rfl, qe2879⟩
   show Go _ _ _ _ _ _ _ (T8t.setTop (mkF m 176 #[.val (.int v0), .val (.int v1), .val (.int v2), .val (.int v3), .val (.int v4), .val (.int (v2 &&& (1048575 : Int32))), .val (.int (v3 &&& (1048575 : Int32))), .val (.int vs0), .val (.int vs1), .val (.ref b0e), .val (.ref b3s), .val (.ref b4i), .val (.ref (x2799 0)), .val (.int (1 : Int32)), .unset, .unset] [(.int (own_max vs1 (0 : Int32))), (.long ((vs0.toInt64) * ((v2 &&& (1048575 : Int32)).toInt64)))]))
   replace e8t := e8t.trans qe2879
   refine go_i2l K X8t at_176 rfl ?_
   refine go_iload K X8t at_177 rfl rfl ?_
   refine go_i2l K X8t at_179 rfl ?_
   refine go_lmul K X8t at_180 rfl ?_
   refine go_ladd K X8t at_181 rfl ?_
   refine go_lstore K X8t #[.val (.int v0), .val (.int v1), .val (.int v2), .val (.int v3), .val (.int v4), .val (.int (v2 &&& (1048575 : Int32))), .val (.int (v3 &&& (1048575 : Int32))), .val (.int vs0), .val (.int vs1), .val (.ref b0e), .val (.ref b3s), .val (.ref b4i), .val (.ref (x2799 0)), .val (.int (1 : Int32)), .val (.long (((vs0.toInt64) * ((v2 &&& (1048575 : Int32)).toInt64)) + (((own_max vs1 (0 : Int32)).toInt64) * ((v3 &&& (1048575 : Int32)).toInt64)))), .second] at_182 rfl rfl ?_
   refine go_aload K X8t at_184 rfl rfl rfl ?_
   have f8u := (f5w.1.keep K8l)
   refine go_virt K X8t (a := (x2799 0)) (argsL := []) (stk := []) (wd hw 231 rfl) (wd hw 232 rfl) (wd hw 234 rfl) (wd hw 234 rfl) (wd hw 233 rfl) (wd hw 235 rfl) (wd hw 50 rfl) (by decide) (lenOf pd_21 rfl) e8t f8u (rmVal5 hw x2799 1 1 0 1 (-1) (-1) (-1) ka8m kb8n 0 0 zs0 zs1 zc0 zc2 h8l r6i f8o f8p B f8q f8r) rfl rfl at_186 rfl (by decide) (W := 0) (Nat.le_of_eq rfl) (by decide) (cells' := 27) (slots' := 228) rfl rfl (by decide) (by decide) ?_
   rintro T8v h8v _ X8v e8v ⟨dr2882, rfl, qe2881, r8w⟩
   show Go _ _ _ _ _ _ _ (T8v.setTop (mkF m 189 #[.val (.int v0), .val (.int v1), .val (.int v2), .val (.int v3), .val (.int v4), .val (.int (v2 &&& (1048575 : Int32))), .val (.int (v3 &&& (1048575 : Int32))), .val (.int vs0), .val (.int vs1), .val (.ref b0e), .val (.ref b3s), .val (.ref b4i), .val (.ref (x2799 0)), .val (.int (1 : Int32)), .val (.long (((vs0.toInt64) * ((v2 &&& (1048575 : Int32)).toInt64)) + (((own_max vs1 (0 : Int32)).toInt64) * ((v3 &&& (1048575 : Int32)).toInt64)))), .second] [(.double dr2882)]))
   replace e8v := e8v.trans qe2881
   refine go_lload K X8v at_189 rfl rfl ?_
   refine go_l2d K X8v (z := (zc0 * zs0)) (own_refN B hzs0 hzs1 hzc0 hzc2 q5.2) (zbd_212 B).1 (zbd_212 B).2 at_191 rfl ?_
   intro d8x hd8x
   refine go_difF K X8v at_192 rfl at_193 rfl (Dz.nt (cd := .ne) r8w hd8x (zcm_220 B q5)) ?_
   refine go_iconst K X8v (1 : Int32) at_196 rfl rfl ?_
   refine go_goto K X8v at_197 (by decide) rfl ?_
   refine go_retZ K X8v (Or.inr rfl) at_201 (by decide) (by decide) ?_
   rw [e8v]
   exact ⟨rfl, kp8s⟩
 · show Go _ _ _ _ _ _ _ (T5v.setTop (mkF m 135 #[.val (.int v0), .val (.int v1), .val (.int v2), .val (.int v3), .val (.int v4), .val (.int (v2 &&& (1048575 : Int32))), .val (.int (v3 &&& (1048575 : Int32))), .val (.int vs0), .val (.int vs1), .val (.ref b0e), .val (.ref b3s), .val (.ref b4i), .val (.ref (x2799 0)), .unset, .unset, .unset] [(.ref b4i), (.ref (x2799 0))]))
   have z8y := (Nat.le_trans (Nat.le_trans z4w (Keep.ext (Keep.refl _ []) E4v).1) K5v.1)
   have f8z := ((f4u.keep (Keep.ext (Keep.refl _ []) E4v) nin0).keep K5v (ninS (Nat.ne_of_lt (Nat.lt_of_lt_of_le (Nat.lt_of_lt_of_le C4i.lt l5b) (Nat.le_of_eq g4v.symm))) nin0))
   refine go_virt K X5v (a := (x2799 0)) (argsL := [(.ref b4i)]) (stk := []) (wd hw 180 rfl) (wd hw 181 rfl) (wd hw 183 rfl) (wd hw 183 rfl) (wd hw 182 rfl) (wd hw 184 rfl) (wd hw 50 rfl) (by decide) (lenOf pd_20 rfl) e5v f5w.1 (rmSol6 hw x2799 b4i zs0 zs1 zc0 zc2 h5v r6i f5w f5x B q6 z8y f8z f5y f5z f6a f6b f6c f6d f6e f6f f6g f6h (own_nin r6i ltx)) rfl rfl at_135 rfl (by decide) (W := 0) (Nat.le_of_eq rfl) (by decide) (cells' := 27) (slots' := 228) rfl rfl (by decide) (by decide) ?_
   rintro T9a h9a _ X9a e9a ⟨ka9b, kb9c, rfl, K9a, f9d, f9e, f9f, f9g⟩
   show Go _ _ _ _ _ _ _ (T9a.setTop (mkF m 138 #[.val (.int v0), .val (.int v1), .val (.int v2), .val (.int v3), .val (.int v4), .val (.int (v2 &&& (1048575 : Int32))), .val (.int (v3 &&& (1048575 : Int32))), .val (.int vs0), .val (.int vs1), .val (.ref b0e), .val (.ref b3s), .val (.ref b4i), .val (.ref (x2799 0)), .unset, .unset, .unset] [(.int (1 : Int32))]))
   have kp9h : Keep h0 h9a [] := kp6k.trans K9a (allS (Or.inr (gex r6i gb4x 0 rfl)) (allS (Or.inr (gex r6i gb4x 6 rfl)) (allS (Or.inr (gex r6i gb4x 7 rfl)) (allS (Or.inr (gex r6i gb4x 9 rfl)) (allS (Or.inr (gex r6i gb4x 10 rfl)) (allS (Or.inr (gex r6i gb4x 11 rfl)) (allS (Or.inr (gex r6i gb4x 12 rfl)) (allS (Or.inr (gex r6i gb4x 13 rfl)) (allS (Or.inr (gex r6i gb4x 14 rfl)) (allS (Or.inr (gex r6i gb4x 16 rfl)) all0))))))))))
   refine go_istore K X9a #[.val (.int v0), .val (.int v1), .val (.int v2), .val (.int v3), .val (.int v4), .val (.int (v2 &&& (1048575 : Int32))), .val (.int (v3 &&& (1048575 : Int32))), .val (.int vs0), .val (.int vs1), .val (.ref b0e), .val (.ref b3s), .val (.ref b4i), .val (.ref (x2799 0)), .val (.int (1 : Int32)), .unset, .unset] at_138 rfl rfl ?_
   refine go_iload K X9a at_140 rfl rfl ?_
   refine go_ifT K X9a at_142 (by decide) rfl (own_ge0 hzs0 (by omega) : ¬ vs0 < (0 : Int32)) ?_
   refine go_iload K X9a at_156 rfl rfl ?_
   refine go_ifT K X9a at_158 (by decide) rfl (by decide : ¬ (1 : Int32) = (0 : Int32)) ?_
   refine go_iload K X9a at_163 rfl rfl ?_
   refine go_i2l K X9a at_165 rfl ?_
   refine go_iload K X9a at_166 rfl rfl ?_
   refine go_i2l K X9a at_168 rfl ?_
   refine go_lmul K X9a at_169 rfl ?_
   refine go_iload K X9a at_170 rfl rfl ?_
   refine go_iconst K X9a (0 : Int32) at_172 rfl rfl ?_
   refine go_static K X9a (argsL := [(.int vs1), (.int (0 : Int32))]) (stk := [(.long ((vs0.toInt64) * ((v2 &&& (1048575 : Int32)).toInt64)))]) (wd hw 230 rfl) (wd hw 118 rfl) (wd hw 87 rfl) (wd hw 119 rfl) (by decide) (lenOf pd_3 rfl) e9a (rmMaxG hw vs1 (0 : Int32) h9a ) rfl rfl at_173 rfl (by decide) (W := 2) (Nat.le_of_eq rfl) (by decide) (cells' := 27) (slots' := 228) rfl rfl (by decide) (by decide) ?_
   rintro T9i h9i _ X9i e9i ⟨rfl, qe2895⟩
   show Go _ _ _ _ _ _ _ (T9i.setTop (mkF m 176 #[.val (.int v0), .val (.int v1), .val (.int v2), .val (.int v3), .val (.int v4), .val (.int (v2 &&& (1048575 : Int32))), .val (.int (v3 &&& (1048575 : Int32))), .val (.int vs0), .val (.int vs1), .val (.ref b0e), .val (.ref b3s), .val (.ref b4i), .val (.ref (x2799 0)), .val (.int (1 : Int32)), .unset, .unset] [(.int (own_max vs1 (0 : Int32))), (.long ((vs0.toInt64) * ((v2 &&& (1048575 : Int32)).toInt64)))]))
   replace e9i := e9i.trans qe2895
   refine go_i2l K X9i at_176 rfl ?_
   refine go_iload K X9i at_177 rfl rfl ?_
   refine go_i2l K X9i at_179 rfl ?_
   refine go_lmul K X9i at_180 rfl ?_
   refine go_ladd K X9i at_181 rfl ?_
   refine go_lstore K X9i #[.val (.int v0), .val (.int v1), .val (.int v2), .val (.int v3), .val (.int v4), .val (.int (v2 &&& (1048575 : Int32))), .val (.int (v3 &&& (1048575 : Int32))), .val (.int vs0), .val (.int vs1), .val (.ref b0e), .val (.ref b3s), .val (.ref b4i), .val (.ref (x2799 0)), .val (.int (1 : Int32)), .val (.long (((vs0.toInt64) * ((v2 &&& (1048575 : Int32)).toInt64)) + (((own_max vs1 (0 : Int32)).toInt64) * ((v3 &&& (1048575 : Int32)).toInt64)))), .second] at_182 rfl rfl ?_
   refine go_aload K X9i at_184 rfl rfl rfl ?_
   have f9j := (f5w.1.keep K9a)
   refine go_virt K X9i (a := (x2799 0)) (argsL := []) (stk := []) (wd hw 231 rfl) (wd hw 232 rfl) (wd hw 234 rfl) (wd hw 234 rfl) (wd hw 233 rfl) (wd hw 235 rfl) (wd hw 50 rfl) (by decide) (lenOf pd_21 rfl) e9i f9j (rmVal6 hw x2799 2 1 0 (-1) 1 (-1) (-1) ka9b kb9c 0 0 zs0 zs1 zc0 zc2 h9a r6i f9d f9e B f9f f9g) rfl rfl at_186 rfl (by decide) (W := 0) (Nat.le_of_eq rfl) (by decide) (cells' := 27) (slots' := 228) rfl rfl (by decide) (by decide) ?_
   rintro T9k h9k _ X9k e9k ⟨dr2898, rfl, qe2897, r9l⟩
   show Go _ _ _ _ _ _ _ (T9k.setTop (mkF m 189 #[.val (.int v0), .val (.int v1), .val (.int v2), .val (.int v3), .val (.int v4), .val (.int (v2 &&& (1048575 : Int32))), .val (.int (v3 &&& (1048575 : Int32))), .val (.int vs0), .val (.int vs1), .val (.ref b0e), .val (.ref b3s), .val (.ref b4i), .val (.ref (x2799 0)), .val (.int (1 : Int32)), .val (.long (((vs0.toInt64) * ((v2 &&& (1048575 : Int32)).toInt64)) + (((own_max vs1 (0 : Int32)).toInt64) * ((v3 &&& (1048575 : Int32)).toInt64)))), .second] [(.double dr2898)]))
   replace e9k := e9k.trans qe2897
   refine go_lload K X9k at_189 rfl rfl ?_
   refine go_l2d K X9k (z := (zc0 * zs0 + zc2 * zs1)) (own_refP B hzs0 hzs1 hzc0 hzc2 (by omega)) (zbd_216 B).1 (zbd_216 B).2 at_191 rfl ?_
   intro d9m hd9m
   refine go_difF K X9k at_192 rfl at_193 rfl (Dz.nt (cd := .ne) r9l hd9m (zcm_221 B q6)) ?_
   refine go_iconst K X9k (1 : Int32) at_196 rfl rfl ?_
   refine go_goto K X9k at_197 (by decide) rfl ?_
   refine go_retZ K X9k (Or.inr rfl) at_201 (by decide) (by decide) ?_
   rw [e9k]
   exact ⟨rfl, kp9h⟩
 · show Go _ _ _ _ _ _ _ (T5v.setTop (mkF m 135 #[.val (.int v0), .val (.int v1), .val (.int v2), .val (.int v3), .val (.int v4), .val (.int (v2 &&& (1048575 : Int32))), .val (.int (v3 &&& (1048575 : Int32))), .val (.int vs0), .val (.int vs1), .val (.ref b0e), .val (.ref b3s), .val (.ref b4i), .val (.ref (x2799 0)), .unset, .unset, .unset] [(.ref b4i), (.ref (x2799 0))]))
   have z9n := (Nat.le_trans (Nat.le_trans z4w (Keep.ext (Keep.refl _ []) E4v).1) K5v.1)
   have f9o := ((f4u.keep (Keep.ext (Keep.refl _ []) E4v) nin0).keep K5v (ninS (Nat.ne_of_lt (Nat.lt_of_lt_of_le (Nat.lt_of_lt_of_le C4i.lt l5b) (Nat.le_of_eq g4v.symm))) nin0))
   refine go_virt K X5v (a := (x2799 0)) (argsL := [(.ref b4i)]) (stk := []) (wd hw 180 rfl) (wd hw 181 rfl) (wd hw 183 rfl) (wd hw 183 rfl) (wd hw 182 rfl) (wd hw 184 rfl) (wd hw 50 rfl) (by decide) (lenOf pd_20 rfl) e5v f5w.1 (rmSol7 hw x2799 b4i zs0 zs1 zc0 zc2 h5v r6i f5w f5x B q7 z9n f9o f5y f5z f6a f6b f6c f6d f6e f6f f6g f6h (own_nin r6i ltx)) rfl rfl at_135 rfl (by decide) (W := 0) (Nat.le_of_eq rfl) (by decide) (cells' := 27) (slots' := 228) rfl rfl (by decide) (by decide) ?_
   rintro T9p h9p _ X9p e9p ⟨ka9q, kb9r, rfl, K9p, f9s, f9t, f9u, f9v⟩
   show Go _ _ _ _ _ _ _ (T9p.setTop (mkF m 138 #[.val (.int v0), .val (.int v1), .val (.int v2), .val (.int v3), .val (.int v4), .val (.int (v2 &&& (1048575 : Int32))), .val (.int (v3 &&& (1048575 : Int32))), .val (.int vs0), .val (.int vs1), .val (.ref b0e), .val (.ref b3s), .val (.ref b4i), .val (.ref (x2799 0)), .unset, .unset, .unset] [(.int (1 : Int32))]))
   have kp9w : Keep h0 h9p [] := kp6k.trans K9p (allS (Or.inr (gex r6i gb4x 0 rfl)) (allS (Or.inr (gex r6i gb4x 6 rfl)) (allS (Or.inr (gex r6i gb4x 7 rfl)) (allS (Or.inr (gex r6i gb4x 9 rfl)) (allS (Or.inr (gex r6i gb4x 10 rfl)) (allS (Or.inr (gex r6i gb4x 11 rfl)) (allS (Or.inr (gex r6i gb4x 12 rfl)) (allS (Or.inr (gex r6i gb4x 13 rfl)) (allS (Or.inr (gex r6i gb4x 14 rfl)) (allS (Or.inr (gex r6i gb4x 16 rfl)) all0))))))))))
   refine go_istore K X9p #[.val (.int v0), .val (.int v1), .val (.int v2), .val (.int v3), .val (.int v4), .val (.int (v2 &&& (1048575 : Int32))), .val (.int (v3 &&& (1048575 : Int32))), .val (.int vs0), .val (.int vs1), .val (.ref b0e), .val (.ref b3s), .val (.ref b4i), .val (.ref (x2799 0)), .val (.int (1 : Int32)), .unset, .unset] at_138 rfl rfl ?_
   refine go_iload K X9p at_140 rfl rfl ?_
   refine go_ifT K X9p at_142 (by decide) rfl (own_ge0 hzs0 (by omega) : ¬ vs0 < (0 : Int32)) ?_
   refine go_iload K X9p at_156 rfl rfl ?_
   refine go_ifT K X9p at_158 (by decide) rfl (by decide : ¬ (1 : Int32) = (0 : Int32)) ?_
   refine go_iload K X9p at_163 rfl rfl ?_
   refine go_i2l K X9p at_165 rfl ?_
   refine go_iload K X9p at_166 rfl rfl ?_
   refine go_i2l K X9p at_168 rfl ?_
   refine go_lmul K X9p at_169 rfl ?_
   refine go_iload K X9p at_170 rfl rfl ?_
   refine go_iconst K X9p (0 : Int32) at_172 rfl rfl ?_
   refine go_static K X9p (argsL := [(.int vs1), (.int (0 : Int32))]) (stk := [(.long ((vs0.toInt64) * ((v2 &&& (1048575 : Int32)).toInt64)))]) (wd hw 230 rfl) (wd hw 118 rfl) (wd hw 87 rfl) (wd hw 119 rfl) (by decide) (lenOf pd_3 rfl) e9p (rmMaxG hw vs1 (0 : Int32) h9p ) rfl rfl at_173 rfl (by decide) (W := 2) (Nat.le_of_eq rfl) (by decide) (cells' := 27) (slots' := 228) rfl rfl (by decide) (by decide) ?_
   rintro T9x h9x _ X9x e9x ⟨rfl, qe2911⟩
   show Go _ _ _ _ _ _ _ (T9x.setTop (mkF m 176 #[.val (.int v0), .val (.int v1), .val (.int v2), .val (.int v3), .val (.int v4), .val (.int (v2 &&& (1048575 : Int32))), .val (.int (v3 &&& (1048575 : Int32))), .val (.int vs0), .val (.int vs1), .val (.ref b0e), .val (.ref b3s), .val (.ref b4i), .val (.ref (x2799 0)), .val (.int (1 : Int32)), .unset, .unset] [(.int (own_max vs1 (0 : Int32))), (.long ((vs0.toInt64) * ((v2 &&& (1048575 : Int32)).toInt64)))]))
   replace e9x := e9x.trans qe2911
   refine go_i2l K X9x at_176 rfl ?_
   refine go_iload K X9x at_177 rfl rfl ?_
   refine go_i2l K X9x at_179 rfl ?_
   refine go_lmul K X9x at_180 rfl ?_
   refine go_ladd K X9x at_181 rfl ?_
   refine go_lstore K X9x #[.val (.int v0), .val (.int v1), .val (.int v2), .val (.int v3), .val (.int v4), .val (.int (v2 &&& (1048575 : Int32))), .val (.int (v3 &&& (1048575 : Int32))), .val (.int vs0), .val (.int vs1), .val (.ref b0e), .val (.ref b3s), .val (.ref b4i), .val (.ref (x2799 0)), .val (.int (1 : Int32)), .val (.long (((vs0.toInt64) * ((v2 &&& (1048575 : Int32)).toInt64)) + (((own_max vs1 (0 : Int32)).toInt64) * ((v3 &&& (1048575 : Int32)).toInt64)))), .second] at_182 rfl rfl ?_
   refine go_aload K X9x at_184 rfl rfl rfl ?_
   have f9y := (f5w.1.keep K9p)
   refine go_virt K X9x (a := (x2799 0)) (argsL := []) (stk := []) (wd hw 231 rfl) (wd hw 232 rfl) (wd hw 234 rfl) (wd hw 234 rfl) (wd hw 233 rfl) (wd hw 235 rfl) (wd hw 50 rfl) (by decide) (lenOf pd_21 rfl) e9x f9y (rmVal6 hw x2799 2 1 0 (-1) 1 (-1) (-1) ka9q kb9r 0 0 zs0 zs1 zc0 zc2 h9p r6i f9s f9t B f9u f9v) rfl rfl at_186 rfl (by decide) (W := 0) (Nat.le_of_eq rfl) (by decide) (cells' := 27) (slots' := 228) rfl rfl (by decide) (by decide) ?_
   rintro T9z h9z _ X9z e9z ⟨dr2914, rfl, qe2913, r10a⟩
   show Go _ _ _ _ _ _ _ (T9z.setTop (mkF m 189 #[.val (.int v0), .val (.int v1), .val (.int v2), .val (.int v3), .val (.int v4), .val (.int (v2 &&& (1048575 : Int32))), .val (.int (v3 &&& (1048575 : Int32))), .val (.int vs0), .val (.int vs1), .val (.ref b0e), .val (.ref b3s), .val (.ref b4i), .val (.ref (x2799 0)), .val (.int (1 : Int32)), .val (.long (((vs0.toInt64) * ((v2 &&& (1048575 : Int32)).toInt64)) + (((own_max vs1 (0 : Int32)).toInt64) * ((v3 &&& (1048575 : Int32)).toInt64)))), .second] [(.double dr2914)]))
   replace e9z := e9z.trans qe2913
   refine go_lload K X9z at_189 rfl rfl ?_
   refine go_l2d K X9z (z := (zc0 * zs0 + zc2 * zs1)) (own_refP B hzs0 hzs1 hzc0 hzc2 (by omega)) (zbd_216 B).1 (zbd_216 B).2 at_191 rfl ?_
   intro d10b hd10b
   refine go_difF K X9z at_192 rfl at_193 rfl (Dz.nt (cd := .ne) r10a hd10b (zcm_222 B q7)) ?_
   refine go_iconst K X9z (1 : Int32) at_196 rfl rfl ?_
   refine go_goto K X9z at_197 (by decide) rfl ?_
   refine go_retZ K X9z (Or.inr rfl) at_201 (by decide) (by decide) ?_
   rw [e9z]
   exact ⟨rfl, kp9w⟩
set_option maxRecDepth 65536 in
set_option maxHeartbeats 40000000 in
theorem comes_1 {Post : Tables → Env → Array Value → State → Outcome → State → Prop} (hpost : ∀ tb e args s v u, (limb_1_1.after args s (.returned v) u = true ∧ limb_1_2.after args s (.returned v) u = true ∧ True) → FrameEnd s (.returned v) u (Jvm.fieldLocs frame_1_writes args s ++ Jvm.arrayLocs frame_1_arrays args s ++ Jvm.staticLocs frame_1_statics s) 64 576 → Post tb e args s (.returned v) u) :
    ArmFor flags0 classFile x code maxLocals ret World_1 tables_1 room_1 Calls_1 rest_1 Pre_1 Post := by
  intro l hfl _ _ p e ha hc hk s m args below hf hA hF happ hP
  obtain ⟨hcalls, hrest, hpre⟩ := hP
  obtain ⟨-, -, -, hnamed, -, -, -, hat⟩ := (Spec.applies_iff hf).mp happ
  obtain ⟨hg, hn⟩ := and_e (Cond.before_iff.mp (show (Jvm.Cond.and given_1 narrow_1).before args s = true from hpre))
  obtain ⟨g1, g2⟩ := and_e hg
  obtain ⟨g3, g4⟩ := and_e g2
  obtain ⟨g5, g6⟩ := and_e g4
  obtain ⟨g7, g8⟩ := and_e g6
  obtain ⟨g9, g10⟩ := and_e g8
  obtain ⟨w0, w1, w2, w3, w4, rfl⟩ : ∃ w0 w1 w2 w3 w4 : Value, args = #[w0, w1, w2, w3, w4] := by
    have hs : args.size = 5 := by simpa [Cond.value, given_1] using g1
    obtain ⟨L⟩ := args
    match L, hs with
    | [w0, w1, w2, w3, w4], _ => exact ⟨w0, w1, w2, w3, w4, rfl⟩
  have hw := fun d (hd : d ∈ tables_1) => atoms_spec (ws := Jvm.Cond.code x code maxLocals ret :: tables_1) hat d (List.mem_cons_of_mem _ hd)
  have hfit : Fit s := fun {y c} hc i hi => by
    obtain ⟨ha, rfl⟩ := Array.getElem?_eq_some_iff.mp hc
    have q := List.all_eq_true.mp ((Array.all_eq_true_iff_forall_mem.mp hF) _ (Array.getElem_mem ha)) i (List.mem_range.mpr hi)
    simpa [Array.getElem?_eq_getElem hi] using q
  obtain ⟨i0, ei0⟩ := is_v g3
  obtain rfl : w0 = (.int i0) := Option.some.inj ei0
  obtain ⟨i1, ei1⟩ := is_v g5
  obtain rfl : w1 = (.int i1) := Option.some.inj ei1
  obtain ⟨i2, ei2⟩ := is_v g7
  obtain rfl : w2 = (.int i2) := Option.some.inj ei2
  obtain ⟨i3, ei3⟩ := is_v g9
  obtain rfl : w3 = (.int i3) := Option.some.inj ei3
  obtain ⟨i4, ei4⟩ := is_v g10
  obtain rfl : w4 = (.int i4) := Option.some.inj ei4
  obtain ⟨n, o, h1, h2, h3, _, L, rfl, ⟨⟨rfl, -⟩, N⟩, hq⟩ := rmLaw (l := l) (n0 := s.heap.size) hw i0 i1 i2 i3 i4 s.heap (Nat.le_refl _) tables_1 p e ha hc hk s m _ below hf ((Spec.applies_iff_loose hf).mp happ).1 ⟨rfl, State.Warmed39.refl s, rfl⟩ trivial
  refine ⟨n, _, h1, h2, h3, hpost _ _ _ _ _ _ ⟨Cond.after_iff.mpr rfl, Cond.after_iff.mpr (eq_i res_at (Term.int_eval (1)) rfl), trivial⟩ ⟨hq.1, hq.2.1, (hq.2.2.sift fun y hy => Or.inr (N y hy)).mono (by decide) (by decide)⟩⟩
theorem main_1_1 : Claimed_1_1 := comes_1 fun _ _ _ _ _ _ h hF => ⟨h.1, hF⟩
theorem main_1_2 : Claimed_1_2 := comes_1 fun _ _ _ _ _ _ h hF => ⟨h.2.1, hF⟩
end Jvm.Pilot.@@N@@
namespace Jvm.Pilot.@@N@@
open Jvm Jvm.ClassFile Sem Op Lib Jvm.Free Jvm.Stand Jvm.Pilot.@@N@@.Jvm.D
/-! MADE BY PROGRAM (witnessworld.py) out of the Statement's table words and the real class files: 22 classes; the members and pool entries that the words name. The judged class is class 1, her method 1. -/
namespace start1
open Jvm.ClassFile
def u (s : String) : CpInfo := .utf8 (stringToUtf16 s)
/-- a pool by its gaps: so many unusable entries, then the entry; so many at the end -/
def gap : Nat → List CpInfo → List CpInfo
  | 0, r => r
  | n + 1, r => .unusable :: gap n r
def poolList (es : List (Nat × CpInfo)) (last : Nat) : List CpInfo := es.foldr (fun e r => gap e.1 (e.2 :: r)) (gap last [])
def pool (es : List (Nat × CpInfo)) (last : Nat) : Array CpInfo := ⟨poolList es last⟩
def fileOf (pool : Array CpInfo) (this : Nat) (attrs : Array Attribute := #[]) (ms : Array MethodInfo := #[]) (fl : Nat := 33) (sup : Nat := 0) (ifs : Array Nat := #[]) (fds : Array FieldInfo := #[]) : ClassFile where
  minorVersion := 0
  majorVersion := 65
  constantPool := pool
  accessFlags := fl
  thisClass := this
  superClass := sup
  interfaces := ifs
  fields := fds
  methods := ms
  attributes := attrs
def plain (name : String) (sup : Option ClassId) : Class where
  name := name
  kind := .ordinary
  loader := none
  accessFlags := 33
  super := sup
  interfaces := #[]
  cf := none
  fields := #[]
  methods := #[]
  instanceTypes := #[]
  staticTypes := #[]
  resolved := #[]
  callSites := []
  init := .initialized
  statics := none
  mirror := none

def pool0 : Array CpInfo := pool [(5, u "<init>"), (0, u "()V"), (1, .class_ 10), (1, u "java/lang/Object"), (85, u "clone"), (0, u "()Ljava/lang/Object;")] 26

def k0c0 : Code := { maxStack := 0, maxLocals := 1, code := object_method_1_code, exceptionTable := #[], attributes := #[] }
def k0m0 : Method := { name := "<init>", desc := "()V", sig := { parameters := [], returnType := none }, accessFlags := 1, code := some k0c0 }
def k0m1 : Method := { name := "clone", desc := "()Ljava/lang/Object;", sig := { parameters := [], returnType := some (.object "java/lang/Object") }, accessFlags := 260, code := none }
/-- java/lang/Object -/
def k0 : Class := { plain "java/lang/Object" none with
  accessFlags := 33
  interfaces := #[]
  cf := some (fileOf pool0 8 #[] #[{ accessFlags := 1, nameIndex := 5, descriptorIndex := 6, attributes := #[] }, { accessFlags := 260, nameIndex := 96, descriptorIndex := 97, attributes := #[] }] 33 0 #[] #[])
  fields := #[]
  methods := #[k0m0, k0m1]
  instanceTypes := #[]
  staticTypes := #[]
  resolved := Array.replicate 124 none
  statics := none }

def pool1 : Array CpInfo := pool [(2, .class_ 4), (1, u "java/lang/Object"), (0, u "<init>"), (0, u "()V"), (0, .integer 1048575), (0, .class_ 9), (0, u "com/example/plumbline/plumbline/align/DualSimplex$Columns"), (0, .methodref 8 11), (0, .nameAndType 5 12), (0, u "(I)V"), (0, .methodref 8 14), (0, .nameAndType 15 16), (0, u "add"), (0, u "(ID)V"), (0, .methodref 8 18), (0, .nameAndType 19 6), (0, u "end"), (0, .methodref 8 21), (0, .nameAndType 22 12), (0, u "addSurplus"), (0, .class_ 24), (0, u "com/example/plumbline/plumbline/align/DualSimplex"), (0, .methodref 23 26), (0, .nameAndType 5 27), (0, u "(Lcom/example/plumbline/plumbline/align/DualSimplex$Columns;[D)V"), (0, .methodref 23 29), (0, .nameAndType 30 31), (0, u "solve"), (0, u "([D)Z"), (0, .methodref 33 34), (0, .class_ 35), (0, .nameAndType 36 37), (0, u "java/lang/Math"), (0, u "max"), (0, u "(II)I"), (0, .methodref 23 39), (0, .nameAndType 40 41), (0, u "value"), (0, u "()D"), (0, .class_ 43), (0, u "com/example/plumbline/plumbline/align/DualSimplexValuePinLaw"), (2, u "law"), (0, u "(IIIII)Z")] 7

def k1m0 : Method := { name := "<init>", desc := "()V", sig := { parameters := [], returnType := none }, accessFlags := 1, code := none }
def k1c1 : Code := { maxStack := 6, maxLocals := 16, code := code, exceptionTable := #[], attributes := #[] }
def k1m1 : Method := { name := "law", desc := "(IIIII)Z", sig := { parameters := [.int, .int, .int, .int, .int], returnType := some .boolean }, accessFlags := 9, code := some k1c1 }
/-- com/example/plumbline/plumbline/align/DualSimplexValuePinLaw -/
def k1 : Class := { plain "com/example/plumbline/plumbline/align/DualSimplexValuePinLaw" (some 0) with
  accessFlags := 49
  interfaces := #[]
  cf := some (fileOf pool1 42 #[] #[{ accessFlags := 1, nameIndex := 5, descriptorIndex := 6, attributes := #[] }, { accessFlags := 9, nameIndex := 46, descriptorIndex := 47, attributes := #[] }] 49 2 #[] #[])
  fields := #[]
  methods := #[k1m0, k1m1]
  instanceTypes := #[]
  staticTypes := #[]
  resolved := Array.replicate 55 none
  statics := none }

def pool2 : Array CpInfo := pool [(1, .methodref 2 3), (0, .class_ 4), (0, .nameAndType 5 6), (0, u "java/lang/Object"), (0, u "<init>"), (0, u "()V"), (0, .fieldref 8 9), (0, .class_ 10), (0, .nameAndType 11 12), (0, u "com/example/plumbline/plumbline/align/DualSimplex$Columns"), (0, u "starts"), (0, u "[I"), (0, .fieldref 8 14), (0, .nameAndType 15 12), (0, u "entryRows"), (0, .fieldref 8 17), (0, .nameAndType 18 19), (0, u "entryValues"), (0, u "[D"), (0, .fieldref 8 21), (0, .nameAndType 22 23), (0, u "rows"), (0, u "I"), (0, .fieldref 8 25), (0, .nameAndType 26 12), (0, u "surpluses"), (0, .methodref 28 29), (0, .class_ 30), (0, .nameAndType 31 32), (0, u "java/util/Arrays"), (0, u "fill"), (0, u "([II)V"), (9, .fieldref 8 43), (0, .nameAndType 44 23), (0, u "entries"), (0, .methodref 28 46), (0, .nameAndType 47 48), (0, u "copyOf"), (0, u "([II)[I"), (0, .methodref 28 50), (0, .nameAndType 47 51), (0, u "([DI)[D"), (3, .fieldref 8 56), (0, .nameAndType 57 23), (0, u "columns"), (2, .double 13830554455654793216), (1, .methodref 8 63), (0, .nameAndType 64 65), (0, u "add"), (0, u "(ID)V"), (0, .methodref 8 67), (0, .nameAndType 68 6), (0, u "end"), (0, u "(I)V"), (3, u "addSurplus"), (3, .class_ 78), (0, u "com/example/plumbline/plumbline/align/DualSimplex")] 18

def k2c0 : Code := { maxStack := 2, maxLocals := 2, code := prog_13_method_1_code, exceptionTable := #[], attributes := #[] }
def k2m0 : Method := { name := "<init>", desc := "(I)V", sig := { parameters := [.int], returnType := none }, accessFlags := 0, code := some k2c0 }
def k2c1 : Code := { maxStack := 4, maxLocals := 4, code := prog_13_method_2_code, exceptionTable := #[], attributes := #[] }
def k2m1 : Method := { name := "add", desc := "(ID)V", sig := { parameters := [.int, .double], returnType := none }, accessFlags := 0, code := some k2c1 }
def k2c2 : Code := { maxStack := 4, maxLocals := 2, code := prog_13_method_3_code, exceptionTable := #[], attributes := #[] }
def k2m2 : Method := { name := "addSurplus", desc := "(I)V", sig := { parameters := [.int], returnType := none }, accessFlags := 0, code := some k2c2 }
def k2c3 : Code := { maxStack := 4, maxLocals := 1, code := prog_13_method_4_code, exceptionTable := #[], attributes := #[] }
def k2m3 : Method := { name := "end", desc := "()V", sig := { parameters := [], returnType := none }, accessFlags := 0, code := some k2c3 }
/-- com/example/plumbline/plumbline/align/DualSimplex$Columns -/
def k2 : Class := { plain "com/example/plumbline/plumbline/align/DualSimplex$Columns" (some 0) with
  accessFlags := 48
  interfaces := #[]
  cf := some (fileOf pool2 8 #[.nestHost 77] #[{ accessFlags := 0, nameIndex := 5, descriptorIndex := 69, attributes := #[] }, { accessFlags := 0, nameIndex := 64, descriptorIndex := 65, attributes := #[] }, { accessFlags := 0, nameIndex := 73, descriptorIndex := 69, attributes := #[] }, { accessFlags := 0, nameIndex := 68, descriptorIndex := 6, attributes := #[] }] 48 2 #[] #[{ accessFlags := 18, nameIndex := 22, descriptorIndex := 23, attributes := #[] }, { accessFlags := 2, nameIndex := 57, descriptorIndex := 23, attributes := #[] }, { accessFlags := 2, nameIndex := 11, descriptorIndex := 12, attributes := #[] }, { accessFlags := 2, nameIndex := 15, descriptorIndex := 12, attributes := #[] }, { accessFlags := 2, nameIndex := 18, descriptorIndex := 19, attributes := #[] }, { accessFlags := 2, nameIndex := 44, descriptorIndex := 23, attributes := #[] }, { accessFlags := 18, nameIndex := 26, descriptorIndex := 12, attributes := #[] }])
  fields := #[{ name := "rows", type := .int, accessFlags := 18, slot := 0, constantValue := 0 }, { name := "columns", type := .int, accessFlags := 2, slot := 1, constantValue := 0 }, { name := "starts", type := (.array .int), accessFlags := 2, slot := 2, constantValue := 0 }, { name := "entryRows", type := (.array .int), accessFlags := 2, slot := 3, constantValue := 0 }, { name := "entryValues", type := (.array .double), accessFlags := 2, slot := 4, constantValue := 0 }, { name := "entries", type := .int, accessFlags := 2, slot := 5, constantValue := 0 }, { name := "surpluses", type := (.array .int), accessFlags := 18, slot := 6, constantValue := 0 }]
  methods := #[k2m0, k2m1, k2m2, k2m3]
  instanceTypes := #[.int, .int, (.array .int), (.array .int), (.array .double), .int, (.array .int)]
  staticTypes := #[]
  resolved := Array.replicate 97 none
  statics := none }

def pool3 : Array CpInfo := pool [(2, .class_ 4), (1, u "java/lang/Object"), (0, u "<init>"), (0, u "()V"), (7, .class_ 16), (1, u "java/util/Arrays"), (57, .class_ 76), (1, u "java/util/Arrays$NaturalOrder"), (32, u "()Ljava/lang/Object;"), (3, .class_ 115), (1, u "java/util/Arrays$LegacyMergeSort"), (1, u "Z"), (10, .nameAndType 129 109), (0, u "clone"), (20, .methodref 151 152), (0, .class_ 153), (0, .nameAndType 154 155), (0, u "java/lang/System"), (0, u "arraycopy"), (0, u "(Ljava/lang/Object;ILjava/lang/Object;II)V"), (146, u "copyOf"), (1, .methodref 305 306), (0, .class_ 307), (0, .nameAndType 308 309), (0, u "java/lang/Math"), (0, u "min"), (0, u "(II)I"), (6, .methodref 317 128), (0, .class_ 318), (0, u "[I"), (56, .class_ 376), (0, u "java/util/Arrays$ArrayList"), (68, u "$assertionsDisabled"), (269, u "MIN_ARRAY_SORT_GRAN"), (0, u "I"), (2, u "INSERTIONSORT_THRESHOLD"), (120, u "fill"), (4, u "([II)V"), (8, u "([DD)V"), (16, u "([II)[I"), (3, u "([DI)[D"), (99, .class_ 976), (0, u "java/util/Arrays$ArrayItr")] 52

def k3m0 : Method := { name := "<init>", desc := "()V", sig := { parameters := [], returnType := none }, accessFlags := 2, code := none }
def k3c1 : Code := { maxStack := 3, maxLocals := 4, code := jdk_65_method_103_code, exceptionTable := #[], attributes := #[] }
def k3m1 : Method := { name := "fill", desc := "([II)V", sig := { parameters := [(.array .int), .int], returnType := none }, accessFlags := 9, code := some k3c1 }
def k3c2 : Code := { maxStack := 4, maxLocals := 5, code := jdk_65_method_113_code, exceptionTable := #[], attributes := #[] }
def k3m2 : Method := { name := "fill", desc := "([DD)V", sig := { parameters := [(.array .double), .double], returnType := none }, accessFlags := 9, code := some k3c2 }
def k3c3 : Code := { maxStack := 6, maxLocals := 3, code := jdk_65_method_123_code, exceptionTable := #[], attributes := #[] }
def k3m3 : Method := { name := "copyOf", desc := "([II)[I", sig := { parameters := [(.array .int), .int], returnType := some (.array .int) }, accessFlags := 9, code := some k3c3 }
def k3c4 : Code := { maxStack := 6, maxLocals := 3, code := jdk_65_method_127_code, exceptionTable := #[], attributes := #[] }
def k3m4 : Method := { name := "copyOf", desc := "([DI)[D", sig := { parameters := [(.array .double), .int], returnType := some (.array .double) }, accessFlags := 9, code := some k3c4 }
/-- java/util/Arrays -/
def k3 : Class := { plain "java/util/Arrays" (some 0) with
  accessFlags := 49
  interfaces := #[]
  cf := some (fileOf pool3 14 #[.nestMembers #[975, 375, 113, 74]] #[{ accessFlags := 2, nameIndex := 5, descriptorIndex := 6, attributes := #[] }, { accessFlags := 9, nameIndex := 840, descriptorIndex := 845, attributes := #[] }, { accessFlags := 9, nameIndex := 840, descriptorIndex := 854, attributes := #[] }, { accessFlags := 9, nameIndex := 302, descriptorIndex := 871, attributes := #[] }, { accessFlags := 9, nameIndex := 302, descriptorIndex := 875, attributes := #[] }] 49 2 #[] #[{ accessFlags := 26, nameIndex := 715, descriptorIndex := 716, attributes := #[] }, { accessFlags := 26, nameIndex := 719, descriptorIndex := 716, attributes := #[] }, { accessFlags := 4120, nameIndex := 445, descriptorIndex := 117, attributes := #[] }])
  fields := #[{ name := "MIN_ARRAY_SORT_GRAN", type := .int, accessFlags := 26, slot := 0, constantValue := 0 }, { name := "INSERTIONSORT_THRESHOLD", type := .int, accessFlags := 26, slot := 1, constantValue := 0 }, { name := "$assertionsDisabled", type := .boolean, accessFlags := 4120, slot := 2, constantValue := 0 }]
  methods := #[k3m0, k3m1, k3m2, k3m3, k3m4]
  instanceTypes := #[]
  staticTypes := #[.int, .int, .boolean]
  resolved := Array.replicate 1029 none
  statics := none }

def pool4 : Array CpInfo := pool [(1, .methodref 2 3), (0, .class_ 4), (0, .nameAndType 5 6), (0, u "java/lang/Object"), (0, u "<init>"), (0, u "()V"), (0, .fieldref 8 9), (0, .class_ 10), (0, .nameAndType 11 12), (0, u "com/example/plumbline/plumbline/align/DualSimplex$Columns"), (0, u "rows"), (0, u "I"), (0, .fieldref 14 9), (0, .class_ 15), (0, u "com/example/plumbline/plumbline/align/DualSimplex"), (0, .fieldref 14 17), (0, .nameAndType 18 12), (0, u "columns"), (0, .methodref 20 21), (0, .class_ 22), (0, .nameAndType 23 24), (0, u "[D"), (0, u "clone"), (0, u "()Ljava/lang/Object;"), (0, .fieldref 14 26), (0, .nameAndType 27 22), (0, u "costs"), (9, .fieldref 8 17), (3, .fieldref 8 42), (0, .nameAndType 43 44), (0, u "surpluses"), (0, u "[I"), (0, .methodref 46 47), (0, .class_ 48), (0, .nameAndType 49 50), (0, u "java/util/Arrays"), (0, u "copyOf"), (0, u "([II)[I"), (0, .fieldref 14 42), (1, .fieldref 8 54), (0, .nameAndType 55 44), (0, u "starts"), (0, .fieldref 14 54), (0, .fieldref 8 58), (0, .nameAndType 59 44), (0, u "entryRows"), (0, .fieldref 8 61), (0, .nameAndType 62 12), (0, u "entries"), (0, .fieldref 14 58), (0, .fieldref 8 65), (0, .nameAndType 66 22), (0, u "entryValues"), (0, .methodref 46 68), (0, .nameAndType 49 69), (0, u "([DI)[D"), (0, .fieldref 14 65), (0, .fieldref 14 72), (0, .nameAndType 73 44), (0, u "basis"), (0, .fieldref 14 75), (0, .nameAndType 76 44), (0, u "basicIn"), (0, .methodref 14 78), (0, .nameAndType 79 80), (0, u "blockRows"), (0, u "(I)I"), (0, .methodref 82 83), (0, .class_ 84), (0, .nameAndType 85 80), (0, u "java/lang/Integer"), (0, u "numberOfTrailingZeros"), (0, .fieldref 14 87), (0, .nameAndType 88 12), (0, u "blockShift"), (0, .fieldref 14 90), (0, .nameAndType 91 92), (0, u "inverse"), (0, u "[[D"), (0, .methodref 94 95), (0, .class_ 96), (0, .nameAndType 97 98), (0, u "java/lang/Math"), (0, u "min"), (0, u "(II)I"), (0, .fieldref 14 100), (0, .nameAndType 101 22), (0, u "values"), (0, .fieldref 14 103), (0, .nameAndType 104 22), (0, u "reduced"), (0, .fieldref 14 106), (0, .nameAndType 107 22), (0, u "sides"), (0, .fieldref 14 109), (0, .nameAndType 110 22), (0, u "pivotRow"), (0, .fieldref 14 112), (0, .nameAndType 113 22), (0, u "pivotColumn"), (0, .fieldref 14 115), (0, .nameAndType 116 22), (0, u "stepColumn"), (0, .fieldref 14 118), (0, .nameAndType 119 44), (0, u "picked"), (0, .fieldref 14 121), (0, .nameAndType 122 44), (0, u "pivotRows"), (0, .methodref 14 124), (0, .nameAndType 125 6), (0, u "startOver"), (1, .methodref 14 128), (0, .nameAndType 129 130), (0, u "moveValues"), (0, u "([D)V"), (0, .methodref 14 132), (0, .nameAndType 133 134), (0, u "pivots"), (0, u "()I"), (4, .methodref 94 140), (0, .nameAndType 141 142), (0, u "abs"), (0, u "(D)D"), (0, .double 4472406533629990549), (4, .class_ 150), (1, u "com/example/plumbline/plumbline/model/HeapBytes"), (6, .methodref 148 158), (0, .nameAndType 159 80), (0, u "movableLength"), (0, .methodref 94 161), (0, .nameAndType 162 98), (0, u "max"), (0, .methodref 82 164), (0, .nameAndType 165 80), (0, u "highestOneBit"), (0, .methodref 14 167), (0, .nameAndType 168 169), (0, u "leavingRow"), (0, u "(Z)I"), (0, .methodref 14 171), (0, .nameAndType 172 173), (0, u "isAccurate"), (0, u "()Z"), (0, .fieldref 14 175), (0, .nameAndType 176 12), (0, u "pivotsSinceReinversion"), (0, .methodref 14 178), (0, .nameAndType 179 6), (0, u "reinvert"), (0, .methodref 14 181), (0, .nameAndType 182 183), (0, u "enteringColumn"), (0, u "(IZ)I"), (0, .methodref 14 185), (0, .nameAndType 186 187), (0, u "pivot"), (0, u "(II)Z"), (0, .methodref 14 189), (0, .nameAndType 190 191), (0, u "block"), (0, u "(I)[D"), (0, .methodref 14 193), (0, .nameAndType 194 80), (0, u "first"), (0, .double 13830554455654793216), (1, .double 9218868437227405312), (1, .methodref 94 200), (0, .nameAndType 162 201), (0, u "(DD)D"), (0, .methodref 94 203), (0, .nameAndType 97 201), (0, .double 4502148214488346440), (1, .fieldref 14 207), (0, .nameAndType 208 209), (0, u "reducedCostsChecked"), (0, u "Z"), (0, .methodref 14 211), (0, .nameAndType 212 213), (0, u "prices"), (0, u "()[D"), (0, .methodref 14 215), (0, .nameAndType 216 217), (0, u "reducedCost"), (0, u "(I[D)D"), (0, .double 13725520251343122248), (1, .methodref 221 222), (0, .class_ 223), (0, .nameAndType 224 225), (0, u "java/lang/System"), (0, u "arraycopy"), (0, u "(Ljava/lang/Object;ILjava/lang/Object;II)V"), (0, .methodref 46 227), (0, .nameAndType 228 229), (0, u "fill"), (0, u "([DD)V"), (0, .double 4427486594234968593), (1, .methodref 14 233), (0, .nameAndType 234 235), (0, u "swapRows"), (0, u "(II)V"), (0, .methodref 14 237), (0, .nameAndType 238 235), (0, u "swapColumns"), (0, .methodref 14 240), (0, .nameAndType 241 6), (0, u "computeValues"), (0, .methodref 46 243), (0, .nameAndType 228 244), (0, u "([II)V"), (0, u "FEASIBLE"), (0, u "D"), (1, u "PIVOT"), (0, u "DUAL"), (0, u "ACCURACY"), (0, u "SINGULAR"), (0, u "REINVERSION"), (1, u "BLAND_AFTER"), (1, u "MOST_PIVOTS"), (1, u "OPTIMAL"), (1, u "INFEASIBLE"), (1, u "LOST"), (1, u "(Lcom/example/plumbline/plumbline/align/DualSimplex$Columns;[D)V"), (4, u "solve"), (0, u "([D)Z"), (0, u "value"), (0, u "()D")] 31

def k4c0 : Code := { maxStack := 4, maxLocals := 8, code := prog_12_method_1_code, exceptionTable := #[], attributes := #[] }
def k4m0 : Method := { name := "<init>", desc := "(Lcom/example/plumbline/plumbline/align/DualSimplex$Columns;[D)V", sig := { parameters := [(.object "com/example/plumbline/plumbline/align/DualSimplex$Columns"), (.array .double)], returnType := none }, accessFlags := 0, code := some k4c0 }
def k4c1 : Code := { maxStack := 4, maxLocals := 3, code := prog_12_method_2_code, exceptionTable := #[], attributes := #[] }
def k4m1 : Method := { name := "solve", desc := "([D)Z", sig := { parameters := [(.array .double)], returnType := some .boolean }, accessFlags := 0, code := some k4c1 }
def k4c2 : Code := { maxStack := 6, maxLocals := 4, code := prog_12_method_3_code, exceptionTable := #[], attributes := #[] }
def k4m2 : Method := { name := "value", desc := "()D", sig := { parameters := [], returnType := some .double }, accessFlags := 0, code := some k4c2 }
def k4c3 : Code := { maxStack := 4, maxLocals := 1, code := prog_12_method_6_code, exceptionTable := #[], attributes := #[] }
def k4m3 : Method := { name := "blockRows", desc := "(I)I", sig := { parameters := [.int], returnType := some .int }, accessFlags := 10, code := some k4c3 }
def k4c4 : Code := { maxStack := 3, maxLocals := 2, code := prog_12_method_7_code, exceptionTable := #[], attributes := #[] }
def k4m4 : Method := { name := "block", desc := "(I)[D", sig := { parameters := [.int], returnType := some (.array .double) }, accessFlags := 2, code := some k4c4 }
def k4c5 : Code := { maxStack := 3, maxLocals := 2, code := prog_12_method_8_code, exceptionTable := #[], attributes := #[] }
def k4m5 : Method := { name := "first", desc := "(I)I", sig := { parameters := [.int], returnType := some .int }, accessFlags := 2, code := some k4c5 }
def k4c6 : Code := { maxStack := 3, maxLocals := 6, code := prog_12_method_9_code, exceptionTable := #[], attributes := #[] }
def k4m6 : Method := { name := "pivots", desc := "()I", sig := { parameters := [], returnType := some .int }, accessFlags := 2, code := some k4c6 }
def k4c7 : Code := { maxStack := 4, maxLocals := 10, code := prog_12_method_10_code, exceptionTable := #[], attributes := #[] }
def k4m7 : Method := { name := "leavingRow", desc := "(Z)I", sig := { parameters := [.boolean], returnType := some .int }, accessFlags := 2, code := some k4c7 }
def k4c8 : Code := { maxStack := 6, maxLocals := 17, code := prog_12_method_11_code, exceptionTable := #[], attributes := #[] }
def k4m8 : Method := { name := "enteringColumn", desc := "(IZ)I", sig := { parameters := [.int, .boolean], returnType := some .int }, accessFlags := 2, code := some k4c8 }
def k4c9 : Code := { maxStack := 9, maxLocals := 19, code := prog_12_method_12_code, exceptionTable := #[], attributes := #[] }
def k4m9 : Method := { name := "pivot", desc := "(II)Z", sig := { parameters := [.int, .int], returnType := some .boolean }, accessFlags := 2, code := some k4c9 }
def k4c10 : Code := { maxStack := 8, maxLocals := 7, code := prog_12_method_13_code, exceptionTable := #[], attributes := #[] }
def k4m10 : Method := { name := "isAccurate", desc := "()Z", sig := { parameters := [], returnType := some .boolean }, accessFlags := 2, code := some k4c10 }
def k4c11 : Code := { maxStack := 9, maxLocals := 10, code := prog_12_method_14_code, exceptionTable := #[], attributes := #[] }
def k4m11 : Method := { name := "prices", desc := "()[D", sig := { parameters := [], returnType := some (.array .double) }, accessFlags := 2, code := some k4c11 }
def k4c12 : Code := { maxStack := 6, maxLocals := 6, code := prog_12_method_15_code, exceptionTable := #[], attributes := #[] }
def k4m12 : Method := { name := "reducedCost", desc := "(I[D)D", sig := { parameters := [.int, (.array .double)], returnType := some .double }, accessFlags := 2, code := some k4c12 }
def k4c13 : Code := { maxStack := 8, maxLocals := 13, code := prog_12_method_16_code, exceptionTable := #[], attributes := #[] }
def k4m13 : Method := { name := "moveValues", desc := "([D)V", sig := { parameters := [(.array .double)], returnType := none }, accessFlags := 2, code := some k4c13 }
def k4c14 : Code := { maxStack := 6, maxLocals := 12, code := prog_12_method_17_code, exceptionTable := #[], attributes := #[] }
def k4m14 : Method := { name := "computeValues", desc := "()V", sig := { parameters := [], returnType := none }, accessFlags := 2, code := some k4c14 }
def k4c15 : Code := { maxStack := 9, maxLocals := 16, code := prog_12_method_18_code, exceptionTable := #[], attributes := #[] }
def k4m15 : Method := { name := "reinvert", desc := "()V", sig := { parameters := [], returnType := none }, accessFlags := 2, code := some k4c15 }
def k4c16 : Code := { maxStack := 5, maxLocals := 10, code := prog_12_method_19_code, exceptionTable := #[], attributes := #[] }
def k4m16 : Method := { name := "swapColumns", desc := "(II)V", sig := { parameters := [.int, .int], returnType := none }, accessFlags := 2, code := some k4c16 }
def k4c17 : Code := { maxStack := 5, maxLocals := 10, code := prog_12_method_20_code, exceptionTable := #[], attributes := #[] }
def k4m17 : Method := { name := "swapRows", desc := "(II)V", sig := { parameters := [.int, .int], returnType := none }, accessFlags := 2, code := some k4c17 }
def k4c18 : Code := { maxStack := 5, maxLocals := 5, code := prog_12_method_21_code, exceptionTable := #[], attributes := #[] }
def k4m18 : Method := { name := "startOver", desc := "()V", sig := { parameters := [], returnType := none }, accessFlags := 2, code := some k4c18 }
/-- com/example/plumbline/plumbline/align/DualSimplex -/
def k4 : Class := { plain "com/example/plumbline/plumbline/align/DualSimplex" (some 0) with
  accessFlags := 48
  interfaces := #[]
  cf := some (fileOf pool4 14 #[.nestMembers #[8]] #[{ accessFlags := 0, nameIndex := 5, descriptorIndex := 264, attributes := #[] }, { accessFlags := 0, nameIndex := 269, descriptorIndex := 270, attributes := #[] }, { accessFlags := 0, nameIndex := 271, descriptorIndex := 272, attributes := #[] }, { accessFlags := 10, nameIndex := 79, descriptorIndex := 80, attributes := #[] }, { accessFlags := 2, nameIndex := 190, descriptorIndex := 191, attributes := #[] }, { accessFlags := 2, nameIndex := 194, descriptorIndex := 80, attributes := #[] }, { accessFlags := 2, nameIndex := 133, descriptorIndex := 134, attributes := #[] }, { accessFlags := 2, nameIndex := 168, descriptorIndex := 169, attributes := #[] }, { accessFlags := 2, nameIndex := 182, descriptorIndex := 183, attributes := #[] }, { accessFlags := 2, nameIndex := 186, descriptorIndex := 187, attributes := #[] }, { accessFlags := 2, nameIndex := 172, descriptorIndex := 173, attributes := #[] }, { accessFlags := 2, nameIndex := 212, descriptorIndex := 213, attributes := #[] }, { accessFlags := 2, nameIndex := 216, descriptorIndex := 217, attributes := #[] }, { accessFlags := 2, nameIndex := 129, descriptorIndex := 130, attributes := #[] }, { accessFlags := 2, nameIndex := 241, descriptorIndex := 6, attributes := #[] }, { accessFlags := 2, nameIndex := 179, descriptorIndex := 6, attributes := #[] }, { accessFlags := 2, nameIndex := 238, descriptorIndex := 235, attributes := #[] }, { accessFlags := 2, nameIndex := 234, descriptorIndex := 235, attributes := #[] }, { accessFlags := 2, nameIndex := 125, descriptorIndex := 6, attributes := #[] }] 48 2 #[] #[{ accessFlags := 26, nameIndex := 245, descriptorIndex := 246, attributes := #[] }, { accessFlags := 26, nameIndex := 248, descriptorIndex := 246, attributes := #[] }, { accessFlags := 26, nameIndex := 249, descriptorIndex := 246, attributes := #[] }, { accessFlags := 26, nameIndex := 250, descriptorIndex := 246, attributes := #[] }, { accessFlags := 26, nameIndex := 251, descriptorIndex := 246, attributes := #[] }, { accessFlags := 26, nameIndex := 252, descriptorIndex := 12, attributes := #[] }, { accessFlags := 26, nameIndex := 254, descriptorIndex := 12, attributes := #[] }, { accessFlags := 26, nameIndex := 256, descriptorIndex := 12, attributes := #[] }, { accessFlags := 26, nameIndex := 258, descriptorIndex := 12, attributes := #[] }, { accessFlags := 26, nameIndex := 260, descriptorIndex := 12, attributes := #[] }, { accessFlags := 26, nameIndex := 262, descriptorIndex := 12, attributes := #[] }, { accessFlags := 18, nameIndex := 11, descriptorIndex := 12, attributes := #[] }, { accessFlags := 18, nameIndex := 18, descriptorIndex := 12, attributes := #[] }, { accessFlags := 18, nameIndex := 55, descriptorIndex := 44, attributes := #[] }, { accessFlags := 18, nameIndex := 59, descriptorIndex := 44, attributes := #[] }, { accessFlags := 18, nameIndex := 66, descriptorIndex := 22, attributes := #[] }, { accessFlags := 18, nameIndex := 27, descriptorIndex := 22, attributes := #[] }, { accessFlags := 18, nameIndex := 43, descriptorIndex := 44, attributes := #[] }, { accessFlags := 18, nameIndex := 73, descriptorIndex := 44, attributes := #[] }, { accessFlags := 18, nameIndex := 76, descriptorIndex := 44, attributes := #[] }, { accessFlags := 18, nameIndex := 91, descriptorIndex := 92, attributes := #[] }, { accessFlags := 18, nameIndex := 88, descriptorIndex := 12, attributes := #[] }, { accessFlags := 18, nameIndex := 101, descriptorIndex := 22, attributes := #[] }, { accessFlags := 18, nameIndex := 104, descriptorIndex := 22, attributes := #[] }, { accessFlags := 18, nameIndex := 107, descriptorIndex := 22, attributes := #[] }, { accessFlags := 18, nameIndex := 110, descriptorIndex := 22, attributes := #[] }, { accessFlags := 18, nameIndex := 113, descriptorIndex := 22, attributes := #[] }, { accessFlags := 18, nameIndex := 116, descriptorIndex := 22, attributes := #[] }, { accessFlags := 2, nameIndex := 176, descriptorIndex := 12, attributes := #[] }, { accessFlags := 2, nameIndex := 208, descriptorIndex := 209, attributes := #[] }, { accessFlags := 18, nameIndex := 119, descriptorIndex := 44, attributes := #[] }, { accessFlags := 18, nameIndex := 122, descriptorIndex := 44, attributes := #[] }])
  fields := #[{ name := "FEASIBLE", type := .double, accessFlags := 26, slot := 0, constantValue := 0 }, { name := "PIVOT", type := .double, accessFlags := 26, slot := 1, constantValue := 0 }, { name := "DUAL", type := .double, accessFlags := 26, slot := 2, constantValue := 0 }, { name := "ACCURACY", type := .double, accessFlags := 26, slot := 3, constantValue := 0 }, { name := "SINGULAR", type := .double, accessFlags := 26, slot := 4, constantValue := 0 }, { name := "REINVERSION", type := .int, accessFlags := 26, slot := 5, constantValue := 0 }, { name := "BLAND_AFTER", type := .int, accessFlags := 26, slot := 6, constantValue := 0 }, { name := "MOST_PIVOTS", type := .int, accessFlags := 26, slot := 7, constantValue := 0 }, { name := "OPTIMAL", type := .int, accessFlags := 26, slot := 8, constantValue := 0 }, { name := "INFEASIBLE", type := .int, accessFlags := 26, slot := 9, constantValue := 0 }, { name := "LOST", type := .int, accessFlags := 26, slot := 10, constantValue := 0 }, { name := "rows", type := .int, accessFlags := 18, slot := 0, constantValue := 0 }, { name := "columns", type := .int, accessFlags := 18, slot := 1, constantValue := 0 }, { name := "starts", type := (.array .int), accessFlags := 18, slot := 2, constantValue := 0 }, { name := "entryRows", type := (.array .int), accessFlags := 18, slot := 3, constantValue := 0 }, { name := "entryValues", type := (.array .double), accessFlags := 18, slot := 4, constantValue := 0 }, { name := "costs", type := (.array .double), accessFlags := 18, slot := 5, constantValue := 0 }, { name := "surpluses", type := (.array .int), accessFlags := 18, slot := 6, constantValue := 0 }, { name := "basis", type := (.array .int), accessFlags := 18, slot := 7, constantValue := 0 }, { name := "basicIn", type := (.array .int), accessFlags := 18, slot := 8, constantValue := 0 }, { name := "inverse", type := (.array (.array .double)), accessFlags := 18, slot := 9, constantValue := 0 }, { name := "blockShift", type := .int, accessFlags := 18, slot := 10, constantValue := 0 }, { name := "values", type := (.array .double), accessFlags := 18, slot := 11, constantValue := 0 }, { name := "reduced", type := (.array .double), accessFlags := 18, slot := 12, constantValue := 0 }, { name := "sides", type := (.array .double), accessFlags := 18, slot := 13, constantValue := 0 }, { name := "pivotRow", type := (.array .double), accessFlags := 18, slot := 14, constantValue := 0 }, { name := "pivotColumn", type := (.array .double), accessFlags := 18, slot := 15, constantValue := 0 }, { name := "stepColumn", type := (.array .double), accessFlags := 18, slot := 16, constantValue := 0 }, { name := "pivotsSinceReinversion", type := .int, accessFlags := 2, slot := 17, constantValue := 0 }, { name := "reducedCostsChecked", type := .boolean, accessFlags := 2, slot := 18, constantValue := 0 }, { name := "picked", type := (.array .int), accessFlags := 18, slot := 19, constantValue := 0 }, { name := "pivotRows", type := (.array .int), accessFlags := 18, slot := 20, constantValue := 0 }]
  methods := #[k4m0, k4m1, k4m2, k4m3, k4m4, k4m5, k4m6, k4m7, k4m8, k4m9, k4m10, k4m11, k4m12, k4m13, k4m14, k4m15, k4m16, k4m17, k4m18]
  instanceTypes := #[.int, .int, (.array .int), (.array .int), (.array .double), (.array .double), (.array .int), (.array .int), (.array .int), (.array (.array .double)), .int, (.array .double), (.array .double), (.array .double), (.array .double), (.array .double), (.array .double), .int, .boolean, (.array .int), (.array .int)]
  staticTypes := #[.double, .double, .double, .double, .double, .int, .int, .int, .int, .int, .int]
  resolved := #[none, none, none, none, none, none, none, some (.field 2 0), none, none, none, none, none, none, none, none, none, none, none, none, none, none, none, none, none, none, none, none, none, none, none, none, none, none, none, none, none, some (.field 2 1), none, none, none, some (.field 2 6), none, none, none, none, none, none, none, none, none, none, none, some (.field 2 2), none, none, none, some (.field 2 3), none, none, some (.field 2 5), none, none, none, some (.field 2 4), none, none, none, none, none, none, none, none, none, none, none, none, none, none, none, none, none, none, none, none, none, none, none, none, none, none, none, none, none, none, none, none, none, none, none, none, none, none, none, none, none, none, none, none, none, none, none, none, none, none, none, none, none, none, none, none, none, none, none, none, none, none, none, none, none, none, none, none, none, none, none, none, none, none, none, none, none, none, none, none, none, none, none, none, none, none, none, none, none, none, none, none, none, none, none, none, none, none, none, none, none, none, none, none, none, none, none, none, none, none, none, none, none, none, none, none, none, none, none, none, none, none, none, none, none, none, none, none, none, none, none, none, none, none, none, none, none, none, none, none, none, none, none, none, none, none, none, none, none, none, none, none, none, none, none, none, none, none, none, none, none, none, none, none, none, none, none, none, none, none, none, none, none, none, none, none, none, none, none, none, none, none, none, none, none, none, none, none, none, none, none, none, none, none, none, none, none, none, none, none, none, none, none, none, none, none, none, none, none, none, none, none, none, none, none, none, none, none, none, none, none, none, none, none, none, none, none, none, none, none, none, none, none, none, none, none, none, none, none]
  statics := none }

def pool5 : Array CpInfo := pool [(1, .class_ 2), (0, u "java/lang/Cloneable"), (0, .class_ 4), (0, u "java/lang/Object")] 2

/-- java/lang/Cloneable -/
def k5 : Class := { plain "java/lang/Cloneable" (some 0) with
  accessFlags := 1537
  interfaces := #[]
  cf := some (fileOf pool5 1 #[] #[] 1537 3 #[] #[])
  fields := #[]
  methods := #[]
  instanceTypes := #[]
  staticTypes := #[]
  resolved := Array.replicate 7 none
  statics := none }

def pool6 : Array CpInfo := pool [(1, .class_ 2), (0, u "java/lang/Math"), (1, .class_ 6), (1, u "java/lang/Object"), (0, u "<init>"), (0, u "()V"), (5, u "(D)D"), (37, u "(DD)D"), (45, .class_ 100), (1, u "java/lang/Math$RandomNumberGeneratorHolder"), (23, u "abs"), (47, u "negativeZeroFloatBits"), (0, u "J"), (2, u "negativeZeroDoubleBits"), (21, u "max"), (2, u "min"), (43, u "$assertionsDisabled"), (0, u "Z"), (88, u "(II)I"), (2, u "twoToTheDoubleScaleDown"), (0, u "D"), (4, u "twoToTheDoubleScaleUp"), (9, u "E"), (3, u "PI"), (2, u "TAU"), (2, u "DEGREES_TO_RADIANS"), (0, u "RADIANS_TO_DEGREES")] 94

def k6m0 : Method := { name := "<init>", desc := "()V", sig := { parameters := [], returnType := none }, accessFlags := 2, code := none }
def k6c1 : Code := { maxStack := 4, maxLocals := 2, code := jdk_29_method_64_code, exceptionTable := #[], attributes := #[] }
def k6m1 : Method := { name := "abs", desc := "(D)D", sig := { parameters := [.double], returnType := some .double }, accessFlags := 9, code := some k6c1 }
def k6c2 : Code := { maxStack := 2, maxLocals := 2, code := jdk_29_method_65_code, exceptionTable := #[], attributes := #[] }
def k6m2 : Method := { name := "max", desc := "(II)I", sig := { parameters := [.int, .int], returnType := some .int }, accessFlags := 9, code := some k6c2 }
def k6c3 : Code := { maxStack := 4, maxLocals := 4, code := jdk_29_method_68_code, exceptionTable := #[], attributes := #[] }
def k6m3 : Method := { name := "max", desc := "(DD)D", sig := { parameters := [.double, .double], returnType := some .double }, accessFlags := 9, code := some k6c3 }
def k6c4 : Code := { maxStack := 2, maxLocals := 2, code := jdk_29_method_69_code, exceptionTable := #[], attributes := #[] }
def k6m4 : Method := { name := "min", desc := "(II)I", sig := { parameters := [.int, .int], returnType := some .int }, accessFlags := 9, code := some k6c4 }
def k6c5 : Code := { maxStack := 4, maxLocals := 4, code := jdk_29_method_72_code, exceptionTable := #[], attributes := #[] }
def k6m5 : Method := { name := "min", desc := "(DD)D", sig := { parameters := [.double, .double], returnType := some .double }, accessFlags := 9, code := some k6c5 }
/-- java/lang/Math -/
def k6 : Class := { plain "java/lang/Math" (some 0) with
  accessFlags := 49
  interfaces := #[]
  cf := some (fileOf pool6 1 #[.nestMembers #[98]] #[{ accessFlags := 2, nameIndex := 7, descriptorIndex := 8, attributes := #[] }, { accessFlags := 9, nameIndex := 124, descriptorIndex := 14, attributes := #[] }, { accessFlags := 9, nameIndex := 198, descriptorIndex := 335, attributes := #[] }, { accessFlags := 9, nameIndex := 198, descriptorIndex := 52, attributes := #[] }, { accessFlags := 9, nameIndex := 201, descriptorIndex := 335, attributes := #[] }, { accessFlags := 9, nameIndex := 201, descriptorIndex := 52, attributes := #[] }] 49 4 #[] #[{ accessFlags := 25, nameIndex := 354, descriptorIndex := 339, attributes := #[] }, { accessFlags := 25, nameIndex := 358, descriptorIndex := 339, attributes := #[] }, { accessFlags := 25, nameIndex := 361, descriptorIndex := 339, attributes := #[] }, { accessFlags := 26, nameIndex := 364, descriptorIndex := 339, attributes := #[] }, { accessFlags := 26, nameIndex := 365, descriptorIndex := 339, attributes := #[] }, { accessFlags := 26, nameIndex := 172, descriptorIndex := 173, attributes := #[] }, { accessFlags := 26, nameIndex := 176, descriptorIndex := 173, attributes := #[] }, { accessFlags := 8, nameIndex := 344, descriptorIndex := 339, attributes := #[] }, { accessFlags := 8, nameIndex := 338, descriptorIndex := 339, attributes := #[] }, { accessFlags := 4120, nameIndex := 245, descriptorIndex := 246, attributes := #[] }])
  fields := #[{ name := "E", type := .double, accessFlags := 25, slot := 0, constantValue := 0 }, { name := "PI", type := .double, accessFlags := 25, slot := 1, constantValue := 0 }, { name := "TAU", type := .double, accessFlags := 25, slot := 2, constantValue := 0 }, { name := "DEGREES_TO_RADIANS", type := .double, accessFlags := 26, slot := 3, constantValue := 0 }, { name := "RADIANS_TO_DEGREES", type := .double, accessFlags := 26, slot := 4, constantValue := 0 }, { name := "negativeZeroFloatBits", type := .long, accessFlags := 26, slot := 5, constantValue := 0 }, { name := "negativeZeroDoubleBits", type := .long, accessFlags := 26, slot := 6, constantValue := 0 }, { name := "twoToTheDoubleScaleUp", type := .double, accessFlags := 8, slot := 7, constantValue := 0 }, { name := "twoToTheDoubleScaleDown", type := .double, accessFlags := 8, slot := 8, constantValue := 0 }, { name := "$assertionsDisabled", type := .boolean, accessFlags := 4120, slot := 9, constantValue := 0 }]
  methods := #[k6m0, k6m1, k6m2, k6m3, k6m4, k6m5]
  instanceTypes := #[]
  staticTypes := #[.double, .double, .double, .double, .double, .long, .long, .double, .double, .boolean]
  resolved := Array.replicate 460 none
  statics := none }

def pool7 : Array CpInfo := pool [(2, .class_ 4), (1, u "java/lang/Object"), (0, u "<init>"), (0, u "()V"), (1, .class_ 10), (1, u "java/lang/System"), (0, u "allowSecurityManager"), (0, u "I"), (16, u "cons"), (0, u "Ljava/io/Console;"), (77, .class_ 110), (1, u "java/lang/System$CallersHolder"), (43, u "initialErrStream"), (0, u "Ljava/io/PrintStream;"), (19, u "security"), (0, u "Ljava/lang/SecurityManager;"), (31, .class_ 209), (0, u "java/lang/System$1"), (7, u "props"), (0, u "Ljava/util/Properties;"), (2, u "lineSeparator"), (0, u "Ljava/lang/String;"), (96, .class_ 321), (1, u "java/lang/System$LoggerFinder"), (5, .class_ 328), (0, u "java/lang/System$Logger"), (67, u "err"), (2, u "out"), (91, u "notSupportedJnuEncoding"), (15, u "in"), (17, u "initialIn"), (0, u "Ljava/io/InputStream;"), (35, u "bootLayer"), (0, u "Ljava/lang/ModuleLayer;"), (99, .class_ 664), (0, u "java/lang/System$2"), (9, u "NEVER"), (2, u "MAYBE"), (49, u "arraycopy"), (0, u "(Ljava/lang/Object;ILjava/lang/Object;II)V"), (72, .class_ 802), (0, u "java/lang/System$Logger$Level")] 31

def k7m0 : Method := { name := "<init>", desc := "()V", sig := { parameters := [], returnType := none }, accessFlags := 2, code := none }
def k7m1 : Method := { name := "arraycopy", desc := "(Ljava/lang/Object;ILjava/lang/Object;II)V", sig := { parameters := [(.object "java/lang/Object"), .int, (.object "java/lang/Object"), .int, .int], returnType := none }, accessFlags := 265, code := none }
/-- java/lang/System -/
def k7 : Class := { plain "java/lang/System" (some 0) with
  accessFlags := 49
  interfaces := #[]
  cf := some (fileOf pool7 8 #[.nestMembers #[319, 327, 801, 108, 663, 208]] #[{ accessFlags := 2, nameIndex := 5, descriptorIndex := 6, attributes := #[] }, { accessFlags := 265, nameIndex := 727, descriptorIndex := 728, attributes := #[] }] 49 2 #[] #[{ accessFlags := 25, nameIndex := 507, descriptorIndex := 526, attributes := #[] }, { accessFlags := 25, nameIndex := 399, descriptorIndex := 155, attributes := #[] }, { accessFlags := 25, nameIndex := 396, descriptorIndex := 155, attributes := #[] }, { accessFlags := 10, nameIndex := 525, descriptorIndex := 526, attributes := #[] }, { accessFlags := 26, nameIndex := 674, descriptorIndex := 12, attributes := #[] }, { accessFlags := 26, nameIndex := 677, descriptorIndex := 12, attributes := #[] }, { accessFlags := 10, nameIndex := 11, descriptorIndex := 12, attributes := #[] }, { accessFlags := 74, nameIndex := 175, descriptorIndex := 176, attributes := #[] }, { accessFlags := 10, nameIndex := 491, descriptorIndex := 222, attributes := #[] }, { accessFlags := 74, nameIndex := 29, descriptorIndex := 30, attributes := #[] }, { accessFlags := 74, nameIndex := 154, descriptorIndex := 155, attributes := #[] }, { accessFlags := 10, nameIndex := 217, descriptorIndex := 218, attributes := #[] }, { accessFlags := 10, nameIndex := 221, descriptorIndex := 222, attributes := #[] }, { accessFlags := 8, nameIndex := 562, descriptorIndex := 563, attributes := #[] }])
  fields := #[{ name := "in", type := (.object "java/io/InputStream"), accessFlags := 25, slot := 0, constantValue := 0 }, { name := "out", type := (.object "java/io/PrintStream"), accessFlags := 25, slot := 1, constantValue := 0 }, { name := "err", type := (.object "java/io/PrintStream"), accessFlags := 25, slot := 2, constantValue := 0 }, { name := "initialIn", type := (.object "java/io/InputStream"), accessFlags := 10, slot := 3, constantValue := 0 }, { name := "NEVER", type := .int, accessFlags := 26, slot := 4, constantValue := 0 }, { name := "MAYBE", type := .int, accessFlags := 26, slot := 5, constantValue := 0 }, { name := "allowSecurityManager", type := .int, accessFlags := 10, slot := 6, constantValue := 0 }, { name := "security", type := (.object "java/lang/SecurityManager"), accessFlags := 74, slot := 7, constantValue := 0 }, { name := "notSupportedJnuEncoding", type := (.object "java/lang/String"), accessFlags := 10, slot := 8, constantValue := 0 }, { name := "cons", type := (.object "java/io/Console"), accessFlags := 74, slot := 9, constantValue := 0 }, { name := "initialErrStream", type := (.object "java/io/PrintStream"), accessFlags := 74, slot := 10, constantValue := 0 }, { name := "props", type := (.object "java/util/Properties"), accessFlags := 10, slot := 11, constantValue := 0 }, { name := "lineSeparator", type := (.object "java/lang/String"), accessFlags := 10, slot := 12, constantValue := 0 }, { name := "bootLayer", type := (.object "java/lang/ModuleLayer"), accessFlags := 8, slot := 13, constantValue := 0 }]
  methods := #[k7m0, k7m1]
  instanceTypes := #[]
  staticTypes := #[(.object "java/io/InputStream"), (.object "java/io/PrintStream"), (.object "java/io/PrintStream"), (.object "java/io/InputStream"), .int, .int, .int, (.object "java/lang/SecurityManager"), (.object "java/lang/String"), (.object "java/io/Console"), (.object "java/io/PrintStream"), (.object "java/util/Properties"), (.object "java/lang/String"), (.object "java/lang/ModuleLayer")]
  resolved := Array.replicate 834 none
  statics := none }

def pool8 : Array CpInfo := pool [(2, .class_ 4), (1, u "java/lang/Object"), (0, u "<init>"), (0, u "()V"), (0, .class_ 8), (0, u "com/example/plumbline/plumbline/model/HeapBytes"), (20, .long 524272), (1, u "REFERENCE"), (0, u "I"), (2, u "HEADER"), (0, u "J"), (0, u "REGION"), (5, u "movableLength"), (0, u "(I)I")] 2

def k8m0 : Method := { name := "<init>", desc := "()V", sig := { parameters := [], returnType := none }, accessFlags := 2, code := none }
def k8c1 : Code := { maxStack := 4, maxLocals := 1, code := prog_86_method_4_code, exceptionTable := #[], attributes := #[] }
def k8m1 : Method := { name := "movableLength", desc := "(I)I", sig := { parameters := [.int], returnType := some .int }, accessFlags := 9, code := some k8c1 }
/-- com/example/plumbline/plumbline/model/HeapBytes -/
def k8 : Class := { plain "com/example/plumbline/plumbline/model/HeapBytes" (some 0) with
  accessFlags := 49
  interfaces := #[]
  cf := some (fileOf pool8 7 #[] #[{ accessFlags := 2, nameIndex := 5, descriptorIndex := 6, attributes := #[] }, { accessFlags := 9, nameIndex := 43, descriptorIndex := 44, attributes := #[] }] 49 2 #[] #[{ accessFlags := 25, nameIndex := 31, descriptorIndex := 32, attributes := #[] }, { accessFlags := 26, nameIndex := 35, descriptorIndex := 36, attributes := #[] }, { accessFlags := 26, nameIndex := 37, descriptorIndex := 36, attributes := #[] }])
  fields := #[{ name := "REFERENCE", type := .int, accessFlags := 25, slot := 0, constantValue := 0 }, { name := "HEADER", type := .long, accessFlags := 26, slot := 1, constantValue := 0 }, { name := "REGION", type := .long, accessFlags := 26, slot := 2, constantValue := 0 }]
  methods := #[k8m0, k8m1]
  instanceTypes := #[]
  staticTypes := #[.int, .long, .long]
  resolved := Array.replicate 47 none
  statics := none }

def pool9 : Array CpInfo := pool [(1, .class_ 2), (0, u "java/io/Serializable"), (0, .class_ 4), (0, u "java/lang/Object")] 2

/-- java/io/Serializable -/
def k9 : Class := { plain "java/io/Serializable" (some 0) with
  accessFlags := 1537
  interfaces := #[]
  cf := some (fileOf pool9 1 #[] #[] 1537 3 #[] #[])
  fields := #[]
  methods := #[]
  instanceTypes := #[]
  staticTypes := #[]
  resolved := Array.replicate 7 none
  statics := none }

def pool10 : Array CpInfo := pool [(2, .class_ 4), (1, u "java/lang/Object"), (0, u "<init>"), (0, u "()V"), (1, .class_ 10), (1, u "java/lang/Number"), (2, .class_ 14), (0, u "java/io/Serializable"), (0, u "serialVersionUID"), (0, u "J")] 20

def k10m0 : Method := { name := "<init>", desc := "()V", sig := { parameters := [], returnType := none }, accessFlags := 1, code := none }
/-- java/lang/Number -/
def k10 : Class := { plain "java/lang/Number" (some 0) with
  accessFlags := 1057
  interfaces := #[9]
  cf := some (fileOf pool10 8 #[] #[{ accessFlags := 1, nameIndex := 5, descriptorIndex := 6, attributes := #[] }] 1057 2 #[13] #[{ accessFlags := 26, nameIndex := 15, descriptorIndex := 16, attributes := #[] }])
  fields := #[{ name := "serialVersionUID", type := .long, accessFlags := 26, slot := 0, constantValue := 0 }]
  methods := #[k10m0]
  instanceTypes := #[]
  staticTypes := #[.long]
  resolved := Array.replicate 37 none
  statics := none }

def pool11 : Array CpInfo := pool [(1, .class_ 2), (0, u "java/lang/Comparable"), (0, .class_ 4), (0, u "java/lang/Object")] 7

/-- java/lang/Comparable -/
def k11 : Class := { plain "java/lang/Comparable" (some 0) with
  accessFlags := 1537
  interfaces := #[]
  cf := some (fileOf pool11 1 #[] #[] 1537 3 #[] #[])
  fields := #[]
  methods := #[]
  instanceTypes := #[]
  staticTypes := #[]
  resolved := Array.replicate 12 none
  statics := none }

def pool12 : Array CpInfo := pool [(1, .class_ 2), (0, u "java/lang/constant/Constable"), (0, .class_ 4), (0, u "java/lang/Object")] 6

/-- java/lang/constant/Constable -/
def k12 : Class := { plain "java/lang/constant/Constable" (some 0) with
  accessFlags := 1537
  interfaces := #[]
  cf := some (fileOf pool12 1 #[] #[] 1537 3 #[] #[])
  fields := #[]
  methods := #[]
  instanceTypes := #[]
  staticTypes := #[]
  resolved := Array.replicate 11 none
  statics := none }

def pool13 : Array CpInfo := pool [(1, .class_ 2), (0, u "java/lang/constant/ConstantDesc"), (0, .class_ 4), (0, u "java/lang/Object")] 32

/-- java/lang/constant/ConstantDesc -/
def k13 : Class := { plain "java/lang/constant/ConstantDesc" (some 0) with
  accessFlags := 1537
  interfaces := #[]
  cf := some (fileOf pool13 1 #[] #[] 1537 3 #[] #[])
  fields := #[]
  methods := #[]
  instanceTypes := #[]
  staticTypes := #[]
  resolved := Array.replicate 37 none
  statics := none }

def pool14 : Array CpInfo := pool [(1, .class_ 2), (0, u "java/lang/Integer"), (16, u "digits"), (0, u "[C"), (30, .methodref 1 52), (0, .nameAndType 53 54), (0, u "numberOfLeadingZeros"), (0, u "(I)I"), (30, u "DigitOnes"), (0, u "[B"), (2, u "DigitTens"), (37, .integer 2147483648), (61, .class_ 190), (0, u "java/lang/Integer$IntegerCache"), (3, u "I"), (8, .class_ 204), (0, u "java/lang/Number"), (2, u "value"), (56, .integer 65536), (37, u "TYPE"), (0, u "Ljava/lang/Class;"), (0, .class_ 305), (0, u "java/lang/Comparable"), (0, .class_ 307), (0, u "java/lang/constant/Constable"), (0, .class_ 309), (0, u "java/lang/constant/ConstantDesc"), (0, u "MIN_VALUE"), (1, u "MAX_VALUE"), (3, u "SIZE"), (1, u "BYTES"), (1, u "serialVersionUID"), (0, u "J"), (81, u "highestOneBit"), (2, u "numberOfTrailingZeros")] 46

def k14c0 : Code := { maxStack := 3, maxLocals := 1, code := jdk_33_method_45_code, exceptionTable := #[], attributes := #[] }
def k14m0 : Method := { name := "highestOneBit", desc := "(I)I", sig := { parameters := [.int], returnType := some .int }, accessFlags := 9, code := some k14c0 }
def k14c1 : Code := { maxStack := 3, maxLocals := 2, code := jdk_33_method_47_code, exceptionTable := #[], attributes := #[] }
def k14m1 : Method := { name := "numberOfLeadingZeros", desc := "(I)I", sig := { parameters := [.int], returnType := some .int }, accessFlags := 9, code := some k14c1 }
def k14c2 : Code := { maxStack := 3, maxLocals := 2, code := jdk_33_method_48_code, exceptionTable := #[], attributes := #[] }
def k14m2 : Method := { name := "numberOfTrailingZeros", desc := "(I)I", sig := { parameters := [.int], returnType := some .int }, accessFlags := 9, code := some k14c2 }
/-- java/lang/Integer -/
def k14 : Class := { plain "java/lang/Integer" (some 10) with
  accessFlags := 49
  interfaces := #[11, 12, 13]
  cf := some (fileOf pool14 1 #[.nestMembers #[189]] #[{ accessFlags := 9, nameIndex := 403, descriptorIndex := 54, attributes := #[] }, { accessFlags := 9, nameIndex := 53, descriptorIndex := 54, attributes := #[] }, { accessFlags := 9, nameIndex := 406, descriptorIndex := 54, attributes := #[] }] 49 203 #[304, 306, 308] #[{ accessFlags := 25, nameIndex := 310, descriptorIndex := 194, attributes := #[] }, { accessFlags := 25, nameIndex := 312, descriptorIndex := 194, attributes := #[] }, { accessFlags := 25, nameIndex := 302, descriptorIndex := 303, attributes := #[] }, { accessFlags := 24, nameIndex := 19, descriptorIndex := 20, attributes := #[] }, { accessFlags := 24, nameIndex := 89, descriptorIndex := 86, attributes := #[] }, { accessFlags := 24, nameIndex := 85, descriptorIndex := 86, attributes := #[] }, { accessFlags := 18, nameIndex := 207, descriptorIndex := 194, attributes := #[] }, { accessFlags := 25, nameIndex := 316, descriptorIndex := 194, attributes := #[] }, { accessFlags := 25, nameIndex := 318, descriptorIndex := 194, attributes := #[] }, { accessFlags := 26, nameIndex := 320, descriptorIndex := 321, attributes := #[] }])
  fields := #[{ name := "MIN_VALUE", type := .int, accessFlags := 25, slot := 0, constantValue := 0 }, { name := "MAX_VALUE", type := .int, accessFlags := 25, slot := 1, constantValue := 0 }, { name := "TYPE", type := (.object "java/lang/Class"), accessFlags := 25, slot := 2, constantValue := 0 }, { name := "digits", type := (.array .char), accessFlags := 24, slot := 3, constantValue := 0 }, { name := "DigitTens", type := (.array .byte), accessFlags := 24, slot := 4, constantValue := 0 }, { name := "DigitOnes", type := (.array .byte), accessFlags := 24, slot := 5, constantValue := 0 }, { name := "value", type := .int, accessFlags := 18, slot := 0, constantValue := 0 }, { name := "SIZE", type := .int, accessFlags := 25, slot := 6, constantValue := 0 }, { name := "BYTES", type := .int, accessFlags := 25, slot := 7, constantValue := 0 }, { name := "serialVersionUID", type := .long, accessFlags := 26, slot := 8, constantValue := 0 }]
  methods := #[k14m0, k14m1, k14m2]
  instanceTypes := #[.int]
  staticTypes := #[.int, .int, (.object "java/lang/Class"), (.array .char), (.array .byte), (.array .byte), .int, .int, .long]
  resolved := Array.replicate 453 none
  statics := none }

/-- the primitive byte -/
def k15 : Class := { plain "byte" none with kind := .primitive 'B', accessFlags := 0x411 }
/-- [B -/
def k16 : Class := { plain "[B" (some 0) with kind := .array 15 .byte, interfaces := #[5, 9], accessFlags := 1041 }

/-- the primitive double -/
def k17 : Class := { plain "double" none with kind := .primitive 'D', accessFlags := 0x411 }
/-- [D -/
def k18 : Class := { plain "[D" (some 0) with kind := .array 17 .double, interfaces := #[5, 9], accessFlags := 1041 }

/-- the primitive int -/
def k19 : Class := { plain "int" none with kind := .primitive 'I', accessFlags := 0x411 }
/-- [I -/
def k20 : Class := { plain "[I" (some 0) with kind := .array 19 .int, interfaces := #[5, 9], accessFlags := 1041 }

/-- [[D -/
def k21 : Class := { plain "[[D" (some 0) with kind := .array 18 (.array .double), interfaces := #[5, 9], accessFlags := 1041 }

def heap : Heap := #[]
def classes : Array Class := #[k0, k1, k2, k3, k4, k5, k6, k7, k8, k9, k10, k11, k12, k13, k14, k15, k16, k17, k18, k19, k20, k21]
def interned : List (Array UInt16 × Addr) := []
def slotsUsed : Nat := 0
def theMethod : MethodId := ⟨1, 1⟩
def args0 : Array Value := #[.int 5, .int 3, .int 7, .int 11, .int 0]
def aboutOver (below : List Frame) : State where
  vm := { classes := classes, interned := interned.toArray }
  heap := heap
  slotsUsed := slotsUsed
  threads := #[{ frames := .invoking theMethod args0 :: below }]
def below0 : List Frame := [.native { method := ⟨0, 0⟩, args := #[] }]
def about1 : State := aboutOver below0
def p0 : Program := .bare "" "" ""
def e0 : Env := launch0.env 0 0 0
theorem w_frames : about1.frames = Frame.invoking theMethod args0 :: below0 := rfl
set_option maxRecDepth 65536 in
theorem w_args : argsFit about1.vm theMethod args0 = true := by decide +kernel
set_option maxRecDepth 65536 in
theorem w_heap : heapFits about1 = true := by decide +kernel
set_option maxRecDepth 65536 in
theorem w_runnable : about1.curStatus? = some .runnable := by decide +kernel
set_option maxRecDepth 65536 in
theorem w_alone : about1.alone = true := by decide +kernel
set_option maxRecDepth 65536 in
theorem w_named : about1.methodNamed? x = some theMethod := by decide +kernel
set_option maxRecDepth 65536 in
theorem w_hears : about1.hears theMethod below0 = true := by decide +kernel
set_option maxRecDepth 65536 in
theorem w_ripe : about1.ripe theMethod args0 below0 = true := by decide +kernel
theorem w_running : about1.status = .running := rfl
set_option maxRecDepth 65536 in
theorem w_room : about1.hasRoom e0.platform room_1 = true :=
  launch0.hasRoom_least _ room_1 (by decide +kernel) (by decide +kernel) (by decide +kernel) (by decide +kernel) (by decide +kernel) (by decide +kernel)
theorem allAtoms_all (ts : List Jvm.Cond) (a : Array Jvm.Value) (st : Jvm.State) : (allAtoms ts).before a st = ts.all (fun c => c.before a st) := by
  induction ts with
  | nil => rfl
  | cons c t ih =>
    show (Jvm.Cond.and c (allAtoms t)).before a st = _
    rw [Jvm.Cond.before_and, ih, List.all_cons]
def words1 : List Jvm.Cond := Jvm.Cond.code x code maxLocals ret :: tables_1
/-- a 'code' word, met by the world's own term for the bytes: nothing is compared byte by byte -/
theorem code_word {y : MethodName} {bytes : ByteArray} {mx : Nat} {rt : Option FieldType} {a : Array Value} {s : State} {m : MethodId} {meth : Method} {c : Code} (h1 : s.methodNamed? y = some m) (h2 : s.vm.method? m = some meth) (h3 : meth.code = some c) (h4 : c.code = bytes)
    (h5 : (c.maxLocals == mx && c.exceptionTable.isEmpty && decide (c.maxStack ≤ mostOperands) && decide (meth.sig.returnType = rt) && !meth.locks && decide (parseMethodDescriptor y.desc = some meth.sig)) = true) : (Jvm.Cond.code y bytes mx rt).before a s = true := by
  simp only [Bool.and_eq_true, beq_iff_eq, Bool.not_eq_true', decide_eq_true_eq] at h5
  obtain ⟨⟨⟨⟨⟨g1, g2⟩, g3⟩, g4⟩, g5⟩, g6⟩ := h5
  simp [Cond.before, Cond.holds, Cond.value, h1, h2, h3, h4, g1, g2, g3, g4, g5, g6]
def isCode : Jvm.Cond → Bool
  | .code _ _ _ _ => true
  | _ => false
theorem all_split {L : List Jvm.Cond} {P : Jvm.Cond → Bool} (h1 : L.all (fun c => isCode c || P c) = true) (h2 : ∀ c ∈ L.filter isCode, P c = true) : L.all P = true := by
  refine List.all_eq_true.mpr fun c hc => ?_
  have h := List.all_eq_true.mp h1 c hc
  rcases Bool.eq_false_or_eq_true (isCode c) with hi | hi
  · exact h2 c (List.mem_filter.mpr ⟨hc, hi⟩)
  · simpa [hi] using h
set_option maxRecDepth 65536 in
theorem w_c0 : (Jvm.Cond.code x code maxLocals ret).before args0 about1 = true := code_word (m := ⟨1, 1⟩) (meth := k1m1) (c := k1c1) (by decide +kernel) rfl rfl rfl (by decide +kernel)
set_option maxRecDepth 65536 in
theorem w_c1 : (Jvm.Cond.code ({ cls := "com/example/plumbline/plumbline/align/DualSimplex$Columns", name := "<init>", desc := "(I)V" } : Jvm.MethodName) prog_13_method_1_code (2 : Nat) (Option.none : Option Jvm.ClassFile.FieldType)).before args0 about1 = true := code_word (m := ⟨2, 0⟩) (meth := k2m0) (c := k2c0) (by decide +kernel) rfl rfl rfl (by decide +kernel)
set_option maxRecDepth 65536 in
theorem w_c2 : (Jvm.Cond.code ({ cls := "java/lang/Object", name := "<init>", desc := "()V" } : Jvm.MethodName) object_method_1_code (1 : Nat) (Option.none : Option Jvm.ClassFile.FieldType)).before args0 about1 = true := code_word (m := ⟨0, 0⟩) (meth := k0m0) (c := k0c0) (by decide +kernel) rfl rfl rfl (by decide +kernel)
set_option maxRecDepth 65536 in
theorem w_c3 : (Jvm.Cond.code ({ cls := "java/util/Arrays", name := "fill", desc := "([II)V" } : Jvm.MethodName) jdk_65_method_103_code (4 : Nat) (Option.none : Option Jvm.ClassFile.FieldType)).before args0 about1 = true := code_word (m := ⟨3, 1⟩) (meth := k3m1) (c := k3c1) (by decide +kernel) rfl rfl rfl (by decide +kernel)
set_option maxRecDepth 65536 in
theorem w_c4 : (Jvm.Cond.code ({ cls := "com/example/plumbline/plumbline/align/DualSimplex$Columns", name := "add", desc := "(ID)V" } : Jvm.MethodName) prog_13_method_2_code (4 : Nat) (Option.none : Option Jvm.ClassFile.FieldType)).before args0 about1 = true := code_word (m := ⟨2, 1⟩) (meth := k2m1) (c := k2c1) (by decide +kernel) rfl rfl rfl (by decide +kernel)
set_option maxRecDepth 65536 in
theorem w_c5 : (Jvm.Cond.code ({ cls := "com/example/plumbline/plumbline/align/DualSimplex$Columns", name := "end", desc := "()V" } : Jvm.MethodName) prog_13_method_4_code (1 : Nat) (Option.none : Option Jvm.ClassFile.FieldType)).before args0 about1 = true := code_word (m := ⟨2, 3⟩) (meth := k2m3) (c := k2c3) (by decide +kernel) rfl rfl rfl (by decide +kernel)
set_option maxRecDepth 65536 in
theorem w_c6 : (Jvm.Cond.code ({ cls := "com/example/plumbline/plumbline/align/DualSimplex$Columns", name := "addSurplus", desc := "(I)V" } : Jvm.MethodName) prog_13_method_3_code (2 : Nat) (Option.none : Option Jvm.ClassFile.FieldType)).before args0 about1 = true := code_word (m := ⟨2, 2⟩) (meth := k2m2) (c := k2c2) (by decide +kernel) rfl rfl rfl (by decide +kernel)
set_option maxRecDepth 65536 in
theorem w_c7 : (Jvm.Cond.code ({ cls := "com/example/plumbline/plumbline/align/DualSimplex", name := "<init>", desc := "(Lcom/example/plumbline/plumbline/align/DualSimplex$Columns;[D)V" } : Jvm.MethodName) prog_12_method_1_code (8 : Nat) (Option.none : Option Jvm.ClassFile.FieldType)).before args0 about1 = true := code_word (m := ⟨4, 0⟩) (meth := k4m0) (c := k4c0) (by decide +kernel) rfl rfl rfl (by decide +kernel)
set_option maxRecDepth 65536 in
theorem w_c8 : (Jvm.Cond.code ({ cls := "java/util/Arrays", name := "copyOf", desc := "([II)[I" } : Jvm.MethodName) jdk_65_method_123_code (3 : Nat) (Option.some (Jvm.ClassFile.FieldType.array Jvm.ClassFile.FieldType.int))).before args0 about1 = true := code_word (m := ⟨3, 3⟩) (meth := k3m3) (c := k3c3) (by decide +kernel) rfl rfl rfl (by decide +kernel)
set_option maxRecDepth 65536 in
theorem w_c9 : (Jvm.Cond.code ({ cls := "java/lang/Math", name := "min", desc := "(II)I" } : Jvm.MethodName) jdk_29_method_69_code (2 : Nat) (Option.some Jvm.ClassFile.FieldType.int)).before args0 about1 = true := code_word (m := ⟨6, 4⟩) (meth := k6m4) (c := k6c4) (by decide +kernel) rfl rfl rfl (by decide +kernel)
set_option maxRecDepth 65536 in
theorem w_c10 : (Jvm.Cond.code ({ cls := "java/util/Arrays", name := "copyOf", desc := "([DI)[D" } : Jvm.MethodName) jdk_65_method_127_code (3 : Nat) (Option.some (Jvm.ClassFile.FieldType.array Jvm.ClassFile.FieldType.double))).before args0 about1 = true := code_word (m := ⟨3, 4⟩) (meth := k3m4) (c := k3c4) (by decide +kernel) rfl rfl rfl (by decide +kernel)
set_option maxRecDepth 65536 in
theorem w_c11 : (Jvm.Cond.code ({ cls := "com/example/plumbline/plumbline/align/DualSimplex", name := "blockRows", desc := "(I)I" } : Jvm.MethodName) prog_12_method_6_code (1 : Nat) (Option.some Jvm.ClassFile.FieldType.int)).before args0 about1 = true := code_word (m := ⟨4, 3⟩) (meth := k4m3) (c := k4c3) (by decide +kernel) rfl rfl rfl (by decide +kernel)
set_option maxRecDepth 65536 in
theorem w_c12 : (Jvm.Cond.code ({ cls := "com/example/plumbline/plumbline/model/HeapBytes", name := "movableLength", desc := "(I)I" } : Jvm.MethodName) prog_86_method_4_code (1 : Nat) (Option.some Jvm.ClassFile.FieldType.int)).before args0 about1 = true := code_word (m := ⟨8, 1⟩) (meth := k8m1) (c := k8c1) (by decide +kernel) rfl rfl rfl (by decide +kernel)
set_option maxRecDepth 65536 in
theorem w_c13 : (Jvm.Cond.code ({ cls := "java/lang/Math", name := "max", desc := "(II)I" } : Jvm.MethodName) jdk_29_method_65_code (2 : Nat) (Option.some Jvm.ClassFile.FieldType.int)).before args0 about1 = true := code_word (m := ⟨6, 2⟩) (meth := k6m2) (c := k6c2) (by decide +kernel) rfl rfl rfl (by decide +kernel)
set_option maxRecDepth 65536 in
theorem w_c14 : (Jvm.Cond.code ({ cls := "java/lang/Integer", name := "highestOneBit", desc := "(I)I" } : Jvm.MethodName) jdk_33_method_45_code (1 : Nat) (Option.some Jvm.ClassFile.FieldType.int)).before args0 about1 = true := code_word (m := ⟨14, 0⟩) (meth := k14m0) (c := k14c0) (by decide +kernel) rfl rfl rfl (by decide +kernel)
set_option maxRecDepth 65536 in
theorem w_c15 : (Jvm.Cond.code ({ cls := "java/lang/Integer", name := "numberOfLeadingZeros", desc := "(I)I" } : Jvm.MethodName) jdk_33_method_47_code (2 : Nat) (Option.some Jvm.ClassFile.FieldType.int)).before args0 about1 = true := code_word (m := ⟨14, 1⟩) (meth := k14m1) (c := k14c1) (by decide +kernel) rfl rfl rfl (by decide +kernel)
set_option maxRecDepth 65536 in
theorem w_c16 : (Jvm.Cond.code ({ cls := "java/lang/Integer", name := "numberOfTrailingZeros", desc := "(I)I" } : Jvm.MethodName) jdk_33_method_48_code (2 : Nat) (Option.some Jvm.ClassFile.FieldType.int)).before args0 about1 = true := code_word (m := ⟨14, 2⟩) (meth := k14m2) (c := k14c2) (by decide +kernel) rfl rfl rfl (by decide +kernel)
set_option maxRecDepth 65536 in
theorem w_c17 : (Jvm.Cond.code ({ cls := "com/example/plumbline/plumbline/align/DualSimplex", name := "startOver", desc := "()V" } : Jvm.MethodName) prog_12_method_21_code (5 : Nat) (Option.none : Option Jvm.ClassFile.FieldType)).before args0 about1 = true := code_word (m := ⟨4, 18⟩) (meth := k4m18) (c := k4c18) (by decide +kernel) rfl rfl rfl (by decide +kernel)
set_option maxRecDepth 65536 in
theorem w_c18 : (Jvm.Cond.code ({ cls := "java/util/Arrays", name := "fill", desc := "([DD)V" } : Jvm.MethodName) jdk_65_method_113_code (5 : Nat) (Option.none : Option Jvm.ClassFile.FieldType)).before args0 about1 = true := code_word (m := ⟨3, 2⟩) (meth := k3m2) (c := k3c2) (by decide +kernel) rfl rfl rfl (by decide +kernel)
set_option maxRecDepth 65536 in
theorem w_c19 : (Jvm.Cond.code ({ cls := "com/example/plumbline/plumbline/align/DualSimplex", name := "block", desc := "(I)[D" } : Jvm.MethodName) prog_12_method_7_code (2 : Nat) (Option.some (Jvm.ClassFile.FieldType.array Jvm.ClassFile.FieldType.double))).before args0 about1 = true := code_word (m := ⟨4, 4⟩) (meth := k4m4) (c := k4c4) (by decide +kernel) rfl rfl rfl (by decide +kernel)
set_option maxRecDepth 65536 in
theorem w_c20 : (Jvm.Cond.code ({ cls := "com/example/plumbline/plumbline/align/DualSimplex", name := "first", desc := "(I)I" } : Jvm.MethodName) prog_12_method_8_code (2 : Nat) (Option.some Jvm.ClassFile.FieldType.int)).before args0 about1 = true := code_word (m := ⟨4, 5⟩) (meth := k4m5) (c := k4c5) (by decide +kernel) rfl rfl rfl (by decide +kernel)
set_option maxRecDepth 65536 in
theorem w_c21 : (Jvm.Cond.code ({ cls := "com/example/plumbline/plumbline/align/DualSimplex", name := "computeValues", desc := "()V" } : Jvm.MethodName) prog_12_method_17_code (12 : Nat) (Option.none : Option Jvm.ClassFile.FieldType)).before args0 about1 = true := code_word (m := ⟨4, 14⟩) (meth := k4m14) (c := k4c14) (by decide +kernel) rfl rfl rfl (by decide +kernel)
set_option maxRecDepth 65536 in
theorem w_c22 : (Jvm.Cond.code ({ cls := "com/example/plumbline/plumbline/align/DualSimplex", name := "solve", desc := "([D)Z" } : Jvm.MethodName) prog_12_method_2_code (3 : Nat) (Option.some Jvm.ClassFile.FieldType.boolean)).before args0 about1 = true := code_word (m := ⟨4, 1⟩) (meth := k4m1) (c := k4c1) (by decide +kernel) rfl rfl rfl (by decide +kernel)
set_option maxRecDepth 65536 in
theorem w_c23 : (Jvm.Cond.code ({ cls := "com/example/plumbline/plumbline/align/DualSimplex", name := "moveValues", desc := "([D)V" } : Jvm.MethodName) prog_12_method_16_code (13 : Nat) (Option.none : Option Jvm.ClassFile.FieldType)).before args0 about1 = true := code_word (m := ⟨4, 13⟩) (meth := k4m13) (c := k4c13) (by decide +kernel) rfl rfl rfl (by decide +kernel)
set_option maxRecDepth 65536 in
theorem w_c24 : (Jvm.Cond.code ({ cls := "com/example/plumbline/plumbline/align/DualSimplex", name := "pivots", desc := "()I" } : Jvm.MethodName) prog_12_method_9_code (6 : Nat) (Option.some Jvm.ClassFile.FieldType.int)).before args0 about1 = true := code_word (m := ⟨4, 6⟩) (meth := k4m6) (c := k4c6) (by decide +kernel) rfl rfl rfl (by decide +kernel)
set_option maxRecDepth 65536 in
theorem w_c25 : (Jvm.Cond.code ({ cls := "com/example/plumbline/plumbline/align/DualSimplex", name := "leavingRow", desc := "(Z)I" } : Jvm.MethodName) prog_12_method_10_code (10 : Nat) (Option.some Jvm.ClassFile.FieldType.int)).before args0 about1 = true := code_word (m := ⟨4, 7⟩) (meth := k4m7) (c := k4c7) (by decide +kernel) rfl rfl rfl (by decide +kernel)
set_option maxRecDepth 65536 in
theorem w_c26 : (Jvm.Cond.code ({ cls := "java/lang/Math", name := "abs", desc := "(D)D" } : Jvm.MethodName) jdk_29_method_64_code (2 : Nat) (Option.some Jvm.ClassFile.FieldType.double)).before args0 about1 = true := code_word (m := ⟨6, 1⟩) (meth := k6m1) (c := k6c1) (by decide +kernel) rfl rfl rfl (by decide +kernel)
set_option maxRecDepth 65536 in
theorem w_c27 : (Jvm.Cond.code ({ cls := "com/example/plumbline/plumbline/align/DualSimplex", name := "enteringColumn", desc := "(IZ)I" } : Jvm.MethodName) prog_12_method_11_code (17 : Nat) (Option.some Jvm.ClassFile.FieldType.int)).before args0 about1 = true := code_word (m := ⟨4, 8⟩) (meth := k4m8) (c := k4c8) (by decide +kernel) rfl rfl rfl (by decide +kernel)
set_option maxRecDepth 65536 in
theorem w_c28 : (Jvm.Cond.code ({ cls := "java/lang/Math", name := "max", desc := "(DD)D" } : Jvm.MethodName) jdk_29_method_68_code (4 : Nat) (Option.some Jvm.ClassFile.FieldType.double)).before args0 about1 = true := code_word (m := ⟨6, 3⟩) (meth := k6m3) (c := k6c3) (by decide +kernel) rfl rfl rfl (by decide +kernel)
set_option maxRecDepth 65536 in
theorem w_c29 : (Jvm.Cond.code ({ cls := "java/lang/Math", name := "min", desc := "(DD)D" } : Jvm.MethodName) jdk_29_method_72_code (4 : Nat) (Option.some Jvm.ClassFile.FieldType.double)).before args0 about1 = true := code_word (m := ⟨6, 5⟩) (meth := k6m5) (c := k6c5) (by decide +kernel) rfl rfl rfl (by decide +kernel)
set_option maxRecDepth 65536 in
theorem w_c30 : (Jvm.Cond.code ({ cls := "com/example/plumbline/plumbline/align/DualSimplex", name := "pivot", desc := "(II)Z" } : Jvm.MethodName) prog_12_method_12_code (19 : Nat) (Option.some Jvm.ClassFile.FieldType.boolean)).before args0 about1 = true := code_word (m := ⟨4, 9⟩) (meth := k4m9) (c := k4c9) (by decide +kernel) rfl rfl rfl (by decide +kernel)
set_option maxRecDepth 65536 in
theorem w_c31 : (Jvm.Cond.code ({ cls := "com/example/plumbline/plumbline/align/DualSimplex", name := "isAccurate", desc := "()Z" } : Jvm.MethodName) prog_12_method_13_code (7 : Nat) (Option.some Jvm.ClassFile.FieldType.boolean)).before args0 about1 = true := code_word (m := ⟨4, 10⟩) (meth := k4m10) (c := k4c10) (by decide +kernel) rfl rfl rfl (by decide +kernel)
set_option maxRecDepth 65536 in
theorem w_c32 : (Jvm.Cond.code ({ cls := "com/example/plumbline/plumbline/align/DualSimplex", name := "prices", desc := "()[D" } : Jvm.MethodName) prog_12_method_14_code (10 : Nat) (Option.some (Jvm.ClassFile.FieldType.array Jvm.ClassFile.FieldType.double))).before args0 about1 = true := code_word (m := ⟨4, 11⟩) (meth := k4m11) (c := k4c11) (by decide +kernel) rfl rfl rfl (by decide +kernel)
set_option maxRecDepth 65536 in
theorem w_c33 : (Jvm.Cond.code ({ cls := "com/example/plumbline/plumbline/align/DualSimplex", name := "reducedCost", desc := "(I[D)D" } : Jvm.MethodName) prog_12_method_15_code (6 : Nat) (Option.some Jvm.ClassFile.FieldType.double)).before args0 about1 = true := code_word (m := ⟨4, 12⟩) (meth := k4m12) (c := k4c12) (by decide +kernel) rfl rfl rfl (by decide +kernel)
set_option maxRecDepth 65536 in
theorem w_c34 : (Jvm.Cond.code ({ cls := "com/example/plumbline/plumbline/align/DualSimplex", name := "value", desc := "()D" } : Jvm.MethodName) prog_12_method_3_code (4 : Nat) (Option.some Jvm.ClassFile.FieldType.double)).before args0 about1 = true := code_word (m := ⟨4, 2⟩) (meth := k4m2) (c := k4c2) (by decide +kernel) rfl rfl rfl (by decide +kernel)
set_option maxRecDepth 65536 in
theorem w_c35 : (Jvm.Cond.code ({ cls := "com/example/plumbline/plumbline/align/DualSimplex", name := "reinvert", desc := "()V" } : Jvm.MethodName) prog_12_method_18_code (16 : Nat) (Option.none : Option Jvm.ClassFile.FieldType)).before args0 about1 = true := code_word (m := ⟨4, 15⟩) (meth := k4m15) (c := k4c15) (by decide +kernel) rfl rfl rfl (by decide +kernel)
set_option maxRecDepth 65536 in
theorem w_c36 : (Jvm.Cond.code ({ cls := "com/example/plumbline/plumbline/align/DualSimplex", name := "swapRows", desc := "(II)V" } : Jvm.MethodName) prog_12_method_20_code (10 : Nat) (Option.none : Option Jvm.ClassFile.FieldType)).before args0 about1 = true := code_word (m := ⟨4, 17⟩) (meth := k4m17) (c := k4c17) (by decide +kernel) rfl rfl rfl (by decide +kernel)
set_option maxRecDepth 65536 in
theorem w_c37 : (Jvm.Cond.code ({ cls := "com/example/plumbline/plumbline/align/DualSimplex", name := "swapColumns", desc := "(II)V" } : Jvm.MethodName) prog_12_method_19_code (10 : Nat) (Option.none : Option Jvm.ClassFile.FieldType)).before args0 about1 = true := code_word (m := ⟨4, 16⟩) (meth := k4m16) (c := k4c16) (by decide +kernel) rfl rfl rfl (by decide +kernel)
def codes1 : List Jvm.Cond := [Jvm.Cond.code x code maxLocals ret, Jvm.Cond.code ({ cls := "com/example/plumbline/plumbline/align/DualSimplex$Columns", name := "<init>", desc := "(I)V" } : Jvm.MethodName) prog_13_method_1_code (2 : Nat) (Option.none : Option Jvm.ClassFile.FieldType), Jvm.Cond.code ({ cls := "java/lang/Object", name := "<init>", desc := "()V" } : Jvm.MethodName) object_method_1_code (1 : Nat) (Option.none : Option Jvm.ClassFile.FieldType), Jvm.Cond.code ({ cls := "java/util/Arrays", name := "fill", desc := "([II)V" } : Jvm.MethodName) jdk_65_method_103_code (4 : Nat) (Option.none : Option Jvm.ClassFile.FieldType), Jvm.Cond.code ({ cls := "com/example/plumbline/plumbline/align/DualSimplex$Columns", name := "add", desc := "(ID)V" } : Jvm.MethodName) prog_13_method_2_code (4 : Nat) (Option.none : Option Jvm.ClassFile.FieldType), Jvm.Cond.code ({ cls := "com/example/plumbline/plumbline/align/DualSimplex$Columns", name := "end", desc := "()V" } : Jvm.MethodName) prog_13_method_4_code (1 : Nat) (Option.none : Option Jvm.ClassFile.FieldType), Jvm.Cond.code ({ cls := "com/example/plumbline/plumbline/align/DualSimplex$Columns", name := "addSurplus", desc := "(I)V" } : Jvm.MethodName) prog_13_method_3_code (2 : Nat) (Option.none : Option Jvm.ClassFile.FieldType), Jvm.Cond.code ({ cls := "com/example/plumbline/plumbline/align/DualSimplex", name := "<init>", desc := "(Lcom/example/plumbline/plumbline/align/DualSimplex$Columns;[D)V" } : Jvm.MethodName) prog_12_method_1_code (8 : Nat) (Option.none : Option Jvm.ClassFile.FieldType), Jvm.Cond.code ({ cls := "java/util/Arrays", name := "copyOf", desc := "([II)[I" } : Jvm.MethodName) jdk_65_method_123_code (3 : Nat) (Option.some (Jvm.ClassFile.FieldType.array Jvm.ClassFile.FieldType.int)), Jvm.Cond.code ({ cls := "java/lang/Math", name := "min", desc := "(II)I" } : Jvm.MethodName) jdk_29_method_69_code (2 : Nat) (Option.some Jvm.ClassFile.FieldType.int), Jvm.Cond.code ({ cls := "java/util/Arrays", name := "copyOf", desc := "([DI)[D" } : Jvm.MethodName) jdk_65_method_127_code (3 : Nat) (Option.some (Jvm.ClassFile.FieldType.array Jvm.ClassFile.FieldType.double)), Jvm.Cond.code ({ cls := "com/example/plumbline/plumbline/align/DualSimplex", name := "blockRows", desc := "(I)I" } : Jvm.MethodName) prog_12_method_6_code (1 : Nat) (Option.some Jvm.ClassFile.FieldType.int), Jvm.Cond.code ({ cls := "com/example/plumbline/plumbline/model/HeapBytes", name := "movableLength", desc := "(I)I" } : Jvm.MethodName) prog_86_method_4_code (1 : Nat) (Option.some Jvm.ClassFile.FieldType.int), Jvm.Cond.code ({ cls := "java/lang/Math", name := "max", desc := "(II)I" } : Jvm.MethodName) jdk_29_method_65_code (2 : Nat) (Option.some Jvm.ClassFile.FieldType.int), Jvm.Cond.code ({ cls := "java/lang/Integer", name := "highestOneBit", desc := "(I)I" } : Jvm.MethodName) jdk_33_method_45_code (1 : Nat) (Option.some Jvm.ClassFile.FieldType.int), Jvm.Cond.code ({ cls := "java/lang/Integer", name := "numberOfLeadingZeros", desc := "(I)I" } : Jvm.MethodName) jdk_33_method_47_code (2 : Nat) (Option.some Jvm.ClassFile.FieldType.int), Jvm.Cond.code ({ cls := "java/lang/Integer", name := "numberOfTrailingZeros", desc := "(I)I" } : Jvm.MethodName) jdk_33_method_48_code (2 : Nat) (Option.some Jvm.ClassFile.FieldType.int), Jvm.Cond.code ({ cls := "com/example/plumbline/plumbline/align/DualSimplex", name := "startOver", desc := "()V" } : Jvm.MethodName) prog_12_method_21_code (5 : Nat) (Option.none : Option Jvm.ClassFile.FieldType), Jvm.Cond.code ({ cls := "java/util/Arrays", name := "fill", desc := "([DD)V" } : Jvm.MethodName) jdk_65_method_113_code (5 : Nat) (Option.none : Option Jvm.ClassFile.FieldType), Jvm.Cond.code ({ cls := "com/example/plumbline/plumbline/align/DualSimplex", name := "block", desc := "(I)[D" } : Jvm.MethodName) prog_12_method_7_code (2 : Nat) (Option.some (Jvm.ClassFile.FieldType.array Jvm.ClassFile.FieldType.double)), Jvm.Cond.code ({ cls := "com/example/plumbline/plumbline/align/DualSimplex", name := "first", desc := "(I)I" } : Jvm.MethodName) prog_12_method_8_code (2 : Nat) (Option.some Jvm.ClassFile.FieldType.int), Jvm.Cond.code ({ cls := "com/example/plumbline/plumbline/align/DualSimplex", name := "computeValues", desc := "()V" } : Jvm.MethodName) prog_12_method_17_code (12 : Nat) (Option.none : Option Jvm.ClassFile.FieldType), Jvm.Cond.code ({ cls := "com/example/plumbline/plumbline/align/DualSimplex", name := "solve", desc := "([D)Z" } : Jvm.MethodName) prog_12_method_2_code (3 : Nat) (Option.some Jvm.ClassFile.FieldType.boolean), Jvm.Cond.code ({ cls := "com/example/plumbline/plumbline/align/DualSimplex", name := "moveValues", desc := "([D)V" } : Jvm.MethodName) prog_12_method_16_code (13 : Nat) (Option.none : Option Jvm.ClassFile.FieldType), Jvm.Cond.code ({ cls := "com/example/plumbline/plumbline/align/DualSimplex", name := "pivots", desc := "()I" } : Jvm.MethodName) prog_12_method_9_code (6 : Nat) (Option.some Jvm.ClassFile.FieldType.int), Jvm.Cond.code ({ cls := "com/example/plumbline/plumbline/align/DualSimplex", name := "leavingRow", desc := "(Z)I" } : Jvm.MethodName) prog_12_method_10_code (10 : Nat) (Option.some Jvm.ClassFile.FieldType.int), Jvm.Cond.code ({ cls := "java/lang/Math", name := "abs", desc := "(D)D" } : Jvm.MethodName) jdk_29_method_64_code (2 : Nat) (Option.some Jvm.ClassFile.FieldType.double), Jvm.Cond.code ({ cls := "com/example/plumbline/plumbline/align/DualSimplex", name := "enteringColumn", desc := "(IZ)I" } : Jvm.MethodName) prog_12_method_11_code (17 : Nat) (Option.some Jvm.ClassFile.FieldType.int), Jvm.Cond.code ({ cls := "java/lang/Math", name := "max", desc := "(DD)D" } : Jvm.MethodName) jdk_29_method_68_code (4 : Nat) (Option.some Jvm.ClassFile.FieldType.double), Jvm.Cond.code ({ cls := "java/lang/Math", name := "min", desc := "(DD)D" } : Jvm.MethodName) jdk_29_method_72_code (4 : Nat) (Option.some Jvm.ClassFile.FieldType.double), Jvm.Cond.code ({ cls := "com/example/plumbline/plumbline/align/DualSimplex", name := "pivot", desc := "(II)Z" } : Jvm.MethodName) prog_12_method_12_code (19 : Nat) (Option.some Jvm.ClassFile.FieldType.boolean), Jvm.Cond.code ({ cls := "com/example/plumbline/plumbline/align/DualSimplex", name := "isAccurate", desc := "()Z" } : Jvm.MethodName) prog_12_method_13_code (7 : Nat) (Option.some Jvm.ClassFile.FieldType.boolean), Jvm.Cond.code ({ cls := "com/example/plumbline/plumbline/align/DualSimplex", name := "prices", desc := "()[D" } : Jvm.MethodName) prog_12_method_14_code (10 : Nat) (Option.some (Jvm.ClassFile.FieldType.array Jvm.ClassFile.FieldType.double)), Jvm.Cond.code ({ cls := "com/example/plumbline/plumbline/align/DualSimplex", name := "reducedCost", desc := "(I[D)D" } : Jvm.MethodName) prog_12_method_15_code (6 : Nat) (Option.some Jvm.ClassFile.FieldType.double), Jvm.Cond.code ({ cls := "com/example/plumbline/plumbline/align/DualSimplex", name := "value", desc := "()D" } : Jvm.MethodName) prog_12_method_3_code (4 : Nat) (Option.some Jvm.ClassFile.FieldType.double), Jvm.Cond.code ({ cls := "com/example/plumbline/plumbline/align/DualSimplex", name := "reinvert", desc := "()V" } : Jvm.MethodName) prog_12_method_18_code (16 : Nat) (Option.none : Option Jvm.ClassFile.FieldType), Jvm.Cond.code ({ cls := "com/example/plumbline/plumbline/align/DualSimplex", name := "swapRows", desc := "(II)V" } : Jvm.MethodName) prog_12_method_20_code (10 : Nat) (Option.none : Option Jvm.ClassFile.FieldType), Jvm.Cond.code ({ cls := "com/example/plumbline/plumbline/align/DualSimplex", name := "swapColumns", desc := "(II)V" } : Jvm.MethodName) prog_12_method_19_code (10 : Nat) (Option.none : Option Jvm.ClassFile.FieldType)]
set_option maxRecDepth 65536 in
theorem codes_eq : words1.filter isCode = codes1 := rfl
theorem w_codes : ∀ c ∈ words1.filter isCode, c.before args0 about1 = true := by
  rw [codes_eq]
  intro c hc
  simp only [codes1, List.mem_cons, List.not_mem_nil, or_false] at hc
  rcases hc with rfl | rfl | rfl | rfl | rfl | rfl | rfl | rfl | rfl | rfl | rfl | rfl | rfl | rfl | rfl | rfl | rfl | rfl | rfl | rfl | rfl | rfl | rfl | rfl | rfl | rfl | rfl | rfl | rfl | rfl | rfl | rfl | rfl | rfl | rfl | rfl | rfl | rfl
  · exact w_c0
  · exact w_c1
  · exact w_c2
  · exact w_c3
  · exact w_c4
  · exact w_c5
  · exact w_c6
  · exact w_c7
  · exact w_c8
  · exact w_c9
  · exact w_c10
  · exact w_c11
  · exact w_c12
  · exact w_c13
  · exact w_c14
  · exact w_c15
  · exact w_c16
  · exact w_c17
  · exact w_c18
  · exact w_c19
  · exact w_c20
  · exact w_c21
  · exact w_c22
  · exact w_c23
  · exact w_c24
  · exact w_c25
  · exact w_c26
  · exact w_c27
  · exact w_c28
  · exact w_c29
  · exact w_c30
  · exact w_c31
  · exact w_c32
  · exact w_c33
  · exact w_c34
  · exact w_c35
  · exact w_c36
  · exact w_c37
set_option maxRecDepth 65536 in
theorem w_t1 : (words1.take 24).all (fun c => isCode c || c.before args0 about1) = true := by decide +kernel
set_option maxRecDepth 65536 in
theorem w_t2 : ((words1.drop 24).take 24).all (fun c => isCode c || c.before args0 about1) = true := by decide +kernel
set_option maxRecDepth 65536 in
theorem w_t3 : (((words1.drop 24).drop 24).take 24).all (fun c => isCode c || c.before args0 about1) = true := by decide +kernel
set_option maxRecDepth 65536 in
theorem w_t4 : ((((words1.drop 24).drop 24).drop 24).take 24).all (fun c => isCode c || c.before args0 about1) = true := by decide +kernel
set_option maxRecDepth 65536 in
theorem w_t5 : (((((words1.drop 24).drop 24).drop 24).drop 24).take 24).all (fun c => isCode c || c.before args0 about1) = true := by decide +kernel
set_option maxRecDepth 65536 in
theorem w_t6 : ((((((words1.drop 24).drop 24).drop 24).drop 24).drop 24).take 24).all (fun c => isCode c || c.before args0 about1) = true := by decide +kernel
set_option maxRecDepth 65536 in
theorem w_t7 : (((((((words1.drop 24).drop 24).drop 24).drop 24).drop 24).drop 24).take 24).all (fun c => isCode c || c.before args0 about1) = true := by decide +kernel
set_option maxRecDepth 65536 in
theorem w_t8 : ((((((((words1.drop 24).drop 24).drop 24).drop 24).drop 24).drop 24).drop 24).take 24).all (fun c => isCode c || c.before args0 about1) = true := by decide +kernel
set_option maxRecDepth 65536 in
theorem w_t9 : (((((((((words1.drop 24).drop 24).drop 24).drop 24).drop 24).drop 24).drop 24).drop 24).take 24).all (fun c => isCode c || c.before args0 about1) = true := by decide +kernel
set_option maxRecDepth 65536 in
theorem w_t10 : ((((((((((words1.drop 24).drop 24).drop 24).drop 24).drop 24).drop 24).drop 24).drop 24).drop 24).take 24).all (fun c => isCode c || c.before args0 about1) = true := by decide +kernel
set_option maxRecDepth 65536 in
theorem w_t11 : ((((((((((words1.drop 24).drop 24).drop 24).drop 24).drop 24).drop 24).drop 24).drop 24).drop 24).drop 24).all (fun c => isCode c || c.before args0 about1) = true := by decide +kernel
theorem w_tables : (allAtoms (Jvm.Cond.code x code maxLocals ret :: tables_1)).before args0 about1 = true := by
  rw [allAtoms_all]
  show words1.all (fun c => c.before args0 about1) = true
  refine all_split ?_ w_codes
  rw [← List.take_append_drop 24 words1, List.all_append, w_t1, ← List.take_append_drop 24 (words1.drop 24), List.all_append, w_t2, ← List.take_append_drop 24 ((words1.drop 24).drop 24), List.all_append, w_t3, ← List.take_append_drop 24 (((words1.drop 24).drop 24).drop 24), List.all_append, w_t4, ← List.take_append_drop 24 ((((words1.drop 24).drop 24).drop 24).drop 24), List.all_append, w_t5, ← List.take_append_drop 24 (((((words1.drop 24).drop 24).drop 24).drop 24).drop 24), List.all_append, w_t6, ← List.take_append_drop 24 ((((((words1.drop 24).drop 24).drop 24).drop 24).drop 24).drop 24), List.all_append, w_t7, ← List.take_append_drop 24 (((((((words1.drop 24).drop 24).drop 24).drop 24).drop 24).drop 24).drop 24), List.all_append, w_t8, ← List.take_append_drop 24 ((((((((words1.drop 24).drop 24).drop 24).drop 24).drop 24).drop 24).drop 24).drop 24), List.all_append, w_t9, ← List.take_append_drop 24 (((((((((words1.drop 24).drop 24).drop 24).drop 24).drop 24).drop 24).drop 24).drop 24).drop 24), List.all_append, w_t10, w_t11]
  rfl
set_option maxRecDepth 65536 in
theorem w_case : (Jvm.Cond.and given_1 narrow_1).before args0 about1 = true := by decide +kernel
theorem w_applies : (headSpec (Jvm.Cond.code x code maxLocals ret :: tables_1) room_1).applies x e0.platform about1 = true :=
  (Spec.applies_iff w_frames).mpr ⟨w_running, w_runnable, w_alone, w_named, w_hears, w_ripe, w_room, w_tables⟩
theorem atStart : AtStart classFile x code maxLocals ret World_1 tables_1 room_1 Calls_1 rest_1 Pre_1 launch0 p0 e0 about1 theMethod args0 below0 :=
  ⟨lists_1, trivial, launch0.admits_env _ _ _, launch0.least_env, fairChoices_fair.cas, fairChoices_fair.clock, w_frames, w_args, w_heap, w_applies, trivial, trivial, w_case⟩
end start1
theorem witness_1 : WitnessClaimed_1 := ⟨start1.p0, start1.e0, start1.about1, start1.theMethod, start1.args0, start1.below0, start1.atStart⟩
end Jvm.Pilot.@@N@@
