import JvmDerived
import JvmDerived.Pilot.@@N@@Statement
import JvmDerived.Pilot.@@N@@Code
set_option linter.unusedVariables false
set_option linter.unusedSimpArgs false
namespace Jvm.OwnKit
open Sem ClassFile Op Lib Jvm.Stand Jvm.Free Jvm.LawKit Jvm.RoadKit
section Kit
variable {p : Program} {l : Launch} {e : Env} {R : Room} {s : State} {m : MethodId} {args : Array Value} {below : List Frame} {meth : Method} {c : Code} {T : State} {locs : List Loc} {cells slots : Nat} {Z : State} {a0 : Array Value} {h : Heap} {C S : Nat} {Q : Option Value → Heap → List Loc → Prop} {Ls Ls' : Array Slot} {st st' rest : List Value} {pc pc' : Nat}
/-- from here the invocation ends by a return, with Q -/
def OwnEnds (p : Program) (e : Env) (below : List Frame) (s : State) (C S : Nat) (Q : Option Value → Heap → List Loc → Prop) (T : State) (m : MethodId) (pc : Nat) (Ls : Array Slot) (st : List Value) : Prop :=
  ∃ t o, Steps p.tables e below (T.setTop (mkF m pc Ls st)) t ∧ t.status = .running ∧ Ended t below o ∧ ∃ v L, o = .returned v ∧ Q v t.heap L ∧ FrameEnd s o t L C S
theorem OwnEnds.of {T' : State} (k : ∀ t, Steps p.tables e below (T'.setTop (mkF m pc' Ls' st')) t → Steps p.tables e below (T.setTop (mkF m pc Ls st)) t) (h : OwnEnds p e below s C S Q T' m pc' Ls' st') : OwnEnds p e below s C S Q T m pc Ls st := by
  obtain ⟨t, o, h1, h2⟩ := h
  exact ⟨t, o, k t h1, h2⟩
theorem OwnEnds.mono {Q' : Option Value → Heap → List Loc → Prop} (h : OwnEnds p e below s C S Q T m pc Ls st) (q : ∀ v h L, Q v h L → Q' v h L) : OwnEnds p e below s C S Q' T m pc Ls st := by
  obtain ⟨t, o, h1, h2, h3, v, L, h4, h5, h6⟩ := h
  exact ⟨t, o, h1, h2, h3, v, L, h4, q _ _ _ h5, h6⟩
/-- what a walk knows of its method -/
def Cx (p : Program) (s : State) (m : MethodId) (meth : Method) (c : Code) (Z : State) (y : MethodName) (bytes : ByteArray) (maxL : Nat) (ret : Option FieldType) : Prop :=
  p.tables.exec = Jvm.exec ∧ c.code = bytes ∧ c.maxLocals = maxL ∧ meth.sig.returnType = ret ∧ meth.locks = false ∧ meth.name = y.name ∧ s.vm.findClass y.cls = some m.cls ∧ Z.Warmed39 s.vm
/-- a contract: called with these arguments at the heap h0, the method returns with Q -/
def OwnMeets (l : Launch) (Z : State) (y : MethodName) (bytes : ByteArray) (maxL : Nat) (ret : Option FieldType) (ws : List Jvm.Cond) (rm : Room) (as' : Array Value) (h0 : Heap) (Q : Option Value → Heap → List Loc → Prop) : Prop :=
  MetFree l y (head1 (Jvm.Cond.code y bytes maxL ret :: ws) rm) (fun a U => a = as' ∧ Z.Warmed39 U.vm ∧ U.heap = h0) (fun _ _ _ _ _ => True) (fun _ U o U' => ∃ v L, o = .returned v ∧ Q v U'.heap L ∧ FrameEnd U o U' L rm.cells rm.slots)
theorem OwnMeets.of_walk {y : MethodName} {bytes : ByteArray} {maxL : Nat} {ret : Option FieldType} {ws : List Jvm.Cond} {rm : Room} {as' : Array Value} {h0 : Heap} (hpl : plainFor y = true) (hent : ∀ m, entryFrame m as' maxL = mkF m 0 Ls [])
    (body : ∀ (p : Program) (e : Env) (s : State) (m : MethodId) (below : List Frame) (meth : Method) (c : Code) (T : State), Stand p l e rm s m as' below meth c T [] 0 0 → Cx p s m meth c Z y bytes maxL ret → T.heap = h0 → OwnEnds p e below s rm.cells rm.slots Q T m 0 Ls []) :
    OwnMeets l Z y bytes maxL ret ws rm as' h0 Q := by
  refine MetFree.of_bodySF hpl hisR ?_
  intro p e s m args below meth c s₁ Bd hml0 hP hK
  obtain ⟨rfl, hZ, hh⟩ := hP
  have X0 : Stand p l e rm s m _ below meth c s₁ [] 0 0 := Stand.of_body Bd
  have e0 : s₁.heap = h0 := by rw [← hh, Bd.state]; rfl
  obtain ⟨t, o, h1, h2, h3, v, L, h4, h5, h6⟩ := body p e s m below meth c s₁ X0 ⟨Bd.exec, Bd.bytes, hml0, Bd.returns, BodyLoose.notSynchronized Bd, (name_of_methodNamed Bd.named Bd.method).1, findClass_of_methodNamed Bd.named, hZ⟩ e0
  exact ⟨t, o, castTop (hent m) h1, h2, h3, v, L, h4, h5, h6⟩
theorem tw {W : List Jvm.Cond} (hw : ∀ d ∈ W, d.before a0 Z = true) (i : Nat) {d : Jvm.Cond} (q : W[i]? = some d) : d.before a0 Z = true := hw d (List.mem_of_getElem? q)
theorem pick {P : Prop} [Decidable P] {α : Type} {A B : α} {F : α → Prop} {G : Prop} (k : F (if P then A else B)) (k1 : P → F A → G) (k2 : ¬ P → F B → G) : G := by
  by_cases q : P
  · exact k1 q (by rwa [if_pos q] at k)
  · exact k2 q (by rwa [if_neg q] at k)
theorem pickR {P : Prop} [Decidable P] {α : Type} {A B : α} {F : α → Prop} (k1 : P → F A) (k2 : ¬ P → F B) : F (if P then A else B) := by
  by_cases q : P
  · rw [if_pos q]; exact k1 q
  · rw [if_neg q]; exact k2 q
theorem en_iloadN (X : Stand p l e R s m args below meth c T locs cells slots) (hx : p.tables.exec = Jvm.exec) {k : Fin 4} {v : Int32} (hd : decode c.code pc = .ok (.iload_n k, 1)) (hl : Ls[k.val]? = some (.val (.int v))) (k : OwnEnds p e below s C S Q T m pc' Ls (.int v :: st)) (hp : pc + 1 = pc' := by rfl) : OwnEnds p e below s C S Q T m pc Ls st := by
  subst hp
  exact OwnEnds.of (fun _ k => XS.iloadN X.here hx (g := mkF m pc Ls st) rfl hd hl k) k
theorem en_iload (X : Stand p l e R s m args below meth c T locs cells slots) (hx : p.tables.exec = Jvm.exec) {k : Nat} {v : Int32} (hd : decode c.code pc = .ok (.iload k, 2)) (hl : Ls[k]? = some (.val (.int v))) (k : OwnEnds p e below s C S Q T m pc' Ls (.int v :: st)) (hp : pc + 2 = pc' := by rfl) : OwnEnds p e below s C S Q T m pc Ls st := by
  subst hp
  exact OwnEnds.of (fun _ k => XS.iload X.here hx (g := mkF m pc Ls st) rfl hd hl k) k
theorem en_istoreN (X : Stand p l e R s m args below meth c T locs cells slots) (hx : p.tables.exec = Jvm.exec) {k : Fin 4} {v : Int32} (hd : decode c.code pc = .ok (.istore_n k, 1)) (hl : storeLocals Ls k.val (.int v) = some Ls') (k : OwnEnds p e below s C S Q T m pc' Ls' st) (hp : pc + 1 = pc' := by rfl) : OwnEnds p e below s C S Q T m pc Ls (.int v :: st) := by
  subst hp
  exact OwnEnds.of (fun _ k => XS.istoreN X.here hx (g := mkF m pc Ls (.int v :: st)) rfl hd rfl hl k) k
theorem en_istore (X : Stand p l e R s m args below meth c T locs cells slots) (hx : p.tables.exec = Jvm.exec) {k : Nat} {v : Int32} (hd : decode c.code pc = .ok (.istore k, 2)) (hl : storeLocals Ls k (.int v) = some Ls') (k : OwnEnds p e below s C S Q T m pc' Ls' st) (hp : pc + 2 = pc' := by rfl) : OwnEnds p e below s C S Q T m pc Ls (.int v :: st) := by
  subst hp
  exact OwnEnds.of (fun _ k => XS.istore X.here hx (g := mkF m pc Ls (.int v :: st)) rfl hd rfl hl k) k
theorem en_lloadN (X : Stand p l e R s m args below meth c T locs cells slots) (hx : p.tables.exec = Jvm.exec) {k : Fin 4} {v : Int64} (hd : decode c.code pc = .ok (.lload_n k, 1)) (hl : Ls[k.val]? = some (.val (.long v))) (k : OwnEnds p e below s C S Q T m pc' Ls (.long v :: st)) (hp : pc + 1 = pc' := by rfl) : OwnEnds p e below s C S Q T m pc Ls st := by
  subst hp
  exact OwnEnds.of (fun _ k => XS.lloadN X.here hx (g := mkF m pc Ls st) rfl hd hl k) k
theorem en_lload (X : Stand p l e R s m args below meth c T locs cells slots) (hx : p.tables.exec = Jvm.exec) {k : Nat} {v : Int64} (hd : decode c.code pc = .ok (.lload k, 2)) (hl : Ls[k]? = some (.val (.long v))) (k : OwnEnds p e below s C S Q T m pc' Ls (.long v :: st)) (hp : pc + 2 = pc' := by rfl) : OwnEnds p e below s C S Q T m pc Ls st := by
  subst hp
  exact OwnEnds.of (fun _ k => XS.lload X.here hx (g := mkF m pc Ls st) rfl hd hl k) k
theorem en_lstoreN (X : Stand p l e R s m args below meth c T locs cells slots) (hx : p.tables.exec = Jvm.exec) {k : Fin 4} {v : Int64} (hd : decode c.code pc = .ok (.lstore_n k, 1)) (hl : storeLocals Ls k.val (.long v) = some Ls') (k : OwnEnds p e below s C S Q T m pc' Ls' st) (hp : pc + 1 = pc' := by rfl) : OwnEnds p e below s C S Q T m pc Ls (.long v :: st) := by
  subst hp
  exact OwnEnds.of (fun _ k => XS.lstoreN X.here hx (g := mkF m pc Ls (.long v :: st)) rfl hd rfl hl k) k
theorem en_lstore (X : Stand p l e R s m args below meth c T locs cells slots) (hx : p.tables.exec = Jvm.exec) {k : Nat} {v : Int64} (hd : decode c.code pc = .ok (.lstore k, 2)) (hl : storeLocals Ls k (.long v) = some Ls') (k : OwnEnds p e below s C S Q T m pc' Ls' st) (hp : pc + 2 = pc' := by rfl) : OwnEnds p e below s C S Q T m pc Ls (.long v :: st) := by
  subst hp
  exact OwnEnds.of (fun _ k => XS.lstore X.here hx (g := mkF m pc Ls (.long v :: st)) rfl hd rfl hl k) k
theorem en_aloadN (X : Stand p l e R s m args below meth c T locs cells slots) (hx : p.tables.exec = Jvm.exec) {k : Fin 4} {v : Value} (hd : decode c.code pc = .ok (.aload_n k, 1)) (hl : Ls[k.val]? = some (.val v)) (hv : v.isRef = true) (k : OwnEnds p e below s C S Q T m pc' Ls (v :: st)) (hp : pc + 1 = pc' := by rfl) : OwnEnds p e below s C S Q T m pc Ls st := by
  subst hp
  exact OwnEnds.of (fun _ k => XS.aloadN X.here hx (g := mkF m pc Ls st) rfl hd hl hv k) k
theorem en_aload (X : Stand p l e R s m args below meth c T locs cells slots) (hx : p.tables.exec = Jvm.exec) {k : Nat} {v : Value} (hd : decode c.code pc = .ok (.aload k, 2)) (hl : Ls[k]? = some (.val v)) (hv : v.isRef = true) (k : OwnEnds p e below s C S Q T m pc' Ls (v :: st)) (hp : pc + 2 = pc' := by rfl) : OwnEnds p e below s C S Q T m pc Ls st := by
  subst hp
  exact OwnEnds.of (fun _ k => XS.aload X.here hx (g := mkF m pc Ls st) rfl hd hl hv k) k
theorem en_astoreN (X : Stand p l e R s m args below meth c T locs cells slots) (hx : p.tables.exec = Jvm.exec) {k : Fin 4} {v : Value} (hd : decode c.code pc = .ok (.astore_n k, 1)) (hv : v.isRef = true) (hl : storeLocals Ls k.val v = some Ls') (k : OwnEnds p e below s C S Q T m pc' Ls' st) (hp : pc + 1 = pc' := by rfl) : OwnEnds p e below s C S Q T m pc Ls (v :: st) := by
  subst hp
  exact OwnEnds.of (fun _ k => XS.astoreN X.here hx (g := mkF m pc Ls (v :: st)) rfl hd rfl hv hl k) k
theorem en_astore (X : Stand p l e R s m args below meth c T locs cells slots) (hx : p.tables.exec = Jvm.exec) {k : Nat} {v : Value} (hd : decode c.code pc = .ok (.astore k, 2)) (hv : v.isRef = true) (hl : storeLocals Ls k v = some Ls') (k : OwnEnds p e below s C S Q T m pc' Ls' st) (hp : pc + 2 = pc' := by rfl) : OwnEnds p e below s C S Q T m pc Ls (v :: st) := by
  subst hp
  exact OwnEnds.of (fun _ k => XS.astore X.here hx (g := mkF m pc Ls (v :: st)) rfl hd rfl hv hl k) k
theorem en_dload (X : Stand p l e R s m args below meth c T locs cells slots) (hx : p.tables.exec = Jvm.exec) {k : Nat} {v : UInt64} (hd : decode c.code pc = .ok (.dload k, 2)) (hl : Ls[k]? = some (.val (.double v))) (k : OwnEnds p e below s C S Q T m pc' Ls (.double v :: st)) (hp : pc + 2 = pc' := by rfl) : OwnEnds p e below s C S Q T m pc Ls st := by
  subst hp
  exact OwnEnds.of (fun _ k => XS.dload X.here hx (g := mkF m pc Ls st) rfl hd hl k) k
theorem en_iconst (X : Stand p l e R s m args below meth c T locs cells slots) (hx : p.tables.exec = Jvm.exec) {i : Int} (v : Int32) (hd : decode c.code pc = .ok (.iconst i, 1)) (k : OwnEnds p e below s C S Q T m pc' Ls (.int v :: st)) (hv : Int32.ofInt i = v := by rfl) (hp : pc + 1 = pc' := by rfl) : OwnEnds p e below s C S Q T m pc Ls st := by
  subst hp hv
  exact OwnEnds.of (fun _ k => XS.iconst X.here hx (g := mkF m pc Ls st) rfl hd k) k
theorem en_bipush (X : Stand p l e R s m args below meth c T locs cells slots) (hx : p.tables.exec = Jvm.exec) {i : Int} (v : Int32) (hd : decode c.code pc = .ok (.bipush i, 2)) (k : OwnEnds p e below s C S Q T m pc' Ls (.int v :: st)) (hv : (Int8.ofInt i).toInt32 = v := by rfl) (hp : pc + 2 = pc' := by rfl) : OwnEnds p e below s C S Q T m pc Ls st := by
  subst hp hv
  exact OwnEnds.of (fun _ k => XS.bipush X.here hx (g := mkF m pc Ls st) rfl hd k) k
theorem en_sipush (X : Stand p l e R s m args below meth c T locs cells slots) (hx : p.tables.exec = Jvm.exec) {i : Int} (v : Int32) (hd : decode c.code pc = .ok (.sipush i, 3)) (k : OwnEnds p e below s C S Q T m pc' Ls (.int v :: st)) (hv : (Int16.ofInt i).toInt32 = v := by rfl) (hp : pc + 3 = pc' := by rfl) : OwnEnds p e below s C S Q T m pc Ls st := by
  subst hp hv
  exact OwnEnds.of (fun _ k => XS.sipush X.here hx (g := mkF m pc Ls st) rfl hd k) k
theorem en_lconst (X : Stand p l e R s m args below meth c T locs cells slots) (hx : p.tables.exec = Jvm.exec) {i : Fin 2} (v : Int64) (hd : decode c.code pc = .ok (.lconst i, 1)) (k : OwnEnds p e below s C S Q T m pc' Ls (.long v :: st)) (hv : Int64.ofNat i = v := by rfl) (hp : pc + 1 = pc' := by rfl) : OwnEnds p e below s C S Q T m pc Ls st := by
  subst hp hv
  exact OwnEnds.of (fun _ k => XS.lconst X.here hx (g := mkF m pc Ls st) rfl hd k) k
theorem en_dconst0 (X : Stand p l e R s m args below meth c T locs cells slots) (hx : p.tables.exec = Jvm.exec) (hd : decode c.code pc = .ok (.dconst 0, 1)) (k : OwnEnds p e below s C S Q T m pc' Ls (.double FP.dconst0 :: st)) (hp : pc + 1 = pc' := by rfl) : OwnEnds p e below s C S Q T m pc Ls st := by
  subst hp
  exact OwnEnds.of (fun _ k => XS.dconst0 X.here hx (g := mkF m pc Ls st) rfl hd rfl k) k
theorem en_ldc (X : Stand p l e R s m args below meth c T locs cells slots) (hx : p.tables.exec = Jvm.exec) (hZ : Z.Warmed39 s.vm) {own : String} {index : Nat} {v : Int32} (hown : s.vm.findClass own = some m.cls) (w : (Jvm.Cond.constant own index v).before a0 Z = true) (hd : decode c.code pc = .ok (.ldc index, 2)) (k : OwnEnds p e below s C S Q T m pc' Ls (.int v :: st)) (hp : pc + 2 = pc' := by rfl) : OwnEnds p e below s C S Q T m pc Ls st := by
  subst hp
  exact OwnEnds.of (X.ldcInt hx hown (mvT hZ w) (g := mkF m pc Ls st) rfl hd) k
theorem en_ldc2 (X : Stand p l e R s m args below meth c T locs cells slots) (hx : p.tables.exec = Jvm.exec) (hZ : Z.Warmed39 s.vm) {own : String} {index : Nat} {v : Int64} (hown : s.vm.findClass own = some m.cls) (w : (Jvm.Cond.constantLong own index v).before a0 Z = true) (hd : decode c.code pc = .ok (.ldc2_w index, 3)) (k : OwnEnds p e below s C S Q T m pc' Ls (.long v :: st)) (hp : pc + 3 = pc' := by rfl) : OwnEnds p e below s C S Q T m pc Ls st := by
  subst hp
  exact OwnEnds.of (X.ldc2Long hx hown (mvT hZ w) (g := mkF m pc Ls st) rfl hd) k
theorem en_iadd (X : Stand p l e R s m args below meth c T locs cells slots) (hx : p.tables.exec = Jvm.exec) {x y : Int32} (hd : decode c.code pc = .ok (.iadd, 1))  (k : OwnEnds p e below s C S Q T m pc' Ls (.int (x + y) :: st)) (hp : pc + 1 = pc' := by rfl) : OwnEnds p e below s C S Q T m pc Ls (.int y :: .int x :: st) := by
  subst hp
  exact OwnEnds.of (fun _ k => XS.iadd X.here hx (g := mkF m pc Ls (.int y :: .int x :: st)) rfl hd rfl k) k
theorem en_isub (X : Stand p l e R s m args below meth c T locs cells slots) (hx : p.tables.exec = Jvm.exec) {x y : Int32} (hd : decode c.code pc = .ok (.isub, 1))  (k : OwnEnds p e below s C S Q T m pc' Ls (.int (x - y) :: st)) (hp : pc + 1 = pc' := by rfl) : OwnEnds p e below s C S Q T m pc Ls (.int y :: .int x :: st) := by
  subst hp
  exact OwnEnds.of (fun _ k => XS.isub X.here hx (g := mkF m pc Ls (.int y :: .int x :: st)) rfl hd rfl k) k
theorem en_imul (X : Stand p l e R s m args below meth c T locs cells slots) (hx : p.tables.exec = Jvm.exec) {x y : Int32} (hd : decode c.code pc = .ok (.imul, 1))  (k : OwnEnds p e below s C S Q T m pc' Ls (.int (x * y) :: st)) (hp : pc + 1 = pc' := by rfl) : OwnEnds p e below s C S Q T m pc Ls (.int y :: .int x :: st) := by
  subst hp
  exact OwnEnds.of (fun _ k => XS.imul X.here hx (g := mkF m pc Ls (.int y :: .int x :: st)) rfl hd rfl k) k
theorem en_iand (X : Stand p l e R s m args below meth c T locs cells slots) (hx : p.tables.exec = Jvm.exec) {x y : Int32} (hd : decode c.code pc = .ok (.iand, 1))  (k : OwnEnds p e below s C S Q T m pc' Ls (.int (x &&& y) :: st)) (hp : pc + 1 = pc' := by rfl) : OwnEnds p e below s C S Q T m pc Ls (.int y :: .int x :: st) := by
  subst hp
  exact OwnEnds.of (fun _ k => XS.iand X.here hx (g := mkF m pc Ls (.int y :: .int x :: st)) rfl hd rfl k) k
theorem en_ior (X : Stand p l e R s m args below meth c T locs cells slots) (hx : p.tables.exec = Jvm.exec) {x y : Int32} (hd : decode c.code pc = .ok (.ior, 1))  (k : OwnEnds p e below s C S Q T m pc' Ls (.int (x ||| y) :: st)) (hp : pc + 1 = pc' := by rfl) : OwnEnds p e below s C S Q T m pc Ls (.int y :: .int x :: st) := by
  subst hp
  exact OwnEnds.of (fun _ k => XS.ior X.here hx (g := mkF m pc Ls (.int y :: .int x :: st)) rfl hd rfl k) k
theorem en_ixor (X : Stand p l e R s m args below meth c T locs cells slots) (hx : p.tables.exec = Jvm.exec) {x y : Int32} (hd : decode c.code pc = .ok (.ixor, 1))  (k : OwnEnds p e below s C S Q T m pc' Ls (.int (x ^^^ y) :: st)) (hp : pc + 1 = pc' := by rfl) : OwnEnds p e below s C S Q T m pc Ls (.int y :: .int x :: st) := by
  subst hp
  exact OwnEnds.of (fun _ k => XS.ixor X.here hx (g := mkF m pc Ls (.int y :: .int x :: st)) rfl hd rfl k) k
theorem en_ishl (X : Stand p l e R s m args below meth c T locs cells slots) (hx : p.tables.exec = Jvm.exec) {x y : Int32} (hd : decode c.code pc = .ok (.ishl, 1))  (k : OwnEnds p e below s C S Q T m pc' Ls (.int (x <<< (y &&& 31)) :: st)) (hp : pc + 1 = pc' := by rfl) : OwnEnds p e below s C S Q T m pc Ls (.int y :: .int x :: st) := by
  subst hp
  exact OwnEnds.of (fun _ k => XS.ishl X.here hx (g := mkF m pc Ls (.int y :: .int x :: st)) rfl hd rfl k) k
theorem en_ishr (X : Stand p l e R s m args below meth c T locs cells slots) (hx : p.tables.exec = Jvm.exec) {x y : Int32} (hd : decode c.code pc = .ok (.ishr, 1))  (k : OwnEnds p e below s C S Q T m pc' Ls (.int (x >>> (y &&& 31)) :: st)) (hp : pc + 1 = pc' := by rfl) : OwnEnds p e below s C S Q T m pc Ls (.int y :: .int x :: st) := by
  subst hp
  exact OwnEnds.of (fun _ k => XS.ishr X.here hx (g := mkF m pc Ls (.int y :: .int x :: st)) rfl hd rfl k) k
theorem en_iushr (X : Stand p l e R s m args below meth c T locs cells slots) (hx : p.tables.exec = Jvm.exec) {x y : Int32} (hd : decode c.code pc = .ok (.iushr, 1))  (k : OwnEnds p e below s C S Q T m pc' Ls (.int ((x.toUInt32 >>> (y &&& 31).toUInt32).toInt32) :: st)) (hp : pc + 1 = pc' := by rfl) : OwnEnds p e below s C S Q T m pc Ls (.int y :: .int x :: st) := by
  subst hp
  exact OwnEnds.of (fun _ k => XS.iushr X.here hx (g := mkF m pc Ls (.int y :: .int x :: st)) rfl hd rfl k) k
theorem en_ladd (X : Stand p l e R s m args below meth c T locs cells slots) (hx : p.tables.exec = Jvm.exec) {x y : Int64} (hd : decode c.code pc = .ok (.ladd, 1))  (k : OwnEnds p e below s C S Q T m pc' Ls (.long (x + y) :: st)) (hp : pc + 1 = pc' := by rfl) : OwnEnds p e below s C S Q T m pc Ls (.long y :: .long x :: st) := by
  subst hp
  exact OwnEnds.of (fun _ k => XS.ladd X.here hx (g := mkF m pc Ls (.long y :: .long x :: st)) rfl hd rfl k) k
theorem en_lsub (X : Stand p l e R s m args below meth c T locs cells slots) (hx : p.tables.exec = Jvm.exec) {x y : Int64} (hd : decode c.code pc = .ok (.lsub, 1))  (k : OwnEnds p e below s C S Q T m pc' Ls (.long (x - y) :: st)) (hp : pc + 1 = pc' := by rfl) : OwnEnds p e below s C S Q T m pc Ls (.long y :: .long x :: st) := by
  subst hp
  exact OwnEnds.of (fun _ k => XS.lsub X.here hx (g := mkF m pc Ls (.long y :: .long x :: st)) rfl hd rfl k) k
theorem en_lmul (X : Stand p l e R s m args below meth c T locs cells slots) (hx : p.tables.exec = Jvm.exec) {x y : Int64} (hd : decode c.code pc = .ok (.lmul, 1))  (k : OwnEnds p e below s C S Q T m pc' Ls (.long (x * y) :: st)) (hp : pc + 1 = pc' := by rfl) : OwnEnds p e below s C S Q T m pc Ls (.long y :: .long x :: st) := by
  subst hp
  exact OwnEnds.of (fun _ k => XS.lmul X.here hx (g := mkF m pc Ls (.long y :: .long x :: st)) rfl hd rfl k) k
theorem en_land (X : Stand p l e R s m args below meth c T locs cells slots) (hx : p.tables.exec = Jvm.exec) {x y : Int64} (hd : decode c.code pc = .ok (.land, 1))  (k : OwnEnds p e below s C S Q T m pc' Ls (.long (x &&& y) :: st)) (hp : pc + 1 = pc' := by rfl) : OwnEnds p e below s C S Q T m pc Ls (.long y :: .long x :: st) := by
  subst hp
  exact OwnEnds.of (fun _ k => XS.land X.here hx (g := mkF m pc Ls (.long y :: .long x :: st)) rfl hd rfl k) k
theorem en_lor (X : Stand p l e R s m args below meth c T locs cells slots) (hx : p.tables.exec = Jvm.exec) {x y : Int64} (hd : decode c.code pc = .ok (.lor, 1))  (k : OwnEnds p e below s C S Q T m pc' Ls (.long (x ||| y) :: st)) (hp : pc + 1 = pc' := by rfl) : OwnEnds p e below s C S Q T m pc Ls (.long y :: .long x :: st) := by
  subst hp
  exact OwnEnds.of (fun _ k => XS.lor X.here hx (g := mkF m pc Ls (.long y :: .long x :: st)) rfl hd rfl k) k
theorem en_lxor (X : Stand p l e R s m args below meth c T locs cells slots) (hx : p.tables.exec = Jvm.exec) {x y : Int64} (hd : decode c.code pc = .ok (.lxor, 1))  (k : OwnEnds p e below s C S Q T m pc' Ls (.long (x ^^^ y) :: st)) (hp : pc + 1 = pc' := by rfl) : OwnEnds p e below s C S Q T m pc Ls (.long y :: .long x :: st) := by
  subst hp
  exact OwnEnds.of (fun _ k => XS.lxor X.here hx (g := mkF m pc Ls (.long y :: .long x :: st)) rfl hd rfl k) k
theorem en_lshl (X : Stand p l e R s m args below meth c T locs cells slots) (hx : p.tables.exec = Jvm.exec) {x : Int64} {y : Int32} (hd : decode c.code pc = .ok (.lshl, 1))  (k : OwnEnds p e below s C S Q T m pc' Ls (.long (x <<< (y &&& 0x3f).toInt64) :: st)) (hp : pc + 1 = pc' := by rfl) : OwnEnds p e below s C S Q T m pc Ls (.int y :: .long x :: st) := by
  subst hp
  exact OwnEnds.of (fun _ k => XS.lshl X.here hx (g := mkF m pc Ls (.int y :: .long x :: st)) rfl hd rfl k) k
theorem en_lshr (X : Stand p l e R s m args below meth c T locs cells slots) (hx : p.tables.exec = Jvm.exec) {x : Int64} {y : Int32} (hd : decode c.code pc = .ok (.lshr, 1))  (k : OwnEnds p e below s C S Q T m pc' Ls (.long (x >>> (y &&& 0x3f).toInt64) :: st)) (hp : pc + 1 = pc' := by rfl) : OwnEnds p e below s C S Q T m pc Ls (.int y :: .long x :: st) := by
  subst hp
  exact OwnEnds.of (fun _ k => XS.lshr X.here hx (g := mkF m pc Ls (.int y :: .long x :: st)) rfl hd rfl k) k
theorem en_lushr (X : Stand p l e R s m args below meth c T locs cells slots) (hx : p.tables.exec = Jvm.exec) {x : Int64} {y : Int32} (hd : decode c.code pc = .ok (.lushr, 1))  (k : OwnEnds p e below s C S Q T m pc' Ls (.long ((x.toUInt64 >>> (y &&& 0x3f).toInt64.toUInt64).toInt64) :: st)) (hp : pc + 1 = pc' := by rfl) : OwnEnds p e below s C S Q T m pc Ls (.int y :: .long x :: st) := by
  subst hp
  exact OwnEnds.of (fun _ k => XS.lushr X.here hx (g := mkF m pc Ls (.int y :: .long x :: st)) rfl hd rfl k) k
theorem en_lcmp (X : Stand p l e R s m args below meth c T locs cells slots) (hx : p.tables.exec = Jvm.exec) {x y : Int64} (hd : decode c.code pc = .ok (.lcmp, 1))  (k : OwnEnds p e below s C S Q T m pc' Ls (.int (lcmpW x y) :: st)) (hp : pc + 1 = pc' := by rfl) : OwnEnds p e below s C S Q T m pc Ls (.long y :: .long x :: st) := by
  subst hp
  exact OwnEnds.of (fun _ k => XS.lcmp X.here hx (g := mkF m pc Ls (.long y :: .long x :: st)) rfl hd rfl k) k
theorem en_i2l (X : Stand p l e R s m args below meth c T locs cells slots) (hx : p.tables.exec = Jvm.exec) {x : Int32} (hd : decode c.code pc = .ok (.i2l, 1))  (k : OwnEnds p e below s C S Q T m pc' Ls (.long (x.toInt64) :: st)) (hp : pc + 1 = pc' := by rfl) : OwnEnds p e below s C S Q T m pc Ls (.int x :: st) := by
  subst hp
  exact OwnEnds.of (fun _ k => XS.i2l X.here hx (g := mkF m pc Ls (.int x :: st)) rfl hd rfl k) k
theorem en_l2i (X : Stand p l e R s m args below meth c T locs cells slots) (hx : p.tables.exec = Jvm.exec) {x : Int64} (hd : decode c.code pc = .ok (.l2i, 1))  (k : OwnEnds p e below s C S Q T m pc' Ls (.int (x.toInt32) :: st)) (hp : pc + 1 = pc' := by rfl) : OwnEnds p e below s C S Q T m pc Ls (.long x :: st) := by
  subst hp
  exact OwnEnds.of (fun _ k => XS.l2i X.here hx (g := mkF m pc Ls (.long x :: st)) rfl hd rfl k) k
theorem en_i2b (X : Stand p l e R s m args below meth c T locs cells slots) (hx : p.tables.exec = Jvm.exec) {x : Int32} (hd : decode c.code pc = .ok (.i2b, 1))  (k : OwnEnds p e below s C S Q T m pc' Ls (.int (x.toInt8.toInt32) :: st)) (hp : pc + 1 = pc' := by rfl) : OwnEnds p e below s C S Q T m pc Ls (.int x :: st) := by
  subst hp
  exact OwnEnds.of (fun _ k => XS.i2b X.here hx (g := mkF m pc Ls (.int x :: st)) rfl hd rfl k) k
theorem en_i2c (X : Stand p l e R s m args below meth c T locs cells slots) (hx : p.tables.exec = Jvm.exec) {x : Int32} (hd : decode c.code pc = .ok (.i2c, 1))  (k : OwnEnds p e below s C S Q T m pc' Ls (.int (x.toUInt32.toUInt16.toUInt32.toInt32) :: st)) (hp : pc + 1 = pc' := by rfl) : OwnEnds p e below s C S Q T m pc Ls (.int x :: st) := by
  subst hp
  exact OwnEnds.of (fun _ k => XS.i2c X.here hx (g := mkF m pc Ls (.int x :: st)) rfl hd rfl k) k
theorem en_i2s (X : Stand p l e R s m args below meth c T locs cells slots) (hx : p.tables.exec = Jvm.exec) {x : Int32} (hd : decode c.code pc = .ok (.i2s, 1))  (k : OwnEnds p e below s C S Q T m pc' Ls (.int (x.toInt16.toInt32) :: st)) (hp : pc + 1 = pc' := by rfl) : OwnEnds p e below s C S Q T m pc Ls (.int x :: st) := by
  subst hp
  exact OwnEnds.of (fun _ k => XS.i2s X.here hx (g := mkF m pc Ls (.int x :: st)) rfl hd rfl k) k
theorem en_ineg (X : Stand p l e R s m args below meth c T locs cells slots) (hx : p.tables.exec = Jvm.exec) {x : Int32} (hd : decode c.code pc = .ok (.ineg, 1))  (k : OwnEnds p e below s C S Q T m pc' Ls (.int (-x) :: st)) (hp : pc + 1 = pc' := by rfl) : OwnEnds p e below s C S Q T m pc Ls (.int x :: st) := by
  subst hp
  exact OwnEnds.of (fun _ k => XS.ineg X.here hx (g := mkF m pc Ls (.int x :: st)) rfl hd rfl k) k
theorem en_lneg (X : Stand p l e R s m args below meth c T locs cells slots) (hx : p.tables.exec = Jvm.exec) {x : Int64} (hd : decode c.code pc = .ok (.lneg, 1))  (k : OwnEnds p e below s C S Q T m pc' Ls (.long (-x) :: st)) (hp : pc + 1 = pc' := by rfl) : OwnEnds p e below s C S Q T m pc Ls (.long x :: st) := by
  subst hp
  exact OwnEnds.of (fun _ k => XS.lneg X.here hx (g := mkF m pc Ls (.long x :: st)) rfl hd rfl k) k
theorem en_idiv (X : Stand p l e R s m args below meth c T locs cells slots) (hx : p.tables.exec = Jvm.exec) {x y : Int32} (hd : decode c.code pc = .ok (.idiv, 1)) (hy : y ≠ 0) (k : OwnEnds p e below s C S Q T m pc' Ls (.int (x / y) :: st)) (hp : pc + 1 = pc' := by rfl) : OwnEnds p e below s C S Q T m pc Ls (.int y :: .int x :: st) := by
  subst hp
  exact OwnEnds.of (fun _ k => XS.idiv X.here hx (g := mkF m pc Ls (.int y :: .int x :: st)) rfl hd rfl hy k) k
theorem en_irem (X : Stand p l e R s m args below meth c T locs cells slots) (hx : p.tables.exec = Jvm.exec) {x y : Int32} (hd : decode c.code pc = .ok (.irem, 1)) (hy : y ≠ 0) (k : OwnEnds p e below s C S Q T m pc' Ls (.int (x % y) :: st)) (hp : pc + 1 = pc' := by rfl) : OwnEnds p e below s C S Q T m pc Ls (.int y :: .int x :: st) := by
  subst hp
  exact OwnEnds.of (fun _ k => iremM (g := mkF m pc Ls (.int y :: .int x :: st)) X hx rfl hd rfl hy k) k
theorem en_lrem (X : Stand p l e R s m args below meth c T locs cells slots) (hx : p.tables.exec = Jvm.exec) {x y : Int64} (hd : decode c.code pc = .ok (.lrem, 1)) (hy : y ≠ 0) (k : OwnEnds p e below s C S Q T m pc' Ls (.long (x % y) :: st)) (hp : pc + 1 = pc' := by rfl) : OwnEnds p e below s C S Q T m pc Ls (.long y :: .long x :: st) := by
  subst hp
  rw [← lrem_mod x y] at k
  exact OwnEnds.of (fun _ k => XS.lrem X.here hx (g := mkF m pc Ls (.long y :: .long x :: st)) rfl hd rfl hy k) k
theorem en_dup (X : Stand p l e R s m args below meth c T locs cells slots) (hx : p.tables.exec = Jvm.exec) {v : Value} (hd : decode c.code pc = .ok (.dup, 1)) (hc : v.category = 1) (k : OwnEnds p e below s C S Q T m pc' Ls (v :: v :: st)) (hp : pc + 1 = pc' := by rfl) : OwnEnds p e below s C S Q T m pc Ls (v :: st) := by
  subst hp
  exact OwnEnds.of (fun _ k => XS.dup X.here hx (g := mkF m pc Ls (v :: st)) rfl hd rfl hc k) k
theorem en_pop (X : Stand p l e R s m args below meth c T locs cells slots) (hx : p.tables.exec = Jvm.exec) {v : Value} (hd : decode c.code pc = .ok (.pop, 1)) (hc : v.category = 1) (k : OwnEnds p e below s C S Q T m pc' Ls st) (hp : pc + 1 = pc' := by rfl) : OwnEnds p e below s C S Q T m pc Ls (v :: st) := by
  subst hp
  exact OwnEnds.of (fun _ k => XS.pop X.here hx (g := mkF m pc Ls (v :: st)) rfl hd rfl hc k) k
theorem en_dupX1 (X : Stand p l e R s m args below meth c T locs cells slots) (hx : p.tables.exec = Jvm.exec) {v w : Value} (hd : decode c.code pc = .ok (.dup_x1, 1)) (hc : v.category = 1) (hc2 : w.category = 1) (k : OwnEnds p e below s C S Q T m pc' Ls (v :: w :: v :: st)) (hp : pc + 1 = pc' := by rfl) : OwnEnds p e below s C S Q T m pc Ls (v :: w :: st) := by
  subst hp
  exact OwnEnds.of (fun _ k => XS.dupX1 X.here hx (g := mkF m pc Ls (v :: w :: st)) rfl hd rfl hc hc2 k) k
theorem en_iinc (X : Stand p l e R s m args below meth c T locs cells slots) (hx : p.tables.exec = Jvm.exec) {k : Nat} {q : Int} {x : Int32} (hd : decode c.code pc = .ok (.iinc k q, 3)) (hl : Ls[k]? = some (.val (.int x))) (hl' : storeLocals Ls k (.int (x + Int32.ofInt q)) = some Ls') (k : OwnEnds p e below s C S Q T m pc' Ls' st) (hp : pc + 3 = pc' := by rfl) : OwnEnds p e below s C S Q T m pc Ls st := by
  subst hp
  exact OwnEnds.of (fun _ k => XS.iinc X.here hx (g := mkF m pc Ls st) rfl hd hl hl' k) k
theorem en_goto (X : Stand p l e R s m args below meth c T locs cells slots) (hx : p.tables.exec = Jvm.exec) {o : Int} (hd : decode c.code pc = .ok (.goto o, 3)) (k : OwnEnds p e below s C S Q T m pc' Ls st) (ho : 0 ≤ (pc : Int) + o := by decide) (hp : ((pc : Int) + o).toNat = pc' := by decide) : OwnEnds p e below s C S Q T m pc Ls st := by
  exact OwnEnds.of (fun _ k => XS.goto X.here hx (g := mkF m pc Ls st) rfl rfl hd ho hp k) k
theorem en_ifYes (X : Stand p l e R s m args below meth c T locs cells slots) (hx : p.tables.exec = Jvm.exec) {cd : ClassFile.Cond} {o : Int} {x : Int32} (hd : decode c.code pc = .ok (.ifCond cd o, 3)) (hc : ifCond.holds cd x = true) (k : OwnEnds p e below s C S Q T m pc' Ls st) (ho : 0 ≤ (pc : Int) + o := by decide) (hp : ((pc : Int) + o).toNat = pc' := by decide) : OwnEnds p e below s C S Q T m pc Ls (.int x :: st) := by
  exact OwnEnds.of (fun _ k => XS.ifYes X.here hx (g := mkF m pc Ls (.int x :: st)) rfl rfl hd rfl hc ho hp k) k
theorem en_ifNo (X : Stand p l e R s m args below meth c T locs cells slots) (hx : p.tables.exec = Jvm.exec) {cd : ClassFile.Cond} {o : Int} {x : Int32} (hd : decode c.code pc = .ok (.ifCond cd o, 3)) (hc : ifCond.holds cd x = false) (k : OwnEnds p e below s C S Q T m pc' Ls st) (hp : pc + 3 = pc' := by rfl) : OwnEnds p e below s C S Q T m pc Ls (.int x :: st) := by
  subst hp
  exact OwnEnds.of (fun _ k => XS.ifNo X.here hx (g := mkF m pc Ls (.int x :: st)) rfl hd rfl hc k) k
theorem en_icmpYes (X : Stand p l e R s m args below meth c T locs cells slots) (hx : p.tables.exec = Jvm.exec) {cd : ClassFile.Cond} {o : Int} {x y : Int32} (hd : decode c.code pc = .ok (.if_icmp cd o, 3)) (hc : if_icmp.holds cd x y = true) (k : OwnEnds p e below s C S Q T m pc' Ls st) (ho : 0 ≤ (pc : Int) + o := by decide) (hp : ((pc : Int) + o).toNat = pc' := by decide) : OwnEnds p e below s C S Q T m pc Ls (.int y :: .int x :: st) := by
  exact OwnEnds.of (fun _ k => XS.icmpYes X.here hx (g := mkF m pc Ls (.int y :: .int x :: st)) rfl rfl hd rfl hc ho hp k) k
theorem en_icmpNo (X : Stand p l e R s m args below meth c T locs cells slots) (hx : p.tables.exec = Jvm.exec) {cd : ClassFile.Cond} {o : Int} {x y : Int32} (hd : decode c.code pc = .ok (.if_icmp cd o, 3)) (hc : if_icmp.holds cd x y = false) (k : OwnEnds p e below s C S Q T m pc' Ls st) (hp : pc + 3 = pc' := by rfl) : OwnEnds p e below s C S Q T m pc Ls (.int y :: .int x :: st) := by
  subst hp
  exact OwnEnds.of (fun _ k => XS.icmpNo X.here hx (g := mkF m pc Ls (.int y :: .int x :: st)) rfl hd rfl hc k) k
theorem wlt {x y : Int64} (h : x < y) : ifCond.holds .lt (lcmpW x y) = true ∧ ifCond.holds .ge (lcmpW x y) = false := by
  have q := (lw_lt x y).mpr h
  exact ⟨(if0 _ _).trans (tlt q).1, (if0 _ _).trans (tlt q).2.1⟩
theorem nwlt {x y : Int64} (h : ¬ x < y) : ifCond.holds .lt (lcmpW x y) = false ∧ ifCond.holds .ge (lcmpW x y) = true := by
  have q : ¬ lcmpW x y < 0 := fun z => h ((lw_lt x y).mp z)
  exact ⟨(if0 _ _).trans (flt q).1, (if0 _ _).trans (flt q).2.1⟩
theorem wgt {x y : Int64} (h : y < x) : ifCond.holds .gt (lcmpW x y) = true ∧ ifCond.holds .le (lcmpW x y) = false := by
  have q := (lw_gt x y).mpr h
  exact ⟨(if0 _ _).trans (tlt q).2.2.1, (if0 _ _).trans (tlt q).2.2.2⟩
theorem nwgt {x y : Int64} (h : ¬ y < x) : ifCond.holds .gt (lcmpW x y) = false ∧ ifCond.holds .le (lcmpW x y) = true := by
  have q : ¬ 0 < lcmpW x y := fun z => h ((lw_gt x y).mp z)
  exact ⟨(if0 _ _).trans (flt q).2.2.1, (if0 _ _).trans (flt q).2.2.2⟩
theorem weq {x y : Int64} (h : x = y) : ifCond.holds .eq (lcmpW x y) = true ∧ ifCond.holds .ne (lcmpW x y) = false := by
  have q := (lw_eq x y).mpr h
  exact ⟨(if0 _ _).trans (teq q).1, (if0 _ _).trans (teq q).2⟩
theorem nweq {x y : Int64} (h : ¬ x = y) : ifCond.holds .eq (lcmpW x y) = false ∧ ifCond.holds .ne (lcmpW x y) = true := by
  have q : ¬ lcmpW x y = 0 := fun z => h ((lw_eq x y).mp z)
  exact ⟨(if0 _ _).trans (feq q).1, (if0 _ _).trans (feq q).2⟩
theorem en_ret {t : FieldType} {w : Value} {i : Instr} (X : Stand p l e R s m args below meth c T locs cells slots) (hx : p.tables.exec = Jvm.exec) (hret : meth.sig.returnType = some t) (hlk : meth.locks = false) (hd : decode c.code pc = .ok (i, 1)) (hn : narrow t w = w)
    (hi : (i = .ireturn ∧ (t = .int ∨ t = .boolean ∨ t = .byte ∨ t = .char ∨ t = .short) ∧ ∃ z, w = .int z) ∨ (i = .lreturn ∧ t = .long ∧ ∃ z, w = .long z) ∨ (i = .dreturn ∧ t = .double ∧ ∃ z, w = .double z) ∨ (i = .freturn ∧ t = .float ∧ ∃ z, w = .float z) ∨ (i = .areturn ∧ t.isReference = true ∧ w.isRef = true))
    (hc : cells ≤ C) (hs : slots ≤ S) (hq : Q (some w) T.heap locs) : OwnEnds p e below s C S Q T m pc Ls (w :: st) := by
  obtain ⟨fs, hr, hrun, hended, hW, hsame⟩ := X.leave (v := some w) (fun q => by rw [hret] at q; cases q) hlk
  exact ⟨_, _, retOut X hx hret hn hi hd hr, hrun, hended, _, _, rfl, hq, ⟨_, rfl⟩, hW, hsame.mono hc hs⟩
theorem en_retI {z : Int32} (X : Stand p l e R s m args below meth c T locs cells slots) (hx : p.tables.exec = Jvm.exec) (hret : meth.sig.returnType = some .int) (hlk : meth.locks = false) (hd : decode c.code pc = .ok (.ireturn, 1)) (hc : cells ≤ C) (hs : slots ≤ S) (hq : Q (some (.int z)) T.heap locs) : OwnEnds p e below s C S Q T m pc Ls (.int z :: st) :=
  en_ret X hx hret hlk hd rfl (Or.inl ⟨rfl, Or.inl rfl, _, rfl⟩) hc hs hq
theorem en_retZ {z : Int32} (X : Stand p l e R s m args below meth c T locs cells slots) (hx : p.tables.exec = Jvm.exec) (hret : meth.sig.returnType = some .boolean) (hlk : meth.locks = false) (hd : decode c.code pc = .ok (.ireturn, 1)) (hn : narrow .boolean (.int z) = .int z) (hc : cells ≤ C) (hs : slots ≤ S) (hq : Q (some (.int z)) T.heap locs) : OwnEnds p e below s C S Q T m pc Ls (.int z :: st) :=
  en_ret X hx hret hlk hd hn (Or.inl ⟨rfl, Or.inr (Or.inl rfl), _, rfl⟩) hc hs hq
theorem en_retL {z : Int64} (X : Stand p l e R s m args below meth c T locs cells slots) (hx : p.tables.exec = Jvm.exec) (hret : meth.sig.returnType = some .long) (hlk : meth.locks = false) (hd : decode c.code pc = .ok (.lreturn, 1)) (hc : cells ≤ C) (hs : slots ≤ S) (hq : Q (some (.long z)) T.heap locs) : OwnEnds p e below s C S Q T m pc Ls (.long z :: st) :=
  en_ret X hx hret hlk hd rfl (Or.inr (Or.inl ⟨rfl, rfl, _, rfl⟩)) hc hs hq
theorem en_retA {a : Addr} {t : FieldType} (X : Stand p l e R s m args below meth c T locs cells slots) (hx : p.tables.exec = Jvm.exec) (hret : meth.sig.returnType = some t) (ht : t.isReference = true) (hn : narrow t (.ref a) = .ref a) (hlk : meth.locks = false) (hd : decode c.code pc = .ok (.areturn, 1)) (hc : cells ≤ C) (hs : slots ≤ S) (hq : Q (some (.ref a)) T.heap locs) : OwnEnds p e below s C S Q T m pc Ls (.ref a :: st) :=
  en_ret X hx hret hlk hd hn (Or.inr (Or.inr (Or.inr (Or.inr ⟨rfl, ht, rfl⟩)))) hc hs hq
theorem en_ret0 (X : Stand p l e R s m args below meth c T locs cells slots) (hx : p.tables.exec = Jvm.exec) (hret : meth.sig.returnType = none) (hlk : meth.locks = false) (hd : decode c.code pc = .ok (.return_, 1)) (hc : cells ≤ C) (hs : slots ≤ S) (hq : Q none T.heap locs) : OwnEnds p e below s C S Q T m pc Ls [] := by
  obtain ⟨fs, hr, hrun, hended, hW, hsame⟩ := X.leave (v := none) (fun _ => rfl) hlk
  exact ⟨_, _, X.returnOut hx hret hd hr, hrun, hended, _, _, rfl, hq, ⟨_, rfl⟩, hW, hsame.mono hc hs⟩
theorem en_getF (X : Stand p l e R s m args below meth c T locs cells slots) (hx : p.tables.exec = Jvm.exec) (hZ : Z.Warmed39 s.vm) {own R0 O n d host : String} {index : Nat} (hown : s.vm.findClass own = some m.cls) (w : (Jvm.Cond.fieldLink own index R0 n d).before a0 Z = true ∨ (Jvm.Cond.fieldLinkNest own index R0 n d host).before a0 Z = true) (via : Via Z R0 O n d) (eT : T.heap = h) {a : Addr} {v : Value} (F : Fld Z h a O n d v) (hd : decode c.code pc = .ok (.getfield index, 3)) (k : ∀ T', Stand p l e R s m args below meth c T' locs cells slots → T'.heap = h → OwnEnds p e below s C S Q T' m pc' Ls (v :: st)) (hp : pc + 3 = pc' := by rfl) : OwnEnds p e below s C S Q T m pc Ls (.ref a :: st) := by
  subst hp
  obtain ⟨T', X', e', st'⟩ := getF X hx hZ hown w via eT F (g := mkF m pc Ls (.ref a :: st)) rfl rfl hd
  exact OwnEnds.of st' (k T' X' e')
theorem en_getS (X : Stand p l e R s m args below meth c T locs cells slots) (hx : p.tables.exec = Jvm.exec) (hZ : Z.Warmed39 s.vm) {own R0 O n d host : String} {index : Nat} (hown : s.vm.findClass own = some m.cls) (w : (Jvm.Cond.fieldLink own index R0 n d).before a0 Z = true ∨ (Jvm.Cond.fieldLinkNest own index R0 n d host).before a0 Z = true) (via : Via Z R0 O n d) (eT : T.heap = h) {v : Value} (F : Sta Z h O n d v) (hd : decode c.code pc = .ok (.getstatic index, 3)) (k : ∀ T', Stand p l e R s m args below meth c T' locs cells slots → T'.heap = h → OwnEnds p e below s C S Q T' m pc' Ls (v :: st)) (hp : pc + 3 = pc' := by rfl) : OwnEnds p e below s C S Q T m pc Ls st := by
  subst hp
  obtain ⟨T', X', e', st'⟩ := getS2 X hx hZ hown w via eT F (g := mkF m pc Ls st) rfl hd
  exact OwnEnds.of st' (k T' X' e')
theorem en_putF (X : Stand p l e R s m args below meth c T locs cells slots) (hx : p.tables.exec = Jvm.exec) (hZ : Z.Warmed39 s.vm) {own R0 O n d host K : String} {index kk : Nat} {ty : FieldType} (hown : s.vm.findClass own = some m.cls) (w : (Jvm.Cond.fieldLink own index R0 n d).before a0 Z = true ∨ (Jvm.Cond.fieldLinkNest own index R0 n d host).before a0 Z = true) (via : Via Z R0 O n d) (eT : T.heap = h) {a : Addr} {v old : Value} (F : Fld Z h a O n d old) (E : Exa Z h a K) (L : (Jvm.Cond.lays K O n d).before a0 Z = true ∨ ((Jvm.Cond.laysFinal K O n d).before a0 Z = true ∧ own = O ∧ meth.name = "<init>")) (wi : (Jvm.Cond.instantiable K kk).before a0 Z = true) (hty : parseFieldDescriptor d = some ty) (hn : narrow ty v = v) (hf : fits ty v = true) (hd : decode c.code pc = .ok (.putfield index, 3))
    (k : ∀ T' h', Stand p l e R s m args below meth c T' (locs ++ [⟨a, Jvm.RoadKit.slotOf Z O n d⟩]) cells slots → T'.heap = h' → Wr h h' a (Jvm.RoadKit.slotOf Z O n d) v → OwnEnds p e below s C S Q T' m pc' Ls st) (hp : pc + 3 = pc' := by rfl) : OwnEnds p e below s C S Q T m pc Ls (v :: .ref a :: st) := by
  subst hp
  obtain ⟨T', h', X', e', W', st'⟩ := putF X hx hZ hown w via eT F E L wi hty hn hf (g := mkF m pc Ls (v :: .ref a :: st)) rfl rfl hd
  exact OwnEnds.of st' (k T' h' X' e' W')
theorem en_newO (X : Stand p l e R s m args below meth c T locs cells slots) (hx : p.tables.exec = Jvm.exec) (hZ : Z.Warmed39 s.vm) {own K : String} {index n : Nat} (hown : s.vm.findClass own = some m.cls) (w : (Jvm.Cond.classLink own index K).before a0 Z = true) (wi : (Jvm.Cond.instantiable K n).before a0 Z = true) (wz : (Jvm.Cond.initialized K).before a0 Z = true) (eT : T.heap = h) (hd : decode c.code pc = .ok (.new index, 3)) (hc : cells + 1 ≤ R.cells) (hl : slots + n ≤ R.slots)
    (k : ∀ T' h' a, a = h.size → Stand p l e R s m args below meth c T' locs (cells + 1) (slots + n) → T'.heap = h' → Ext h h' → Exa Z h' a K → (∀ {O nm d : String} {ty : FieldType}, Laid Z a0 K O nm d → parseFieldDescriptor d = some ty → Fld Z h' a O nm d (defaultValue ty)) → OwnEnds p e below s C S Q T' m pc' Ls (.ref a :: st)) (hp : pc + 3 = pc' := by rfl) : OwnEnds p e below s C S Q T m pc Ls st := by
  subst hp
  obtain ⟨T', h', X', e', E', A', D', -, st'⟩ := newO X hx hZ hown w wi wz eT (g := mkF m pc Ls st) rfl hd hc hl
  exact OwnEnds.of st' (k T' h' _ rfl X' e' E' A' D')
theorem en_newP (X : Stand p l e R s m args below meth c T locs cells slots) (hx : p.tables.exec = Jvm.exec) (hZ : Z.Warmed39 s.vm) {aty : ArrayType} (w : (Jvm.Cond.arrayClass (newarray.typeOf aty)).before a0 Z = true) (eT : T.heap = h) (hd : decode c.code pc = .ok (.newarray aty, 2)) {n : Int32} (hn : ¬ n < 0) (cap : Nat) (hcap : n.toNatClampNeg ≤ cap) (hb : cap * 8 ≤ 536870912) (hc : cells + 1 ≤ R.cells) (hl : slots + cap ≤ R.slots)
    (k : ∀ T' h' a kA, a = h.size → Stand p l e R s m args below meth c T' locs (cells + 1) (slots + cap) → T'.heap = h' → Ext h h' → Arv Z h' a kA (newarray.typeOf aty) n [] (defaultValue (newarray.typeOf aty)) → OwnEnds p e below s C S Q T' m pc' Ls (.ref a :: st)) (hp : pc + 2 = pc' := by rfl) : OwnEnds p e below s C S Q T m pc Ls (.int n :: st) := by
  subst hp
  obtain ⟨T', h', kA, X', e', E', A', st'⟩ := newP X hx hZ w eT (g := mkF m pc Ls (.int n :: st)) rfl hd rfl hn hcap hb hc hl
  exact OwnEnds.of st' (k T' h' _ kA rfl X' e' E' (Arv.new A' hn))
theorem en_initO (X : Stand p l e R s m args below meth c T locs cells slots) (hx : p.tables.exec = Jvm.exec) (hZ : Z.Warmed39 s.vm) {own : String} {idx : Nat} (hown : s.vm.findClass own = some m.cls) (w1 : (Jvm.Cond.methodLink own idx Lib.objectInit).before a0 Z = true) (w2 : (Jvm.Cond.instanceMethod Lib.objectInit).before a0 Z = true) (w3 : (Jvm.Cond.code Lib.objectInit Lib.objCode 1 none).before a0 Z = true) (eT : T.heap = h) (hsize : Ls.size = c.maxLocals) {a : Addr} (hd : decode c.code pc = .ok (.invokespecial idx, 3)) (hf : 1 ≤ R.frames) (W : Nat) (hW : (st.map fun v => v.category).sum = W) (hl : W + 12 ≤ R.locals) (k : ∀ T', Stand p l e R s m args below meth c T' locs cells slots → T'.heap = h → OwnEnds p e below s C S Q T' m pc' Ls st) (hp : pc + 3 = pc' := by rfl) : OwnEnds p e below s C S Q T m pc Ls (.ref a :: st) := by
  subst hp
  obtain ⟨T', X', e', st'⟩ := initO X hx hZ hown w1 w2 w3 eT (g := mkF m pc Ls (.ref a :: st)) rfl hsize rfl hd hf (W := W) (by show 2 * 0 + _ ≤ _; rw [hW]; omega) hl
  exact OwnEnds.of st' (k T' X' e')
theorem en_iaload (X : Stand p l e R s m args below meth c T locs cells slots) (hx : p.tables.exec = Jvm.exec) (hZ : Z.Warmed39 s.vm) (eT : T.heap = h) {a : Addr} {kA : ClassId} {n j : Int32} {vs : List Value} {dv : Value} (V : Arv Z h a kA .int n vs dv) (hj : ¬ j < 0 ∧ j < n) {x : Int32} (hv : vs.getD j.toNatClampNeg dv = .int x) (hd : decode c.code pc = .ok (.iaload, 1)) (k : OwnEnds p e below s C S Q T m pc' Ls (.int x :: st)) (hp : pc + 1 = pc' := by rfl) : OwnEnds p e below s C S Q T m pc Ls (.int j :: .ref a :: st) := by
  subst hp
  obtain ⟨cl, Ar, -, Sz, -, Hs, -⟩ := V
  have hin := inb_of Sz hj
  exact OwnEnds.of (X.iaload hx (by rw [eT]; exact Ar.1) (State.isArrayOf_alike hZ.alike Ar.2.1) Ar.2.2 hin (Hs.at hin hv) (g := mkF m pc Ls (.int j :: .ref a :: st)) rfl rfl hd) k
theorem en_laload (X : Stand p l e R s m args below meth c T locs cells slots) (hx : p.tables.exec = Jvm.exec) (hZ : Z.Warmed39 s.vm) (eT : T.heap = h) {a : Addr} {kA : ClassId} {n j : Int32} {vs : List Value} {dv : Value} (V : Arv Z h a kA .long n vs dv) (hj : ¬ j < 0 ∧ j < n) {x : Int64} (hv : vs.getD j.toNatClampNeg dv = .long x) (hd : decode c.code pc = .ok (.laload, 1)) (k : OwnEnds p e below s C S Q T m pc' Ls (.long x :: st)) (hp : pc + 1 = pc' := by rfl) : OwnEnds p e below s C S Q T m pc Ls (.int j :: .ref a :: st) := by
  subst hp
  obtain ⟨cl, Ar, -, Sz, -, Hs, -⟩ := V
  have hin := inb_of Sz hj
  exact OwnEnds.of (X.laload hx (by rw [eT]; exact Ar.1) (State.isArrayOf_alike hZ.alike Ar.2.1) Ar.2.2 hin (Hs.at hin hv) (g := mkF m pc Ls (.int j :: .ref a :: st)) rfl rfl hd) k
theorem en_len (X : Stand p l e R s m args below meth c T locs cells slots) (hx : p.tables.exec = Jvm.exec) (hZ : Z.Warmed39 s.vm) (eT : T.heap = h) {a : Addr} {kA : ClassId} {ty : FieldType} {n : Int32} {vs : List Value} {dv : Value} (V : Arv Z h a kA ty n vs dv) (hd : decode c.code pc = .ok (.arraylength, 1)) (k : OwnEnds p e below s C S Q T m pc' Ls (.int n :: st)) (hp : pc + 1 = pc' := by rfl) : OwnEnds p e below s C S Q T m pc Ls (.ref a :: st) := by
  subst hp
  obtain ⟨cl, Ar, -, Sz, Nn, -⟩ := V
  rw [← len_of Sz Nn] at k
  exact OwnEnds.of (X.arraylength hx (by rw [eT]; exact Ar.1) (State.isArrayOf_alike hZ.alike Ar.2.1) (g := mkF m pc Ls (.ref a :: st)) rfl rfl hd) k
theorem en_iastore (X : Stand p l e R s m args below meth c T locs cells slots) (hx : p.tables.exec = Jvm.exec) (hZ : Z.Warmed39 s.vm) (eT : T.heap = h) {a : Addr} {kA : ClassId} {n j : Int32} {x : Int32} {vs : List Value} {dv : Value} (V : Arv Z h a kA .int n vs dv) (hj : ¬ j < 0 ∧ j < n) (i : Nat) (hi : j.toNatClampNeg = i) (hil : i < vs.length) (hd : decode c.code pc = .ok (.iastore, 1))
    (k : ∀ T' h', Stand p l e R s m args below meth c T' (locs ++ [⟨a, j.toNatClampNeg⟩]) cells slots → T'.heap = h' → Wr h h' a j.toNatClampNeg (.int x) → Arv Z h' a kA .int n (vs.set i (.int x)) dv → OwnEnds p e below s C S Q T' m pc' Ls st) (hp : pc + 1 = pc' := by rfl) : OwnEnds p e below s C S Q T m pc Ls (.int x :: .int j :: .ref a :: st) := by
  subst hp
  obtain ⟨cl, Ar, q1, Sz, Nn, Hs, G⟩ := V
  have hin := inb_of Sz hj
  obtain ⟨T', h', X', e', W', st'⟩ := stI X hx hZ eT Ar hin (g := mkF m pc Ls (.int x :: .int j :: .ref a :: st)) rfl rfl hd
  exact OwnEnds.of st' (k T' h' X' e' W' (Arv.set Ar q1 Sz Nn Hs G rfl W' i hi hil))
theorem en_lastore (X : Stand p l e R s m args below meth c T locs cells slots) (hx : p.tables.exec = Jvm.exec) (hZ : Z.Warmed39 s.vm) (eT : T.heap = h) {a : Addr} {kA : ClassId} {n j : Int32} {x : Int64} {vs : List Value} {dv : Value} (V : Arv Z h a kA .long n vs dv) (hj : ¬ j < 0 ∧ j < n) (i : Nat) (hi : j.toNatClampNeg = i) (hil : i < vs.length) (hd : decode c.code pc = .ok (.lastore, 1))
    (k : ∀ T' h', Stand p l e R s m args below meth c T' (locs ++ [⟨a, j.toNatClampNeg⟩]) cells slots → T'.heap = h' → Wr h h' a j.toNatClampNeg (.long x) → Arv Z h' a kA .long n (vs.set i (.long x)) dv → OwnEnds p e below s C S Q T' m pc' Ls st) (hp : pc + 1 = pc' := by rfl) : OwnEnds p e below s C S Q T m pc Ls (.long x :: .int j :: .ref a :: st) := by
  subst hp
  obtain ⟨cl, Ar, q1, Sz, Nn, Hs, G⟩ := V
  have hin := inb_of Sz hj
  obtain ⟨T', h', X', e', W', st'⟩ := stJ X hx hZ eT Ar hin (g := mkF m pc Ls (.long x :: .int j :: .ref a :: st)) rfl rfl hd
  exact OwnEnds.of st' (k T' h' X' e' W' (Arv.set Ar q1 Sz Nn Hs G rfl W' i hi hil))
theorem en_callS (X : Stand p l e R s m args below meth c T locs cells slots) (hx : p.tables.exec = Jvm.exec) (hZ : Z.Warmed39 s.vm) {y : MethodName} {bytes : ByteArray} {maxL : Nat} {ret : Option FieldType} {rm : Room} {Qc : Option Value → Heap → List Loc → Prop} {argsL : List Value}  {own : String} {index : Nat} (hown : s.vm.findClass own = some m.cls) (w1 : (Jvm.Cond.methodLink own index y).before a0 Z = true) (w2 : (Jvm.Cond.static y).before a0 Z = true) (wz : (Jvm.Cond.initialized y.cls).before a0 Z = true) (wc : (Jvm.Cond.code y bytes maxL ret).before a0 Z = true) (hy : y.cls ≠ "java/lang/invoke/MethodHandle" ∧ y.cls ≠ "java/lang/invoke/VarHandle") (hM : OwnMeets l Z y bytes maxL ret [] rm argsL.toArray h Qc) (eT : T.heap = h) (hf : rm.frames + 1 ≤ R.frames) (W : Nat) (hW : (rest.map fun v => v.category).sum = W) (hl : W + (maxL + 11) + rm.locals ≤ R.locals) (hcl : cells + rm.cells ≤ R.cells) (hsl : slots + rm.slots ≤ R.slots) (hsz : Ls.size = c.maxLocals) (hlen : ∀ sig, parseMethodDescriptor y.desc = some sig → argsL.length = sig.parameters.length) (hst : st = argsL.reverse ++ rest) (hd : decode c.code pc = .ok (.invokestatic index, 3)) (k : ∀ v T' L, Stand p l e R s m args below meth c T' (locs ++ L) (cells + rm.cells) (slots + rm.slots) → Qc v T'.heap L → OwnEnds p e below s C S Q T' m pc' Ls (v.toList ++ rest)) (hp : pc + 3 = pc' := by rfl) : OwnEnds p e below s C S Q T m pc Ls st := by
  subst hp hst
  obtain ⟨v, vm', ⟨T', L', k', n'⟩, -, X', ⟨Lc, hQ, l1, l2, l3⟩, st'⟩ := Jvm.LawKit.callS X hx (y := y) hown (mvT hZ w1) (mvT hZ w2) (mvT hZ wz) (mvT hZ wc) hy (backOf (W := W) hM hZ wc wz hf hl)  (g := mkF m pc Ls (argsL.reverse ++ rest)) rfl hsz  (argsL := argsL) (rest := rest) hlen rfl (by show 2 * 0 + _ ≤ _; rw [hW]; omega) hd (fun _ _ => ⟨rfl, eT, hcl, hsl⟩)
  dsimp only [Pt.U, Pt.locs, Pt.cells, Pt.slots] at X' l1 l2 l3 st' hQ
  subst l1 l2 l3
  exact OwnEnds.of st' (k v T' Lc X' hQ)
theorem en_callN (X : Stand p l e R s m args below meth c T locs cells slots) (hx : p.tables.exec = Jvm.exec) (hZ : Z.Warmed39 s.vm) {y : MethodName} {bytes : ByteArray} {maxL : Nat} {rm : Room} {Qc : Option Value → Heap → List Loc → Prop} {argsL : List Value} {a : Addr}  {own : String} {index : Nat} (hown : s.vm.findClass own = some m.cls) (hin : y.name = "<init>") (w1 : (Jvm.Cond.methodLink own index y).before a0 Z = true) (w2 : (Jvm.Cond.instanceMethod y).before a0 Z = true) (wz : (Jvm.Cond.initialized y.cls).before a0 Z = true) (wc : (Jvm.Cond.code y bytes maxL none).before a0 Z = true) (hy : y.cls ≠ "java/lang/invoke/MethodHandle" ∧ y.cls ≠ "java/lang/invoke/VarHandle") (hM : OwnMeets l Z y bytes maxL none [] rm (.ref a :: argsL).toArray h Qc) (eT : T.heap = h) (hf : rm.frames + 1 ≤ R.frames) (W : Nat) (hW : (rest.map fun v => v.category).sum = W) (hl : W + (maxL + 11) + rm.locals ≤ R.locals) (hcl : cells + rm.cells ≤ R.cells) (hsl : slots + rm.slots ≤ R.slots) (hsz : Ls.size = c.maxLocals) (hlen : ∀ sig, parseMethodDescriptor y.desc = some sig → argsL.length = sig.parameters.length) (hst : st = argsL.reverse ++ .ref a :: rest) (hd : decode c.code pc = .ok (.invokespecial index, 3)) (k : ∀ v T' L, Stand p l e R s m args below meth c T' (locs ++ L) (cells + rm.cells) (slots + rm.slots) → Qc v T'.heap L → OwnEnds p e below s C S Q T' m pc' Ls (v.toList ++ rest)) (hp : pc + 3 = pc' := by rfl) : OwnEnds p e below s C S Q T m pc Ls st := by
  subst hp hst
  obtain ⟨v, vm', ⟨T', L', k', n'⟩, -, X', ⟨Lc, hQ, l1, l2, l3⟩, st'⟩ := X.specialBack hx (y := y) hin hown (mvT hZ w1) (mvT hZ w2) (mvT hZ wc) hy (backOf (W := W) hM hZ wc wz hf hl)  (g := mkF m pc Ls (argsL.reverse ++ .ref a :: rest)) rfl hsz (Steps.refl _) (a := a) (argsL := argsL) (rest := rest) hlen rfl (by show 2 * 0 + _ ≤ _; rw [hW]; omega) hd (fun _ _ => ⟨rfl, eT, hcl, hsl⟩)
  dsimp only [Pt.U, Pt.locs, Pt.cells, Pt.slots] at X' l1 l2 l3 st' hQ
  subst l1 l2 l3
  exact OwnEnds.of (fun _ k => st'.trans k) (k v T' Lc X' hQ)
theorem en_callV (X : Stand p l e R s m args below meth c T locs cells slots) (hx : p.tables.exec = Jvm.exec) (hZ : Z.Warmed39 s.vm) {y : MethodName} {bytes : ByteArray} {maxL : Nat} {ret : Option FieldType} {rm : Room} {Qc : Option Value → Heap → List Loc → Prop} {argsL : List Value} {a : Addr} {z : MethodName} {K : String} {own : String} {index : Nat} (hown : s.vm.findClass own = some m.cls) (w1 : (Jvm.Cond.methodLink own index y).before a0 Z = true) (w2 : (Jvm.Cond.declares y).before a0 Z = true) (nf : NotFace s y) (w3 : (Jvm.Cond.selects K y z).before a0 Z = true) (w4 : (Jvm.Cond.instanceMethod z).before a0 Z = true) (wz : (Jvm.Cond.initialized z.cls).before a0 Z = true) (wc : (Jvm.Cond.code z bytes maxL ret).before a0 Z = true) (Ex : Exa Z h a K) (hy : y.cls ≠ "java/lang/invoke/MethodHandle" ∧ y.cls ≠ "java/lang/invoke/VarHandle") (hM : OwnMeets l Z z bytes maxL ret [] rm (.ref a :: argsL).toArray h Qc) (eT : T.heap = h) (hf : rm.frames + 1 ≤ R.frames) (W : Nat) (hW : (rest.map fun v => v.category).sum = W) (hl : W + (maxL + 11) + rm.locals ≤ R.locals) (hcl : cells + rm.cells ≤ R.cells) (hsl : slots + rm.slots ≤ R.slots) (hsz : Ls.size = c.maxLocals) (hlen : ∀ sig, parseMethodDescriptor y.desc = some sig → argsL.length = sig.parameters.length) (hst : st = argsL.reverse ++ .ref a :: rest) (hd : decode c.code pc = .ok (.invokevirtual index, 3)) (k : ∀ v T' L, Stand p l e R s m args below meth c T' (locs ++ L) (cells + rm.cells) (slots + rm.slots) → Qc v T'.heap L → OwnEnds p e below s C S Q T' m pc' Ls (v.toList ++ rest)) (hp : pc + 3 = pc' := by rfl) : OwnEnds p e below s C S Q T m pc Ls st := by
  subst hp hst
  obtain ⟨cq, kq, qa, qb, qc⟩ := isOf hZ eT Ex
  obtain ⟨v, vm', ⟨T', L', k', n'⟩, -, X', ⟨Lc, hQ, l1, l2, l3⟩, st'⟩ := X.virtualBack hx (y := y) (z := z) hown (mvT hZ w1) (mvT hZ w2) nf (mvT hZ w3) (mvT hZ w4) hy (backOf (W := W) hM hZ wc wz hf hl) qa qc (g := mkF m pc Ls (argsL.reverse ++ .ref a :: rest)) rfl hsz (Steps.refl _) (argsL := argsL) (rest := rest) hlen rfl (by show 2 * 0 + _ ≤ _; rw [hW]; omega) hd (fun _ _ => ⟨rfl, eT, hcl, hsl⟩)
  dsimp only [Pt.U, Pt.locs, Pt.cells, Pt.slots] at X' l1 l2 l3 st' hQ
  subst l1 l2 l3
  exact OwnEnds.of (fun _ k => st'.trans k) (k v T' Lc X' hQ)
theorem en_callU (X : Stand p l e R s m args below meth c T locs cells slots) (hx : p.tables.exec = Jvm.exec) (hZ : Z.Warmed39 s.vm) {y : MethodName} {bytes : ByteArray} {maxL : Nat} {ret : Option FieldType} {rm : Room} {Qc : Option Value → Heap → List Loc → Prop} {argsL : List Value} {a : Addr} {z : MethodName} {K owner : String} {own : String} {index : Nat} (hown : s.vm.findClass own = some m.cls) (w1 : (Jvm.Cond.methodLink own index y).before a0 Z = true) (w2 : (Jvm.Cond.sameMethod y.cls owner y.name y.desc).before a0 Z = true) (w2' : (Jvm.Cond.declares ⟨owner, y.name, y.desc⟩).before a0 Z = true) (w3 : (Jvm.Cond.selects K y z).before a0 Z = true) (w4 : (Jvm.Cond.instanceMethod z).before a0 Z = true) (wz : (Jvm.Cond.initialized z.cls).before a0 Z = true) (wc : (Jvm.Cond.code z bytes maxL ret).before a0 Z = true) (Ex : Exa Z h a K) (hy : owner ≠ "java/lang/invoke/MethodHandle" ∧ owner ≠ "java/lang/invoke/VarHandle") (hM : OwnMeets l Z z bytes maxL ret [] rm (.ref a :: argsL).toArray h Qc) (eT : T.heap = h) (hf : rm.frames + 1 ≤ R.frames) (W : Nat) (hW : (rest.map fun v => v.category).sum = W) (hl : W + (maxL + 11) + rm.locals ≤ R.locals) (hcl : cells + rm.cells ≤ R.cells) (hsl : slots + rm.slots ≤ R.slots) (hsz : Ls.size = c.maxLocals) (hlen : ∀ sig, parseMethodDescriptor y.desc = some sig → argsL.length = sig.parameters.length) (hst : st = argsL.reverse ++ .ref a :: rest) (hd : decode c.code pc = .ok (.invokevirtual index, 3)) (k : ∀ v T' L, Stand p l e R s m args below meth c T' (locs ++ L) (cells + rm.cells) (slots + rm.slots) → Qc v T'.heap L → OwnEnds p e below s C S Q T' m pc' Ls (v.toList ++ rest)) (hp : pc + 3 = pc' := by rfl) : OwnEnds p e below s C S Q T m pc Ls st := by
  subst hp hst
  obtain ⟨cq, kq, qa, qb, qc⟩ := isOf hZ eT Ex
  obtain ⟨v, vm', ⟨T', L', k', n'⟩, -, X', ⟨Lc, hQ, l1, l2, l3⟩, st'⟩ := X.virtualBackUp hx (owner := owner) (x := y) (y := z) hown (mvT hZ w1) (mvT hZ w2) (mvT hZ w2') hy (mvT hZ w3) (mvT hZ w4) (backOf (W := W) hM hZ wc wz hf hl) qa qc (g := mkF m pc Ls (argsL.reverse ++ .ref a :: rest)) rfl hsz (Steps.refl _) (argsL := argsL) (rest := rest) hlen rfl (by show 2 * 0 + _ ≤ _; rw [hW]; omega) hd (fun _ _ => ⟨rfl, eT, hcl, hsl⟩)
  dsimp only [Pt.U, Pt.locs, Pt.cells, Pt.slots] at X' l1 l2 l3 st' hQ
  subst l1 l2 l3
  exact OwnEnds.of (fun _ k => st'.trans k) (k v T' Lc X' hQ)
theorem en_callI (X : Stand p l e R s m args below meth c T locs cells slots) (hx : p.tables.exec = Jvm.exec) (hZ : Z.Warmed39 s.vm) {y : MethodName} {bytes : ByteArray} {maxL : Nat} {ret : Option FieldType} {rm : Room} {Qc : Option Value → Heap → List Loc → Prop} {argsL : List Value} {a : Addr} {z : MethodName} {K : String} {own : String} {index count : Nat} (hown : s.vm.findClass own = some m.cls) (w1 : (Jvm.Cond.methodLink own index y).before a0 Z = true) (w2 : (Jvm.Cond.declares y).before a0 Z = true) (w3 : (Jvm.Cond.interfaceMethod y.cls y.cls y.name y.desc).before args s = true) (w4 : (Jvm.Cond.selects K y z).before a0 Z = true) (w5 : (Jvm.Cond.instanceMethod z).before a0 Z = true) (w6 : (Jvm.Cond.publicMethod z).before a0 Z = true) (w7 : (Jvm.Cond.unhidden K y.name y.desc).before a0 Z = true) (w8 : (Jvm.Cond.castable K y.cls).before a0 Z = true) (wz : (Jvm.Cond.initialized z.cls).before a0 Z = true) (wc : (Jvm.Cond.code z bytes maxL ret).before a0 Z = true) (Ex : Exa Z h a K) (hy : y.cls ≠ "java/lang/invoke/MethodHandle" ∧ y.cls ≠ "java/lang/invoke/VarHandle") (hM : OwnMeets l Z z bytes maxL ret [] rm (.ref a :: argsL).toArray h Qc) (eT : T.heap = h) (hf : rm.frames + 1 ≤ R.frames) (W : Nat) (hW : (rest.map fun v => v.category).sum = W) (hl : W + (maxL + 11) + rm.locals ≤ R.locals) (hcl : cells + rm.cells ≤ R.cells) (hsl : slots + rm.slots ≤ R.slots) (hsz : Ls.size = c.maxLocals) (hlen : ∀ sig, parseMethodDescriptor y.desc = some sig → argsL.length = sig.parameters.length) (hst : st = argsL.reverse ++ .ref a :: rest) (hd : decode c.code pc = .ok (.invokeinterface index count, 5)) (k : ∀ v T' L, Stand p l e R s m args below meth c T' (locs ++ L) (cells + rm.cells) (slots + rm.slots) → Qc v T'.heap L → OwnEnds p e below s C S Q T' m pc' Ls (v.toList ++ rest)) (hp : pc + 5 = pc' := by rfl) : OwnEnds p e below s C S Q T m pc Ls st := by
  subst hp hst
  obtain ⟨cq, kq, qa, qb, qc⟩ := isOf hZ eT Ex
  obtain ⟨v, vm', ⟨T', L', k', n'⟩, -, X', ⟨Lc, hQ, l1, l2, l3⟩, st'⟩ := X.interfaceBack hx (xi := y) (y := z) hown (mvT hZ w1) (mvT hZ w2) w3 (mvT hZ w4) (mvT hZ w5) (mvT hZ w6) (mvT hZ w7) (mvT hZ w8) hy (backOf (W := W) hM hZ wc wz hf hl) qa qb qc (g := mkF m pc Ls (argsL.reverse ++ .ref a :: rest)) rfl hsz (Steps.refl _) (argsL := argsL) (rest := rest) hlen rfl (by show 2 * 0 + _ ≤ _; rw [hW]; omega) hd (fun _ _ => ⟨rfl, eT, hcl, hsl⟩)
  dsimp only [Pt.U, Pt.locs, Pt.cells, Pt.slots] at X' l1 l2 l3 st' hQ
  subst l1 l2 l3
  exact OwnEnds.of (fun _ k => st'.trans k) (k v T' Lc X' hQ)
theorem self_private {y x1 y1 : MethodName} {K : String} (hp : s.PrivateAt y) (hinst : (Jvm.Cond.instanceMethod y).before args s = true) (hy : y.cls ≠ "java/lang/invoke/MethodHandle" ∧ y.cls ≠ "java/lang/invoke/VarHandle") (hsel : (Jvm.Cond.selects K x1 y1).before args s = true) (hc : y1.cls = y.cls) : (Jvm.Cond.selects y.cls y y).before args s = true := by
  obtain ⟨c, r, m, q1, q2, q3, q4, k, hk, hki⟩ := Cond.selects_spec hsel
  have q := findClass_of_methodNamed q3
  rw [hc] at q
  exact selects_self_of_private q hk hki hp hinst hy
theorem nf_by {y x1 y1 : MethodName} {K : String} (hsel : (Jvm.Cond.selects K x1 y1).before args s = true) (hc : y1.cls = y.cls) : NotFace s y := fun r0 h0 => by
  obtain ⟨c, r, m, q1, q2, q3, q4, k, hk, hki⟩ := Cond.selects_spec hsel
  have q := findClass_of_methodNamed q3
  rw [hc, findClass_of_methodNamed h0] at q
  exact ⟨k, by rw [Option.some.inj q]; exact hk, hki⟩
theorem en_callQ (X : Stand p l e R s m args below meth c T locs cells slots) (hx : p.tables.exec = Jvm.exec) (hZ : Z.Warmed39 s.vm) {y : MethodName} {bytes : ByteArray} {maxL : Nat} {ret : Option FieldType} {rm : Room} {Qc : Option Value → Heap → List Loc → Prop} {argsL : List Value} {a : Addr} {K C1 : String} {x1 y1 : MethodName} {own : String} {index : Nat} (hown : s.vm.findClass own = some m.cls) (w1 : (Jvm.Cond.methodLink own index y).before a0 Z = true) (w2 : (Jvm.Cond.instanceMethod y).before a0 Z = true) (w3 : (Jvm.Cond.privateMethod y).before a0 Z = true) (w4 : (Jvm.Cond.selects C1 x1 y1).before a0 Z = true) (hc1 : y1.cls = y.cls) (wz : (Jvm.Cond.initialized y.cls).before a0 Z = true) (wc : (Jvm.Cond.code y bytes maxL ret).before a0 Z = true) (Ex : Exa Z h a K) (hy : y.cls ≠ "java/lang/invoke/MethodHandle" ∧ y.cls ≠ "java/lang/invoke/VarHandle") (hM : OwnMeets l Z y bytes maxL ret [] rm (.ref a :: argsL).toArray h Qc) (eT : T.heap = h) (hf : rm.frames + 1 ≤ R.frames) (W : Nat) (hW : (rest.map fun v => v.category).sum = W) (hl : W + (maxL + 11) + rm.locals ≤ R.locals) (hcl : cells + rm.cells ≤ R.cells) (hsl : slots + rm.slots ≤ R.slots) (hsz : Ls.size = c.maxLocals) (hlen : ∀ sig, parseMethodDescriptor y.desc = some sig → argsL.length = sig.parameters.length) (hst : st = argsL.reverse ++ .ref a :: rest) (hd : decode c.code pc = .ok (.invokevirtual index, 3)) (k : ∀ v T' L, Stand p l e R s m args below meth c T' (locs ++ L) (cells + rm.cells) (slots + rm.slots) → Qc v T'.heap L → OwnEnds p e below s C S Q T' m pc' Ls (v.toList ++ rest)) (hp : pc + 3 = pc' := by rfl) : OwnEnds p e below s C S Q T m pc Ls st := by
  subst hp hst
  obtain ⟨cq, q1, q2⟩ := Ex.cell
  obtain ⟨v, vm', ⟨T', L', k', n'⟩, -, X', ⟨Lc, hQ, l1, l2, l3⟩, st'⟩ := X.privateBack hx (y := y) hown (mvT hZ w1) (mvT hZ w2) (self_private (Cond.privateMethod_at (mvP hZ w3 (args := #[]))) (mvT hZ w2) hy (mvT hZ w4) hc1) (Cond.privateMethod_at (mvP hZ w3 (args := #[]))) (mvT hZ wc) hy (backOf (W := W) hM hZ wc wz hf hl)  (g := mkF m pc Ls (argsL.reverse ++ .ref a :: rest)) rfl hsz (Steps.refl _) (a := a) (by rw [eT]; exact q1) q2 (argsL := argsL) (rest := rest) hlen rfl (by show 2 * 0 + _ ≤ _; rw [hW]; omega) hd (fun _ _ => ⟨rfl, eT, hcl, hsl⟩)
  dsimp only [Pt.U, Pt.locs, Pt.cells, Pt.slots] at X' l1 l2 l3 st' hQ
  subst l1 l2 l3
  exact OwnEnds.of (fun _ k => st'.trans k) (k v T' Lc X' hQ)
def PQ (w : Value) (h : Heap) : Option Value → Heap → List Loc → Prop := fun v h' L => v = some w ∧ h' = h ∧ L = []
theorem en_callP (X : Stand p l e R s m args below meth c T locs cells slots) (hx : p.tables.exec = Jvm.exec) (hZ : Z.Warmed39 s.vm) {y : MethodName} {bytes : ByteArray} {maxL : Nat} {ret : Option FieldType} {fr lo : Nat} {w : Value} {argsL : List Value} {own : String} {index : Nat} (hown : s.vm.findClass own = some m.cls) (w1 : (Jvm.Cond.methodLink own index y).before a0 Z = true) (w2 : (Jvm.Cond.static y).before a0 Z = true) (wz : (Jvm.Cond.initialized y.cls).before a0 Z = true) (wc : (Jvm.Cond.code y bytes maxL ret).before a0 Z = true) (hy : y.cls ≠ "java/lang/invoke/MethodHandle" ∧ y.cls ≠ "java/lang/invoke/VarHandle") (hM : OwnMeets l Z y bytes maxL ret [] ({ frames := fr, cells := 0, slots := 0, locals := lo } : Room) argsL.toArray h (PQ w h)) (eT : T.heap = h) (hf : fr + 1 ≤ R.frames) (W : Nat) (hW : (rest.map fun v => v.category).sum = W) (hl : W + (maxL + 11) + lo ≤ R.locals) (hcl : cells ≤ R.cells) (hsl : slots ≤ R.slots) (hsz : Ls.size = c.maxLocals) (hlen : ∀ sig, parseMethodDescriptor y.desc = some sig → argsL.length = sig.parameters.length) (hst : st = argsL.reverse ++ rest) (hd : decode c.code pc = .ok (.invokestatic index, 3)) (k : ∀ T', Stand p l e R s m args below meth c T' locs cells slots → T'.heap = h → OwnEnds p e below s C S Q T' m pc' Ls (w :: rest)) (hp : pc + 3 = pc' := by rfl) : OwnEnds p e below s C S Q T m pc Ls st := by
  refine en_callS X hx hZ hown w1 w2 wz wc hy hM eT hf W hW hl hcl hsl hsz hlen hst hd (fun v T' L X' q => ?_) hp
  obtain ⟨rfl, q2, rfl⟩ := q
  rw [List.append_nil] at X'
  exact k T' X' q2
theorem en_callVP (X : Stand p l e R s m args below meth c T locs cells slots) (hx : p.tables.exec = Jvm.exec) (hZ : Z.Warmed39 s.vm) {y z : MethodName} {K : String} {bytes : ByteArray} {maxL : Nat} {ret : Option FieldType} {fr lo : Nat} {w : Value} {a : Addr} {argsL : List Value} {own : String} {index : Nat} (hown : s.vm.findClass own = some m.cls) (w1 : (Jvm.Cond.methodLink own index y).before a0 Z = true) (w2 : (Jvm.Cond.declares y).before a0 Z = true) (nf : NotFace s y) (w3 : (Jvm.Cond.selects K y z).before a0 Z = true) (w4 : (Jvm.Cond.instanceMethod z).before a0 Z = true) (wz : (Jvm.Cond.initialized z.cls).before a0 Z = true) (wc : (Jvm.Cond.code z bytes maxL ret).before a0 Z = true) (Ex : Exa Z h a K) (hy : y.cls ≠ "java/lang/invoke/MethodHandle" ∧ y.cls ≠ "java/lang/invoke/VarHandle") (hM : OwnMeets l Z z bytes maxL ret [] ({ frames := fr, cells := 0, slots := 0, locals := lo } : Room) (.ref a :: argsL).toArray h (PQ w h)) (eT : T.heap = h) (hf : fr + 1 ≤ R.frames) (W : Nat) (hW : (rest.map fun v => v.category).sum = W) (hl : W + (maxL + 11) + lo ≤ R.locals) (hcl : cells ≤ R.cells) (hsl : slots ≤ R.slots) (hsz : Ls.size = c.maxLocals) (hlen : ∀ sig, parseMethodDescriptor y.desc = some sig → argsL.length = sig.parameters.length) (hst : st = argsL.reverse ++ .ref a :: rest) (hd : decode c.code pc = .ok (.invokevirtual index, 3)) (k : ∀ T', Stand p l e R s m args below meth c T' locs cells slots → T'.heap = h → OwnEnds p e below s C S Q T' m pc' Ls (w :: rest)) (hp : pc + 3 = pc' := by rfl) : OwnEnds p e below s C S Q T m pc Ls st := by
  refine en_callV X hx hZ hown w1 w2 nf w3 w4 wz wc Ex hy hM eT hf W hW hl hcl hsl hsz hlen hst hd (fun v T' L X' q => ?_) hp
  obtain ⟨rfl, q2, rfl⟩ := q
  rw [List.append_nil] at X'
  exact k T' X' q2
theorem en_newPE (X : Stand p l e R s m args below meth c T locs cells slots) (hx : p.tables.exec = Jvm.exec) (hZ : Z.Warmed39 s.vm) {aty : ArrayType} (w : (Jvm.Cond.arrayClass (newarray.typeOf aty)).before a0 Z = true) (eT : T.heap = h) (hd : decode c.code pc = .ok (.newarray aty, 2)) {n : Int32} (hn : ¬ n < 0) (cap : Nat) (hcap : n.toNatClampNeg ≤ cap) (hb : cap * 8 ≤ 536870912) (hc : cells + 1 ≤ R.cells) (hl : slots + cap ≤ R.slots) {ad : String} (had : "[" ++ (newarray.typeOf aty).toString = ad)
    (k : ∀ T' h' a kA, a = h.size → Stand p l e R s m args below meth c T' locs (cells + 1) (slots + cap) → T'.heap = h' → Ext h h' → Arv Z h' a kA (newarray.typeOf aty) n [] (defaultValue (newarray.typeOf aty)) → Exa Z h' a ad → OwnEnds p e below s C S Q T' m pc' Ls (.ref a :: st)) (hp : pc + 2 = pc' := by rfl) : OwnEnds p e below s C S Q T m pc Ls (.int n :: st) := by
  subst hp
  obtain ⟨T', h', kA, X', e', E', A', Ex', st'⟩ := newPE X hx hZ w eT (g := mkF m pc Ls (.int n :: st)) rfl hd rfl hn hcap hb hc hl had
  exact OwnEnds.of st' (k T' h' _ kA rfl X' e' E' (Arv.new A' hn) Ex')
theorem en_newR (X : Stand p l e R s m args below meth c T locs cells slots) (hx : p.tables.exec = Jvm.exec) (hZ : Z.Warmed39 s.vm) {own K : String} {index : Nat} (hown : s.vm.findClass own = some m.cls) (w1 : (Jvm.Cond.classLink own index K).before a0 Z = true) (w2 : (Jvm.Cond.arrayOver (.object K)).before a0 Z = true) (eT : T.heap = h) (hd : decode c.code pc = .ok (.anewarray index, 3)) {n : Int32} (hn : ¬ n < 0) (cap : Nat) (hcap : n.toNatClampNeg ≤ cap) (hb : cap * 8 ≤ 536870912) (hc : cells + 1 ≤ R.cells) (hl : slots + cap ≤ R.slots)
    (k : ∀ T' h' a kA, a = h.size → Stand p l e R s m args below meth c T' locs (cells + 1) (slots + cap) → T'.heap = h' → Ext h h' → Arv Z h' a kA (.object K) n [] (defaultValue (.object K)) → Ovr Z kA K → OwnEnds p e below s C S Q T' m pc' Ls (.ref a :: st)) (hp : pc + 3 = pc' := by rfl) : OwnEnds p e below s C S Q T m pc Ls (.int n :: st) := by
  subst hp
  obtain ⟨T', h', kA, X', e', E', A', O', st'⟩ := newR X hx hZ hown w1 w2 eT (g := mkF m pc Ls (.int n :: st)) rfl hd rfl hn hcap hb hc hl
  exact OwnEnds.of st' (k T' h' _ kA rfl X' e' E' (Arv.new A' hn) O')
theorem en_aastore (X : Stand p l e R s m args below meth c T locs cells slots) (hx : p.tables.exec = Jvm.exec) (hZ : Z.Warmed39 s.vm) (eT : T.heap = h) {a y : Addr} {kA : ClassId} {K : String} {n j : Int32} {vs : List Value} {dv : Value} (V : Arv Z h a kA (.object K) n vs dv) (O : Ovr Z kA K) (I : Ins Z h y K true) (hj : ¬ j < 0 ∧ j < n) (i : Nat) (hi : j.toNatClampNeg = i) (hil : i < vs.length) (hd : decode c.code pc = .ok (.aastore, 1))
    (k : ∀ T' h', Stand p l e R s m args below meth c T' (locs ++ [⟨a, j.toNatClampNeg⟩]) cells slots → T'.heap = h' → Wr h h' a j.toNatClampNeg (.ref y) → Arv Z h' a kA (.object K) n (vs.set i (.ref y)) dv → OwnEnds p e below s C S Q T' m pc' Ls st) (hp : pc + 1 = pc' := by rfl) : OwnEnds p e below s C S Q T m pc Ls (.ref y :: .int j :: .ref a :: st) := by
  subst hp
  obtain ⟨cl, Ar, q1, Sz, Nn, Hs, G⟩ := V
  have hin := inb_of Sz hj
  obtain ⟨T', h', X', e', W', st'⟩ := stR X hx hZ eT Ar hin rfl (Sto.ofV Ar q1 O I) (g := mkF m pc Ls (.ref y :: .int j :: .ref a :: st)) rfl rfl hd
  exact OwnEnds.of st' (k T' h' X' e' W' (Arv.set Ar q1 Sz Nn Hs G rfl W' i hi hil))
theorem en_acmpYes (X : Stand p l e R s m args below meth c T locs cells slots) (hx : p.tables.exec = Jvm.exec) {cd : ClassFile.ACond} {o : Int} {a b : Addr} (hd : decode c.code pc = .ok (.if_acmp cd o, 3)) (hc : if_acmp.holds cd (some a) (some b) = true) (k : OwnEnds p e below s C S Q T m pc' Ls st) (ho : 0 ≤ (pc : Int) + o := by decide) (hp : ((pc : Int) + o).toNat = pc' := by decide) : OwnEnds p e below s C S Q T m pc Ls (.ref b :: .ref a :: st) :=
  OwnEnds.of (fun _ k => XS.acmpYes X.here hx (g := mkF m pc Ls (.ref b :: .ref a :: st)) rfl rfl hd rfl hc ho hp k) k
theorem en_callIP (X : Stand p l e R s m args below meth c T locs cells slots) (hx : p.tables.exec = Jvm.exec) (hZ : Z.Warmed39 s.vm) {y z : MethodName} {K : String} {bytes : ByteArray} {maxL : Nat} {ret : Option FieldType} {fr lo : Nat} {w : Value} {a : Addr} {argsL : List Value} {own : String} {index count : Nat} (hown : s.vm.findClass own = some m.cls) (w1 : (Jvm.Cond.methodLink own index y).before a0 Z = true) (w2 : (Jvm.Cond.declares y).before a0 Z = true) (w3 : (Jvm.Cond.interfaceMethod y.cls y.cls y.name y.desc).before args s = true) (w4 : (Jvm.Cond.selects K y z).before a0 Z = true) (w5 : (Jvm.Cond.instanceMethod z).before a0 Z = true) (w6 : (Jvm.Cond.publicMethod z).before a0 Z = true) (w7 : (Jvm.Cond.unhidden K y.name y.desc).before a0 Z = true) (w8 : (Jvm.Cond.castable K y.cls).before a0 Z = true) (wz : (Jvm.Cond.initialized z.cls).before a0 Z = true) (wc : (Jvm.Cond.code z bytes maxL ret).before a0 Z = true) (Ex : Exa Z h a K) (hy : y.cls ≠ "java/lang/invoke/MethodHandle" ∧ y.cls ≠ "java/lang/invoke/VarHandle") (hM : OwnMeets l Z z bytes maxL ret [] ({ frames := fr, cells := 0, slots := 0, locals := lo } : Room) (.ref a :: argsL).toArray h (PQ w h)) (eT : T.heap = h) (hf : fr + 1 ≤ R.frames) (W : Nat) (hW : (rest.map fun v => v.category).sum = W) (hl : W + (maxL + 11) + lo ≤ R.locals) (hcl : cells ≤ R.cells) (hsl : slots ≤ R.slots) (hsz : Ls.size = c.maxLocals) (hlen : ∀ sig, parseMethodDescriptor y.desc = some sig → argsL.length = sig.parameters.length) (hst : st = argsL.reverse ++ .ref a :: rest) (hd : decode c.code pc = .ok (.invokeinterface index count, 5)) (k : ∀ T', Stand p l e R s m args below meth c T' locs cells slots → T'.heap = h → OwnEnds p e below s C S Q T' m pc' Ls (w :: rest)) (hp : pc + 5 = pc' := by rfl) : OwnEnds p e below s C S Q T m pc Ls st := by
  refine en_callI X hx hZ hown w1 w2 w3 w4 w5 w6 w7 w8 wz wc Ex hy hM eT hf W hW hl hcl hsl hsz hlen hst hd (fun v T' L X' q => ?_) hp
  obtain ⟨rfl, q2, rfl⟩ := q
  rw [List.append_nil] at X'
  exact k T' X' q2
end Kit
end Jvm.OwnKit
namespace Jvm.Pilot.@@N@@
open Jvm Jvm.ClassFile Sem Op Lib Jvm.Free Jvm.Stand Jvm.LawKit Jvm.RoadKit Bundle Jvm.OwnKit Jvm.Pilot.@@N@@.Jvm.D
theorem d1_0 : decode prog_112_method_6_code 0 = .ok (.iconst 0, 1) := by decide +kernel
theorem d1_1 : decode prog_112_method_6_code 1 = .ok (.istore 4, 2) := by decide +kernel
theorem d1_3 : decode prog_112_method_6_code 3 = .ok (.iload_n 1, 1) := by decide +kernel
theorem d1_4 : decode prog_112_method_6_code 4 = .ok (.istore 5, 2) := by decide +kernel
theorem d1_6 : decode prog_112_method_6_code 6 = .ok (.iload 5, 2) := by decide +kernel
theorem d1_8 : decode prog_112_method_6_code 8 = .ok (.iload 4, 2) := by decide +kernel
theorem d1_10 : decode prog_112_method_6_code 10 = .ok (.isub, 1) := by decide +kernel
theorem d1_11 : decode prog_112_method_6_code 11 = .ok (.iconst 1, 1) := by decide +kernel
theorem d1_12 : decode prog_112_method_6_code 12 = .ok (.if_icmp .le 35, 3) := by decide +kernel
theorem d1_15 : decode prog_112_method_6_code 15 = .ok (.iload 4, 2) := by decide +kernel
theorem d1_17 : decode prog_112_method_6_code 17 = .ok (.iload 5, 2) := by decide +kernel
theorem d1_19 : decode prog_112_method_6_code 19 = .ok (.iadd, 1) := by decide +kernel
theorem d1_20 : decode prog_112_method_6_code 20 = .ok (.iconst 1, 1) := by decide +kernel
theorem d1_21 : decode prog_112_method_6_code 21 = .ok (.iushr, 1) := by decide +kernel
theorem d1_22 : decode prog_112_method_6_code 22 = .ok (.istore 6, 2) := by decide +kernel
theorem d1_24 : decode prog_112_method_6_code 24 = .ok (.aload_n 0, 1) := by decide +kernel
theorem d1_25 : decode prog_112_method_6_code 25 = .ok (.iload 6, 2) := by decide +kernel
theorem d1_27 : decode prog_112_method_6_code 27 = .ok (.laload, 1) := by decide +kernel
theorem d1_28 : decode prog_112_method_6_code 28 = .ok (.lload_n 2, 1) := by decide +kernel
theorem d1_29 : decode prog_112_method_6_code 29 = .ok (.lcmp, 1) := by decide +kernel
theorem d1_30 : decode prog_112_method_6_code 30 = .ok (.ifCond .gt 10, 3) := by decide +kernel
theorem d1_33 : decode prog_112_method_6_code 33 = .ok (.iload 6, 2) := by decide +kernel
theorem d1_35 : decode prog_112_method_6_code 35 = .ok (.istore 4, 2) := by decide +kernel
theorem d1_37 : decode prog_112_method_6_code 37 = .ok (.goto 7, 3) := by decide +kernel
theorem d1_40 : decode prog_112_method_6_code 40 = .ok (.iload 6, 2) := by decide +kernel
theorem d1_42 : decode prog_112_method_6_code 42 = .ok (.istore 5, 2) := by decide +kernel
theorem d1_44 : decode prog_112_method_6_code 44 = .ok (.goto (-38), 3) := by decide +kernel
theorem d1_47 : decode prog_112_method_6_code 47 = .ok (.iload 4, 2) := by decide +kernel
theorem d1_49 : decode prog_112_method_6_code 49 = .ok (.ireturn, 1) := by decide +kernel
theorem own_get (vs : List Int64) (i : Nat) : (vs.map Value.long).getD i (.long (0 : Int64)) = .long (vs.getD i 0) := by
  simp only [List.getD_eq_getElem?_getD, List.getElem?_map]
  cases vs[i]? <;> rfl
theorem own_nn {q : Int32} (h : 0 ≤ q.toInt) : ¬ q < 0 := by
  rw [Int32.lt_iff_toInt_lt]; show ¬ q.toInt < 0; omega
theorem own_e1 : (1 : Int32).toInt = 1 := rfl
theorem own_e5 : (5 : Int32).toInt = 5 := rfl
theorem own_mid {a b q : Int32} {lo hi : Nat} (ha : a.toInt = lo) (hb : b.toInt = hi) (h1 : lo ≤ hi) (h2 : hi ≤ 4) (h : (((a + b).toUInt32 >>> ((1 : Int32) &&& 31).toUInt32).toInt32) = q) : q.toInt = (((lo + hi) / 2 : Nat) : Int) ∧ q.toNatClampNeg = (lo + hi) / 2 := by
  subst h
  have h3 := c_iushr (a + b) 1 1 (by decide) (by decide)
  have h4 := c_iadd a b
  have h5 := rng32 (a + b)
  have h6 : (((a + b).toUInt32 >>> ((1 : Int32) &&& 31).toUInt32).toInt32).toInt = (((lo + hi) / 2 : Nat) : Int) := by rw [h3]; omega
  refine ⟨h6, ?_⟩
  have h7 := nat_of (own_nn (show 0 ≤ (((a + b).toUInt32 >>> ((1 : Int32) &&& 31).toUInt32).toInt32).toInt by omega))
  omega
theorem own_in {q : Int32} {k : Nat} (h : q.toInt = k) (h4 : k < 5) : ¬ q < 0 ∧ q < 5 := ⟨own_nn (by omega), by rw [Int32.lt_iff_toInt_lt, own_e5]; omega⟩
theorem own_far {a b : Int32} {lo hi : Nat} (ha : a.toInt = lo) (hb : b.toInt = hi) (h1 : lo ≤ hi) (h2 : hi ≤ 4) : (1 : Int32) < (b - a) ↔ lo + 1 < hi := by
  have h4 := c_isub b a
  have h5 := rng32 (b - a)
  rw [Int32.lt_iff_toInt_lt, own_e1]
  omega
set_option maxHeartbeats 4000000 in
theorem loop1 {p : Program} {l : Launch} {e : Env} {s : State} {m : MethodId} {args : Array Value} {below : List Frame} {meth : Method} {c : Code} {T : State} {Z : State} {a0 : Array Value} {h : Heap} {kA : ClassId} {o0 : Addr} {x1 r : Int32} {x2 : Int64} {vs : List Int64} {t : Nat} (hw : ∀ d ∈ tables_1, d.before a0 Z = true) (K : Cx p s m meth c Z (⟨"com/example/pagehound/pagehound/evidence/SegmentFiles", "holding", "([JIJ)I"⟩ : MethodName) prog_112_method_6_code 7 (some .int)) (X : Stand p l e ({ frames := 0, cells := 0, slots := 0, locals := 0 } : Room) s m args below meth c T [] 0 0) (eT : T.heap = h) (V0 : Arv Z h o0 kA .long (5 : Int32) (vs.map Value.long) (.long (0 : Int64))) (ht : ∀ i, 0 < i → i < 4 → (¬ x2 < vs.getD i 0 ↔ i < t)) (k : Nat) :
    ∀ (lo hi : Nat) (y4 y5 : Int32) (s6 : Slot), hi - lo ≤ k → lo < hi → hi ≤ 4 → lo < t → y4.toInt = lo → y5.toInt = hi → One s6 → r.toInt = ((min hi t - 1 : Nat) : Int) → OwnEnds p e below s ({ frames := 0, cells := 0, slots := 0, locals := 0 } : Room).cells ({ frames := 0, cells := 0, slots := 0, locals := 0 } : Room).slots (PQ (.int r) h) T m 6 #[.val (.ref o0), .val (.int x1), .val (.long x2), .second, .val (.int y4), .val (.int y5), s6] [] := by
  obtain ⟨hx, hby, hml, hret, hlk, hnm, hown, hZ⟩ := id K
  induction k with
  | zero =>
    intro lo hi y4 y5 s6 hk hle hhi hlt0 h4 h5 h6 hr
    refine en_iload X hx (hb hby d1_6) (pc' := 8) rfl ?_
    refine en_iload X hx (hb hby d1_8) (pc' := 10) rfl ?_
    refine en_isub X hx (hb hby d1_10) (pc' := 11) ?_
    refine en_iconst X hx (1 : Int32) (hb hby d1_11) (pc' := 12) ?_
    by_cases hlt : (1 : Int32) < (y5 - y4)
    · refine en_icmpNo X hx (hb hby d1_12) (tlt hlt).2.2.2 (pc' := 15) ?_
      have hlo : lo + 1 < hi := (own_far h4 h5 (by omega) hhi).mp hlt
      exact absurd hlo (by omega)
    · refine en_icmpYes X hx (hb hby d1_12) (flt hlt).2.2.2 (pc' := 47) ?_
      have hge : ¬ lo + 1 < hi := fun q => hlt ((own_far h4 h5 (by omega) hhi).mpr q)
      refine en_iload X hx (hb hby d1_47) (pc' := 49) rfl ?_
      obtain rfl : y4 = r := Int32.toInt_inj.mp (by rw [h4, hr]; omega)
      exact en_retI X hx hret hlk (hb hby d1_49) (by decide) (by decide) (by first | (rw [eT]; exact ⟨rfl, rfl, rfl⟩) | exact ⟨rfl, rfl, rfl⟩)
  | succ k ih =>
    intro lo hi y4 y5 s6 hk hle hhi hlt0 h4 h5 h6 hr
    refine en_iload X hx (hb hby d1_6) (pc' := 8) rfl ?_
    refine en_iload X hx (hb hby d1_8) (pc' := 10) rfl ?_
    refine en_isub X hx (hb hby d1_10) (pc' := 11) ?_
    refine en_iconst X hx (1 : Int32) (hb hby d1_11) (pc' := 12) ?_
    by_cases hlt : (1 : Int32) < (y5 - y4)
    · refine en_icmpNo X hx (hb hby d1_12) (tlt hlt).2.2.2 (pc' := 15) ?_
      have hlo : lo + 1 < hi := (own_far h4 h5 (by omega) hhi).mp hlt
      refine en_iload X hx (hb hby d1_15) (pc' := 17) rfl ?_
      refine en_iload X hx (hb hby d1_17) (pc' := 19) rfl ?_
      refine en_iadd X hx (hb hby d1_19) (pc' := 20) ?_
      refine en_iconst X hx (1 : Int32) (hb hby d1_20) (pc' := 21) ?_
      refine en_iushr X hx (hb hby d1_21) (pc' := 22) ?_
      generalize hmd : (((y4 + y5).toUInt32 >>> ((1 : Int32) &&& 31).toUInt32).toInt32) = md
      obtain ⟨hm1, hm2⟩ := own_mid h4 h5 (by omega) hhi hmd
      refine en_istore X hx (hb hby d1_22) (pc' := 24) (Ls' := #[.val (.ref o0), .val (.int x1), .val (.long x2), .second, .val (.int y4), .val (.int y5), .val (.int md)]) (by rcases h6 with rfl | ⟨w, rfl, hw⟩ <;> first | rfl | (cases w <;> first | rfl | (simp [Value.category] at hw))) ?_
      refine en_aloadN X hx (hb hby d1_24) (pc' := 25) rfl rfl ?_
      refine en_iload X hx (hb hby d1_25) (pc' := 27) rfl ?_
      refine en_laload X hx hZ eT V0 (own_in hm1 (by omega)) (x := (vs.getD ((lo + hi) / 2) 0)) (by rw [hm2]; exact own_get vs _) (hb hby d1_27) (pc' := 28) ?_
      refine en_lloadN X hx (hb hby d1_28) (pc' := 29) rfl ?_
      refine en_lcmp X hx (hb hby d1_29) (pc' := 30) ?_
      by_cases hcm : x2 < (vs.getD ((lo + hi) / 2) 0)
      · refine en_ifYes X hx (hb hby d1_30) (wgt hcm).1 (pc' := 40) ?_
        have hq := ht ((lo + hi) / 2) (by omega) (by omega)
        refine en_iload X hx (hb hby d1_40) (pc' := 42) rfl ?_
        refine en_istore X hx (hb hby d1_42) (pc' := 44) (Ls' := #[.val (.ref o0), .val (.int x1), .val (.long x2), .second, .val (.int y4), .val (.int md), .val (.int md)]) rfl ?_
        refine en_goto X hx (hb hby d1_44) (pc' := 6) ?_
        have hq2 : ¬ (lo + hi) / 2 < t := fun q => hq.mpr q hcm
        exact ih lo ((lo + hi) / 2) y4 _ _ (by omega) (by omega) (by omega) (by omega) h4 hm1 (One.val rfl) (by rw [hr]; omega)
      · refine en_ifNo X hx (hb hby d1_30) (nwgt hcm).1 (pc' := 33) ?_
        have hq := ht ((lo + hi) / 2) (by omega) (by omega)
        refine en_iload X hx (hb hby d1_33) (pc' := 35) rfl ?_
        refine en_istore X hx (hb hby d1_35) (pc' := 37) (Ls' := #[.val (.ref o0), .val (.int x1), .val (.long x2), .second, .val (.int md), .val (.int y5), .val (.int md)]) rfl ?_
        refine en_goto X hx (hb hby d1_37) (pc' := 44) ?_
        refine en_goto X hx (hb hby d1_44) (pc' := 6) ?_
        have hq2 := hq.mp hcm
        exact ih ((lo + hi) / 2) hi _ y5 _ (by omega) (by omega) hhi (by omega) hm1 h5 (One.val rfl) (by rw [hr])
    · refine en_icmpYes X hx (hb hby d1_12) (flt hlt).2.2.2 (pc' := 47) ?_
      have hge : ¬ lo + 1 < hi := fun q => hlt ((own_far h4 h5 (by omega) hhi).mpr q)
      refine en_iload X hx (hb hby d1_47) (pc' := 49) rfl ?_
      obtain rfl : y4 = r := Int32.toInt_inj.mp (by rw [h4, hr]; omega)
      exact en_retI X hx hret hlk (hb hby d1_49) (by decide) (by decide) (by first | (rw [eT]; exact ⟨rfl, rfl, rfl⟩) | exact ⟨rfl, rfl, rfl⟩)
theorem ef_1 (m : MethodId) (o0 : Addr) (x1 : Int32) (x2 : Int64) : entryFrame m #[(.ref o0), (.int x1), (.long x2)] 7 = mkF m 0 #[.val (.ref o0), .val (.int x1), .val (.long x2), .second, .unset, .unset, .unset] [] := by first | (simp [entryFrame, mkF, argsToLocals, Value.category]; done) | rfl
theorem pn_0 : plainName "com/example/pagehound/pagehound/evidence/SegmentFiles" = true := by first | (simp [plainName, overriddenIn]; done) | decide +kernel
set_option maxRecDepth 65536 in
set_option maxHeartbeats 40000000 in
theorem rm1 (l : Launch) (Z : State) (a0 : Array Value) (hw : ∀ d ∈ tables_1, d.before a0 Z = true) (ws : List Jvm.Cond) (o0 : Addr) (x1 : Int32) (x2 : Int64) (r : Int32) (vs : List Int64) (t : Nat) (hi : Nat) (kA : ClassId) (h0 : Heap) (n0 : Nat) (Z0 : n0 ≤ h0.size) (V0 : Arv Z h0 o0 kA .long (5 : Int32) (vs.map Value.long) (.long (0 : Int64))) (ht : ∀ i, 0 < i → i < 4 → (¬ x2 < vs.getD i 0 ↔ i < t)) (hp : 0 < hi) (hhi : hi ≤ 4) (h0t : 0 < t) (h1 : x1.toInt = hi) (hr : r.toInt = ((min hi t - 1 : Nat) : Int)) : OwnMeets l Z (⟨"com/example/pagehound/pagehound/evidence/SegmentFiles", "holding", "([JIJ)I"⟩ : MethodName) prog_112_method_6_code 7 (some .int) ws ({ frames := 0, cells := 0, slots := 0, locals := 0 } : Room) #[(.ref o0), (.int x1), (.long x2)] h0 (PQ (.int r) h0) := by
  refine OwnMeets.of_walk (plainFor_of_name pn_0) (fun m => ef_1 m o0 x1 x2) ?_
  intro p e s m below meth c T0 X0 K e0
  obtain ⟨hx, hby, hml, hret, hlk, hnm, hown, hZ⟩ := id K
  have N0 := Fr.nil n0
  refine en_iconst X0 hx (0 : Int32) (hb hby d1_0) (pc' := 1) ?_
  refine en_istore X0 hx (hb hby d1_1) (pc' := 3) (Ls' := #[.val (.ref o0), .val (.int x1), .val (.long x2), .second, .val (.int (0 : Int32)), .unset, .unset]) rfl ?_
  refine en_iloadN X0 hx (hb hby d1_3) (pc' := 4) rfl ?_
  refine en_istore X0 hx (hb hby d1_4) (pc' := 6) (Ls' := #[.val (.ref o0), .val (.int x1), .val (.long x2), .second, .val (.int (0 : Int32)), .val (.int x1), .unset]) rfl ?_
  exact loop1 hw K X0 e0 V0 ht hi 0 hi (0 : Int32) x1 .unset (by omega) (by omega) hhi h0t rfl h1 One.u hr
def g0_13_31_t0 (y2 : Int64) (y10 : Int32) : Int64 := (if ((y10 >>> ((2 : Int32) &&& 31)) &&& (1 : Int32)) = (0 : Int32) then (y2 &&& (1152921504606846975 : Int64)) else (0 : Int64))
theorem r0_13_31 {p : Program} {l : Launch} {e : Env} {R : Room} {s : State} {m : MethodId} {args : Array Value} {below : List Frame} {meth : Method} {c : Code} {T : State} {locs : List Loc} {cells slots : Nat} {Z : State} {a0 : Array Value} {C S : Nat} {Q : Option Value → Heap → List Loc → Prop} (hw : ∀ d ∈ tables_1, d.before a0 Z = true) (K : Cx p s m meth c Z x code maxLocals ret) (X : Stand p l e R s m args below meth c T locs cells slots) (y0 : Int64) (y2 : Int64) (y4 : Int64) (y6 : Int64) (y8 : Int64) (y10 : Int32) (y11 : Int32) (y12 : Int64) (k : OwnEnds p e below s C S Q T m 31 #[.val (.long y0), .second, .val (.long y2), .second, .val (.long y4), .second, .val (.long y6), .second, .val (.long y8), .second, .val (.int y10), .val (.int y11), .val (.long y12), .second, .unset, .unset, .unset, .unset, .unset, .unset, .unset, .unset, .unset, .unset, .unset, .unset, .unset, .unset, .unset, .unset] [(.long (g0_13_31_t0 y2 y10))]) : OwnEnds p e below s C S Q T m 13 #[.val (.long y0), .second, .val (.long y2), .second, .val (.long y4), .second, .val (.long y6), .second, .val (.long y8), .second, .val (.int y10), .val (.int y11), .val (.long y12), .second, .unset, .unset, .unset, .unset, .unset, .unset, .unset, .unset, .unset, .unset, .unset, .unset, .unset, .unset, .unset, .unset] [] := by
  obtain ⟨hx, hby, hml, hret, hlk, hnm, hown, hZ⟩ := id K
  unfold g0_13_31_t0 at k
  refine en_iload X hx (hb hby at_13) (pc' := 15) rfl ?_
  refine en_iconst X hx (2 : Int32) (hb hby at_15) (pc' := 16) ?_
  refine en_ishr X hx (hb hby at_16) (pc' := 17) ?_
  refine en_iconst X hx (1 : Int32) (hb hby at_17) (pc' := 18) ?_
  refine en_iand X hx (hb hby at_18) (pc' := 19) ?_
  by_cases hc19_0 : ((y10 >>> ((2 : Int32) &&& 31)) &&& (1 : Int32)) = (0 : Int32)
  · simp only [if_pos hc19_0] at k
    refine en_ifYes X hx (hb hby at_19) ((if0 _ _).trans (teq hc19_0).1) (pc' := 26) ?_
    refine en_lloadN X hx (hb hby at_26) (pc' := 27) rfl ?_
    refine en_ldc2 X hx hZ hown (tw hw 0 rfl) (hb hby at_27) (pc' := 30) ?_
    refine en_land X hx (hb hby at_30) (pc' := 31) ?_
    exact k
  · simp only [if_neg hc19_0] at k
    refine en_ifNo X hx (hb hby at_19) ((if0 _ _).trans (feq hc19_0).1) (pc' := 22) ?_
    refine en_lconst X hx (0 : Int64) (hb hby at_22) (pc' := 23) ?_
    refine en_goto X hx (hb hby at_23) (pc' := 31) ?_
    exact k
def g0_33_52_t0 (y4 : Int64) (y10 : Int32) : Int64 := (if ((y10 >>> ((3 : Int32) &&& 31)) &&& (1 : Int32)) = (0 : Int32) then (y4 &&& (1152921504606846975 : Int64)) else (0 : Int64))
theorem r0_33_52 {p : Program} {l : Launch} {e : Env} {R : Room} {s : State} {m : MethodId} {args : Array Value} {below : List Frame} {meth : Method} {c : Code} {T : State} {locs : List Loc} {cells slots : Nat} {Z : State} {a0 : Array Value} {C S : Nat} {Q : Option Value → Heap → List Loc → Prop} (hw : ∀ d ∈ tables_1, d.before a0 Z = true) (K : Cx p s m meth c Z x code maxLocals ret) (X : Stand p l e R s m args below meth c T locs cells slots) (y0 : Int64) (y2 : Int64) (y4 : Int64) (y6 : Int64) (y8 : Int64) (y10 : Int32) (y11 : Int32) (y12 : Int64) (y14 : Int64) (k : OwnEnds p e below s C S Q T m 52 #[.val (.long y0), .second, .val (.long y2), .second, .val (.long y4), .second, .val (.long y6), .second, .val (.long y8), .second, .val (.int y10), .val (.int y11), .val (.long y12), .second, .val (.long y14), .second, .unset, .unset, .unset, .unset, .unset, .unset, .unset, .unset, .unset, .unset, .unset, .unset, .unset, .unset] [(.long (g0_33_52_t0 y4 y10))]) : OwnEnds p e below s C S Q T m 33 #[.val (.long y0), .second, .val (.long y2), .second, .val (.long y4), .second, .val (.long y6), .second, .val (.long y8), .second, .val (.int y10), .val (.int y11), .val (.long y12), .second, .val (.long y14), .second, .unset, .unset, .unset, .unset, .unset, .unset, .unset, .unset, .unset, .unset, .unset, .unset, .unset, .unset] [] := by
  obtain ⟨hx, hby, hml, hret, hlk, hnm, hown, hZ⟩ := id K
  unfold g0_33_52_t0 at k
  refine en_iload X hx (hb hby at_33) (pc' := 35) rfl ?_
  refine en_iconst X hx (3 : Int32) (hb hby at_35) (pc' := 36) ?_
  refine en_ishr X hx (hb hby at_36) (pc' := 37) ?_
  refine en_iconst X hx (1 : Int32) (hb hby at_37) (pc' := 38) ?_
  refine en_iand X hx (hb hby at_38) (pc' := 39) ?_
  by_cases hc39_0 : ((y10 >>> ((3 : Int32) &&& 31)) &&& (1 : Int32)) = (0 : Int32)
  · simp only [if_pos hc39_0] at k
    refine en_ifYes X hx (hb hby at_39) ((if0 _ _).trans (teq hc39_0).1) (pc' := 46) ?_
    refine en_lload X hx (hb hby at_46) (pc' := 48) rfl ?_
    refine en_ldc2 X hx hZ hown (tw hw 0 rfl) (hb hby at_48) (pc' := 51) ?_
    refine en_land X hx (hb hby at_51) (pc' := 52) ?_
    exact k
  · simp only [if_neg hc39_0] at k
    refine en_ifNo X hx (hb hby at_39) ((if0 _ _).trans (feq hc39_0).1) (pc' := 42) ?_
    refine en_lconst X hx (0 : Int64) (hb hby at_42) (pc' := 43) ?_
    refine en_goto X hx (hb hby at_43) (pc' := 52) ?_
    exact k
def g0_54_73_t0 (y6 : Int64) (y10 : Int32) : Int64 := (if ((y10 >>> ((4 : Int32) &&& 31)) &&& (1 : Int32)) = (0 : Int32) then (y6 &&& (1152921504606846975 : Int64)) else (0 : Int64))
theorem r0_54_73 {p : Program} {l : Launch} {e : Env} {R : Room} {s : State} {m : MethodId} {args : Array Value} {below : List Frame} {meth : Method} {c : Code} {T : State} {locs : List Loc} {cells slots : Nat} {Z : State} {a0 : Array Value} {C S : Nat} {Q : Option Value → Heap → List Loc → Prop} (hw : ∀ d ∈ tables_1, d.before a0 Z = true) (K : Cx p s m meth c Z x code maxLocals ret) (X : Stand p l e R s m args below meth c T locs cells slots) (y0 : Int64) (y2 : Int64) (y4 : Int64) (y6 : Int64) (y8 : Int64) (y10 : Int32) (y11 : Int32) (y12 : Int64) (y14 : Int64) (y16 : Int64) (k : OwnEnds p e below s C S Q T m 73 #[.val (.long y0), .second, .val (.long y2), .second, .val (.long y4), .second, .val (.long y6), .second, .val (.long y8), .second, .val (.int y10), .val (.int y11), .val (.long y12), .second, .val (.long y14), .second, .val (.long y16), .second, .unset, .unset, .unset, .unset, .unset, .unset, .unset, .unset, .unset, .unset, .unset, .unset] [(.long (g0_54_73_t0 y6 y10))]) : OwnEnds p e below s C S Q T m 54 #[.val (.long y0), .second, .val (.long y2), .second, .val (.long y4), .second, .val (.long y6), .second, .val (.long y8), .second, .val (.int y10), .val (.int y11), .val (.long y12), .second, .val (.long y14), .second, .val (.long y16), .second, .unset, .unset, .unset, .unset, .unset, .unset, .unset, .unset, .unset, .unset, .unset, .unset] [] := by
  obtain ⟨hx, hby, hml, hret, hlk, hnm, hown, hZ⟩ := id K
  unfold g0_54_73_t0 at k
  refine en_iload X hx (hb hby at_54) (pc' := 56) rfl ?_
  refine en_iconst X hx (4 : Int32) (hb hby at_56) (pc' := 57) ?_
  refine en_ishr X hx (hb hby at_57) (pc' := 58) ?_
  refine en_iconst X hx (1 : Int32) (hb hby at_58) (pc' := 59) ?_
  refine en_iand X hx (hb hby at_59) (pc' := 60) ?_
  by_cases hc60_0 : ((y10 >>> ((4 : Int32) &&& 31)) &&& (1 : Int32)) = (0 : Int32)
  · simp only [if_pos hc60_0] at k
    refine en_ifYes X hx (hb hby at_60) ((if0 _ _).trans (teq hc60_0).1) (pc' := 67) ?_
    refine en_lload X hx (hb hby at_67) (pc' := 69) rfl ?_
    refine en_ldc2 X hx hZ hown (tw hw 0 rfl) (hb hby at_69) (pc' := 72) ?_
    refine en_land X hx (hb hby at_72) (pc' := 73) ?_
    exact k
  · simp only [if_neg hc60_0] at k
    refine en_ifNo X hx (hb hby at_60) ((if0 _ _).trans (feq hc60_0).1) (pc' := 63) ?_
    refine en_lconst X hx (0 : Int64) (hb hby at_63) (pc' := 64) ?_
    refine en_goto X hx (hb hby at_64) (pc' := 73) ?_
    exact k
def g0_145_162_l29 (y11 : Int32) (y20 : Int64) (y26 : Int64) (y29 : Int32) : Int32 := (if (1 : Int32) < y11 then (if y26 < y20 then y29 else (1 : Int32)) else y29)
theorem r0_145_162 {p : Program} {l : Launch} {e : Env} {R : Room} {s : State} {m : MethodId} {args : Array Value} {below : List Frame} {meth : Method} {c : Code} {T : State} {locs : List Loc} {cells slots : Nat} {Z : State} {a0 : Array Value} {C S : Nat} {Q : Option Value → Heap → List Loc → Prop} (hw : ∀ d ∈ tables_1, d.before a0 Z = true) (K : Cx p s m meth c Z x code maxLocals ret) (X : Stand p l e R s m args below meth c T locs cells slots) (y0 : Int64) (y2 : Int64) (y4 : Int64) (y6 : Int64) (y8 : Int64) (y10 : Int32) (y11 : Int32) (y12 : Int64) (y14 : Int64) (y16 : Int64) (y18 : Int64) (y20 : Int64) (y22 : Int64) (y24 : Int64) (y26 : Int64) (y28 : Addr) (y29 : Int32) (k : OwnEnds p e below s C S Q T m 162 #[.val (.long y0), .second, .val (.long y2), .second, .val (.long y4), .second, .val (.long y6), .second, .val (.long y8), .second, .val (.int y10), .val (.int y11), .val (.long y12), .second, .val (.long y14), .second, .val (.long y16), .second, .val (.long y18), .second, .val (.long y20), .second, .val (.long y22), .second, .val (.long y24), .second, .val (.long y26), .second, .val (.ref y28), .val (.int (g0_145_162_l29 y11 y20 y26 y29))] []) : OwnEnds p e below s C S Q T m 145 #[.val (.long y0), .second, .val (.long y2), .second, .val (.long y4), .second, .val (.long y6), .second, .val (.long y8), .second, .val (.int y10), .val (.int y11), .val (.long y12), .second, .val (.long y14), .second, .val (.long y16), .second, .val (.long y18), .second, .val (.long y20), .second, .val (.long y22), .second, .val (.long y24), .second, .val (.long y26), .second, .val (.ref y28), .val (.int y29)] [] := by
  obtain ⟨hx, hby, hml, hret, hlk, hnm, hown, hZ⟩ := id K
  unfold g0_145_162_l29 at k
  refine en_iload X hx (hb hby at_145) (pc' := 147) rfl ?_
  refine en_iconst X hx (1 : Int32) (hb hby at_147) (pc' := 148) ?_
  by_cases hc148_0 : (1 : Int32) < y11
  · simp only [if_pos hc148_0] at k
    refine en_icmpNo X hx (hb hby at_148) (tlt hc148_0).2.2.2 (pc' := 151) ?_
    refine en_lload X hx (hb hby at_151) (pc' := 153) rfl ?_
    refine en_lload X hx (hb hby at_153) (pc' := 155) rfl ?_
    refine en_lcmp X hx (hb hby at_155) (pc' := 156) ?_
    by_cases hc156_1 : y26 < y20
    · simp only [if_pos hc156_1] at k
      refine en_ifYes X hx (hb hby at_156) (wgt hc156_1).1 (pc' := 162) ?_
      exact k
    · simp only [if_neg hc156_1] at k
      refine en_ifNo X hx (hb hby at_156) (nwgt hc156_1).1 (pc' := 159) ?_
      refine en_iconst X hx (1 : Int32) (hb hby at_159) (pc' := 160) ?_
      refine en_istore X hx (hb hby at_160) (pc' := 162) (Ls' := #[.val (.long y0), .second, .val (.long y2), .second, .val (.long y4), .second, .val (.long y6), .second, .val (.long y8), .second, .val (.int y10), .val (.int y11), .val (.long y12), .second, .val (.long y14), .second, .val (.long y16), .second, .val (.long y18), .second, .val (.long y20), .second, .val (.long y22), .second, .val (.long y24), .second, .val (.long y26), .second, .val (.ref y28), .val (.int (1 : Int32))]) rfl ?_
      exact k
  · simp only [if_neg hc148_0] at k
    refine en_icmpYes X hx (hb hby at_148) (flt hc148_0).2.2.2 (pc' := 162) ?_
    exact k
def g0_162_179_l29 (y11 : Int32) (y22 : Int64) (y26 : Int64) (y29 : Int32) : Int32 := (if (2 : Int32) < y11 then (if y26 < y22 then y29 else (2 : Int32)) else y29)
theorem r0_162_179 {p : Program} {l : Launch} {e : Env} {R : Room} {s : State} {m : MethodId} {args : Array Value} {below : List Frame} {meth : Method} {c : Code} {T : State} {locs : List Loc} {cells slots : Nat} {Z : State} {a0 : Array Value} {C S : Nat} {Q : Option Value → Heap → List Loc → Prop} (hw : ∀ d ∈ tables_1, d.before a0 Z = true) (K : Cx p s m meth c Z x code maxLocals ret) (X : Stand p l e R s m args below meth c T locs cells slots) (y0 : Int64) (y2 : Int64) (y4 : Int64) (y6 : Int64) (y8 : Int64) (y10 : Int32) (y11 : Int32) (y12 : Int64) (y14 : Int64) (y16 : Int64) (y18 : Int64) (y20 : Int64) (y22 : Int64) (y24 : Int64) (y26 : Int64) (y28 : Addr) (y29 : Int32) (k : OwnEnds p e below s C S Q T m 179 #[.val (.long y0), .second, .val (.long y2), .second, .val (.long y4), .second, .val (.long y6), .second, .val (.long y8), .second, .val (.int y10), .val (.int y11), .val (.long y12), .second, .val (.long y14), .second, .val (.long y16), .second, .val (.long y18), .second, .val (.long y20), .second, .val (.long y22), .second, .val (.long y24), .second, .val (.long y26), .second, .val (.ref y28), .val (.int (g0_162_179_l29 y11 y22 y26 y29))] []) : OwnEnds p e below s C S Q T m 162 #[.val (.long y0), .second, .val (.long y2), .second, .val (.long y4), .second, .val (.long y6), .second, .val (.long y8), .second, .val (.int y10), .val (.int y11), .val (.long y12), .second, .val (.long y14), .second, .val (.long y16), .second, .val (.long y18), .second, .val (.long y20), .second, .val (.long y22), .second, .val (.long y24), .second, .val (.long y26), .second, .val (.ref y28), .val (.int y29)] [] := by
  obtain ⟨hx, hby, hml, hret, hlk, hnm, hown, hZ⟩ := id K
  unfold g0_162_179_l29 at k
  refine en_iload X hx (hb hby at_162) (pc' := 164) rfl ?_
  refine en_iconst X hx (2 : Int32) (hb hby at_164) (pc' := 165) ?_
  by_cases hc165_0 : (2 : Int32) < y11
  · simp only [if_pos hc165_0] at k
    refine en_icmpNo X hx (hb hby at_165) (tlt hc165_0).2.2.2 (pc' := 168) ?_
    refine en_lload X hx (hb hby at_168) (pc' := 170) rfl ?_
    refine en_lload X hx (hb hby at_170) (pc' := 172) rfl ?_
    refine en_lcmp X hx (hb hby at_172) (pc' := 173) ?_
    by_cases hc173_1 : y26 < y22
    · simp only [if_pos hc173_1] at k
      refine en_ifYes X hx (hb hby at_173) (wgt hc173_1).1 (pc' := 179) ?_
      exact k
    · simp only [if_neg hc173_1] at k
      refine en_ifNo X hx (hb hby at_173) (nwgt hc173_1).1 (pc' := 176) ?_
      refine en_iconst X hx (2 : Int32) (hb hby at_176) (pc' := 177) ?_
      refine en_istore X hx (hb hby at_177) (pc' := 179) (Ls' := #[.val (.long y0), .second, .val (.long y2), .second, .val (.long y4), .second, .val (.long y6), .second, .val (.long y8), .second, .val (.int y10), .val (.int y11), .val (.long y12), .second, .val (.long y14), .second, .val (.long y16), .second, .val (.long y18), .second, .val (.long y20), .second, .val (.long y22), .second, .val (.long y24), .second, .val (.long y26), .second, .val (.ref y28), .val (.int (2 : Int32))]) rfl ?_
      exact k
  · simp only [if_neg hc165_0] at k
    refine en_icmpYes X hx (hb hby at_165) (flt hc165_0).2.2.2 (pc' := 179) ?_
    exact k
def g0_179_196_l29 (y11 : Int32) (y24 : Int64) (y26 : Int64) (y29 : Int32) : Int32 := (if (3 : Int32) < y11 then (if y26 < y24 then y29 else (3 : Int32)) else y29)
theorem r0_179_196 {p : Program} {l : Launch} {e : Env} {R : Room} {s : State} {m : MethodId} {args : Array Value} {below : List Frame} {meth : Method} {c : Code} {T : State} {locs : List Loc} {cells slots : Nat} {Z : State} {a0 : Array Value} {C S : Nat} {Q : Option Value → Heap → List Loc → Prop} (hw : ∀ d ∈ tables_1, d.before a0 Z = true) (K : Cx p s m meth c Z x code maxLocals ret) (X : Stand p l e R s m args below meth c T locs cells slots) (y0 : Int64) (y2 : Int64) (y4 : Int64) (y6 : Int64) (y8 : Int64) (y10 : Int32) (y11 : Int32) (y12 : Int64) (y14 : Int64) (y16 : Int64) (y18 : Int64) (y20 : Int64) (y22 : Int64) (y24 : Int64) (y26 : Int64) (y28 : Addr) (y29 : Int32) (k : OwnEnds p e below s C S Q T m 196 #[.val (.long y0), .second, .val (.long y2), .second, .val (.long y4), .second, .val (.long y6), .second, .val (.long y8), .second, .val (.int y10), .val (.int y11), .val (.long y12), .second, .val (.long y14), .second, .val (.long y16), .second, .val (.long y18), .second, .val (.long y20), .second, .val (.long y22), .second, .val (.long y24), .second, .val (.long y26), .second, .val (.ref y28), .val (.int (g0_179_196_l29 y11 y24 y26 y29))] []) : OwnEnds p e below s C S Q T m 179 #[.val (.long y0), .second, .val (.long y2), .second, .val (.long y4), .second, .val (.long y6), .second, .val (.long y8), .second, .val (.int y10), .val (.int y11), .val (.long y12), .second, .val (.long y14), .second, .val (.long y16), .second, .val (.long y18), .second, .val (.long y20), .second, .val (.long y22), .second, .val (.long y24), .second, .val (.long y26), .second, .val (.ref y28), .val (.int y29)] [] := by
  obtain ⟨hx, hby, hml, hret, hlk, hnm, hown, hZ⟩ := id K
  unfold g0_179_196_l29 at k
  refine en_iload X hx (hb hby at_179) (pc' := 181) rfl ?_
  refine en_iconst X hx (3 : Int32) (hb hby at_181) (pc' := 182) ?_
  by_cases hc182_0 : (3 : Int32) < y11
  · simp only [if_pos hc182_0] at k
    refine en_icmpNo X hx (hb hby at_182) (tlt hc182_0).2.2.2 (pc' := 185) ?_
    refine en_lload X hx (hb hby at_185) (pc' := 187) rfl ?_
    refine en_lload X hx (hb hby at_187) (pc' := 189) rfl ?_
    refine en_lcmp X hx (hb hby at_189) (pc' := 190) ?_
    by_cases hc190_1 : y26 < y24
    · simp only [if_pos hc190_1] at k
      refine en_ifYes X hx (hb hby at_190) (wgt hc190_1).1 (pc' := 196) ?_
      exact k
    · simp only [if_neg hc190_1] at k
      refine en_ifNo X hx (hb hby at_190) (nwgt hc190_1).1 (pc' := 193) ?_
      refine en_iconst X hx (3 : Int32) (hb hby at_193) (pc' := 194) ?_
      refine en_istore X hx (hb hby at_194) (pc' := 196) (Ls' := #[.val (.long y0), .second, .val (.long y2), .second, .val (.long y4), .second, .val (.long y6), .second, .val (.long y8), .second, .val (.int y10), .val (.int y11), .val (.long y12), .second, .val (.long y14), .second, .val (.long y16), .second, .val (.long y18), .second, .val (.long y20), .second, .val (.long y22), .second, .val (.long y24), .second, .val (.long y26), .second, .val (.ref y28), .val (.int (3 : Int32))]) rfl ?_
      exact k
  · simp only [if_neg hc182_0] at k
    refine en_icmpYes X hx (hb hby at_182) (flt hc182_0).2.2.2 (pc' := 196) ?_
    exact k
theorem own_m60 (d : Int64) : 0 ≤ (d &&& (1152921504606846975 : Int64)).toInt ∧ (d &&& (1152921504606846975 : Int64)).toInt ≤ 1152921504606846975 := by
  have h := c_maskL d 1152921504606846975 60 (by decide) (by decide)
  rw [h]; omega
theorem own_m62 (d : Int64) : 0 ≤ (d &&& (4611686018427387903 : Int64)).toInt ∧ (d &&& (4611686018427387903 : Int64)).toInt ≤ 4611686018427387903 := by
  have h := c_maskL d 4611686018427387903 62 (by decide) (by decide)
  rw [h]; omega
theorem own_e1r (c : Int32) (d : Int64) {q : Int64} (h : g0_13_31_t0 d c = q) : 0 ≤ q.toInt ∧ q.toInt ≤ 1152921504606846975 := by
  subst h; unfold g0_13_31_t0
  split
  · exact own_m60 d
  · decide
theorem own_e2r (c : Int32) (d : Int64) {q : Int64} (h : g0_33_52_t0 d c = q) : 0 ≤ q.toInt ∧ q.toInt ≤ 1152921504606846975 := by
  subst h; unfold g0_33_52_t0
  split
  · exact own_m60 d
  · decide
theorem own_e3r (c : Int32) (d : Int64) {q : Int64} (h : g0_54_73_t0 d c = q) : 0 ≤ q.toInt ∧ q.toInt ≤ 1152921504606846975 := by
  subst h; unfold g0_54_73_t0
  split
  · exact own_m60 d
  · decide
theorem own_s0 (a : Int64) {q : Int64} (h : (a >>> ((2 : Int32) &&& 0x3f).toInt64) = q) : -2305843009213693952 ≤ q.toInt ∧ q.toInt ≤ 2305843009213693951 := by
  subst h
  have h1 := c_lshr a 2 2 (by decide)
  have h2 := rng64 a
  rw [h1]; omega
theorem own_ladd (x y : Int64) (h : -9223372036854775808 ≤ x.toInt + y.toInt ∧ x.toInt + y.toInt < 9223372036854775808) : (x + y).toInt = x.toInt + y.toInt := by
  have h1 := c_ladd x y
  have h2 := rng64 (x + y)
  omega
theorem own_cnt {x q : Int32} (h : ((x &&& (3 : Int32)) + (1 : Int32)) = q) : ∃ n : Nat, 1 ≤ n ∧ n ≤ 4 ∧ q.toInt = n := by
  subst h
  have h1 := c_and x 3 (by decide)
  have e3 : (3 : Int32).toInt = 3 := rfl
  have h2 := c_iadd (x &&& 3) 1
  have h3 := rng32 ((x &&& (3 : Int32)) + (1 : Int32))
  rw [own_e1] at h2
  obtain ⟨n, hn⟩ := Int.eq_ofNat_of_zero_le (show 0 ≤ ((x &&& (3 : Int32)) + (1 : Int32)).toInt by omega)
  exact ⟨n, by omega, by omega, hn⟩
theorem own_thr (s0 s1 s2 s3 p : Int64) (h0 : s0.toInt ≤ p.toInt) (h1 : s0.toInt ≤ s1.toInt) (h2 : s1.toInt ≤ s2.toInt) (h3 : s2.toInt ≤ s3.toInt) : ∃ t : Nat, 0 < t ∧ t ≤ 4 ∧ (¬ p < s1 ↔ 1 < t) ∧ (¬ p < s2 ↔ 2 < t) ∧ (¬ p < s3 ↔ 3 < t) := by
  have L := @Int64.lt_iff_toInt_lt
  by_cases c3 : p < s3
  · by_cases c2 : p < s2
    · by_cases c1 : p < s1
      · exact ⟨1, by omega, by omega, by simp only [L] at *; omega⟩
      · exact ⟨2, by omega, by omega, by simp only [L] at *; omega⟩
    · exact ⟨3, by omega, by omega, by simp only [L] at *; omega⟩
  · exact ⟨4, by omega, by omega, by simp only [L] at *; omega⟩
theorem own_all {s0 s1 s2 s3 p : Int64} {t : Nat} (h : (¬ p < s1 ↔ 1 < t) ∧ (¬ p < s2 ↔ 2 < t) ∧ (¬ p < s3 ↔ 3 < t)) : ∀ i, 0 < i → i < 4 → (¬ p < ([s0, s1, s2, s3, s3] : List Int64).getD i 0 ↔ i < t) := by
  intro i h0 hi
  match i, h0, hi with
  | 1, _, _ => exact h.1
  | 2, _, _ => exact h.2.1
  | 3, _, _ => exact h.2.2
theorem own_exp {cnt r ex : Int32} {s1 s2 s3 p : Int64} {cn t : Nat} (hcn : cnt.toInt = cn) (hc1 : 1 ≤ cn) (hc4 : cn ≤ 4) (ht0 : 0 < t) (ht4 : t ≤ 4) (ht : (¬ p < s1 ↔ 1 < t) ∧ (¬ p < s2 ↔ 2 < t) ∧ (¬ p < s3 ↔ 3 < t)) (hr : r.toInt = ((min cn t - 1 : Nat) : Int)) (hex : (g0_179_196_l29 cnt s3 p (g0_162_179_l29 cnt s2 p (g0_145_162_l29 cnt s1 p (0 : Int32)))) = ex) : r = ex := by
  subst hex
  apply Int32.toInt_inj.mp
  rw [hr]
  have L := @Int32.lt_iff_toInt_lt
  have e0 : (0 : Int32).toInt = 0 := rfl
  have e2 : (2 : Int32).toInt = 2 := rfl
  have e3 : (3 : Int32).toInt = 3 := rfl
  have k1 : (1 : Int32) < cnt ↔ 1 < cn := by rw [L, own_e1, hcn]; omega
  have k2 : (2 : Int32) < cnt ↔ 2 < cn := by rw [L, e2, hcn]; omega
  have k3 : (3 : Int32) < cnt ↔ 3 < cn := by rw [L, e3, hcn]; omega
  unfold g0_179_196_l29 g0_162_179_l29 g0_145_162_l29
  obtain ⟨h1, h2, h3⟩ := ht
  have key : ∀ (P1 P2 P3 S1 S2 S3 : Prop) [Decidable P1] [Decidable P2] [Decidable P3] [Decidable S1] [Decidable S2] [Decidable S3], (P1 ↔ 1 < cn) → (P2 ↔ 2 < cn) → (P3 ↔ 3 < cn) → (¬ S1 ↔ 1 < t) → (¬ S2 ↔ 2 < t) → (¬ S3 ↔ 3 < t) →
      ((min cn t - 1 : Nat) : Int) = (if P3 then (if S3 then (if P2 then (if S2 then (if P1 then (if S1 then (0 : Int32) else (1 : Int32)) else (0 : Int32)) else (2 : Int32)) else (if P1 then (if S1 then (0 : Int32) else (1 : Int32)) else (0 : Int32))) else (3 : Int32)) else (if P2 then (if S2 then (if P1 then (if S1 then (0 : Int32) else (1 : Int32)) else (0 : Int32)) else (2 : Int32)) else (if P1 then (if S1 then (0 : Int32) else (1 : Int32)) else (0 : Int32)))).toInt := by
    intro P1 P2 P3 S1 S2 S3 _ _ _ _ _ _ a1 a2 a3 b1 b2 b3
    by_cases q3 : P3 <;> by_cases r3 : S3 <;> by_cases q2 : P2 <;> by_cases r2 : S2 <;> by_cases q1 : P1 <;> by_cases r1 : S1 <;> simp only [q1, q2, q3, r1, r2, r3, if_true, if_false, e0, own_e1, e2, e3, not_true, not_false_iff, true_iff, false_iff] at * <;> omega
  exact key _ _ _ _ _ _ k1 k2 k3 h1 h2 h3
theorem ef_0 (m : MethodId) (x0 : Int64) (x2 : Int64) (x4 : Int64) (x6 : Int64) (x8 : Int64) (x10 : Int32) : entryFrame m #[(.long x0), (.long x2), (.long x4), (.long x6), (.long x8), (.int x10)] maxLocals = mkF m 0 #[.val (.long x0), .second, .val (.long x2), .second, .val (.long x4), .second, .val (.long x6), .second, .val (.long x8), .second, .val (.int x10), .unset, .unset, .unset, .unset, .unset, .unset, .unset, .unset, .unset, .unset, .unset, .unset, .unset, .unset, .unset, .unset, .unset, .unset, .unset] [] := by first | (simp [entryFrame, mkF, argsToLocals, Value.category, maxLocals]; done) | rfl
theorem pn_1 : plainName "com/example/pagehound/pagehound/evidence/SegmentFilesHoldingPinLaw" = true := by first | (simp [plainName, overriddenIn]; done) | decide +kernel
theorem pd_0 : parseMethodDescriptor "([JIJ)I" = some ⟨[(.array .long), .int, .long], some .int⟩ := by decide +kernel
set_option maxRecDepth 65536 in
set_option maxHeartbeats 40000000 in
theorem rm0 (l : Launch) (Z : State) (a0 : Array Value) (hw : ∀ d ∈ tables_1, d.before a0 Z = true) (ws : List Jvm.Cond) (x0 : Int64) (x2 : Int64) (x4 : Int64) (x6 : Int64) (x8 : Int64) (x10 : Int32) (h0 : Heap) (n0 : Nat) (Z0 : n0 ≤ h0.size)  : OwnMeets l Z x code maxLocals ret ws room_1 #[(.long x0), (.long x2), (.long x4), (.long x6), (.long x8), (.int x10)] h0 (fun v h L => v = some (.int (1 : Int32)) ∧ Fr n0 L) := by
  refine OwnMeets.of_walk (plainFor_of_name pn_1) (fun m => ef_0 m x0 x2 x4 x6 x8 x10) ?_
  intro p e s m below meth c T0 X0 K e0
  obtain ⟨hx, hby, hml, hret, hlk, hnm, hown, hZ⟩ := id K
  have N0 := Fr.nil n0
  refine en_iload X0 hx (hb hby at_0) (pc' := 2) rfl ?_
  refine en_iconst X0 hx (3 : Int32) (hb hby at_2) (pc' := 3) ?_
  refine en_iand X0 hx (hb hby at_3) (pc' := 4) ?_
  refine en_iconst X0 hx (1 : Int32) (hb hby at_4) (pc' := 5) ?_
  refine en_iadd X0 hx (hb hby at_5) (pc' := 6) ?_
  generalize hcnt : ((x10 &&& (3 : Int32)) + (1 : Int32)) = cnt
  obtain ⟨cn, hc1, hc4, hcn⟩ := own_cnt hcnt
  refine en_istore X0 hx (hb hby at_6) (pc' := 8) (Ls' := #[.val (.long x0), .second, .val (.long x2), .second, .val (.long x4), .second, .val (.long x6), .second, .val (.long x8), .second, .val (.int x10), .val (.int cnt), .unset, .unset, .unset, .unset, .unset, .unset, .unset, .unset, .unset, .unset, .unset, .unset, .unset, .unset, .unset, .unset, .unset, .unset]) rfl ?_
  refine en_lloadN X0 hx (hb hby at_8) (pc' := 9) rfl ?_
  refine en_iconst X0 hx (2 : Int32) (hb hby at_9) (pc' := 10) ?_
  refine en_lshr X0 hx (hb hby at_10) (pc' := 11) ?_
  generalize hs0 : (x0 >>> ((2 : Int32) &&& 0x3f).toInt64) = s0
  have hs0' := own_s0 x0 hs0
  refine en_lstore X0 hx (hb hby at_11) (pc' := 13) (Ls' := #[.val (.long x0), .second, .val (.long x2), .second, .val (.long x4), .second, .val (.long x6), .second, .val (.long x8), .second, .val (.int x10), .val (.int cnt), .val (.long s0), .second, .unset, .unset, .unset, .unset, .unset, .unset, .unset, .unset, .unset, .unset, .unset, .unset, .unset, .unset, .unset, .unset]) rfl ?_
  refine r0_13_31 hw K X0 x0 x2 x4 x6 x8 x10 cnt s0 ?_
  generalize hd1 : (g0_13_31_t0 x2 x10) = d1
  have hd1' := own_e1r _ _ hd1
  refine en_lstore X0 hx (hb hby at_31) (pc' := 33) (Ls' := #[.val (.long x0), .second, .val (.long x2), .second, .val (.long x4), .second, .val (.long x6), .second, .val (.long x8), .second, .val (.int x10), .val (.int cnt), .val (.long s0), .second, .val (.long d1), .second, .unset, .unset, .unset, .unset, .unset, .unset, .unset, .unset, .unset, .unset, .unset, .unset, .unset, .unset]) rfl ?_
  refine r0_33_52 hw K X0 x0 x2 x4 x6 x8 x10 cnt s0 d1 ?_
  generalize hd2 : (g0_33_52_t0 x4 x10) = d2
  have hd2' := own_e2r _ _ hd2
  refine en_lstore X0 hx (hb hby at_52) (pc' := 54) (Ls' := #[.val (.long x0), .second, .val (.long x2), .second, .val (.long x4), .second, .val (.long x6), .second, .val (.long x8), .second, .val (.int x10), .val (.int cnt), .val (.long s0), .second, .val (.long d1), .second, .val (.long d2), .second, .unset, .unset, .unset, .unset, .unset, .unset, .unset, .unset, .unset, .unset, .unset, .unset]) rfl ?_
  refine r0_54_73 hw K X0 x0 x2 x4 x6 x8 x10 cnt s0 d1 d2 ?_
  generalize hd3 : (g0_54_73_t0 x6 x10) = d3
  have hd3' := own_e3r _ _ hd3
  refine en_lstore X0 hx (hb hby at_73) (pc' := 75) (Ls' := #[.val (.long x0), .second, .val (.long x2), .second, .val (.long x4), .second, .val (.long x6), .second, .val (.long x8), .second, .val (.int x10), .val (.int cnt), .val (.long s0), .second, .val (.long d1), .second, .val (.long d2), .second, .val (.long d3), .second, .unset, .unset, .unset, .unset, .unset, .unset, .unset, .unset, .unset, .unset]) rfl ?_
  refine en_lload X0 hx (hb hby at_75) (pc' := 77) rfl ?_
  refine en_lload X0 hx (hb hby at_77) (pc' := 79) rfl ?_
  refine en_ladd X0 hx (hb hby at_79) (pc' := 80) ?_
  have es1 := own_ladd s0 d1 (by omega)
  generalize hs1 : (s0 + d1) = s1
  rw [hs1] at es1
  refine en_lstore X0 hx (hb hby at_80) (pc' := 82) (Ls' := #[.val (.long x0), .second, .val (.long x2), .second, .val (.long x4), .second, .val (.long x6), .second, .val (.long x8), .second, .val (.int x10), .val (.int cnt), .val (.long s0), .second, .val (.long d1), .second, .val (.long d2), .second, .val (.long d3), .second, .val (.long s1), .second, .unset, .unset, .unset, .unset, .unset, .unset, .unset, .unset]) rfl ?_
  refine en_lload X0 hx (hb hby at_82) (pc' := 84) rfl ?_
  refine en_lload X0 hx (hb hby at_84) (pc' := 86) rfl ?_
  refine en_ladd X0 hx (hb hby at_86) (pc' := 87) ?_
  have es2 := own_ladd s1 d2 (by omega)
  generalize hs2 : (s1 + d2) = s2
  rw [hs2] at es2
  refine en_lstore X0 hx (hb hby at_87) (pc' := 89) (Ls' := #[.val (.long x0), .second, .val (.long x2), .second, .val (.long x4), .second, .val (.long x6), .second, .val (.long x8), .second, .val (.int x10), .val (.int cnt), .val (.long s0), .second, .val (.long d1), .second, .val (.long d2), .second, .val (.long d3), .second, .val (.long s1), .second, .val (.long s2), .second, .unset, .unset, .unset, .unset, .unset, .unset]) rfl ?_
  refine en_lload X0 hx (hb hby at_89) (pc' := 91) rfl ?_
  refine en_lload X0 hx (hb hby at_91) (pc' := 93) rfl ?_
  refine en_ladd X0 hx (hb hby at_93) (pc' := 94) ?_
  have es3 := own_ladd s2 d3 (by omega)
  generalize hs3 : (s2 + d3) = s3
  rw [hs3] at es3
  refine en_lstore X0 hx (hb hby at_94) (pc' := 96) (Ls' := #[.val (.long x0), .second, .val (.long x2), .second, .val (.long x4), .second, .val (.long x6), .second, .val (.long x8), .second, .val (.int x10), .val (.int cnt), .val (.long s0), .second, .val (.long d1), .second, .val (.long d2), .second, .val (.long d3), .second, .val (.long s1), .second, .val (.long s2), .second, .val (.long s3), .second, .unset, .unset, .unset, .unset]) rfl ?_
  refine en_lload X0 hx (hb hby at_96) (pc' := 98) rfl ?_
  refine en_lload X0 hx (hb hby at_98) (pc' := 100) rfl ?_
  refine en_ldc2 X0 hx hZ hown (tw hw 1 rfl) (hb hby at_100) (pc' := 103) ?_
  refine en_land X0 hx (hb hby at_103) (pc' := 104) ?_
  refine en_ladd X0 hx (hb hby at_104) (pc' := 105) ?_
  have hm := own_m62 x8
  have ep := own_ladd s0 (x8 &&& (4611686018427387903 : Int64)) (by omega)
  generalize hpos : (s0 + (x8 &&& (4611686018427387903 : Int64))) = pos
  rw [hpos] at ep
  refine en_lstore X0 hx (hb hby at_105) (pc' := 107) (Ls' := #[.val (.long x0), .second, .val (.long x2), .second, .val (.long x4), .second, .val (.long x6), .second, .val (.long x8), .second, .val (.int x10), .val (.int cnt), .val (.long s0), .second, .val (.long d1), .second, .val (.long d2), .second, .val (.long d3), .second, .val (.long s1), .second, .val (.long s2), .second, .val (.long s3), .second, .val (.long pos), .second, .unset, .unset]) rfl ?_
  refine en_iconst X0 hx (5 : Int32) (hb hby at_107) (pc' := 108) ?_
  refine en_newP X0 hx hZ (tw hw 2 rfl) e0 (hb hby at_108) (by decide) 5 (by decide) (by decide) (by decide) (by decide) (pc' := 110) (fun T1 h1 b1 k1 g1 X1 e1 E1 V10 => ?_)
  have g_b1 : n0 ≤ b1 := by rw [g1]; exact Z0
  have Z1 : n0 ≤ h1.size := Nat.le_trans Z0 E1.1
  have V1 : Arv Z h1 b1 k1 .long (5 : Int32) [(.long (0 : Int64)), (.long (0 : Int64)), (.long (0 : Int64)), (.long (0 : Int64)), (.long (0 : Int64))] (.long (0 : Int64)) := V10.pad (pad_rep [] (.long (0 : Int64)) 5)
  refine en_astore X1 hx (hb hby at_110) (pc' := 112) (Ls' := #[.val (.long x0), .second, .val (.long x2), .second, .val (.long x4), .second, .val (.long x6), .second, .val (.long x8), .second, .val (.int x10), .val (.int cnt), .val (.long s0), .second, .val (.long d1), .second, .val (.long d2), .second, .val (.long d3), .second, .val (.long s1), .second, .val (.long s2), .second, .val (.long s3), .second, .val (.long pos), .second, .val (.ref b1), .unset]) rfl rfl ?_
  refine en_aload X1 hx (hb hby at_112) (pc' := 114) rfl rfl ?_
  refine en_iconst X1 hx (0 : Int32) (hb hby at_114) (pc' := 115) ?_
  refine en_lload X1 hx (hb hby at_115) (pc' := 117) rfl ?_
  refine en_lastore X1 hx hZ e1 V1 ⟨by decide, by decide⟩ 0 rfl (Nat.le_of_ble_eq_true rfl) (hb hby at_117) (pc' := 118) (fun T2 h2 X2 e2 W2 V20 => ?_)
  have Z2 : n0 ≤ h2.size := Nat.le_trans Z1 (Keep.of_wr W2).1
  have N2 := Fr.snoc X2 N0 g_b1
  have V2 : Arv Z h2 b1 k1 .long (5 : Int32) [(.long s0), (.long (0 : Int64)), (.long (0 : Int64)), (.long (0 : Int64)), (.long (0 : Int64))] (.long (0 : Int64)) := V20
  refine en_aload X2 hx (hb hby at_118) (pc' := 120) rfl rfl ?_
  refine en_iconst X2 hx (1 : Int32) (hb hby at_120) (pc' := 121) ?_
  refine en_lload X2 hx (hb hby at_121) (pc' := 123) rfl ?_
  refine en_lastore X2 hx hZ e2 V2 ⟨by decide, by decide⟩ 1 rfl (Nat.le_of_ble_eq_true rfl) (hb hby at_123) (pc' := 124) (fun T3 h3 X3 e3 W3 V30 => ?_)
  have Z3 : n0 ≤ h3.size := Nat.le_trans Z2 (Keep.of_wr W3).1
  have N3 := Fr.snoc X3 N2 g_b1
  have V3 : Arv Z h3 b1 k1 .long (5 : Int32) [(.long s0), (.long s1), (.long (0 : Int64)), (.long (0 : Int64)), (.long (0 : Int64))] (.long (0 : Int64)) := V30
  refine en_aload X3 hx (hb hby at_124) (pc' := 126) rfl rfl ?_
  refine en_iconst X3 hx (2 : Int32) (hb hby at_126) (pc' := 127) ?_
  refine en_lload X3 hx (hb hby at_127) (pc' := 129) rfl ?_
  refine en_lastore X3 hx hZ e3 V3 ⟨by decide, by decide⟩ 2 rfl (Nat.le_of_ble_eq_true rfl) (hb hby at_129) (pc' := 130) (fun T4 h4 X4 e4 W4 V40 => ?_)
  have Z4 : n0 ≤ h4.size := Nat.le_trans Z3 (Keep.of_wr W4).1
  have N4 := Fr.snoc X4 N3 g_b1
  have V4 : Arv Z h4 b1 k1 .long (5 : Int32) [(.long s0), (.long s1), (.long s2), (.long (0 : Int64)), (.long (0 : Int64))] (.long (0 : Int64)) := V40
  refine en_aload X4 hx (hb hby at_130) (pc' := 132) rfl rfl ?_
  refine en_iconst X4 hx (3 : Int32) (hb hby at_132) (pc' := 133) ?_
  refine en_lload X4 hx (hb hby at_133) (pc' := 135) rfl ?_
  refine en_lastore X4 hx hZ e4 V4 ⟨by decide, by decide⟩ 3 rfl (Nat.le_of_ble_eq_true rfl) (hb hby at_135) (pc' := 136) (fun T5 h5 X5 e5 W5 V50 => ?_)
  have Z5 : n0 ≤ h5.size := Nat.le_trans Z4 (Keep.of_wr W5).1
  have N5 := Fr.snoc X5 N4 g_b1
  have V5 : Arv Z h5 b1 k1 .long (5 : Int32) [(.long s0), (.long s1), (.long s2), (.long s3), (.long (0 : Int64))] (.long (0 : Int64)) := V50
  refine en_aload X5 hx (hb hby at_136) (pc' := 138) rfl rfl ?_
  refine en_iconst X5 hx (4 : Int32) (hb hby at_138) (pc' := 139) ?_
  refine en_lload X5 hx (hb hby at_139) (pc' := 141) rfl ?_
  refine en_lastore X5 hx hZ e5 V5 ⟨by decide, by decide⟩ 4 rfl (Nat.le_of_ble_eq_true rfl) (hb hby at_141) (pc' := 142) (fun T6 h6 X6 e6 W6 V60 => ?_)
  have Z6 : n0 ≤ h6.size := Nat.le_trans Z5 (Keep.of_wr W6).1
  have N6 := Fr.snoc X6 N5 g_b1
  have V6 : Arv Z h6 b1 k1 .long (5 : Int32) [(.long s0), (.long s1), (.long s2), (.long s3), (.long s3)] (.long (0 : Int64)) := V60
  refine en_iconst X6 hx (0 : Int32) (hb hby at_142) (pc' := 143) ?_
  refine en_istore X6 hx (hb hby at_143) (pc' := 145) (Ls' := #[.val (.long x0), .second, .val (.long x2), .second, .val (.long x4), .second, .val (.long x6), .second, .val (.long x8), .second, .val (.int x10), .val (.int cnt), .val (.long s0), .second, .val (.long d1), .second, .val (.long d2), .second, .val (.long d3), .second, .val (.long s1), .second, .val (.long s2), .second, .val (.long s3), .second, .val (.long pos), .second, .val (.ref b1), .val (.int (0 : Int32))]) rfl ?_
  have Vs : Arv Z h6 b1 k1 .long (5 : Int32) (([s0, s1, s2, s3, s3] : List Int64).map Value.long) (.long (0 : Int64)) := V6
  obtain ⟨t, ht0, ht4, ht⟩ := own_thr s0 s1 s2 s3 pos (by omega) (by omega) (by omega) (by omega)
  refine r0_145_162 hw K X6 x0 x2 x4 x6 x8 x10 cnt s0 d1 d2 d3 s1 s2 s3 pos b1 (0 : Int32) ?_
  refine r0_162_179 hw K X6 x0 x2 x4 x6 x8 x10 cnt s0 d1 d2 d3 s1 s2 s3 pos b1 (g0_145_162_l29 cnt s1 pos (0 : Int32)) ?_
  refine r0_179_196 hw K X6 x0 x2 x4 x6 x8 x10 cnt s0 d1 d2 d3 s1 s2 s3 pos b1 (g0_162_179_l29 cnt s2 pos (g0_145_162_l29 cnt s1 pos (0 : Int32))) ?_
  generalize hex : (g0_179_196_l29 cnt s3 pos (g0_162_179_l29 cnt s2 pos (g0_145_162_l29 cnt s1 pos (0 : Int32)))) = ex
  obtain ⟨r, hr⟩ : ∃ r : Int32, r.toInt = ((min cn t - 1 : Nat) : Int) := ⟨Int32.ofNat (min cn t - 1), by rw [Int32.toInt_ofNat']; have e : Int32.size = 2 ^ 32 := rfl; rw [Int.bmod_eq_of_le] <;> omega⟩
  refine en_aload X6 hx (hb hby at_196) (pc' := 198) rfl rfl ?_
  refine en_iload X6 hx (hb hby at_198) (pc' := 200) rfl ?_
  refine en_lload X6 hx (hb hby at_200) (pc' := 202) rfl ?_
  refine en_callP X6 hx hZ (fr := 0) (lo := 0) hown (tw hw 3 rfl) (tw hw 4 rfl) (tw hw 5 rfl) (tw hw 6 rfl) (by decide) (rm1 l Z a0 hw [] b1 cnt pos r [s0, s1, s2, s3, s3] t cn k1 _ n0 Z6 Vs (own_all ht) (by omega) hc4 ht0 hcn hr) e6 (by decide) 0 rfl (by decide) (by decide) (by decide) (by rw [hml]; rfl) (argsL := [(.ref b1), (.int cnt), (.long pos)]) (rest := []) (lenOf pd_0 rfl) rfl (hb hby at_202) (pc' := 205) (fun T7 X7 e7 => ?_)
  refine en_iload X7 hx (hb hby at_205) (pc' := 207) rfl ?_
  refine en_icmpNo X7 hx (hb hby at_207) (teq (own_exp hcn hc1 hc4 ht0 ht4 ht hr hex)).2 (pc' := 210) ?_
  refine en_iconst X7 hx (1 : Int32) (hb hby at_210) (pc' := 211) ?_
  refine en_goto X7 hx (hb hby at_211) (pc' := 215) ?_
  exact en_retZ X7 hx hret hlk (hb hby at_215) rfl (by decide) (by decide) (by first | (rw [e7]; exact ⟨rfl, N6⟩) | exact ⟨rfl, N6⟩)
set_option maxRecDepth 65536 in
set_option maxHeartbeats 40000000 in
theorem comes_1 {Post : Tables → Env → Array Value → State → Outcome → State → Prop} (hpost : ∀ tb e args s v u, (limb_1_1.after args s (.returned v) u = true ∧ limb_1_2.after args s (.returned v) u = true ∧ True) → FrameEnd s (.returned v) u (Jvm.fieldLocs frame_1_writes args s ++ Jvm.arrayLocs frame_1_arrays args s ++ Jvm.staticLocs frame_1_statics s) 16 128 → Post tb e args s (.returned v) u) :
    ArmFor flags0 classFile x code maxLocals ret World_1 tables_1 room_1 Calls_1 rest_1 Pre_1 Post := by
  intro l hfl _ _ p e ha hc hk s m args below hf hA hF happ hP
  obtain ⟨hcalls, hrest, hpre⟩ := hP
  obtain ⟨-, -, -, hnamed, -, -, -, hat⟩ := (Spec.applies_iff hf).mp happ
  obtain ⟨hg, hn⟩ := and_e (Cond.before_iff.mp (show (Jvm.Cond.and given_1 narrow_1).before args s = true from hpre))
  obtain ⟨g1, g2⟩ := and_e hg
  obtain ⟨g3, g4⟩ := and_e g2
  obtain ⟨g5, g6⟩ := and_e g4
  obtain ⟨g7, g8⟩ := and_e g6
  obtain ⟨g9, g10⟩ := and_e g8
  obtain ⟨g11, g12⟩ := and_e g10
  obtain ⟨w0, w1, w2, w3, w4, w5, rfl⟩ : ∃ w0 w1 w2 w3 w4 w5 : Value, args = #[w0, w1, w2, w3, w4, w5] := by
    have hs : args.size = 6 := by simpa [Cond.value, given_1] using g1
    obtain ⟨L⟩ := args
    match L, hs with
    | [w0, w1, w2, w3, w4, w5], _ => exact ⟨w0, w1, w2, w3, w4, w5, rfl⟩
  have hw := fun d (hd : d ∈ tables_1) => atoms_spec (ws := Jvm.Cond.code x code maxLocals ret :: tables_1) hat d (List.mem_cons_of_mem _ hd)
  obtain ⟨i0, ei0⟩ := isL_v g3
  obtain rfl : w0 = (.long i0) := Option.some.inj ei0
  obtain ⟨i1, ei1⟩ := isL_v g5
  obtain rfl : w1 = (.long i1) := Option.some.inj ei1
  obtain ⟨i2, ei2⟩ := isL_v g7
  obtain rfl : w2 = (.long i2) := Option.some.inj ei2
  obtain ⟨i3, ei3⟩ := isL_v g9
  obtain rfl : w3 = (.long i3) := Option.some.inj ei3
  obtain ⟨i4, ei4⟩ := isL_v g11
  obtain rfl : w4 = (.long i4) := Option.some.inj ei4
  obtain ⟨i5, ei5⟩ := is_v g12
  obtain rfl : w5 = (.int i5) := Option.some.inj ei5
  obtain ⟨n, o, h1, h2, h3, _, L, rfl, ⟨rfl, N⟩, hq⟩ := rm0 l s _ hw tables_1 i0 i1 i2 i3 i4 i5 s.heap s.heap.size (Nat.le_refl _)  p e ha hc hk s m _ below hf ((Spec.applies_iff_loose hf).mp happ).1 ⟨rfl, State.Warmed39.refl s, rfl⟩ trivial
  refine ⟨n, _, h1, h2, h3, hpost _ _ _ _ _ _ ⟨Cond.after_iff.mpr rfl, Cond.after_iff.mpr (eq_i res_at (Term.int_eval (1)) rfl), trivial⟩ ⟨hq.1, hq.2.1, (hq.2.2.sift fun y hy => Or.inr (N y hy)).mono (by decide) (by decide)⟩⟩
theorem main_1_1 : Claimed_1_1 := comes_1 fun _ _ _ _ _ _ h hF => ⟨h.1, hF⟩
theorem main_1_2 : Claimed_1_2 := comes_1 fun _ _ _ _ _ _ h hF => ⟨h.2.1, hF⟩
end Jvm.Pilot.@@N@@
namespace Jvm.Pilot.@@N@@
open Jvm Jvm.ClassFile Sem Op Lib Jvm.Free Jvm.Stand Jvm.Pilot.@@N@@.Jvm.D
/-! MADE BY PROGRAM (witnessworld.py) out of the Statement's table words and the real class files: 13 classes; the members and pool entries that the words name. The judged class is class 1, her method 1. -/
namespace start1
open Jvm.ClassFile
def u (s : String) : CpInfo := .utf8 (stringToUtf16 s)
/-- a pool by its gaps: so many unusable entries, then the entry; so many at the end -/
def gap : Nat → List CpInfo → List CpInfo
  | 0, r => r
  | n + 1, r => .unusable :: gap n r
def poolList (es : List (Nat × CpInfo)) (last : Nat) : List CpInfo := es.foldr (fun e r => gap e.1 (e.2 :: r)) (gap last [])
def pool (es : List (Nat × CpInfo)) (last : Nat) : Array CpInfo := ⟨poolList es last⟩
def fileOf (pool : Array CpInfo) (this : Nat) (attrs : Array Attribute := #[]) (ms : Array MethodInfo := #[]) (fl : Nat := 33) (sup : Nat := 0) (ifs : Array Nat := #[]) (fds : Array FieldInfo := #[]) : ClassFile where
  minorVersion := 0
  majorVersion := 65
  constantPool := pool
  accessFlags := fl
  thisClass := this
  superClass := sup
  interfaces := ifs
  fields := fds
  methods := ms
  attributes := attrs
def plain (name : String) (sup : Option ClassId) : Class where
  name := name
  kind := .ordinary
  loader := none
  accessFlags := 33
  super := sup
  interfaces := #[]
  cf := none
  fields := #[]
  methods := #[]
  instanceTypes := #[]
  staticTypes := #[]
  resolved := #[]
  callSites := []
  init := .initialized
  statics := none
  mirror := none

def pool0 : Array CpInfo := pool [(5, u "<init>"), (0, u "()V"), (1, .class_ 10), (1, u "java/lang/Object")] 113

def k0m0 : Method := { name := "<init>", desc := "()V", sig := { parameters := [], returnType := none }, accessFlags := 1, code := none }
/-- java/lang/Object -/
def k0 : Class := { plain "java/lang/Object" none with
  accessFlags := 33
  interfaces := #[]
  cf := some (fileOf pool0 8 #[] #[{ accessFlags := 1, nameIndex := 5, descriptorIndex := 6, attributes := #[] }] 33 0 #[] #[])
  fields := #[]
  methods := #[k0m0]
  instanceTypes := #[]
  staticTypes := #[]
  resolved := Array.replicate 124 none
  statics := none }

def pool1 : Array CpInfo := pool [(2, .class_ 4), (1, u "java/lang/Object"), (0, u "<init>"), (0, u "()V"), (0, .long 1152921504606846975), (1, .long 4611686018427387903), (1, .methodref 12 13), (0, .class_ 14), (0, .nameAndType 15 16), (0, u "com/example/pagehound/pagehound/evidence/SegmentFiles"), (0, u "holding"), (0, u "([JIJ)I"), (0, .class_ 18), (0, u "com/example/pagehound/pagehound/evidence/SegmentFilesHoldingPinLaw"), (2, u "law"), (0, u "(JJJJJI)Z")] 5

def k1m0 : Method := { name := "<init>", desc := "()V", sig := { parameters := [], returnType := none }, accessFlags := 1, code := none }
def k1c1 : Code := { maxStack := 6, maxLocals := 30, code := code, exceptionTable := #[], attributes := #[] }
def k1m1 : Method := { name := "law", desc := "(JJJJJI)Z", sig := { parameters := [.long, .long, .long, .long, .long, .int], returnType := some .boolean }, accessFlags := 9, code := some k1c1 }
/-- com/example/pagehound/pagehound/evidence/SegmentFilesHoldingPinLaw -/
def k1 : Class := { plain "com/example/pagehound/pagehound/evidence/SegmentFilesHoldingPinLaw" (some 0) with
  accessFlags := 49
  interfaces := #[]
  cf := some (fileOf pool1 17 #[] #[{ accessFlags := 1, nameIndex := 5, descriptorIndex := 6, attributes := #[] }, { accessFlags := 9, nameIndex := 21, descriptorIndex := 22, attributes := #[] }] 49 2 #[] #[])
  fields := #[]
  methods := #[k1m0, k1m1]
  instanceTypes := #[]
  staticTypes := #[]
  resolved := Array.replicate 28 none
  statics := none }

def pool2 : Array CpInfo := pool [(1, .class_ 2), (0, u "java/lang/AutoCloseable"), (0, .class_ 4), (0, u "java/lang/Object")] 7

/-- java/lang/AutoCloseable -/
def k2 : Class := { plain "java/lang/AutoCloseable" (some 0) with
  accessFlags := 1537
  interfaces := #[]
  cf := some (fileOf pool2 1 #[] #[] 1537 3 #[] #[])
  fields := #[]
  methods := #[]
  instanceTypes := #[]
  staticTypes := #[]
  resolved := Array.replicate 12 none
  statics := none }

def pool3 : Array CpInfo := pool [(1, .class_ 2), (0, u "java/io/Closeable"), (0, .class_ 4), (0, u "java/lang/Object"), (0, .class_ 6), (0, u "java/lang/AutoCloseable")] 7

/-- java/io/Closeable -/
def k3 : Class := { plain "java/io/Closeable" (some 0) with
  accessFlags := 1537
  interfaces := #[2]
  cf := some (fileOf pool3 1 #[] #[] 1537 3 #[5] #[])
  fields := #[]
  methods := #[]
  instanceTypes := #[]
  staticTypes := #[]
  resolved := Array.replicate 14 none
  statics := none }

def pool4 : Array CpInfo := pool [(2, .class_ 4), (1, u "java/lang/Object"), (2, .class_ 8), (0, u "com/example/pagehound/pagehound/evidence/SegmentFiles"), (0, .class_ 10), (0, u "com/example/pagehound/pagehound/evidence/SegmentFiles$Slot"), (2, u "slots"), (0, u "[Lcom/example/pagehound/pagehound/evidence/SegmentFiles$Slot;"), (2, u "opening"), (0, u "Ljava/lang/Object;"), (2, u "segments"), (0, u "Lcom/example/pagehound/pagehound/evidence/SegmentFiles$Segments;"), (88, .class_ 113), (1, u "com/example/pagehound/pagehound/evidence/SegmentFiles$Segments"), (26, u "J"), (2, u "Ljava/lang/String;"), (11, u "I"), (5, u "closed"), (0, u "Z"), (5, u "reads"), (17, .class_ 187), (0, u "java/io/Closeable"), (0, u "OPEN"), (2, u "SEGMENT"), (0, u "NOT_REGULAR"), (14, u "holding"), (0, u "([JIJ)I")] 30

def k4c0 : Code := { maxStack := 4, maxLocals := 7, code := prog_112_method_6_code, exceptionTable := #[], attributes := #[] }
def k4m0 : Method := { name := "holding", desc := "([JIJ)I", sig := { parameters := [(.array .long), .int, .long], returnType := some .int }, accessFlags := 8, code := some k4c0 }
/-- com/example/pagehound/pagehound/evidence/SegmentFiles -/
def k4 : Class := { plain "com/example/pagehound/pagehound/evidence/SegmentFiles" (some 0) with
  accessFlags := 48
  interfaces := #[3]
  cf := some (fileOf pool4 7 #[.nestMembers #[9, 111]] #[{ accessFlags := 8, nameIndex := 207, descriptorIndex := 208, attributes := #[] }] 48 2 #[186] #[{ accessFlags := 26, nameIndex := 188, descriptorIndex := 155, attributes := #[] }, { accessFlags := 26, nameIndex := 191, descriptorIndex := 143, attributes := #[] }, { accessFlags := 24, nameIndex := 192, descriptorIndex := 143, attributes := #[] }, { accessFlags := 18, nameIndex := 21, descriptorIndex := 22, attributes := #[] }, { accessFlags := 18, nameIndex := 13, descriptorIndex := 14, attributes := #[] }, { accessFlags := 2, nameIndex := 168, descriptorIndex := 140, attributes := #[] }, { accessFlags := 18, nameIndex := 17, descriptorIndex := 18, attributes := #[] }, { accessFlags := 2, nameIndex := 161, descriptorIndex := 162, attributes := #[] }])
  fields := #[{ name := "OPEN", type := .int, accessFlags := 26, slot := 0, constantValue := 0 }, { name := "SEGMENT", type := (.object "java/lang/String"), accessFlags := 26, slot := 1, constantValue := 0 }, { name := "NOT_REGULAR", type := (.object "java/lang/String"), accessFlags := 24, slot := 2, constantValue := 0 }, { name := "segments", type := (.object "com/example/pagehound/pagehound/evidence/SegmentFiles$Segments"), accessFlags := 18, slot := 0, constantValue := 0 }, { name := "slots", type := (.array (.object "com/example/pagehound/pagehound/evidence/SegmentFiles$Slot")), accessFlags := 18, slot := 1, constantValue := 0 }, { name := "reads", type := .long, accessFlags := 2, slot := 2, constantValue := 0 }, { name := "opening", type := (.object "java/lang/Object"), accessFlags := 18, slot := 3, constantValue := 0 }, { name := "closed", type := .boolean, accessFlags := 2, slot := 4, constantValue := 0 }]
  methods := #[k4m0]
  instanceTypes := #[(.object "com/example/pagehound/pagehound/evidence/SegmentFiles$Segments"), (.array (.object "com/example/pagehound/pagehound/evidence/SegmentFiles$Slot")), .long, (.object "java/lang/Object"), .boolean]
  staticTypes := #[.int, (.object "java/lang/String"), (.object "java/lang/String")]
  resolved := Array.replicate 239 none
  statics := none }

def pool5 : Array CpInfo := pool [(1, u "java/lang/Cloneable"), (0, .class_ 1), (0, u "java/lang/Object"), (0, .class_ 3)] 3

/-- java/lang/Cloneable -/
def k5 : Class := { plain "java/lang/Cloneable" (some 0) with
  accessFlags := 1537
  interfaces := #[]
  cf := some (fileOf pool5 2 #[] #[] 1537 4 #[] #[])
  fields := #[]
  methods := #[]
  instanceTypes := #[]
  staticTypes := #[]
  resolved := Array.replicate 8 none
  statics := none }

def pool6 : Array CpInfo := pool [(1, u "java/io/Serializable"), (0, .class_ 1), (0, u "java/lang/Object"), (0, .class_ 3)] 3

/-- java/io/Serializable -/
def k6 : Class := { plain "java/io/Serializable" (some 0) with
  accessFlags := 1537
  interfaces := #[]
  cf := some (fileOf pool6 2 #[] #[] 1537 4 #[] #[])
  fields := #[]
  methods := #[]
  instanceTypes := #[]
  staticTypes := #[]
  resolved := Array.replicate 8 none
  statics := none }

/-- the primitive byte -/
def k7 : Class := { plain "byte" none with kind := .primitive 'B', accessFlags := 0x411 }
/-- [B -/
def k8 : Class := { plain "[B" (some 0) with kind := .array 7 .byte, interfaces := #[5, 6], accessFlags := 1041 }

/-- the primitive int -/
def k9 : Class := { plain "int" none with kind := .primitive 'I', accessFlags := 0x411 }
/-- [I -/
def k10 : Class := { plain "[I" (some 0) with kind := .array 9 .int, interfaces := #[5, 6], accessFlags := 1041 }

/-- the primitive long -/
def k11 : Class := { plain "long" none with kind := .primitive 'J', accessFlags := 0x411 }
/-- [J -/
def k12 : Class := { plain "[J" (some 0) with kind := .array 11 .long, interfaces := #[5, 6], accessFlags := 1041 }

def heap : Heap := #[]
def classes : Array Class := #[k0, k1, k2, k3, k4, k5, k6, k7, k8, k9, k10, k11, k12]
def interned : List (Array UInt16 × Addr) := []
def slotsUsed : Nat := 0
def theMethod : MethodId := ⟨1, 1⟩
def args0 : Array Value := #[.long 5, .long 3, .long 9, .long 1, .long 4, .int 7]
def aboutOver (below : List Frame) : State where
  vm := { classes := classes, interned := interned.toArray }
  heap := heap
  slotsUsed := slotsUsed
  threads := #[{ frames := .invoking theMethod args0 :: below }]
def below0 : List Frame := [.native { method := ⟨0, 0⟩, args := #[] }]
def about1 : State := aboutOver below0
def p0 : Program := .bare "" "" ""
def e0 : Env := launch0.env 0 0 0
theorem w_frames : about1.frames = Frame.invoking theMethod args0 :: below0 := rfl
set_option maxRecDepth 65536 in
theorem w_args : argsFit about1.vm theMethod args0 = true := by decide +kernel
set_option maxRecDepth 65536 in
theorem w_heap : heapFits about1 = true := by decide +kernel
set_option maxRecDepth 65536 in
theorem w_runnable : about1.curStatus? = some .runnable := by decide +kernel
set_option maxRecDepth 65536 in
theorem w_alone : about1.alone = true := by decide +kernel
set_option maxRecDepth 65536 in
theorem w_named : about1.methodNamed? x = some theMethod := by decide +kernel
set_option maxRecDepth 65536 in
theorem w_hears : about1.hears theMethod below0 = true := by decide +kernel
set_option maxRecDepth 65536 in
theorem w_ripe : about1.ripe theMethod args0 below0 = true := by decide +kernel
theorem w_running : about1.status = .running := rfl
set_option maxRecDepth 65536 in
theorem w_room : about1.hasRoom e0.platform room_1 = true :=
  launch0.hasRoom_least _ room_1 (by decide +kernel) (by decide +kernel) (by decide +kernel) (by decide +kernel) (by decide +kernel) (by decide +kernel)
theorem allAtoms_all (ts : List Jvm.Cond) (a : Array Jvm.Value) (st : Jvm.State) : (allAtoms ts).before a st = ts.all (fun c => c.before a st) := by
  induction ts with
  | nil => rfl
  | cons c t ih =>
    show (Jvm.Cond.and c (allAtoms t)).before a st = _
    rw [Jvm.Cond.before_and, ih, List.all_cons]
def words1 : List Jvm.Cond := Jvm.Cond.code x code maxLocals ret :: tables_1
/-- a 'code' word, met by the world's own term for the bytes: nothing is compared byte by byte -/
theorem code_word {y : MethodName} {bytes : ByteArray} {mx : Nat} {rt : Option FieldType} {a : Array Value} {s : State} {m : MethodId} {meth : Method} {c : Code} (h1 : s.methodNamed? y = some m) (h2 : s.vm.method? m = some meth) (h3 : meth.code = some c) (h4 : c.code = bytes)
    (h5 : (c.maxLocals == mx && c.exceptionTable.isEmpty && decide (c.maxStack ≤ mostOperands) && decide (meth.sig.returnType = rt) && !meth.locks && decide (parseMethodDescriptor y.desc = some meth.sig)) = true) : (Jvm.Cond.code y bytes mx rt).before a s = true := by
  simp only [Bool.and_eq_true, beq_iff_eq, Bool.not_eq_true', decide_eq_true_eq] at h5
  obtain ⟨⟨⟨⟨⟨g1, g2⟩, g3⟩, g4⟩, g5⟩, g6⟩ := h5
  simp [Cond.before, Cond.holds, Cond.value, h1, h2, h3, h4, g1, g2, g3, g4, g5, g6]
def isCode : Jvm.Cond → Bool
  | .code _ _ _ _ => true
  | _ => false
theorem all_split {L : List Jvm.Cond} {P : Jvm.Cond → Bool} (h1 : L.all (fun c => isCode c || P c) = true) (h2 : ∀ c ∈ L.filter isCode, P c = true) : L.all P = true := by
  refine List.all_eq_true.mpr fun c hc => ?_
  have h := List.all_eq_true.mp h1 c hc
  rcases Bool.eq_false_or_eq_true (isCode c) with hi | hi
  · exact h2 c (List.mem_filter.mpr ⟨hc, hi⟩)
  · simpa [hi] using h
set_option maxRecDepth 65536 in
theorem w_c0 : (Jvm.Cond.code x code maxLocals ret).before args0 about1 = true := code_word (m := ⟨1, 1⟩) (meth := k1m1) (c := k1c1) (by decide +kernel) rfl rfl rfl (by decide +kernel)
set_option maxRecDepth 65536 in
theorem w_c1 : (Jvm.Cond.code ({ cls := "com/example/pagehound/pagehound/evidence/SegmentFiles", name := "holding", desc := "([JIJ)I" } : Jvm.MethodName) prog_112_method_6_code (7 : Nat) (Option.some Jvm.ClassFile.FieldType.int)).before args0 about1 = true := code_word (m := ⟨4, 0⟩) (meth := k4m0) (c := k4c0) (by decide +kernel) rfl rfl rfl (by decide +kernel)
def codes1 : List Jvm.Cond := [Jvm.Cond.code x code maxLocals ret, Jvm.Cond.code ({ cls := "com/example/pagehound/pagehound/evidence/SegmentFiles", name := "holding", desc := "([JIJ)I" } : Jvm.MethodName) prog_112_method_6_code (7 : Nat) (Option.some Jvm.ClassFile.FieldType.int)]
set_option maxRecDepth 65536 in
theorem codes_eq : words1.filter isCode = codes1 := rfl
theorem w_codes : ∀ c ∈ words1.filter isCode, c.before args0 about1 = true := by
  rw [codes_eq]
  intro c hc
  simp only [codes1, List.mem_cons, List.not_mem_nil, or_false] at hc
  rcases hc with rfl | rfl
  · exact w_c0
  · exact w_c1
set_option maxRecDepth 65536 in
theorem w_t1 : words1.all (fun c => isCode c || c.before args0 about1) = true := by decide +kernel
theorem w_tables : (allAtoms (Jvm.Cond.code x code maxLocals ret :: tables_1)).before args0 about1 = true := by
  rw [allAtoms_all]
  show words1.all (fun c => c.before args0 about1) = true
  refine all_split ?_ w_codes
  rw [w_t1]
set_option maxRecDepth 65536 in
theorem w_case : (Jvm.Cond.and given_1 narrow_1).before args0 about1 = true := by decide +kernel
theorem w_applies : (headSpec (Jvm.Cond.code x code maxLocals ret :: tables_1) room_1).applies x e0.platform about1 = true :=
  (Spec.applies_iff w_frames).mpr ⟨w_running, w_runnable, w_alone, w_named, w_hears, w_ripe, w_room, w_tables⟩
theorem atStart : AtStart classFile x code maxLocals ret World_1 tables_1 room_1 Calls_1 rest_1 Pre_1 launch0 p0 e0 about1 theMethod args0 below0 :=
  ⟨lists_1, trivial, launch0.admits_env _ _ _, launch0.least_env, fairChoices_fair.cas, fairChoices_fair.clock, w_frames, w_args, w_heap, w_applies, trivial, trivial, w_case⟩
end start1
theorem witness_1 : WitnessClaimed_1 := ⟨start1.p0, start1.e0, start1.about1, start1.theMethod, start1.args0, start1.below0, start1.atStart⟩
end Jvm.Pilot.@@N@@
