import JvmDerived
import JvmDerived.Pilot.@@N@@Statement
import JvmDerived.Pilot.@@N@@Code
set_option linter.unusedVariables false
set_option linter.unusedSimpArgs false
namespace Jvm.OwnKit
open Sem ClassFile Op Lib Jvm.Stand Jvm.Free Jvm.LawKit Jvm.RoadKit
section Kit
variable {p : Program} {l : Launch} {e : Env} {R : Room} {s : State} {m : MethodId} {args : Array Value} {below : List Frame} {meth : Method} {c : Code} {T : State} {locs : List Loc} {cells slots : Nat} {Z : State} {a0 : Array Value} {h : Heap} {C S : Nat} {Q : Option Value → Heap → List Loc → Prop} {Ls Ls' : Array Slot} {st st' rest : List Value} {pc pc' : Nat}
/-- from here the invocation ends by a return, with Q -/
def OwnEnds (p : Program) (e : Env) (below : List Frame) (s : State) (C S : Nat) (Q : Option Value → Heap → List Loc → Prop) (T : State) (m : MethodId) (pc : Nat) (Ls : Array Slot) (st : List Value) : Prop :=
  ∃ t o, Steps p.tables e below (T.setTop (mkF m pc Ls st)) t ∧ t.status = .running ∧ Ended t below o ∧ ∃ v L, o = .returned v ∧ Q v t.heap L ∧ FrameEnd s o t L C S
theorem OwnEnds.of {T' : State} (k : ∀ t, Steps p.tables e below (T'.setTop (mkF m pc' Ls' st')) t → Steps p.tables e below (T.setTop (mkF m pc Ls st)) t) (h : OwnEnds p e below s C S Q T' m pc' Ls' st') : OwnEnds p e below s C S Q T m pc Ls st := by
  obtain ⟨t, o, h1, h2⟩ := h
  exact ⟨t, o, k t h1, h2⟩
theorem OwnEnds.mono {Q' : Option Value → Heap → List Loc → Prop} (h : OwnEnds p e below s C S Q T m pc Ls st) (q : ∀ v h L, Q v h L → Q' v h L) : OwnEnds p e below s C S Q' T m pc Ls st := by
  obtain ⟨t, o, h1, h2, h3, v, L, h4, h5, h6⟩ := h
  exact ⟨t, o, h1, h2, h3, v, L, h4, q _ _ _ h5, h6⟩
/-- what a walk knows of its method -/
def Cx (p : Program) (s : State) (m : MethodId) (meth : Method) (c : Code) (Z : State) (y : MethodName) (bytes : ByteArray) (maxL : Nat) (ret : Option FieldType) : Prop :=
  p.tables.exec = Jvm.exec ∧ c.code = bytes ∧ c.maxLocals = maxL ∧ meth.sig.returnType = ret ∧ meth.locks = false ∧ meth.name = y.name ∧ s.vm.findClass y.cls = some m.cls ∧ Z.Warmed39 s.vm
/-- a contract: called with these arguments at the heap h0, the method returns with Q -/
def OwnMeets (l : Launch) (Z : State) (y : MethodName) (bytes : ByteArray) (maxL : Nat) (ret : Option FieldType) (ws : List Jvm.Cond) (rm : Room) (as' : Array Value) (h0 : Heap) (Q : Option Value → Heap → List Loc → Prop) : Prop :=
  MetFree l y (head1 (Jvm.Cond.code y bytes maxL ret :: ws) rm) (fun a U => a = as' ∧ Z.Warmed39 U.vm ∧ U.heap = h0) (fun _ _ _ _ _ => True) (fun _ U o U' => ∃ v L, o = .returned v ∧ Q v U'.heap L ∧ FrameEnd U o U' L rm.cells rm.slots)
theorem OwnMeets.of_walk {y : MethodName} {bytes : ByteArray} {maxL : Nat} {ret : Option FieldType} {ws : List Jvm.Cond} {rm : Room} {as' : Array Value} {h0 : Heap} (hpl : plainFor y = true) (hent : ∀ m, entryFrame m as' maxL = mkF m 0 Ls [])
    (body : ∀ (p : Program) (e : Env) (s : State) (m : MethodId) (below : List Frame) (meth : Method) (c : Code) (T : State), Stand p l e rm s m as' below meth c T [] 0 0 → Cx p s m meth c Z y bytes maxL ret → T.heap = h0 → OwnEnds p e below s rm.cells rm.slots Q T m 0 Ls []) :
    OwnMeets l Z y bytes maxL ret ws rm as' h0 Q := by
  refine MetFree.of_bodySF hpl hisR ?_
  intro p e s m args below meth c s₁ Bd hml0 hP hK
  obtain ⟨rfl, hZ, hh⟩ := hP
  have X0 : Stand p l e rm s m _ below meth c s₁ [] 0 0 := Stand.of_body Bd
  have e0 : s₁.heap = h0 := by rw [← hh, Bd.state]; rfl
  obtain ⟨t, o, h1, h2, h3, v, L, h4, h5, h6⟩ := body p e s m below meth c s₁ X0 ⟨Bd.exec, Bd.bytes, hml0, Bd.returns, BodyLoose.notSynchronized Bd, (name_of_methodNamed Bd.named Bd.method).1, findClass_of_methodNamed Bd.named, hZ⟩ e0
  exact ⟨t, o, castTop (hent m) h1, h2, h3, v, L, h4, h5, h6⟩
theorem tw {W : List Jvm.Cond} (hw : ∀ d ∈ W, d.before a0 Z = true) (i : Nat) {d : Jvm.Cond} (q : W[i]? = some d) : d.before a0 Z = true := hw d (List.mem_of_getElem? q)
theorem pick {P : Prop} [Decidable P] {α : Type} {A B : α} {F : α → Prop} {G : Prop} (k : F (if P then A else B)) (k1 : P → F A → G) (k2 : ¬ P → F B → G) : G := by
  by_cases q : P
  · exact k1 q (by rwa [if_pos q] at k)
  · exact k2 q (by rwa [if_neg q] at k)
theorem pickR {P : Prop} [Decidable P] {α : Type} {A B : α} {F : α → Prop} (k1 : P → F A) (k2 : ¬ P → F B) : F (if P then A else B) := by
  by_cases q : P
  · rw [if_pos q]; exact k1 q
  · rw [if_neg q]; exact k2 q
theorem en_iloadN (X : Stand p l e R s m args below meth c T locs cells slots) (hx : p.tables.exec = Jvm.exec) {k : Fin 4} {v : Int32} (hd : decode c.code pc = .ok (.iload_n k, 1)) (hl : Ls[k.val]? = some (.val (.int v))) (k : OwnEnds p e below s C S Q T m pc' Ls (.int v :: st)) (hp : pc + 1 = pc' := by rfl) : OwnEnds p e below s C S Q T m pc Ls st := by
  subst hp
  exact OwnEnds.of (fun _ k => XS.iloadN X.here hx (g := mkF m pc Ls st) rfl hd hl k) k
theorem en_iload (X : Stand p l e R s m args below meth c T locs cells slots) (hx : p.tables.exec = Jvm.exec) {k : Nat} {v : Int32} (hd : decode c.code pc = .ok (.iload k, 2)) (hl : Ls[k]? = some (.val (.int v))) (k : OwnEnds p e below s C S Q T m pc' Ls (.int v :: st)) (hp : pc + 2 = pc' := by rfl) : OwnEnds p e below s C S Q T m pc Ls st := by
  subst hp
  exact OwnEnds.of (fun _ k => XS.iload X.here hx (g := mkF m pc Ls st) rfl hd hl k) k
theorem en_istoreN (X : Stand p l e R s m args below meth c T locs cells slots) (hx : p.tables.exec = Jvm.exec) {k : Fin 4} {v : Int32} (hd : decode c.code pc = .ok (.istore_n k, 1)) (hl : storeLocals Ls k.val (.int v) = some Ls') (k : OwnEnds p e below s C S Q T m pc' Ls' st) (hp : pc + 1 = pc' := by rfl) : OwnEnds p e below s C S Q T m pc Ls (.int v :: st) := by
  subst hp
  exact OwnEnds.of (fun _ k => XS.istoreN X.here hx (g := mkF m pc Ls (.int v :: st)) rfl hd rfl hl k) k
theorem en_istore (X : Stand p l e R s m args below meth c T locs cells slots) (hx : p.tables.exec = Jvm.exec) {k : Nat} {v : Int32} (hd : decode c.code pc = .ok (.istore k, 2)) (hl : storeLocals Ls k (.int v) = some Ls') (k : OwnEnds p e below s C S Q T m pc' Ls' st) (hp : pc + 2 = pc' := by rfl) : OwnEnds p e below s C S Q T m pc Ls (.int v :: st) := by
  subst hp
  exact OwnEnds.of (fun _ k => XS.istore X.here hx (g := mkF m pc Ls (.int v :: st)) rfl hd rfl hl k) k
theorem en_lloadN (X : Stand p l e R s m args below meth c T locs cells slots) (hx : p.tables.exec = Jvm.exec) {k : Fin 4} {v : Int64} (hd : decode c.code pc = .ok (.lload_n k, 1)) (hl : Ls[k.val]? = some (.val (.long v))) (k : OwnEnds p e below s C S Q T m pc' Ls (.long v :: st)) (hp : pc + 1 = pc' := by rfl) : OwnEnds p e below s C S Q T m pc Ls st := by
  subst hp
  exact OwnEnds.of (fun _ k => XS.lloadN X.here hx (g := mkF m pc Ls st) rfl hd hl k) k
theorem en_lload (X : Stand p l e R s m args below meth c T locs cells slots) (hx : p.tables.exec = Jvm.exec) {k : Nat} {v : Int64} (hd : decode c.code pc = .ok (.lload k, 2)) (hl : Ls[k]? = some (.val (.long v))) (k : OwnEnds p e below s C S Q T m pc' Ls (.long v :: st)) (hp : pc + 2 = pc' := by rfl) : OwnEnds p e below s C S Q T m pc Ls st := by
  subst hp
  exact OwnEnds.of (fun _ k => XS.lload X.here hx (g := mkF m pc Ls st) rfl hd hl k) k
theorem en_lstoreN (X : Stand p l e R s m args below meth c T locs cells slots) (hx : p.tables.exec = Jvm.exec) {k : Fin 4} {v : Int64} (hd : decode c.code pc = .ok (.lstore_n k, 1)) (hl : storeLocals Ls k.val (.long v) = some Ls') (k : OwnEnds p e below s C S Q T m pc' Ls' st) (hp : pc + 1 = pc' := by rfl) : OwnEnds p e below s C S Q T m pc Ls (.long v :: st) := by
  subst hp
  exact OwnEnds.of (fun _ k => XS.lstoreN X.here hx (g := mkF m pc Ls (.long v :: st)) rfl hd rfl hl k) k
theorem en_lstore (X : Stand p l e R s m args below meth c T locs cells slots) (hx : p.tables.exec = Jvm.exec) {k : Nat} {v : Int64} (hd : decode c.code pc = .ok (.lstore k, 2)) (hl : storeLocals Ls k (.long v) = some Ls') (k : OwnEnds p e below s C S Q T m pc' Ls' st) (hp : pc + 2 = pc' := by rfl) : OwnEnds p e below s C S Q T m pc Ls (.long v :: st) := by
  subst hp
  exact OwnEnds.of (fun _ k => XS.lstore X.here hx (g := mkF m pc Ls (.long v :: st)) rfl hd rfl hl k) k
theorem en_aloadN (X : Stand p l e R s m args below meth c T locs cells slots) (hx : p.tables.exec = Jvm.exec) {k : Fin 4} {v : Value} (hd : decode c.code pc = .ok (.aload_n k, 1)) (hl : Ls[k.val]? = some (.val v)) (hv : v.isRef = true) (k : OwnEnds p e below s C S Q T m pc' Ls (v :: st)) (hp : pc + 1 = pc' := by rfl) : OwnEnds p e below s C S Q T m pc Ls st := by
  subst hp
  exact OwnEnds.of (fun _ k => XS.aloadN X.here hx (g := mkF m pc Ls st) rfl hd hl hv k) k
theorem en_aload (X : Stand p l e R s m args below meth c T locs cells slots) (hx : p.tables.exec = Jvm.exec) {k : Nat} {v : Value} (hd : decode c.code pc = .ok (.aload k, 2)) (hl : Ls[k]? = some (.val v)) (hv : v.isRef = true) (k : OwnEnds p e below s C S Q T m pc' Ls (v :: st)) (hp : pc + 2 = pc' := by rfl) : OwnEnds p e below s C S Q T m pc Ls st := by
  subst hp
  exact OwnEnds.of (fun _ k => XS.aload X.here hx (g := mkF m pc Ls st) rfl hd hl hv k) k
theorem en_astoreN (X : Stand p l e R s m args below meth c T locs cells slots) (hx : p.tables.exec = Jvm.exec) {k : Fin 4} {v : Value} (hd : decode c.code pc = .ok (.astore_n k, 1)) (hv : v.isRef = true) (hl : storeLocals Ls k.val v = some Ls') (k : OwnEnds p e below s C S Q T m pc' Ls' st) (hp : pc + 1 = pc' := by rfl) : OwnEnds p e below s C S Q T m pc Ls (v :: st) := by
  subst hp
  exact OwnEnds.of (fun _ k => XS.astoreN X.here hx (g := mkF m pc Ls (v :: st)) rfl hd rfl hv hl k) k
theorem en_astore (X : Stand p l e R s m args below meth c T locs cells slots) (hx : p.tables.exec = Jvm.exec) {k : Nat} {v : Value} (hd : decode c.code pc = .ok (.astore k, 2)) (hv : v.isRef = true) (hl : storeLocals Ls k v = some Ls') (k : OwnEnds p e below s C S Q T m pc' Ls' st) (hp : pc + 2 = pc' := by rfl) : OwnEnds p e below s C S Q T m pc Ls (v :: st) := by
  subst hp
  exact OwnEnds.of (fun _ k => XS.astore X.here hx (g := mkF m pc Ls (v :: st)) rfl hd rfl hv hl k) k
theorem en_dload (X : Stand p l e R s m args below meth c T locs cells slots) (hx : p.tables.exec = Jvm.exec) {k : Nat} {v : UInt64} (hd : decode c.code pc = .ok (.dload k, 2)) (hl : Ls[k]? = some (.val (.double v))) (k : OwnEnds p e below s C S Q T m pc' Ls (.double v :: st)) (hp : pc + 2 = pc' := by rfl) : OwnEnds p e below s C S Q T m pc Ls st := by
  subst hp
  exact OwnEnds.of (fun _ k => XS.dload X.here hx (g := mkF m pc Ls st) rfl hd hl k) k
theorem en_iconst (X : Stand p l e R s m args below meth c T locs cells slots) (hx : p.tables.exec = Jvm.exec) {i : Int} (v : Int32) (hd : decode c.code pc = .ok (.iconst i, 1)) (k : OwnEnds p e below s C S Q T m pc' Ls (.int v :: st)) (hv : Int32.ofInt i = v := by rfl) (hp : pc + 1 = pc' := by rfl) : OwnEnds p e below s C S Q T m pc Ls st := by
  subst hp hv
  exact OwnEnds.of (fun _ k => XS.iconst X.here hx (g := mkF m pc Ls st) rfl hd k) k
theorem en_bipush (X : Stand p l e R s m args below meth c T locs cells slots) (hx : p.tables.exec = Jvm.exec) {i : Int} (v : Int32) (hd : decode c.code pc = .ok (.bipush i, 2)) (k : OwnEnds p e below s C S Q T m pc' Ls (.int v :: st)) (hv : (Int8.ofInt i).toInt32 = v := by rfl) (hp : pc + 2 = pc' := by rfl) : OwnEnds p e below s C S Q T m pc Ls st := by
  subst hp hv
  exact OwnEnds.of (fun _ k => XS.bipush X.here hx (g := mkF m pc Ls st) rfl hd k) k
theorem en_sipush (X : Stand p l e R s m args below meth c T locs cells slots) (hx : p.tables.exec = Jvm.exec) {i : Int} (v : Int32) (hd : decode c.code pc = .ok (.sipush i, 3)) (k : OwnEnds p e below s C S Q T m pc' Ls (.int v :: st)) (hv : (Int16.ofInt i).toInt32 = v := by rfl) (hp : pc + 3 = pc' := by rfl) : OwnEnds p e below s C S Q T m pc Ls st := by
  subst hp hv
  exact OwnEnds.of (fun _ k => XS.sipush X.here hx (g := mkF m pc Ls st) rfl hd k) k
theorem en_lconst (X : Stand p l e R s m args below meth c T locs cells slots) (hx : p.tables.exec = Jvm.exec) {i : Fin 2} (v : Int64) (hd : decode c.code pc = .ok (.lconst i, 1)) (k : OwnEnds p e below s C S Q T m pc' Ls (.long v :: st)) (hv : Int64.ofNat i = v := by rfl) (hp : pc + 1 = pc' := by rfl) : OwnEnds p e below s C S Q T m pc Ls st := by
  subst hp hv
  exact OwnEnds.of (fun _ k => XS.lconst X.here hx (g := mkF m pc Ls st) rfl hd k) k
theorem en_dconst0 (X : Stand p l e R s m args below meth c T locs cells slots) (hx : p.tables.exec = Jvm.exec) (hd : decode c.code pc = .ok (.dconst 0, 1)) (k : OwnEnds p e below s C S Q T m pc' Ls (.double FP.dconst0 :: st)) (hp : pc + 1 = pc' := by rfl) : OwnEnds p e below s C S Q T m pc Ls st := by
  subst hp
  exact OwnEnds.of (fun _ k => XS.dconst0 X.here hx (g := mkF m pc Ls st) rfl hd rfl k) k
theorem en_ldc (X : Stand p l e R s m args below meth c T locs cells slots) (hx : p.tables.exec = Jvm.exec) (hZ : Z.Warmed39 s.vm) {own : String} {index : Nat} {v : Int32} (hown : s.vm.findClass own = some m.cls) (w : (Jvm.Cond.constant own index v).before a0 Z = true) (hd : decode c.code pc = .ok (.ldc index, 2)) (k : OwnEnds p e below s C S Q T m pc' Ls (.int v :: st)) (hp : pc + 2 = pc' := by rfl) : OwnEnds p e below s C S Q T m pc Ls st := by
  subst hp
  exact OwnEnds.of (X.ldcInt hx hown (mvT hZ w) (g := mkF m pc Ls st) rfl hd) k
theorem en_ldc2 (X : Stand p l e R s m args below meth c T locs cells slots) (hx : p.tables.exec = Jvm.exec) (hZ : Z.Warmed39 s.vm) {own : String} {index : Nat} {v : Int64} (hown : s.vm.findClass own = some m.cls) (w : (Jvm.Cond.constantLong own index v).before a0 Z = true) (hd : decode c.code pc = .ok (.ldc2_w index, 3)) (k : OwnEnds p e below s C S Q T m pc' Ls (.long v :: st)) (hp : pc + 3 = pc' := by rfl) : OwnEnds p e below s C S Q T m pc Ls st := by
  subst hp
  exact OwnEnds.of (X.ldc2Long hx hown (mvT hZ w) (g := mkF m pc Ls st) rfl hd) k
theorem en_iadd (X : Stand p l e R s m args below meth c T locs cells slots) (hx : p.tables.exec = Jvm.exec) {x y : Int32} (hd : decode c.code pc = .ok (.iadd, 1))  (k : OwnEnds p e below s C S Q T m pc' Ls (.int (x + y) :: st)) (hp : pc + 1 = pc' := by rfl) : OwnEnds p e below s C S Q T m pc Ls (.int y :: .int x :: st) := by
  subst hp
  exact OwnEnds.of (fun _ k => XS.iadd X.here hx (g := mkF m pc Ls (.int y :: .int x :: st)) rfl hd rfl k) k
theorem en_isub (X : Stand p l e R s m args below meth c T locs cells slots) (hx : p.tables.exec = Jvm.exec) {x y : Int32} (hd : decode c.code pc = .ok (.isub, 1))  (k : OwnEnds p e below s C S Q T m pc' Ls (.int (x - y) :: st)) (hp : pc + 1 = pc' := by rfl) : OwnEnds p e below s C S Q T m pc Ls (.int y :: .int x :: st) := by
  subst hp
  exact OwnEnds.of (fun _ k => XS.isub X.here hx (g := mkF m pc Ls (.int y :: .int x :: st)) rfl hd rfl k) k
theorem en_imul (X : Stand p l e R s m args below meth c T locs cells slots) (hx : p.tables.exec = Jvm.exec) {x y : Int32} (hd : decode c.code pc = .ok (.imul, 1))  (k : OwnEnds p e below s C S Q T m pc' Ls (.int (x * y) :: st)) (hp : pc + 1 = pc' := by rfl) : OwnEnds p e below s C S Q T m pc Ls (.int y :: .int x :: st) := by
  subst hp
  exact OwnEnds.of (fun _ k => XS.imul X.here hx (g := mkF m pc Ls (.int y :: .int x :: st)) rfl hd rfl k) k
theorem en_iand (X : Stand p l e R s m args below meth c T locs cells slots) (hx : p.tables.exec = Jvm.exec) {x y : Int32} (hd : decode c.code pc = .ok (.iand, 1))  (k : OwnEnds p e below s C S Q T m pc' Ls (.int (x &&& y) :: st)) (hp : pc + 1 = pc' := by rfl) : OwnEnds p e below s C S Q T m pc Ls (.int y :: .int x :: st) := by
  subst hp
  exact OwnEnds.of (fun _ k => XS.iand X.here hx (g := mkF m pc Ls (.int y :: .int x :: st)) rfl hd rfl k) k
theorem en_ior (X : Stand p l e R s m args below meth c T locs cells slots) (hx : p.tables.exec = Jvm.exec) {x y : Int32} (hd : decode c.code pc = .ok (.ior, 1))  (k : OwnEnds p e below s C S Q T m pc' Ls (.int (x ||| y) :: st)) (hp : pc + 1 = pc' := by rfl) : OwnEnds p e below s C S Q T m pc Ls (.int y :: .int x :: st) := by
  subst hp
  exact OwnEnds.of (fun _ k => XS.ior X.here hx (g := mkF m pc Ls (.int y :: .int x :: st)) rfl hd rfl k) k
theorem en_ixor (X : Stand p l e R s m args below meth c T locs cells slots) (hx : p.tables.exec = Jvm.exec) {x y : Int32} (hd : decode c.code pc = .ok (.ixor, 1))  (k : OwnEnds p e below s C S Q T m pc' Ls (.int (x ^^^ y) :: st)) (hp : pc + 1 = pc' := by rfl) : OwnEnds p e below s C S Q T m pc Ls (.int y :: .int x :: st) := by
  subst hp
  exact OwnEnds.of (fun _ k => XS.ixor X.here hx (g := mkF m pc Ls (.int y :: .int x :: st)) rfl hd rfl k) k
theorem en_ishl (X : Stand p l e R s m args below meth c T locs cells slots) (hx : p.tables.exec = Jvm.exec) {x y : Int32} (hd : decode c.code pc = .ok (.ishl, 1))  (k : OwnEnds p e below s C S Q T m pc' Ls (.int (x <<< (y &&& 31)) :: st)) (hp : pc + 1 = pc' := by rfl) : OwnEnds p e below s C S Q T m pc Ls (.int y :: .int x :: st) := by
  subst hp
  exact OwnEnds.of (fun _ k => XS.ishl X.here hx (g := mkF m pc Ls (.int y :: .int x :: st)) rfl hd rfl k) k
theorem en_ishr (X : Stand p l e R s m args below meth c T locs cells slots) (hx : p.tables.exec = Jvm.exec) {x y : Int32} (hd : decode c.code pc = .ok (.ishr, 1))  (k : OwnEnds p e below s C S Q T m pc' Ls (.int (x >>> (y &&& 31)) :: st)) (hp : pc + 1 = pc' := by rfl) : OwnEnds p e below s C S Q T m pc Ls (.int y :: .int x :: st) := by
  subst hp
  exact OwnEnds.of (fun _ k => XS.ishr X.here hx (g := mkF m pc Ls (.int y :: .int x :: st)) rfl hd rfl k) k
theorem en_iushr (X : Stand p l e R s m args below meth c T locs cells slots) (hx : p.tables.exec = Jvm.exec) {x y : Int32} (hd : decode c.code pc = .ok (.iushr, 1))  (k : OwnEnds p e below s C S Q T m pc' Ls (.int ((x.toUInt32 >>> (y &&& 31).toUInt32).toInt32) :: st)) (hp : pc + 1 = pc' := by rfl) : OwnEnds p e below s C S Q T m pc Ls (.int y :: .int x :: st) := by
  subst hp
  exact OwnEnds.of (fun _ k => XS.iushr X.here hx (g := mkF m pc Ls (.int y :: .int x :: st)) rfl hd rfl k) k
theorem en_ladd (X : Stand p l e R s m args below meth c T locs cells slots) (hx : p.tables.exec = Jvm.exec) {x y : Int64} (hd : decode c.code pc = .ok (.ladd, 1))  (k : OwnEnds p e below s C S Q T m pc' Ls (.long (x + y) :: st)) (hp : pc + 1 = pc' := by rfl) : OwnEnds p e below s C S Q T m pc Ls (.long y :: .long x :: st) := by
  subst hp
  exact OwnEnds.of (fun _ k => XS.ladd X.here hx (g := mkF m pc Ls (.long y :: .long x :: st)) rfl hd rfl k) k
theorem en_lsub (X : Stand p l e R s m args below meth c T locs cells slots) (hx : p.tables.exec = Jvm.exec) {x y : Int64} (hd : decode c.code pc = .ok (.lsub, 1))  (k : OwnEnds p e below s C S Q T m pc' Ls (.long (x - y) :: st)) (hp : pc + 1 = pc' := by rfl) : OwnEnds p e below s C S Q T m pc Ls (.long y :: .long x :: st) := by
  subst hp
  exact OwnEnds.of (fun _ k => XS.lsub X.here hx (g := mkF m pc Ls (.long y :: .long x :: st)) rfl hd rfl k) k
theorem en_lmul (X : Stand p l e R s m args below meth c T locs cells slots) (hx : p.tables.exec = Jvm.exec) {x y : Int64} (hd : decode c.code pc = .ok (.lmul, 1))  (k : OwnEnds p e below s C S Q T m pc' Ls (.long (x * y) :: st)) (hp : pc + 1 = pc' := by rfl) : OwnEnds p e below s C S Q T m pc Ls (.long y :: .long x :: st) := by
  subst hp
  exact OwnEnds.of (fun _ k => XS.lmul X.here hx (g := mkF m pc Ls (.long y :: .long x :: st)) rfl hd rfl k) k
theorem en_land (X : Stand p l e R s m args below meth c T locs cells slots) (hx : p.tables.exec = Jvm.exec) {x y : Int64} (hd : decode c.code pc = .ok (.land, 1))  (k : OwnEnds p e below s C S Q T m pc' Ls (.long (x &&& y) :: st)) (hp : pc + 1 = pc' := by rfl) : OwnEnds p e below s C S Q T m pc Ls (.long y :: .long x :: st) := by
  subst hp
  exact OwnEnds.of (fun _ k => XS.land X.here hx (g := mkF m pc Ls (.long y :: .long x :: st)) rfl hd rfl k) k
theorem en_lor (X : Stand p l e R s m args below meth c T locs cells slots) (hx : p.tables.exec = Jvm.exec) {x y : Int64} (hd : decode c.code pc = .ok (.lor, 1))  (k : OwnEnds p e below s C S Q T m pc' Ls (.long (x ||| y) :: st)) (hp : pc + 1 = pc' := by rfl) : OwnEnds p e below s C S Q T m pc Ls (.long y :: .long x :: st) := by
  subst hp
  exact OwnEnds.of (fun _ k => XS.lor X.here hx (g := mkF m pc Ls (.long y :: .long x :: st)) rfl hd rfl k) k
theorem en_lxor (X : Stand p l e R s m args below meth c T locs cells slots) (hx : p.tables.exec = Jvm.exec) {x y : Int64} (hd : decode c.code pc = .ok (.lxor, 1))  (k : OwnEnds p e below s C S Q T m pc' Ls (.long (x ^^^ y) :: st)) (hp : pc + 1 = pc' := by rfl) : OwnEnds p e below s C S Q T m pc Ls (.long y :: .long x :: st) := by
  subst hp
  exact OwnEnds.of (fun _ k => XS.lxor X.here hx (g := mkF m pc Ls (.long y :: .long x :: st)) rfl hd rfl k) k
theorem en_lshl (X : Stand p l e R s m args below meth c T locs cells slots) (hx : p.tables.exec = Jvm.exec) {x : Int64} {y : Int32} (hd : decode c.code pc = .ok (.lshl, 1))  (k : OwnEnds p e below s C S Q T m pc' Ls (.long (x <<< (y &&& 0x3f).toInt64) :: st)) (hp : pc + 1 = pc' := by rfl) : OwnEnds p e below s C S Q T m pc Ls (.int y :: .long x :: st) := by
  subst hp
  exact OwnEnds.of (fun _ k => XS.lshl X.here hx (g := mkF m pc Ls (.int y :: .long x :: st)) rfl hd rfl k) k
theorem en_lshr (X : Stand p l e R s m args below meth c T locs cells slots) (hx : p.tables.exec = Jvm.exec) {x : Int64} {y : Int32} (hd : decode c.code pc = .ok (.lshr, 1))  (k : OwnEnds p e below s C S Q T m pc' Ls (.long (x >>> (y &&& 0x3f).toInt64) :: st)) (hp : pc + 1 = pc' := by rfl) : OwnEnds p e below s C S Q T m pc Ls (.int y :: .long x :: st) := by
  subst hp
  exact OwnEnds.of (fun _ k => XS.lshr X.here hx (g := mkF m pc Ls (.int y :: .long x :: st)) rfl hd rfl k) k
theorem en_lushr (X : Stand p l e R s m args below meth c T locs cells slots) (hx : p.tables.exec = Jvm.exec) {x : Int64} {y : Int32} (hd : decode c.code pc = .ok (.lushr, 1))  (k : OwnEnds p e below s C S Q T m pc' Ls (.long ((x.toUInt64 >>> (y &&& 0x3f).toInt64.toUInt64).toInt64) :: st)) (hp : pc + 1 = pc' := by rfl) : OwnEnds p e below s C S Q T m pc Ls (.int y :: .long x :: st) := by
  subst hp
  exact OwnEnds.of (fun _ k => XS.lushr X.here hx (g := mkF m pc Ls (.int y :: .long x :: st)) rfl hd rfl k) k
theorem en_lcmp (X : Stand p l e R s m args below meth c T locs cells slots) (hx : p.tables.exec = Jvm.exec) {x y : Int64} (hd : decode c.code pc = .ok (.lcmp, 1))  (k : OwnEnds p e below s C S Q T m pc' Ls (.int (lcmpW x y) :: st)) (hp : pc + 1 = pc' := by rfl) : OwnEnds p e below s C S Q T m pc Ls (.long y :: .long x :: st) := by
  subst hp
  exact OwnEnds.of (fun _ k => XS.lcmp X.here hx (g := mkF m pc Ls (.long y :: .long x :: st)) rfl hd rfl k) k
theorem en_i2l (X : Stand p l e R s m args below meth c T locs cells slots) (hx : p.tables.exec = Jvm.exec) {x : Int32} (hd : decode c.code pc = .ok (.i2l, 1))  (k : OwnEnds p e below s C S Q T m pc' Ls (.long (x.toInt64) :: st)) (hp : pc + 1 = pc' := by rfl) : OwnEnds p e below s C S Q T m pc Ls (.int x :: st) := by
  subst hp
  exact OwnEnds.of (fun _ k => XS.i2l X.here hx (g := mkF m pc Ls (.int x :: st)) rfl hd rfl k) k
theorem en_l2i (X : Stand p l e R s m args below meth c T locs cells slots) (hx : p.tables.exec = Jvm.exec) {x : Int64} (hd : decode c.code pc = .ok (.l2i, 1))  (k : OwnEnds p e below s C S Q T m pc' Ls (.int (x.toInt32) :: st)) (hp : pc + 1 = pc' := by rfl) : OwnEnds p e below s C S Q T m pc Ls (.long x :: st) := by
  subst hp
  exact OwnEnds.of (fun _ k => XS.l2i X.here hx (g := mkF m pc Ls (.long x :: st)) rfl hd rfl k) k
theorem en_i2b (X : Stand p l e R s m args below meth c T locs cells slots) (hx : p.tables.exec = Jvm.exec) {x : Int32} (hd : decode c.code pc = .ok (.i2b, 1))  (k : OwnEnds p e below s C S Q T m pc' Ls (.int (x.toInt8.toInt32) :: st)) (hp : pc + 1 = pc' := by rfl) : OwnEnds p e below s C S Q T m pc Ls (.int x :: st) := by
  subst hp
  exact OwnEnds.of (fun _ k => XS.i2b X.here hx (g := mkF m pc Ls (.int x :: st)) rfl hd rfl k) k
theorem en_i2c (X : Stand p l e R s m args below meth c T locs cells slots) (hx : p.tables.exec = Jvm.exec) {x : Int32} (hd : decode c.code pc = .ok (.i2c, 1))  (k : OwnEnds p e below s C S Q T m pc' Ls (.int (x.toUInt32.toUInt16.toUInt32.toInt32) :: st)) (hp : pc + 1 = pc' := by rfl) : OwnEnds p e below s C S Q T m pc Ls (.int x :: st) := by
  subst hp
  exact OwnEnds.of (fun _ k => XS.i2c X.here hx (g := mkF m pc Ls (.int x :: st)) rfl hd rfl k) k
theorem en_i2s (X : Stand p l e R s m args below meth c T locs cells slots) (hx : p.tables.exec = Jvm.exec) {x : Int32} (hd : decode c.code pc = .ok (.i2s, 1))  (k : OwnEnds p e below s C S Q T m pc' Ls (.int (x.toInt16.toInt32) :: st)) (hp : pc + 1 = pc' := by rfl) : OwnEnds p e below s C S Q T m pc Ls (.int x :: st) := by
  subst hp
  exact OwnEnds.of (fun _ k => XS.i2s X.here hx (g := mkF m pc Ls (.int x :: st)) rfl hd rfl k) k
theorem en_ineg (X : Stand p l e R s m args below meth c T locs cells slots) (hx : p.tables.exec = Jvm.exec) {x : Int32} (hd : decode c.code pc = .ok (.ineg, 1))  (k : OwnEnds p e below s C S Q T m pc' Ls (.int (-x) :: st)) (hp : pc + 1 = pc' := by rfl) : OwnEnds p e below s C S Q T m pc Ls (.int x :: st) := by
  subst hp
  exact OwnEnds.of (fun _ k => XS.ineg X.here hx (g := mkF m pc Ls (.int x :: st)) rfl hd rfl k) k
theorem en_lneg (X : Stand p l e R s m args below meth c T locs cells slots) (hx : p.tables.exec = Jvm.exec) {x : Int64} (hd : decode c.code pc = .ok (.lneg, 1))  (k : OwnEnds p e below s C S Q T m pc' Ls (.long (-x) :: st)) (hp : pc + 1 = pc' := by rfl) : OwnEnds p e below s C S Q T m pc Ls (.long x :: st) := by
  subst hp
  exact OwnEnds.of (fun _ k => XS.lneg X.here hx (g := mkF m pc Ls (.long x :: st)) rfl hd rfl k) k
theorem en_idiv (X : Stand p l e R s m args below meth c T locs cells slots) (hx : p.tables.exec = Jvm.exec) {x y : Int32} (hd : decode c.code pc = .ok (.idiv, 1)) (hy : y ≠ 0) (k : OwnEnds p e below s C S Q T m pc' Ls (.int (x / y) :: st)) (hp : pc + 1 = pc' := by rfl) : OwnEnds p e below s C S Q T m pc Ls (.int y :: .int x :: st) := by
  subst hp
  exact OwnEnds.of (fun _ k => XS.idiv X.here hx (g := mkF m pc Ls (.int y :: .int x :: st)) rfl hd rfl hy k) k
theorem en_irem (X : Stand p l e R s m args below meth c T locs cells slots) (hx : p.tables.exec = Jvm.exec) {x y : Int32} (hd : decode c.code pc = .ok (.irem, 1)) (hy : y ≠ 0) (k : OwnEnds p e below s C S Q T m pc' Ls (.int (x % y) :: st)) (hp : pc + 1 = pc' := by rfl) : OwnEnds p e below s C S Q T m pc Ls (.int y :: .int x :: st) := by
  subst hp
  exact OwnEnds.of (fun _ k => iremM (g := mkF m pc Ls (.int y :: .int x :: st)) X hx rfl hd rfl hy k) k
theorem en_lrem (X : Stand p l e R s m args below meth c T locs cells slots) (hx : p.tables.exec = Jvm.exec) {x y : Int64} (hd : decode c.code pc = .ok (.lrem, 1)) (hy : y ≠ 0) (k : OwnEnds p e below s C S Q T m pc' Ls (.long (x % y) :: st)) (hp : pc + 1 = pc' := by rfl) : OwnEnds p e below s C S Q T m pc Ls (.long y :: .long x :: st) := by
  subst hp
  rw [← lrem_mod x y] at k
  exact OwnEnds.of (fun _ k => XS.lrem X.here hx (g := mkF m pc Ls (.long y :: .long x :: st)) rfl hd rfl hy k) k
theorem en_dup (X : Stand p l e R s m args below meth c T locs cells slots) (hx : p.tables.exec = Jvm.exec) {v : Value} (hd : decode c.code pc = .ok (.dup, 1)) (hc : v.category = 1) (k : OwnEnds p e below s C S Q T m pc' Ls (v :: v :: st)) (hp : pc + 1 = pc' := by rfl) : OwnEnds p e below s C S Q T m pc Ls (v :: st) := by
  subst hp
  exact OwnEnds.of (fun _ k => XS.dup X.here hx (g := mkF m pc Ls (v :: st)) rfl hd rfl hc k) k
theorem en_pop (X : Stand p l e R s m args below meth c T locs cells slots) (hx : p.tables.exec = Jvm.exec) {v : Value} (hd : decode c.code pc = .ok (.pop, 1)) (hc : v.category = 1) (k : OwnEnds p e below s C S Q T m pc' Ls st) (hp : pc + 1 = pc' := by rfl) : OwnEnds p e below s C S Q T m pc Ls (v :: st) := by
  subst hp
  exact OwnEnds.of (fun _ k => XS.pop X.here hx (g := mkF m pc Ls (v :: st)) rfl hd rfl hc k) k
theorem en_dupX1 (X : Stand p l e R s m args below meth c T locs cells slots) (hx : p.tables.exec = Jvm.exec) {v w : Value} (hd : decode c.code pc = .ok (.dup_x1, 1)) (hc : v.category = 1) (hc2 : w.category = 1) (k : OwnEnds p e below s C S Q T m pc' Ls (v :: w :: v :: st)) (hp : pc + 1 = pc' := by rfl) : OwnEnds p e below s C S Q T m pc Ls (v :: w :: st) := by
  subst hp
  exact OwnEnds.of (fun _ k => XS.dupX1 X.here hx (g := mkF m pc Ls (v :: w :: st)) rfl hd rfl hc hc2 k) k
theorem en_iinc (X : Stand p l e R s m args below meth c T locs cells slots) (hx : p.tables.exec = Jvm.exec) {k : Nat} {q : Int} {x : Int32} (hd : decode c.code pc = .ok (.iinc k q, 3)) (hl : Ls[k]? = some (.val (.int x))) (hl' : storeLocals Ls k (.int (x + Int32.ofInt q)) = some Ls') (k : OwnEnds p e below s C S Q T m pc' Ls' st) (hp : pc + 3 = pc' := by rfl) : OwnEnds p e below s C S Q T m pc Ls st := by
  subst hp
  exact OwnEnds.of (fun _ k => XS.iinc X.here hx (g := mkF m pc Ls st) rfl hd hl hl' k) k
theorem en_goto (X : Stand p l e R s m args below meth c T locs cells slots) (hx : p.tables.exec = Jvm.exec) {o : Int} (hd : decode c.code pc = .ok (.goto o, 3)) (k : OwnEnds p e below s C S Q T m pc' Ls st) (ho : 0 ≤ (pc : Int) + o := by decide) (hp : ((pc : Int) + o).toNat = pc' := by decide) : OwnEnds p e below s C S Q T m pc Ls st := by
  exact OwnEnds.of (fun _ k => XS.goto X.here hx (g := mkF m pc Ls st) rfl rfl hd ho hp k) k
theorem en_ifYes (X : Stand p l e R s m args below meth c T locs cells slots) (hx : p.tables.exec = Jvm.exec) {cd : ClassFile.Cond} {o : Int} {x : Int32} (hd : decode c.code pc = .ok (.ifCond cd o, 3)) (hc : ifCond.holds cd x = true) (k : OwnEnds p e below s C S Q T m pc' Ls st) (ho : 0 ≤ (pc : Int) + o := by decide) (hp : ((pc : Int) + o).toNat = pc' := by decide) : OwnEnds p e below s C S Q T m pc Ls (.int x :: st) := by
  exact OwnEnds.of (fun _ k => XS.ifYes X.here hx (g := mkF m pc Ls (.int x :: st)) rfl rfl hd rfl hc ho hp k) k
theorem en_ifNo (X : Stand p l e R s m args below meth c T locs cells slots) (hx : p.tables.exec = Jvm.exec) {cd : ClassFile.Cond} {o : Int} {x : Int32} (hd : decode c.code pc = .ok (.ifCond cd o, 3)) (hc : ifCond.holds cd x = false) (k : OwnEnds p e below s C S Q T m pc' Ls st) (hp : pc + 3 = pc' := by rfl) : OwnEnds p e below s C S Q T m pc Ls (.int x :: st) := by
  subst hp
  exact OwnEnds.of (fun _ k => XS.ifNo X.here hx (g := mkF m pc Ls (.int x :: st)) rfl hd rfl hc k) k
theorem en_icmpYes (X : Stand p l e R s m args below meth c T locs cells slots) (hx : p.tables.exec = Jvm.exec) {cd : ClassFile.Cond} {o : Int} {x y : Int32} (hd : decode c.code pc = .ok (.if_icmp cd o, 3)) (hc : if_icmp.holds cd x y = true) (k : OwnEnds p e below s C S Q T m pc' Ls st) (ho : 0 ≤ (pc : Int) + o := by decide) (hp : ((pc : Int) + o).toNat = pc' := by decide) : OwnEnds p e below s C S Q T m pc Ls (.int y :: .int x :: st) := by
  exact OwnEnds.of (fun _ k => XS.icmpYes X.here hx (g := mkF m pc Ls (.int y :: .int x :: st)) rfl rfl hd rfl hc ho hp k) k
theorem en_icmpNo (X : Stand p l e R s m args below meth c T locs cells slots) (hx : p.tables.exec = Jvm.exec) {cd : ClassFile.Cond} {o : Int} {x y : Int32} (hd : decode c.code pc = .ok (.if_icmp cd o, 3)) (hc : if_icmp.holds cd x y = false) (k : OwnEnds p e below s C S Q T m pc' Ls st) (hp : pc + 3 = pc' := by rfl) : OwnEnds p e below s C S Q T m pc Ls (.int y :: .int x :: st) := by
  subst hp
  exact OwnEnds.of (fun _ k => XS.icmpNo X.here hx (g := mkF m pc Ls (.int y :: .int x :: st)) rfl hd rfl hc k) k
theorem wlt {x y : Int64} (h : x < y) : ifCond.holds .lt (lcmpW x y) = true ∧ ifCond.holds .ge (lcmpW x y) = false := by
  have q := (lw_lt x y).mpr h
  exact ⟨(if0 _ _).trans (tlt q).1, (if0 _ _).trans (tlt q).2.1⟩
theorem nwlt {x y : Int64} (h : ¬ x < y) : ifCond.holds .lt (lcmpW x y) = false ∧ ifCond.holds .ge (lcmpW x y) = true := by
  have q : ¬ lcmpW x y < 0 := fun z => h ((lw_lt x y).mp z)
  exact ⟨(if0 _ _).trans (flt q).1, (if0 _ _).trans (flt q).2.1⟩
theorem wgt {x y : Int64} (h : y < x) : ifCond.holds .gt (lcmpW x y) = true ∧ ifCond.holds .le (lcmpW x y) = false := by
  have q := (lw_gt x y).mpr h
  exact ⟨(if0 _ _).trans (tlt q).2.2.1, (if0 _ _).trans (tlt q).2.2.2⟩
theorem nwgt {x y : Int64} (h : ¬ y < x) : ifCond.holds .gt (lcmpW x y) = false ∧ ifCond.holds .le (lcmpW x y) = true := by
  have q : ¬ 0 < lcmpW x y := fun z => h ((lw_gt x y).mp z)
  exact ⟨(if0 _ _).trans (flt q).2.2.1, (if0 _ _).trans (flt q).2.2.2⟩
theorem weq {x y : Int64} (h : x = y) : ifCond.holds .eq (lcmpW x y) = true ∧ ifCond.holds .ne (lcmpW x y) = false := by
  have q := (lw_eq x y).mpr h
  exact ⟨(if0 _ _).trans (teq q).1, (if0 _ _).trans (teq q).2⟩
theorem nweq {x y : Int64} (h : ¬ x = y) : ifCond.holds .eq (lcmpW x y) = false ∧ ifCond.holds .ne (lcmpW x y) = true := by
  have q : ¬ lcmpW x y = 0 := fun z => h ((lw_eq x y).mp z)
  exact ⟨(if0 _ _).trans (feq q).1, (if0 _ _).trans (feq q).2⟩
theorem en_ret {t : FieldType} {w : Value} {i : Instr} (X : Stand p l e R s m args below meth c T locs cells slots) (hx : p.tables.exec = Jvm.exec) (hret : meth.sig.returnType = some t) (hlk : meth.locks = false) (hd : decode c.code pc = .ok (i, 1)) (hn : narrow t w = w)
    (hi : (i = .ireturn ∧ (t = .int ∨ t = .boolean ∨ t = .byte ∨ t = .char ∨ t = .short) ∧ ∃ z, w = .int z) ∨ (i = .lreturn ∧ t = .long ∧ ∃ z, w = .long z) ∨ (i = .dreturn ∧ t = .double ∧ ∃ z, w = .double z) ∨ (i = .freturn ∧ t = .float ∧ ∃ z, w = .float z) ∨ (i = .areturn ∧ t.isReference = true ∧ w.isRef = true))
    (hc : cells ≤ C) (hs : slots ≤ S) (hq : Q (some w) T.heap locs) : OwnEnds p e below s C S Q T m pc Ls (w :: st) := by
  obtain ⟨fs, hr, hrun, hended, hW, hsame⟩ := X.leave (v := some w) (fun q => by rw [hret] at q; cases q) hlk
  exact ⟨_, _, retOut X hx hret hn hi hd hr, hrun, hended, _, _, rfl, hq, ⟨_, rfl⟩, hW, hsame.mono hc hs⟩
theorem en_retI {z : Int32} (X : Stand p l e R s m args below meth c T locs cells slots) (hx : p.tables.exec = Jvm.exec) (hret : meth.sig.returnType = some .int) (hlk : meth.locks = false) (hd : decode c.code pc = .ok (.ireturn, 1)) (hc : cells ≤ C) (hs : slots ≤ S) (hq : Q (some (.int z)) T.heap locs) : OwnEnds p e below s C S Q T m pc Ls (.int z :: st) :=
  en_ret X hx hret hlk hd rfl (Or.inl ⟨rfl, Or.inl rfl, _, rfl⟩) hc hs hq
theorem en_retZ {z : Int32} (X : Stand p l e R s m args below meth c T locs cells slots) (hx : p.tables.exec = Jvm.exec) (hret : meth.sig.returnType = some .boolean) (hlk : meth.locks = false) (hd : decode c.code pc = .ok (.ireturn, 1)) (hn : narrow .boolean (.int z) = .int z) (hc : cells ≤ C) (hs : slots ≤ S) (hq : Q (some (.int z)) T.heap locs) : OwnEnds p e below s C S Q T m pc Ls (.int z :: st) :=
  en_ret X hx hret hlk hd hn (Or.inl ⟨rfl, Or.inr (Or.inl rfl), _, rfl⟩) hc hs hq
theorem en_retL {z : Int64} (X : Stand p l e R s m args below meth c T locs cells slots) (hx : p.tables.exec = Jvm.exec) (hret : meth.sig.returnType = some .long) (hlk : meth.locks = false) (hd : decode c.code pc = .ok (.lreturn, 1)) (hc : cells ≤ C) (hs : slots ≤ S) (hq : Q (some (.long z)) T.heap locs) : OwnEnds p e below s C S Q T m pc Ls (.long z :: st) :=
  en_ret X hx hret hlk hd rfl (Or.inr (Or.inl ⟨rfl, rfl, _, rfl⟩)) hc hs hq
theorem en_retA {a : Addr} {t : FieldType} (X : Stand p l e R s m args below meth c T locs cells slots) (hx : p.tables.exec = Jvm.exec) (hret : meth.sig.returnType = some t) (ht : t.isReference = true) (hn : narrow t (.ref a) = .ref a) (hlk : meth.locks = false) (hd : decode c.code pc = .ok (.areturn, 1)) (hc : cells ≤ C) (hs : slots ≤ S) (hq : Q (some (.ref a)) T.heap locs) : OwnEnds p e below s C S Q T m pc Ls (.ref a :: st) :=
  en_ret X hx hret hlk hd hn (Or.inr (Or.inr (Or.inr (Or.inr ⟨rfl, ht, rfl⟩)))) hc hs hq
theorem en_ret0 (X : Stand p l e R s m args below meth c T locs cells slots) (hx : p.tables.exec = Jvm.exec) (hret : meth.sig.returnType = none) (hlk : meth.locks = false) (hd : decode c.code pc = .ok (.return_, 1)) (hc : cells ≤ C) (hs : slots ≤ S) (hq : Q none T.heap locs) : OwnEnds p e below s C S Q T m pc Ls [] := by
  obtain ⟨fs, hr, hrun, hended, hW, hsame⟩ := X.leave (v := none) (fun _ => rfl) hlk
  exact ⟨_, _, X.returnOut hx hret hd hr, hrun, hended, _, _, rfl, hq, ⟨_, rfl⟩, hW, hsame.mono hc hs⟩
theorem en_getF (X : Stand p l e R s m args below meth c T locs cells slots) (hx : p.tables.exec = Jvm.exec) (hZ : Z.Warmed39 s.vm) {own R0 O n d host : String} {index : Nat} (hown : s.vm.findClass own = some m.cls) (w : (Jvm.Cond.fieldLink own index R0 n d).before a0 Z = true ∨ (Jvm.Cond.fieldLinkNest own index R0 n d host).before a0 Z = true) (via : Via Z R0 O n d) (eT : T.heap = h) {a : Addr} {v : Value} (F : Fld Z h a O n d v) (hd : decode c.code pc = .ok (.getfield index, 3)) (k : ∀ T', Stand p l e R s m args below meth c T' locs cells slots → T'.heap = h → OwnEnds p e below s C S Q T' m pc' Ls (v :: st)) (hp : pc + 3 = pc' := by rfl) : OwnEnds p e below s C S Q T m pc Ls (.ref a :: st) := by
  subst hp
  obtain ⟨T', X', e', st'⟩ := getF X hx hZ hown w via eT F (g := mkF m pc Ls (.ref a :: st)) rfl rfl hd
  exact OwnEnds.of st' (k T' X' e')
theorem en_getS (X : Stand p l e R s m args below meth c T locs cells slots) (hx : p.tables.exec = Jvm.exec) (hZ : Z.Warmed39 s.vm) {own R0 O n d host : String} {index : Nat} (hown : s.vm.findClass own = some m.cls) (w : (Jvm.Cond.fieldLink own index R0 n d).before a0 Z = true ∨ (Jvm.Cond.fieldLinkNest own index R0 n d host).before a0 Z = true) (via : Via Z R0 O n d) (eT : T.heap = h) {v : Value} (F : Sta Z h O n d v) (hd : decode c.code pc = .ok (.getstatic index, 3)) (k : ∀ T', Stand p l e R s m args below meth c T' locs cells slots → T'.heap = h → OwnEnds p e below s C S Q T' m pc' Ls (v :: st)) (hp : pc + 3 = pc' := by rfl) : OwnEnds p e below s C S Q T m pc Ls st := by
  subst hp
  obtain ⟨T', X', e', st'⟩ := getS2 X hx hZ hown w via eT F (g := mkF m pc Ls st) rfl hd
  exact OwnEnds.of st' (k T' X' e')
theorem en_putF (X : Stand p l e R s m args below meth c T locs cells slots) (hx : p.tables.exec = Jvm.exec) (hZ : Z.Warmed39 s.vm) {own R0 O n d host K : String} {index kk : Nat} {ty : FieldType} (hown : s.vm.findClass own = some m.cls) (w : (Jvm.Cond.fieldLink own index R0 n d).before a0 Z = true ∨ (Jvm.Cond.fieldLinkNest own index R0 n d host).before a0 Z = true) (via : Via Z R0 O n d) (eT : T.heap = h) {a : Addr} {v old : Value} (F : Fld Z h a O n d old) (E : Exa Z h a K) (L : (Jvm.Cond.lays K O n d).before a0 Z = true ∨ ((Jvm.Cond.laysFinal K O n d).before a0 Z = true ∧ own = O ∧ meth.name = "<init>")) (wi : (Jvm.Cond.instantiable K kk).before a0 Z = true) (hty : parseFieldDescriptor d = some ty) (hn : narrow ty v = v) (hf : fits ty v = true) (hd : decode c.code pc = .ok (.putfield index, 3))
    (k : ∀ T' h', Stand p l e R s m args below meth c T' (locs ++ [⟨a, Jvm.RoadKit.slotOf Z O n d⟩]) cells slots → T'.heap = h' → Wr h h' a (Jvm.RoadKit.slotOf Z O n d) v → OwnEnds p e below s C S Q T' m pc' Ls st) (hp : pc + 3 = pc' := by rfl) : OwnEnds p e below s C S Q T m pc Ls (v :: .ref a :: st) := by
  subst hp
  obtain ⟨T', h', X', e', W', st'⟩ := putF X hx hZ hown w via eT F E L wi hty hn hf (g := mkF m pc Ls (v :: .ref a :: st)) rfl rfl hd
  exact OwnEnds.of st' (k T' h' X' e' W')
theorem en_newO (X : Stand p l e R s m args below meth c T locs cells slots) (hx : p.tables.exec = Jvm.exec) (hZ : Z.Warmed39 s.vm) {own K : String} {index n : Nat} (hown : s.vm.findClass own = some m.cls) (w : (Jvm.Cond.classLink own index K).before a0 Z = true) (wi : (Jvm.Cond.instantiable K n).before a0 Z = true) (wz : (Jvm.Cond.initialized K).before a0 Z = true) (eT : T.heap = h) (hd : decode c.code pc = .ok (.new index, 3)) (hc : cells + 1 ≤ R.cells) (hl : slots + n ≤ R.slots)
    (k : ∀ T' h' a, a = h.size → Stand p l e R s m args below meth c T' locs (cells + 1) (slots + n) → T'.heap = h' → Ext h h' → Exa Z h' a K → (∀ {O nm d : String} {ty : FieldType}, Laid Z a0 K O nm d → parseFieldDescriptor d = some ty → Fld Z h' a O nm d (defaultValue ty)) → OwnEnds p e below s C S Q T' m pc' Ls (.ref a :: st)) (hp : pc + 3 = pc' := by rfl) : OwnEnds p e below s C S Q T m pc Ls st := by
  subst hp
  obtain ⟨T', h', X', e', E', A', D', -, st'⟩ := newO X hx hZ hown w wi wz eT (g := mkF m pc Ls st) rfl hd hc hl
  exact OwnEnds.of st' (k T' h' _ rfl X' e' E' A' D')
theorem en_newP (X : Stand p l e R s m args below meth c T locs cells slots) (hx : p.tables.exec = Jvm.exec) (hZ : Z.Warmed39 s.vm) {aty : ArrayType} (w : (Jvm.Cond.arrayClass (newarray.typeOf aty)).before a0 Z = true) (eT : T.heap = h) (hd : decode c.code pc = .ok (.newarray aty, 2)) {n : Int32} (hn : ¬ n < 0) (cap : Nat) (hcap : n.toNatClampNeg ≤ cap) (hb : cap * 8 ≤ 536870912) (hc : cells + 1 ≤ R.cells) (hl : slots + cap ≤ R.slots)
    (k : ∀ T' h' a kA, a = h.size → Stand p l e R s m args below meth c T' locs (cells + 1) (slots + cap) → T'.heap = h' → Ext h h' → Arv Z h' a kA (newarray.typeOf aty) n [] (defaultValue (newarray.typeOf aty)) → OwnEnds p e below s C S Q T' m pc' Ls (.ref a :: st)) (hp : pc + 2 = pc' := by rfl) : OwnEnds p e below s C S Q T m pc Ls (.int n :: st) := by
  subst hp
  obtain ⟨T', h', kA, X', e', E', A', st'⟩ := newP X hx hZ w eT (g := mkF m pc Ls (.int n :: st)) rfl hd rfl hn hcap hb hc hl
  exact OwnEnds.of st' (k T' h' _ kA rfl X' e' E' (Arv.new A' hn))
theorem en_initO (X : Stand p l e R s m args below meth c T locs cells slots) (hx : p.tables.exec = Jvm.exec) (hZ : Z.Warmed39 s.vm) {own : String} {idx : Nat} (hown : s.vm.findClass own = some m.cls) (w1 : (Jvm.Cond.methodLink own idx Lib.objectInit).before a0 Z = true) (w2 : (Jvm.Cond.instanceMethod Lib.objectInit).before a0 Z = true) (w3 : (Jvm.Cond.code Lib.objectInit Lib.objCode 1 none).before a0 Z = true) (eT : T.heap = h) (hsize : Ls.size = c.maxLocals) {a : Addr} (hd : decode c.code pc = .ok (.invokespecial idx, 3)) (hf : 1 ≤ R.frames) (W : Nat) (hW : (st.map fun v => v.category).sum = W) (hl : W + 12 ≤ R.locals) (k : ∀ T', Stand p l e R s m args below meth c T' locs cells slots → T'.heap = h → OwnEnds p e below s C S Q T' m pc' Ls st) (hp : pc + 3 = pc' := by rfl) : OwnEnds p e below s C S Q T m pc Ls (.ref a :: st) := by
  subst hp
  obtain ⟨T', X', e', st'⟩ := initO X hx hZ hown w1 w2 w3 eT (g := mkF m pc Ls (.ref a :: st)) rfl hsize rfl hd hf (W := W) (by show 2 * 0 + _ ≤ _; rw [hW]; omega) hl
  exact OwnEnds.of st' (k T' X' e')
theorem en_iaload (X : Stand p l e R s m args below meth c T locs cells slots) (hx : p.tables.exec = Jvm.exec) (hZ : Z.Warmed39 s.vm) (eT : T.heap = h) {a : Addr} {kA : ClassId} {n j : Int32} {vs : List Value} {dv : Value} (V : Arv Z h a kA .int n vs dv) (hj : ¬ j < 0 ∧ j < n) {x : Int32} (hv : vs.getD j.toNatClampNeg dv = .int x) (hd : decode c.code pc = .ok (.iaload, 1)) (k : OwnEnds p e below s C S Q T m pc' Ls (.int x :: st)) (hp : pc + 1 = pc' := by rfl) : OwnEnds p e below s C S Q T m pc Ls (.int j :: .ref a :: st) := by
  subst hp
  obtain ⟨cl, Ar, -, Sz, -, Hs, -⟩ := V
  have hin := inb_of Sz hj
  exact OwnEnds.of (X.iaload hx (by rw [eT]; exact Ar.1) (State.isArrayOf_alike hZ.alike Ar.2.1) Ar.2.2 hin (Hs.at hin hv) (g := mkF m pc Ls (.int j :: .ref a :: st)) rfl rfl hd) k
theorem en_laload (X : Stand p l e R s m args below meth c T locs cells slots) (hx : p.tables.exec = Jvm.exec) (hZ : Z.Warmed39 s.vm) (eT : T.heap = h) {a : Addr} {kA : ClassId} {n j : Int32} {vs : List Value} {dv : Value} (V : Arv Z h a kA .long n vs dv) (hj : ¬ j < 0 ∧ j < n) {x : Int64} (hv : vs.getD j.toNatClampNeg dv = .long x) (hd : decode c.code pc = .ok (.laload, 1)) (k : OwnEnds p e below s C S Q T m pc' Ls (.long x :: st)) (hp : pc + 1 = pc' := by rfl) : OwnEnds p e below s C S Q T m pc Ls (.int j :: .ref a :: st) := by
  subst hp
  obtain ⟨cl, Ar, -, Sz, -, Hs, -⟩ := V
  have hin := inb_of Sz hj
  exact OwnEnds.of (X.laload hx (by rw [eT]; exact Ar.1) (State.isArrayOf_alike hZ.alike Ar.2.1) Ar.2.2 hin (Hs.at hin hv) (g := mkF m pc Ls (.int j :: .ref a :: st)) rfl rfl hd) k
theorem en_len (X : Stand p l e R s m args below meth c T locs cells slots) (hx : p.tables.exec = Jvm.exec) (hZ : Z.Warmed39 s.vm) (eT : T.heap = h) {a : Addr} {kA : ClassId} {ty : FieldType} {n : Int32} {vs : List Value} {dv : Value} (V : Arv Z h a kA ty n vs dv) (hd : decode c.code pc = .ok (.arraylength, 1)) (k : OwnEnds p e below s C S Q T m pc' Ls (.int n :: st)) (hp : pc + 1 = pc' := by rfl) : OwnEnds p e below s C S Q T m pc Ls (.ref a :: st) := by
  subst hp
  obtain ⟨cl, Ar, -, Sz, Nn, -⟩ := V
  rw [← len_of Sz Nn] at k
  exact OwnEnds.of (X.arraylength hx (by rw [eT]; exact Ar.1) (State.isArrayOf_alike hZ.alike Ar.2.1) (g := mkF m pc Ls (.ref a :: st)) rfl rfl hd) k
theorem en_iastore (X : Stand p l e R s m args below meth c T locs cells slots) (hx : p.tables.exec = Jvm.exec) (hZ : Z.Warmed39 s.vm) (eT : T.heap = h) {a : Addr} {kA : ClassId} {n j : Int32} {x : Int32} {vs : List Value} {dv : Value} (V : Arv Z h a kA .int n vs dv) (hj : ¬ j < 0 ∧ j < n) (i : Nat) (hi : j.toNatClampNeg = i) (hil : i < vs.length) (hd : decode c.code pc = .ok (.iastore, 1))
    (k : ∀ T' h', Stand p l e R s m args below meth c T' (locs ++ [⟨a, j.toNatClampNeg⟩]) cells slots → T'.heap = h' → Wr h h' a j.toNatClampNeg (.int x) → Arv Z h' a kA .int n (vs.set i (.int x)) dv → OwnEnds p e below s C S Q T' m pc' Ls st) (hp : pc + 1 = pc' := by rfl) : OwnEnds p e below s C S Q T m pc Ls (.int x :: .int j :: .ref a :: st) := by
  subst hp
  obtain ⟨cl, Ar, q1, Sz, Nn, Hs, G⟩ := V
  have hin := inb_of Sz hj
  obtain ⟨T', h', X', e', W', st'⟩ := stI X hx hZ eT Ar hin (g := mkF m pc Ls (.int x :: .int j :: .ref a :: st)) rfl rfl hd
  exact OwnEnds.of st' (k T' h' X' e' W' (Arv.set Ar q1 Sz Nn Hs G rfl W' i hi hil))
theorem en_lastore (X : Stand p l e R s m args below meth c T locs cells slots) (hx : p.tables.exec = Jvm.exec) (hZ : Z.Warmed39 s.vm) (eT : T.heap = h) {a : Addr} {kA : ClassId} {n j : Int32} {x : Int64} {vs : List Value} {dv : Value} (V : Arv Z h a kA .long n vs dv) (hj : ¬ j < 0 ∧ j < n) (i : Nat) (hi : j.toNatClampNeg = i) (hil : i < vs.length) (hd : decode c.code pc = .ok (.lastore, 1))
    (k : ∀ T' h', Stand p l e R s m args below meth c T' (locs ++ [⟨a, j.toNatClampNeg⟩]) cells slots → T'.heap = h' → Wr h h' a j.toNatClampNeg (.long x) → Arv Z h' a kA .long n (vs.set i (.long x)) dv → OwnEnds p e below s C S Q T' m pc' Ls st) (hp : pc + 1 = pc' := by rfl) : OwnEnds p e below s C S Q T m pc Ls (.long x :: .int j :: .ref a :: st) := by
  subst hp
  obtain ⟨cl, Ar, q1, Sz, Nn, Hs, G⟩ := V
  have hin := inb_of Sz hj
  obtain ⟨T', h', X', e', W', st'⟩ := stJ X hx hZ eT Ar hin (g := mkF m pc Ls (.long x :: .int j :: .ref a :: st)) rfl rfl hd
  exact OwnEnds.of st' (k T' h' X' e' W' (Arv.set Ar q1 Sz Nn Hs G rfl W' i hi hil))
theorem en_callS (X : Stand p l e R s m args below meth c T locs cells slots) (hx : p.tables.exec = Jvm.exec) (hZ : Z.Warmed39 s.vm) {y : MethodName} {bytes : ByteArray} {maxL : Nat} {ret : Option FieldType} {rm : Room} {Qc : Option Value → Heap → List Loc → Prop} {argsL : List Value}  {own : String} {index : Nat} (hown : s.vm.findClass own = some m.cls) (w1 : (Jvm.Cond.methodLink own index y).before a0 Z = true) (w2 : (Jvm.Cond.static y).before a0 Z = true) (wz : (Jvm.Cond.initialized y.cls).before a0 Z = true) (wc : (Jvm.Cond.code y bytes maxL ret).before a0 Z = true) (hy : y.cls ≠ "java/lang/invoke/MethodHandle" ∧ y.cls ≠ "java/lang/invoke/VarHandle") (hM : OwnMeets l Z y bytes maxL ret [] rm argsL.toArray h Qc) (eT : T.heap = h) (hf : rm.frames + 1 ≤ R.frames) (W : Nat) (hW : (rest.map fun v => v.category).sum = W) (hl : W + (maxL + 11) + rm.locals ≤ R.locals) (hcl : cells + rm.cells ≤ R.cells) (hsl : slots + rm.slots ≤ R.slots) (hsz : Ls.size = c.maxLocals) (hlen : ∀ sig, parseMethodDescriptor y.desc = some sig → argsL.length = sig.parameters.length) (hst : st = argsL.reverse ++ rest) (hd : decode c.code pc = .ok (.invokestatic index, 3)) (k : ∀ v T' L, Stand p l e R s m args below meth c T' (locs ++ L) (cells + rm.cells) (slots + rm.slots) → Qc v T'.heap L → OwnEnds p e below s C S Q T' m pc' Ls (v.toList ++ rest)) (hp : pc + 3 = pc' := by rfl) : OwnEnds p e below s C S Q T m pc Ls st := by
  subst hp hst
  obtain ⟨v, vm', ⟨T', L', k', n'⟩, -, X', ⟨Lc, hQ, l1, l2, l3⟩, st'⟩ := Jvm.LawKit.callS X hx (y := y) hown (mvT hZ w1) (mvT hZ w2) (mvT hZ wz) (mvT hZ wc) hy (backOf (W := W) hM hZ wc wz hf hl)  (g := mkF m pc Ls (argsL.reverse ++ rest)) rfl hsz  (argsL := argsL) (rest := rest) hlen rfl (by show 2 * 0 + _ ≤ _; rw [hW]; omega) hd (fun _ _ => ⟨rfl, eT, hcl, hsl⟩)
  dsimp only [Pt.U, Pt.locs, Pt.cells, Pt.slots] at X' l1 l2 l3 st' hQ
  subst l1 l2 l3
  exact OwnEnds.of st' (k v T' Lc X' hQ)
theorem en_callN (X : Stand p l e R s m args below meth c T locs cells slots) (hx : p.tables.exec = Jvm.exec) (hZ : Z.Warmed39 s.vm) {y : MethodName} {bytes : ByteArray} {maxL : Nat} {rm : Room} {Qc : Option Value → Heap → List Loc → Prop} {argsL : List Value} {a : Addr}  {own : String} {index : Nat} (hown : s.vm.findClass own = some m.cls) (hin : y.name = "<init>") (w1 : (Jvm.Cond.methodLink own index y).before a0 Z = true) (w2 : (Jvm.Cond.instanceMethod y).before a0 Z = true) (wz : (Jvm.Cond.initialized y.cls).before a0 Z = true) (wc : (Jvm.Cond.code y bytes maxL none).before a0 Z = true) (hy : y.cls ≠ "java/lang/invoke/MethodHandle" ∧ y.cls ≠ "java/lang/invoke/VarHandle") (hM : OwnMeets l Z y bytes maxL none [] rm (.ref a :: argsL).toArray h Qc) (eT : T.heap = h) (hf : rm.frames + 1 ≤ R.frames) (W : Nat) (hW : (rest.map fun v => v.category).sum = W) (hl : W + (maxL + 11) + rm.locals ≤ R.locals) (hcl : cells + rm.cells ≤ R.cells) (hsl : slots + rm.slots ≤ R.slots) (hsz : Ls.size = c.maxLocals) (hlen : ∀ sig, parseMethodDescriptor y.desc = some sig → argsL.length = sig.parameters.length) (hst : st = argsL.reverse ++ .ref a :: rest) (hd : decode c.code pc = .ok (.invokespecial index, 3)) (k : ∀ v T' L, Stand p l e R s m args below meth c T' (locs ++ L) (cells + rm.cells) (slots + rm.slots) → Qc v T'.heap L → OwnEnds p e below s C S Q T' m pc' Ls (v.toList ++ rest)) (hp : pc + 3 = pc' := by rfl) : OwnEnds p e below s C S Q T m pc Ls st := by
  subst hp hst
  obtain ⟨v, vm', ⟨T', L', k', n'⟩, -, X', ⟨Lc, hQ, l1, l2, l3⟩, st'⟩ := X.specialBack hx (y := y) hin hown (mvT hZ w1) (mvT hZ w2) (mvT hZ wc) hy (backOf (W := W) hM hZ wc wz hf hl)  (g := mkF m pc Ls (argsL.reverse ++ .ref a :: rest)) rfl hsz (Steps.refl _) (a := a) (argsL := argsL) (rest := rest) hlen rfl (by show 2 * 0 + _ ≤ _; rw [hW]; omega) hd (fun _ _ => ⟨rfl, eT, hcl, hsl⟩)
  dsimp only [Pt.U, Pt.locs, Pt.cells, Pt.slots] at X' l1 l2 l3 st' hQ
  subst l1 l2 l3
  exact OwnEnds.of (fun _ k => st'.trans k) (k v T' Lc X' hQ)
theorem en_callV (X : Stand p l e R s m args below meth c T locs cells slots) (hx : p.tables.exec = Jvm.exec) (hZ : Z.Warmed39 s.vm) {y : MethodName} {bytes : ByteArray} {maxL : Nat} {ret : Option FieldType} {rm : Room} {Qc : Option Value → Heap → List Loc → Prop} {argsL : List Value} {a : Addr} {z : MethodName} {K : String} {own : String} {index : Nat} (hown : s.vm.findClass own = some m.cls) (w1 : (Jvm.Cond.methodLink own index y).before a0 Z = true) (w2 : (Jvm.Cond.declares y).before a0 Z = true) (nf : NotFace s y) (w3 : (Jvm.Cond.selects K y z).before a0 Z = true) (w4 : (Jvm.Cond.instanceMethod z).before a0 Z = true) (wz : (Jvm.Cond.initialized z.cls).before a0 Z = true) (wc : (Jvm.Cond.code z bytes maxL ret).before a0 Z = true) (Ex : Exa Z h a K) (hy : y.cls ≠ "java/lang/invoke/MethodHandle" ∧ y.cls ≠ "java/lang/invoke/VarHandle") (hM : OwnMeets l Z z bytes maxL ret [] rm (.ref a :: argsL).toArray h Qc) (eT : T.heap = h) (hf : rm.frames + 1 ≤ R.frames) (W : Nat) (hW : (rest.map fun v => v.category).sum = W) (hl : W + (maxL + 11) + rm.locals ≤ R.locals) (hcl : cells + rm.cells ≤ R.cells) (hsl : slots + rm.slots ≤ R.slots) (hsz : Ls.size = c.maxLocals) (hlen : ∀ sig, parseMethodDescriptor y.desc = some sig → argsL.length = sig.parameters.length) (hst : st = argsL.reverse ++ .ref a :: rest) (hd : decode c.code pc = .ok (.invokevirtual index, 3)) (k : ∀ v T' L, Stand p l e R s m args below meth c T' (locs ++ L) (cells + rm.cells) (slots + rm.slots) → Qc v T'.heap L → OwnEnds p e below s C S Q T' m pc' Ls (v.toList ++ rest)) (hp : pc + 3 = pc' := by rfl) : OwnEnds p e below s C S Q T m pc Ls st := by
  subst hp hst
  obtain ⟨cq, kq, qa, qb, qc⟩ := isOf hZ eT Ex
  obtain ⟨v, vm', ⟨T', L', k', n'⟩, -, X', ⟨Lc, hQ, l1, l2, l3⟩, st'⟩ := X.virtualBack hx (y := y) (z := z) hown (mvT hZ w1) (mvT hZ w2) nf (mvT hZ w3) (mvT hZ w4) hy (backOf (W := W) hM hZ wc wz hf hl) qa qc (g := mkF m pc Ls (argsL.reverse ++ .ref a :: rest)) rfl hsz (Steps.refl _) (argsL := argsL) (rest := rest) hlen rfl (by show 2 * 0 + _ ≤ _; rw [hW]; omega) hd (fun _ _ => ⟨rfl, eT, hcl, hsl⟩)
  dsimp only [Pt.U, Pt.locs, Pt.cells, Pt.slots] at X' l1 l2 l3 st' hQ
  subst l1 l2 l3
  exact OwnEnds.of (fun _ k => st'.trans k) (k v T' Lc X' hQ)
theorem en_callU (X : Stand p l e R s m args below meth c T locs cells slots) (hx : p.tables.exec = Jvm.exec) (hZ : Z.Warmed39 s.vm) {y : MethodName} {bytes : ByteArray} {maxL : Nat} {ret : Option FieldType} {rm : Room} {Qc : Option Value → Heap → List Loc → Prop} {argsL : List Value} {a : Addr} {z : MethodName} {K owner : String} {own : String} {index : Nat} (hown : s.vm.findClass own = some m.cls) (w1 : (Jvm.Cond.methodLink own index y).before a0 Z = true) (w2 : (Jvm.Cond.sameMethod y.cls owner y.name y.desc).before a0 Z = true) (w2' : (Jvm.Cond.declares ⟨owner, y.name, y.desc⟩).before a0 Z = true) (w3 : (Jvm.Cond.selects K y z).before a0 Z = true) (w4 : (Jvm.Cond.instanceMethod z).before a0 Z = true) (wz : (Jvm.Cond.initialized z.cls).before a0 Z = true) (wc : (Jvm.Cond.code z bytes maxL ret).before a0 Z = true) (Ex : Exa Z h a K) (hy : owner ≠ "java/lang/invoke/MethodHandle" ∧ owner ≠ "java/lang/invoke/VarHandle") (hM : OwnMeets l Z z bytes maxL ret [] rm (.ref a :: argsL).toArray h Qc) (eT : T.heap = h) (hf : rm.frames + 1 ≤ R.frames) (W : Nat) (hW : (rest.map fun v => v.category).sum = W) (hl : W + (maxL + 11) + rm.locals ≤ R.locals) (hcl : cells + rm.cells ≤ R.cells) (hsl : slots + rm.slots ≤ R.slots) (hsz : Ls.size = c.maxLocals) (hlen : ∀ sig, parseMethodDescriptor y.desc = some sig → argsL.length = sig.parameters.length) (hst : st = argsL.reverse ++ .ref a :: rest) (hd : decode c.code pc = .ok (.invokevirtual index, 3)) (k : ∀ v T' L, Stand p l e R s m args below meth c T' (locs ++ L) (cells + rm.cells) (slots + rm.slots) → Qc v T'.heap L → OwnEnds p e below s C S Q T' m pc' Ls (v.toList ++ rest)) (hp : pc + 3 = pc' := by rfl) : OwnEnds p e below s C S Q T m pc Ls st := by
  subst hp hst
  obtain ⟨cq, kq, qa, qb, qc⟩ := isOf hZ eT Ex
  obtain ⟨v, vm', ⟨T', L', k', n'⟩, -, X', ⟨Lc, hQ, l1, l2, l3⟩, st'⟩ := X.virtualBackUp hx (owner := owner) (x := y) (y := z) hown (mvT hZ w1) (mvT hZ w2) (mvT hZ w2') hy (mvT hZ w3) (mvT hZ w4) (backOf (W := W) hM hZ wc wz hf hl) qa qc (g := mkF m pc Ls (argsL.reverse ++ .ref a :: rest)) rfl hsz (Steps.refl _) (argsL := argsL) (rest := rest) hlen rfl (by show 2 * 0 + _ ≤ _; rw [hW]; omega) hd (fun _ _ => ⟨rfl, eT, hcl, hsl⟩)
  dsimp only [Pt.U, Pt.locs, Pt.cells, Pt.slots] at X' l1 l2 l3 st' hQ
  subst l1 l2 l3
  exact OwnEnds.of (fun _ k => st'.trans k) (k v T' Lc X' hQ)
theorem en_callI (X : Stand p l e R s m args below meth c T locs cells slots) (hx : p.tables.exec = Jvm.exec) (hZ : Z.Warmed39 s.vm) {y : MethodName} {bytes : ByteArray} {maxL : Nat} {ret : Option FieldType} {rm : Room} {Qc : Option Value → Heap → List Loc → Prop} {argsL : List Value} {a : Addr} {z : MethodName} {K : String} {own : String} {index count : Nat} (hown : s.vm.findClass own = some m.cls) (w1 : (Jvm.Cond.methodLink own index y).before a0 Z = true) (w2 : (Jvm.Cond.declares y).before a0 Z = true) (w3 : (Jvm.Cond.interfaceMethod y.cls y.cls y.name y.desc).before args s = true) (w4 : (Jvm.Cond.selects K y z).before a0 Z = true) (w5 : (Jvm.Cond.instanceMethod z).before a0 Z = true) (w6 : (Jvm.Cond.publicMethod z).before a0 Z = true) (w7 : (Jvm.Cond.unhidden K y.name y.desc).before a0 Z = true) (w8 : (Jvm.Cond.castable K y.cls).before a0 Z = true) (wz : (Jvm.Cond.initialized z.cls).before a0 Z = true) (wc : (Jvm.Cond.code z bytes maxL ret).before a0 Z = true) (Ex : Exa Z h a K) (hy : y.cls ≠ "java/lang/invoke/MethodHandle" ∧ y.cls ≠ "java/lang/invoke/VarHandle") (hM : OwnMeets l Z z bytes maxL ret [] rm (.ref a :: argsL).toArray h Qc) (eT : T.heap = h) (hf : rm.frames + 1 ≤ R.frames) (W : Nat) (hW : (rest.map fun v => v.category).sum = W) (hl : W + (maxL + 11) + rm.locals ≤ R.locals) (hcl : cells + rm.cells ≤ R.cells) (hsl : slots + rm.slots ≤ R.slots) (hsz : Ls.size = c.maxLocals) (hlen : ∀ sig, parseMethodDescriptor y.desc = some sig → argsL.length = sig.parameters.length) (hst : st = argsL.reverse ++ .ref a :: rest) (hd : decode c.code pc = .ok (.invokeinterface index count, 5)) (k : ∀ v T' L, Stand p l e R s m args below meth c T' (locs ++ L) (cells + rm.cells) (slots + rm.slots) → Qc v T'.heap L → OwnEnds p e below s C S Q T' m pc' Ls (v.toList ++ rest)) (hp : pc + 5 = pc' := by rfl) : OwnEnds p e below s C S Q T m pc Ls st := by
  subst hp hst
  obtain ⟨cq, kq, qa, qb, qc⟩ := isOf hZ eT Ex
  obtain ⟨v, vm', ⟨T', L', k', n'⟩, -, X', ⟨Lc, hQ, l1, l2, l3⟩, st'⟩ := X.interfaceBack hx (xi := y) (y := z) hown (mvT hZ w1) (mvT hZ w2) w3 (mvT hZ w4) (mvT hZ w5) (mvT hZ w6) (mvT hZ w7) (mvT hZ w8) hy (backOf (W := W) hM hZ wc wz hf hl) qa qb qc (g := mkF m pc Ls (argsL.reverse ++ .ref a :: rest)) rfl hsz (Steps.refl _) (argsL := argsL) (rest := rest) hlen rfl (by show 2 * 0 + _ ≤ _; rw [hW]; omega) hd (fun _ _ => ⟨rfl, eT, hcl, hsl⟩)
  dsimp only [Pt.U, Pt.locs, Pt.cells, Pt.slots] at X' l1 l2 l3 st' hQ
  subst l1 l2 l3
  exact OwnEnds.of (fun _ k => st'.trans k) (k v T' Lc X' hQ)
theorem self_private {y x1 y1 : MethodName} {K : String} (hp : s.PrivateAt y) (hinst : (Jvm.Cond.instanceMethod y).before args s = true) (hy : y.cls ≠ "java/lang/invoke/MethodHandle" ∧ y.cls ≠ "java/lang/invoke/VarHandle") (hsel : (Jvm.Cond.selects K x1 y1).before args s = true) (hc : y1.cls = y.cls) : (Jvm.Cond.selects y.cls y y).before args s = true := by
  obtain ⟨c, r, m, q1, q2, q3, q4, k, hk, hki⟩ := Cond.selects_spec hsel
  have q := findClass_of_methodNamed q3
  rw [hc] at q
  exact selects_self_of_private q hk hki hp hinst hy
theorem nf_by {y x1 y1 : MethodName} {K : String} (hsel : (Jvm.Cond.selects K x1 y1).before args s = true) (hc : y1.cls = y.cls) : NotFace s y := fun r0 h0 => by
  obtain ⟨c, r, m, q1, q2, q3, q4, k, hk, hki⟩ := Cond.selects_spec hsel
  have q := findClass_of_methodNamed q3
  rw [hc, findClass_of_methodNamed h0] at q
  exact ⟨k, by rw [Option.some.inj q]; exact hk, hki⟩
theorem en_callQ (X : Stand p l e R s m args below meth c T locs cells slots) (hx : p.tables.exec = Jvm.exec) (hZ : Z.Warmed39 s.vm) {y : MethodName} {bytes : ByteArray} {maxL : Nat} {ret : Option FieldType} {rm : Room} {Qc : Option Value → Heap → List Loc → Prop} {argsL : List Value} {a : Addr} {K C1 : String} {x1 y1 : MethodName} {own : String} {index : Nat} (hown : s.vm.findClass own = some m.cls) (w1 : (Jvm.Cond.methodLink own index y).before a0 Z = true) (w2 : (Jvm.Cond.instanceMethod y).before a0 Z = true) (w3 : (Jvm.Cond.privateMethod y).before a0 Z = true) (w4 : (Jvm.Cond.selects C1 x1 y1).before a0 Z = true) (hc1 : y1.cls = y.cls) (wz : (Jvm.Cond.initialized y.cls).before a0 Z = true) (wc : (Jvm.Cond.code y bytes maxL ret).before a0 Z = true) (Ex : Exa Z h a K) (hy : y.cls ≠ "java/lang/invoke/MethodHandle" ∧ y.cls ≠ "java/lang/invoke/VarHandle") (hM : OwnMeets l Z y bytes maxL ret [] rm (.ref a :: argsL).toArray h Qc) (eT : T.heap = h) (hf : rm.frames + 1 ≤ R.frames) (W : Nat) (hW : (rest.map fun v => v.category).sum = W) (hl : W + (maxL + 11) + rm.locals ≤ R.locals) (hcl : cells + rm.cells ≤ R.cells) (hsl : slots + rm.slots ≤ R.slots) (hsz : Ls.size = c.maxLocals) (hlen : ∀ sig, parseMethodDescriptor y.desc = some sig → argsL.length = sig.parameters.length) (hst : st = argsL.reverse ++ .ref a :: rest) (hd : decode c.code pc = .ok (.invokevirtual index, 3)) (k : ∀ v T' L, Stand p l e R s m args below meth c T' (locs ++ L) (cells + rm.cells) (slots + rm.slots) → Qc v T'.heap L → OwnEnds p e below s C S Q T' m pc' Ls (v.toList ++ rest)) (hp : pc + 3 = pc' := by rfl) : OwnEnds p e below s C S Q T m pc Ls st := by
  subst hp hst
  obtain ⟨cq, q1, q2⟩ := Ex.cell
  obtain ⟨v, vm', ⟨T', L', k', n'⟩, -, X', ⟨Lc, hQ, l1, l2, l3⟩, st'⟩ := X.privateBack hx (y := y) hown (mvT hZ w1) (mvT hZ w2) (self_private (Cond.privateMethod_at (mvP hZ w3 (args := #[]))) (mvT hZ w2) hy (mvT hZ w4) hc1) (Cond.privateMethod_at (mvP hZ w3 (args := #[]))) (mvT hZ wc) hy (backOf (W := W) hM hZ wc wz hf hl)  (g := mkF m pc Ls (argsL.reverse ++ .ref a :: rest)) rfl hsz (Steps.refl _) (a := a) (by rw [eT]; exact q1) q2 (argsL := argsL) (rest := rest) hlen rfl (by show 2 * 0 + _ ≤ _; rw [hW]; omega) hd (fun _ _ => ⟨rfl, eT, hcl, hsl⟩)
  dsimp only [Pt.U, Pt.locs, Pt.cells, Pt.slots] at X' l1 l2 l3 st' hQ
  subst l1 l2 l3
  exact OwnEnds.of (fun _ k => st'.trans k) (k v T' Lc X' hQ)
def PQ (w : Value) (h : Heap) : Option Value → Heap → List Loc → Prop := fun v h' L => v = some w ∧ h' = h ∧ L = []
theorem en_callP (X : Stand p l e R s m args below meth c T locs cells slots) (hx : p.tables.exec = Jvm.exec) (hZ : Z.Warmed39 s.vm) {y : MethodName} {bytes : ByteArray} {maxL : Nat} {ret : Option FieldType} {fr lo : Nat} {w : Value} {argsL : List Value} {own : String} {index : Nat} (hown : s.vm.findClass own = some m.cls) (w1 : (Jvm.Cond.methodLink own index y).before a0 Z = true) (w2 : (Jvm.Cond.static y).before a0 Z = true) (wz : (Jvm.Cond.initialized y.cls).before a0 Z = true) (wc : (Jvm.Cond.code y bytes maxL ret).before a0 Z = true) (hy : y.cls ≠ "java/lang/invoke/MethodHandle" ∧ y.cls ≠ "java/lang/invoke/VarHandle") (hM : OwnMeets l Z y bytes maxL ret [] ({ frames := fr, cells := 0, slots := 0, locals := lo } : Room) argsL.toArray h (PQ w h)) (eT : T.heap = h) (hf : fr + 1 ≤ R.frames) (W : Nat) (hW : (rest.map fun v => v.category).sum = W) (hl : W + (maxL + 11) + lo ≤ R.locals) (hcl : cells ≤ R.cells) (hsl : slots ≤ R.slots) (hsz : Ls.size = c.maxLocals) (hlen : ∀ sig, parseMethodDescriptor y.desc = some sig → argsL.length = sig.parameters.length) (hst : st = argsL.reverse ++ rest) (hd : decode c.code pc = .ok (.invokestatic index, 3)) (k : ∀ T', Stand p l e R s m args below meth c T' locs cells slots → T'.heap = h → OwnEnds p e below s C S Q T' m pc' Ls (w :: rest)) (hp : pc + 3 = pc' := by rfl) : OwnEnds p e below s C S Q T m pc Ls st := by
  refine en_callS X hx hZ hown w1 w2 wz wc hy hM eT hf W hW hl hcl hsl hsz hlen hst hd (fun v T' L X' q => ?_) hp
  obtain ⟨rfl, q2, rfl⟩ := q
  rw [List.append_nil] at X'
  exact k T' X' q2
theorem en_callVP (X : Stand p l e R s m args below meth c T locs cells slots) (hx : p.tables.exec = Jvm.exec) (hZ : Z.Warmed39 s.vm) {y z : MethodName} {K : String} {bytes : ByteArray} {maxL : Nat} {ret : Option FieldType} {fr lo : Nat} {w : Value} {a : Addr} {argsL : List Value} {own : String} {index : Nat} (hown : s.vm.findClass own = some m.cls) (w1 : (Jvm.Cond.methodLink own index y).before a0 Z = true) (w2 : (Jvm.Cond.declares y).before a0 Z = true) (nf : NotFace s y) (w3 : (Jvm.Cond.selects K y z).before a0 Z = true) (w4 : (Jvm.Cond.instanceMethod z).before a0 Z = true) (wz : (Jvm.Cond.initialized z.cls).before a0 Z = true) (wc : (Jvm.Cond.code z bytes maxL ret).before a0 Z = true) (Ex : Exa Z h a K) (hy : y.cls ≠ "java/lang/invoke/MethodHandle" ∧ y.cls ≠ "java/lang/invoke/VarHandle") (hM : OwnMeets l Z z bytes maxL ret [] ({ frames := fr, cells := 0, slots := 0, locals := lo } : Room) (.ref a :: argsL).toArray h (PQ w h)) (eT : T.heap = h) (hf : fr + 1 ≤ R.frames) (W : Nat) (hW : (rest.map fun v => v.category).sum = W) (hl : W + (maxL + 11) + lo ≤ R.locals) (hcl : cells ≤ R.cells) (hsl : slots ≤ R.slots) (hsz : Ls.size = c.maxLocals) (hlen : ∀ sig, parseMethodDescriptor y.desc = some sig → argsL.length = sig.parameters.length) (hst : st = argsL.reverse ++ .ref a :: rest) (hd : decode c.code pc = .ok (.invokevirtual index, 3)) (k : ∀ T', Stand p l e R s m args below meth c T' locs cells slots → T'.heap = h → OwnEnds p e below s C S Q T' m pc' Ls (w :: rest)) (hp : pc + 3 = pc' := by rfl) : OwnEnds p e below s C S Q T m pc Ls st := by
  refine en_callV X hx hZ hown w1 w2 nf w3 w4 wz wc Ex hy hM eT hf W hW hl hcl hsl hsz hlen hst hd (fun v T' L X' q => ?_) hp
  obtain ⟨rfl, q2, rfl⟩ := q
  rw [List.append_nil] at X'
  exact k T' X' q2
theorem en_newPE (X : Stand p l e R s m args below meth c T locs cells slots) (hx : p.tables.exec = Jvm.exec) (hZ : Z.Warmed39 s.vm) {aty : ArrayType} (w : (Jvm.Cond.arrayClass (newarray.typeOf aty)).before a0 Z = true) (eT : T.heap = h) (hd : decode c.code pc = .ok (.newarray aty, 2)) {n : Int32} (hn : ¬ n < 0) (cap : Nat) (hcap : n.toNatClampNeg ≤ cap) (hb : cap * 8 ≤ 536870912) (hc : cells + 1 ≤ R.cells) (hl : slots + cap ≤ R.slots) {ad : String} (had : "[" ++ (newarray.typeOf aty).toString = ad)
    (k : ∀ T' h' a kA, a = h.size → Stand p l e R s m args below meth c T' locs (cells + 1) (slots + cap) → T'.heap = h' → Ext h h' → Arv Z h' a kA (newarray.typeOf aty) n [] (defaultValue (newarray.typeOf aty)) → Exa Z h' a ad → OwnEnds p e below s C S Q T' m pc' Ls (.ref a :: st)) (hp : pc + 2 = pc' := by rfl) : OwnEnds p e below s C S Q T m pc Ls (.int n :: st) := by
  subst hp
  obtain ⟨T', h', kA, X', e', E', A', Ex', st'⟩ := newPE X hx hZ w eT (g := mkF m pc Ls (.int n :: st)) rfl hd rfl hn hcap hb hc hl had
  exact OwnEnds.of st' (k T' h' _ kA rfl X' e' E' (Arv.new A' hn) Ex')
theorem en_newR (X : Stand p l e R s m args below meth c T locs cells slots) (hx : p.tables.exec = Jvm.exec) (hZ : Z.Warmed39 s.vm) {own K : String} {index : Nat} (hown : s.vm.findClass own = some m.cls) (w1 : (Jvm.Cond.classLink own index K).before a0 Z = true) (w2 : (Jvm.Cond.arrayOver (.object K)).before a0 Z = true) (eT : T.heap = h) (hd : decode c.code pc = .ok (.anewarray index, 3)) {n : Int32} (hn : ¬ n < 0) (cap : Nat) (hcap : n.toNatClampNeg ≤ cap) (hb : cap * 8 ≤ 536870912) (hc : cells + 1 ≤ R.cells) (hl : slots + cap ≤ R.slots)
    (k : ∀ T' h' a kA, a = h.size → Stand p l e R s m args below meth c T' locs (cells + 1) (slots + cap) → T'.heap = h' → Ext h h' → Arv Z h' a kA (.object K) n [] (defaultValue (.object K)) → Ovr Z kA K → OwnEnds p e below s C S Q T' m pc' Ls (.ref a :: st)) (hp : pc + 3 = pc' := by rfl) : OwnEnds p e below s C S Q T m pc Ls (.int n :: st) := by
  subst hp
  obtain ⟨T', h', kA, X', e', E', A', O', st'⟩ := newR X hx hZ hown w1 w2 eT (g := mkF m pc Ls (.int n :: st)) rfl hd rfl hn hcap hb hc hl
  exact OwnEnds.of st' (k T' h' _ kA rfl X' e' E' (Arv.new A' hn) O')
theorem en_aastore (X : Stand p l e R s m args below meth c T locs cells slots) (hx : p.tables.exec = Jvm.exec) (hZ : Z.Warmed39 s.vm) (eT : T.heap = h) {a y : Addr} {kA : ClassId} {K : String} {n j : Int32} {vs : List Value} {dv : Value} (V : Arv Z h a kA (.object K) n vs dv) (O : Ovr Z kA K) (I : Ins Z h y K true) (hj : ¬ j < 0 ∧ j < n) (i : Nat) (hi : j.toNatClampNeg = i) (hil : i < vs.length) (hd : decode c.code pc = .ok (.aastore, 1))
    (k : ∀ T' h', Stand p l e R s m args below meth c T' (locs ++ [⟨a, j.toNatClampNeg⟩]) cells slots → T'.heap = h' → Wr h h' a j.toNatClampNeg (.ref y) → Arv Z h' a kA (.object K) n (vs.set i (.ref y)) dv → OwnEnds p e below s C S Q T' m pc' Ls st) (hp : pc + 1 = pc' := by rfl) : OwnEnds p e below s C S Q T m pc Ls (.ref y :: .int j :: .ref a :: st) := by
  subst hp
  obtain ⟨cl, Ar, q1, Sz, Nn, Hs, G⟩ := V
  have hin := inb_of Sz hj
  obtain ⟨T', h', X', e', W', st'⟩ := stR X hx hZ eT Ar hin rfl (Sto.ofV Ar q1 O I) (g := mkF m pc Ls (.ref y :: .int j :: .ref a :: st)) rfl rfl hd
  exact OwnEnds.of st' (k T' h' X' e' W' (Arv.set Ar q1 Sz Nn Hs G rfl W' i hi hil))
theorem en_acmpYes (X : Stand p l e R s m args below meth c T locs cells slots) (hx : p.tables.exec = Jvm.exec) {cd : ClassFile.ACond} {o : Int} {a b : Addr} (hd : decode c.code pc = .ok (.if_acmp cd o, 3)) (hc : if_acmp.holds cd (some a) (some b) = true) (k : OwnEnds p e below s C S Q T m pc' Ls st) (ho : 0 ≤ (pc : Int) + o := by decide) (hp : ((pc : Int) + o).toNat = pc' := by decide) : OwnEnds p e below s C S Q T m pc Ls (.ref b :: .ref a :: st) :=
  OwnEnds.of (fun _ k => XS.acmpYes X.here hx (g := mkF m pc Ls (.ref b :: .ref a :: st)) rfl rfl hd rfl hc ho hp k) k
theorem en_callIP (X : Stand p l e R s m args below meth c T locs cells slots) (hx : p.tables.exec = Jvm.exec) (hZ : Z.Warmed39 s.vm) {y z : MethodName} {K : String} {bytes : ByteArray} {maxL : Nat} {ret : Option FieldType} {fr lo : Nat} {w : Value} {a : Addr} {argsL : List Value} {own : String} {index count : Nat} (hown : s.vm.findClass own = some m.cls) (w1 : (Jvm.Cond.methodLink own index y).before a0 Z = true) (w2 : (Jvm.Cond.declares y).before a0 Z = true) (w3 : (Jvm.Cond.interfaceMethod y.cls y.cls y.name y.desc).before args s = true) (w4 : (Jvm.Cond.selects K y z).before a0 Z = true) (w5 : (Jvm.Cond.instanceMethod z).before a0 Z = true) (w6 : (Jvm.Cond.publicMethod z).before a0 Z = true) (w7 : (Jvm.Cond.unhidden K y.name y.desc).before a0 Z = true) (w8 : (Jvm.Cond.castable K y.cls).before a0 Z = true) (wz : (Jvm.Cond.initialized z.cls).before a0 Z = true) (wc : (Jvm.Cond.code z bytes maxL ret).before a0 Z = true) (Ex : Exa Z h a K) (hy : y.cls ≠ "java/lang/invoke/MethodHandle" ∧ y.cls ≠ "java/lang/invoke/VarHandle") (hM : OwnMeets l Z z bytes maxL ret [] ({ frames := fr, cells := 0, slots := 0, locals := lo } : Room) (.ref a :: argsL).toArray h (PQ w h)) (eT : T.heap = h) (hf : fr + 1 ≤ R.frames) (W : Nat) (hW : (rest.map fun v => v.category).sum = W) (hl : W + (maxL + 11) + lo ≤ R.locals) (hcl : cells ≤ R.cells) (hsl : slots ≤ R.slots) (hsz : Ls.size = c.maxLocals) (hlen : ∀ sig, parseMethodDescriptor y.desc = some sig → argsL.length = sig.parameters.length) (hst : st = argsL.reverse ++ .ref a :: rest) (hd : decode c.code pc = .ok (.invokeinterface index count, 5)) (k : ∀ T', Stand p l e R s m args below meth c T' locs cells slots → T'.heap = h → OwnEnds p e below s C S Q T' m pc' Ls (w :: rest)) (hp : pc + 5 = pc' := by rfl) : OwnEnds p e below s C S Q T m pc Ls st := by
  refine en_callI X hx hZ hown w1 w2 w3 w4 w5 w6 w7 w8 wz wc Ex hy hM eT hf W hW hl hcl hsl hsz hlen hst hd (fun v T' L X' q => ?_) hp
  obtain ⟨rfl, q2, rfl⟩ := q
  rw [List.append_nil] at X'
  exact k T' X' q2
def OwnEndsW (p : Program) (e : Env) (below : List Frame) (s : State) (C S : Nat) (Q : Option Value → Heap → List Loc → Prop) (T : State) (m : MethodId) (pc : Nat) (Ls : Array Slot) (st : List Value) : Prop :=
  ∃ t o, Steps p.tables e below (T.setTop (mkF m pc Ls st)) t ∧ t.status = .running ∧ Ended t below o ∧ ∃ v L, o = .returned v ∧ Q v t.heap L ∧ ReturnedEndW s o t L C S
theorem OwnEndsW.of {T' : State} (k : ∀ t, Steps p.tables e below (T'.setTop (mkF m pc' Ls' st')) t → Steps p.tables e below (T.setTop (mkF m pc Ls st)) t) (h : OwnEndsW p e below s C S Q T' m pc' Ls' st') : OwnEndsW p e below s C S Q T m pc Ls st := by
  obtain ⟨t, o, h1, h2⟩ := h
  exact ⟨t, o, k t h1, h2⟩
theorem OwnEndsW.mono {Q' : Option Value → Heap → List Loc → Prop} (h : OwnEndsW p e below s C S Q T m pc Ls st) (q : ∀ v h L, Q v h L → Q' v h L) : OwnEndsW p e below s C S Q' T m pc Ls st := by
  obtain ⟨t, o, h1, h2, h3, v, L, h4, h5, h6⟩ := h
  exact ⟨t, o, h1, h2, h3, v, L, h4, q _ _ _ h5, h6⟩
theorem OwnEnds.wide (h : OwnEnds p e below s C S Q T m pc Ls st) : OwnEndsW p e below s C S Q T m pc Ls st := by
  obtain ⟨t, o, h1, h2, h3, v, L, h4, h5, h6⟩ := h
  exact ⟨t, o, h1, h2, h3, v, L, h4, h5, ReturnedEndW.of_narrow h6.1 h6.2.1 h6.2.2⟩
theorem OwnEnds.since {vm1 : Vm} {n : Nat} (hS : s.Since vm1 n) (hn : ∀ v h L, Q v h L → n ≤ h.size) (h : OwnEnds p e below (s.setVm vm1) C S Q T m pc Ls st) : OwnEndsW p e below s C S Q T m pc Ls st := by
  obtain ⟨t, o, h1, h2, h3, v, L, h4, h5, h6⟩ := h
  obtain ⟨a, b, c'⟩ := hS.ended h6.2.1 (hn _ _ _ h5) h6.2.2
  exact ⟨t, o, h1, h2, h3, v, L, h4, h5, h6.1, a, b, c'⟩
def OwnMeetsW (l : Launch) (Z : State) (y : MethodName) (bytes : ByteArray) (maxL : Nat) (ret : Option FieldType) (ws : List Jvm.Cond) (rm : Room) (as' : Array Value) (Q : Option Value → Heap → List Loc → Prop) : Prop :=
  MetFree l y (head1 (Jvm.Cond.code y bytes maxL ret :: ws) rm) (fun a U => a = as' ∧ U = Z) (fun _ _ _ _ _ => True) (fun _ U o U' => ∃ v L, o = .returned v ∧ Q v U'.heap L ∧ ReturnedEndW U o U' L rm.cells rm.slots)
theorem OwnMeetsW.of_walk {y : MethodName} {bytes : ByteArray} {maxL : Nat} {ret : Option FieldType} {ws : List Jvm.Cond} {rm : Room} {as' : Array Value} (hpl : plainFor y = true) (hent : ∀ m, entryFrame m as' maxL = mkF m 0 Ls [])
    (body : ∀ (p : Program) (e : Env) (m : MethodId) (below : List Frame) (meth : Method) (c : Code) (T : State), Stand p l e rm Z m as' below meth c T [] 0 0 → Cx p Z m meth c Z y bytes maxL ret → T.heap = Z.heap → OwnEndsW p e below Z rm.cells rm.slots Q T m 0 Ls []) :
    OwnMeetsW l Z y bytes maxL ret ws rm as' Q := by
  refine MetFree.of_bodySF hpl hisR ?_
  intro p e s m args below meth c s₁ Bd hml0 hP hK
  obtain ⟨rfl, rfl⟩ := hP
  have X0 : Stand p l e rm s m _ below meth c s₁ [] 0 0 := Stand.of_body Bd
  have e0 : s₁.heap = s.heap := by rw [Bd.state]; rfl
  obtain ⟨t, o, h1, h2, h3, v, L, h4, h5, h6⟩ := body p e m below meth c s₁ X0 ⟨Bd.exec, Bd.bytes, hml0, Bd.returns, BodyLoose.notSynchronized Bd, (name_of_methodNamed Bd.named Bd.method).1, findClass_of_methodNamed Bd.named, State.Warmed39.refl s⟩ e0
  exact ⟨t, o, castTop (hent m) h1, h2, h3, v, L, h4, h5, h6⟩
theorem ew_iloadN (X : Stand p l e R s m args below meth c T locs cells slots) (hx : p.tables.exec = Jvm.exec) {k : Fin 4} {v : Int32} (hd : decode c.code pc = .ok (.iload_n k, 1)) (hl : Ls[k.val]? = some (.val (.int v))) (k : OwnEndsW p e below s C S Q T m pc' Ls (.int v :: st)) (hp : pc + 1 = pc' := by rfl) : OwnEndsW p e below s C S Q T m pc Ls st := by
  subst hp
  exact OwnEndsW.of (fun _ k => XS.iloadN X.here hx (g := mkF m pc Ls st) rfl hd hl k) k
theorem ew_iconst (X : Stand p l e R s m args below meth c T locs cells slots) (hx : p.tables.exec = Jvm.exec) {i : Int} (v : Int32) (hd : decode c.code pc = .ok (.iconst i, 1)) (k : OwnEndsW p e below s C S Q T m pc' Ls (.int v :: st)) (hv : Int32.ofInt i = v := by rfl) (hp : pc + 1 = pc' := by rfl) : OwnEndsW p e below s C S Q T m pc Ls st := by
  subst hp hv
  exact OwnEndsW.of (fun _ k => XS.iconst X.here hx (g := mkF m pc Ls st) rfl hd k) k
theorem ew_iand (X : Stand p l e R s m args below meth c T locs cells slots) (hx : p.tables.exec = Jvm.exec) {x y : Int32} (hd : decode c.code pc = .ok (.iand, 1))  (k : OwnEndsW p e below s C S Q T m pc' Ls (.int (x &&& y) :: st)) (hp : pc + 1 = pc' := by rfl) : OwnEndsW p e below s C S Q T m pc Ls (.int y :: .int x :: st) := by
  subst hp
  exact OwnEndsW.of (fun _ k => XS.iand X.here hx (g := mkF m pc Ls (.int y :: .int x :: st)) rfl hd rfl k) k
theorem ew_istoreN (X : Stand p l e R s m args below meth c T locs cells slots) (hx : p.tables.exec = Jvm.exec) {k : Fin 4} {v : Int32} (hd : decode c.code pc = .ok (.istore_n k, 1)) (hl : storeLocals Ls k.val (.int v) = some Ls') (k : OwnEndsW p e below s C S Q T m pc' Ls' st) (hp : pc + 1 = pc' := by rfl) : OwnEndsW p e below s C S Q T m pc Ls (.int v :: st) := by
  subst hp
  exact OwnEndsW.of (fun _ k => XS.istoreN X.here hx (g := mkF m pc Ls (.int v :: st)) rfl hd rfl hl k) k
theorem ew_ifYes (X : Stand p l e R s m args below meth c T locs cells slots) (hx : p.tables.exec = Jvm.exec) {cd : ClassFile.Cond} {o : Int} {x : Int32} (hd : decode c.code pc = .ok (.ifCond cd o, 3)) (hc : ifCond.holds cd x = true) (k : OwnEndsW p e below s C S Q T m pc' Ls st) (ho : 0 ≤ (pc : Int) + o := by decide) (hp : ((pc : Int) + o).toNat = pc' := by decide) : OwnEndsW p e below s C S Q T m pc Ls (.int x :: st) := by
  exact OwnEndsW.of (fun _ k => XS.ifYes X.here hx (g := mkF m pc Ls (.int x :: st)) rfl rfl hd rfl hc ho hp k) k
theorem ew_icmpYes (X : Stand p l e R s m args below meth c T locs cells slots) (hx : p.tables.exec = Jvm.exec) {cd : ClassFile.Cond} {o : Int} {x y : Int32} (hd : decode c.code pc = .ok (.if_icmp cd o, 3)) (hc : if_icmp.holds cd x y = true) (k : OwnEndsW p e below s C S Q T m pc' Ls st) (ho : 0 ≤ (pc : Int) + o := by decide) (hp : ((pc : Int) + o).toNat = pc' := by decide) : OwnEndsW p e below s C S Q T m pc Ls (.int y :: .int x :: st) := by
  exact OwnEndsW.of (fun _ k => XS.icmpYes X.here hx (g := mkF m pc Ls (.int y :: .int x :: st)) rfl rfl hd rfl hc ho hp k) k
theorem en_baload (X : Stand p l e R s m args below meth c T locs cells slots) (hx : p.tables.exec = Jvm.exec) (hZ : Z.Warmed39 s.vm) (eT : T.heap = h) {a : Addr} {kA : ClassId} {n j : Int32} {vs : List Value} {dv : Value} (V : Arv Z h a kA .byte n vs dv) (hj : ¬ j < 0 ∧ j < n) {x : Int32} (hv : vs.getD j.toNatClampNeg dv = .int x) (hd : decode c.code pc = .ok (.baload, 1)) (k : OwnEnds p e below s C S Q T m pc' Ls (.int x :: st)) (hp : pc + 1 = pc' := by rfl) : OwnEnds p e below s C S Q T m pc Ls (.int j :: .ref a :: st) := by
  subst hp
  obtain ⟨cl, Ar, -, Sz, -, Hs, -⟩ := V
  have hin := inb_of Sz hj
  exact OwnEnds.of (X.baloadBytes hx (by rw [eT]; exact Ar.1) (State.isArrayOf_alike hZ.alike Ar.2.1) Ar.2.2 hin (Hs.at hin hv) (g := mkF m pc Ls (.int j :: .ref a :: st)) rfl rfl hd) k
def PQ0 (h : Heap) : Option Value → Heap → List Loc → Prop := fun v h' L => v = none ∧ h' = h ∧ L = []
theorem en_callP0 (X : Stand p l e R s m args below meth c T locs cells slots) (hx : p.tables.exec = Jvm.exec) (hZ : Z.Warmed39 s.vm) {y : MethodName} {bytes : ByteArray} {maxL : Nat} {ret : Option FieldType} {fr lo : Nat} {argsL : List Value} {own : String} {index : Nat} (hown : s.vm.findClass own = some m.cls) (w1 : (Jvm.Cond.methodLink own index y).before a0 Z = true) (w2 : (Jvm.Cond.static y).before a0 Z = true) (wz : (Jvm.Cond.initialized y.cls).before a0 Z = true) (wc : (Jvm.Cond.code y bytes maxL ret).before a0 Z = true) (hy : y.cls ≠ "java/lang/invoke/MethodHandle" ∧ y.cls ≠ "java/lang/invoke/VarHandle") (hM : OwnMeets l Z y bytes maxL ret [] ({ frames := fr, cells := 0, slots := 0, locals := lo } : Room) argsL.toArray h (PQ0 h)) (eT : T.heap = h) (hf : fr + 1 ≤ R.frames) (W : Nat) (hW : (rest.map fun v => v.category).sum = W) (hl : W + (maxL + 11) + lo ≤ R.locals) (hcl : cells ≤ R.cells) (hsl : slots ≤ R.slots) (hsz : Ls.size = c.maxLocals) (hlen : ∀ sig, parseMethodDescriptor y.desc = some sig → argsL.length = sig.parameters.length) (hst : st = argsL.reverse ++ rest) (hd : decode c.code pc = .ok (.invokestatic index, 3)) (k : ∀ T', Stand p l e R s m args below meth c T' locs cells slots → T'.heap = h → OwnEnds p e below s C S Q T' m pc' Ls rest) (hp : pc + 3 = pc' := by rfl) : OwnEnds p e below s C S Q T m pc Ls st := by
  refine en_callS X hx hZ hown w1 w2 wz wc hy hM eT hf W hW hl hcl hsl hsz hlen hst hd (fun v T' L X' q => ?_) hp
  obtain ⟨rfl, q2, rfl⟩ := q
  rw [List.append_nil] at X'
  exact k T' X' q2
end Kit
end Jvm.OwnKit
namespace Jvm.Pilot.@@N@@
open Jvm Jvm.ClassFile Sem Op Lib Jvm.Free Jvm.Stand Jvm.LawKit Jvm.RoadKit Bundle Jvm.OwnKit Jvm.Pilot.@@N@@.Jvm.D
def own_tab : List Int32 := [0, 0, 0, 0, 0, 0, 0, 0, 0, 0, 0, 0, 0, 0, 0, 0, 0, 0, 0, 0, 0, 0, 0, 0, 0, 0, 0, 0, 0, 0, 0, 0, 0, 0, 0, 0, 0, 0, 0, 0, 0, 0, 0, 0, 0, 15, 0, 0, 0, 0, 0, 0, 0, 0, 0, 0, 0, 0, 0, 0, 0, 0, 0, 15, 0, 1, 14, 2, 13, 0, 0, 4, 11, 0, 0, 12, 0, 3, 15, 0, 0, 0, 5, 6, 8, 0, 7, 9, 0, 10, 0, 0, 0, 0, 0, 0, 0, 1, 14, 2, 13, 0, 0, 4, 11, 0, 0, 12, 0, 3, 15, 0, 0, 0, 5, 6, 8, 0, 7, 9, 0, 10, 0, 0, 0, 0, 0, 0]
def own_cs : List Int32 := [65, 67, 71, 84, 82, 89, 75, 77, 83, 87, 66, 68, 72, 86, 78, 45, 63]
def own_set (x : Int32) : Int32 := if x < (128 : Int32) then own_tab.getD x.toNatClampNeg 0 else (0 : Int32)
def own_ch (vs : List Int32) (x : Int32) : Int32 := (vs.getD x.toNatClampNeg 0 &&& (255 : Int32)).toUInt32.toUInt16.toUInt32.toInt32
theorem own_get (vs : List Int32) (i : Nat) : (vs.map Value.int).getD i (.int (0 : Int32)) = .int (vs.getD i 0) := by
  simp only [List.getD_eq_getElem?_getD, List.getElem?_map]
  cases vs[i]? <;> rfl
theorem own_nn {q : Int32} (h : 0 ≤ q.toInt) : ¬ q < 0 := by
  rw [Int32.lt_iff_toInt_lt]; show ¬ q.toInt < 0; omega
theorem own_c0 (q : Int32) : ¬ q.toUInt32.toUInt16.toUInt32.toInt32 < 0 := own_nn (c_i2c q).2.1
theorem own_cc (q : Int32) : q.toUInt32.toUInt16.toUInt32.toInt32.toUInt32.toUInt16.toUInt32.toInt32 = q.toUInt32.toUInt16.toUInt32.toInt32 := by
  have h1 := c_i2c q
  have h2 := c_i2c q.toUInt32.toUInt16.toUInt32.toInt32
  apply Int32.toInt_inj.mp
  omega
theorem own_far (i : Nat) (h : ¬ i < 128) : own_tab.getD i 0 = 0 := by
  rw [List.getD_eq_getElem?_getD, List.getElem?_eq_none (show own_tab.length ≤ i from Nat.le_of_not_lt h)]; rfl
theorem own_fit0 : ∀ i : Fin 128, fits .byte (.int (own_tab.getD i.val 0)) = true := by decide +kernel
theorem own_fit (i : Nat) : fits .byte (.int (own_tab.getD i 0)) = true := by
  by_cases h : i < 128
  · exact own_fit0 ⟨i, h⟩
  · rw [own_far i h]; rfl
theorem own_nar0 : ∀ i : Fin 128, (own_tab.getD i.val 0).toInt8.toInt32 = own_tab.getD i.val 0 := by decide +kernel
theorem own_nar (i : Nat) : narrow .byte (.int (own_tab.getD i 0)) = .int (own_tab.getD i 0) := by
  show Value.int _ = _
  by_cases h : i < 128
  · rw [own_nar0 ⟨i, h⟩]
  · rw [own_far i h]; rfl
theorem own_idx (x : Int32) : ¬ ((x &&& (2147483647 : Int32)) % (17 : Int32)) < 0 ∧ ((x &&& (2147483647 : Int32)) % (17 : Int32)) < 17 := by
  have h1 := (c_iremV (x &&& (2147483647 : Int32)) 17).1 ((c_and x 2147483647 (by decide)).1) (by decide)
  refine ⟨own_nn h1.1, ?_⟩
  rw [Int32.lt_iff_toInt_lt]
  exact h1.2.1
theorem own_len {s : State} {args : Array Value} {t : Term} {D : Addr} {cl : Cell} {ty : FieldType} {z : Int32} (h : (Jvm.Cond.eq (Term.length t) (Term.int z)).before args s = true) (ev : t.eval args s none [] s = some (.ref D)) (A : Arr s s.heap D cl ty) : cl.slots.size < 2 ^ 31 ∧ cl.slots.size.toInt32 = z := by
  have ha : s.arrayAt? D = some cl := A.fin (Vm.Alike.refl _)
  have h' := Cond.before_iff.mp h
  by_cases q : cl.slots.size < 2 ^ 31
  · have e := len_f ev ha q
    refine ⟨q, ?_⟩
    simp only [Cond.value, e, Term.int_eval] at h'
    simpa using h'
  · have e : (Term.length t).eval args s none [] s = none := by simp [Term.eval, ev, ha]; omega
    simp [Cond.value, e] at h'
theorem own_el {s : State} {args : Array Value} {t a : Term} {D : Addr} {cl : Cell} {j v : Int32} {idx : List Nat} {k : Nat} (h : (Jvm.Cond.eq (Term.elem t a) (Term.int v)).value args s none s idx = some true) (ev : t.eval args s none idx s = some (.ref D)) (ea : a.eval args s none idx s = some (.int j)) (ha : s.arrayAt? D = some cl) (hj : ¬ j < 0) (hk : j.toNatClampNeg = k) : cl.slots[k]? = some (.int v) := by
  subst hk
  have e := elem_f ev ea ha hj
  cases q : cl.slots[j.toNatClampNeg]? with
  | none => rw [q] at e; simp [Cond.value, e] at h
  | some x =>
    rw [q] at e
    cases x <;> simp [Cond.value, e, Term.int_eval] at h ⊢
    exact h
theorem own_k {k : Nat} (h : k < 128) : ¬ k.toInt32 < 0 ∧ k.toInt32.toNatClampNeg = k ∧ k.toInt32.toInt = k := by
  have h1 := len_toInt (n := k) (by omega)
  have h2 : ¬ k.toInt32 < 0 := own_nn (by omega)
  have h3 := nat_of h2
  exact ⟨h2, by omega, h1⟩
theorem own_nle {a : Int32} {k n : Nat} (hk : k < 128) (ha : a.toInt = n) (h : k < n) : ¬ a ≤ k.toInt32 := by
  have := (own_k hk).2.2
  rw [Int32.le_iff_toInt_le]; omega
theorem own_nlt {a : Int32} {k n : Nat} (hk : k < 128) (ha : a.toInt = n) (h : n ≤ k) : ¬ k.toInt32 < a := by
  have := (own_k hk).2.2
  rw [Int32.lt_iff_toInt_lt]; omega
theorem own_seg {P : Nat → Prop} {a c : Nat} (b : Nat) (h1 : ∀ k, a ≤ k → k < b → P k) (h2 : ∀ k, b ≤ k → k < c → P k) : ∀ k, a ≤ k → k < c → P k := fun k q1 q2 => by
  by_cases q : k < b
  · exact h1 k q1 q
  · exact h2 k (Nat.le_of_not_lt q) q2
theorem own_one {P : Nat → Prop} {a : Nat} (h : P a) : ∀ k, a ≤ k → k < a + 1 → P k := fun k q1 q2 => by
  obtain rfl : k = a := by omega
  exact h
theorem own_zr_0 : ∀ k : Fin 128, 0 ≤ k.val → k.val < 45 → own_tab.getD k.val 0 = 0 := by decide +kernel
theorem own_zr_46 : ∀ k : Fin 128, 46 ≤ k.val → k.val < 63 → own_tab.getD k.val 0 = 0 := by decide +kernel
theorem own_zr_90 : ∀ k : Fin 128, 90 ≤ k.val → k.val < 97 → own_tab.getD k.val 0 = 0 := by decide +kernel
theorem own_zr_122 : ∀ k : Fin 128, 122 ≤ k.val → k.val < 128 → own_tab.getD k.val 0 = 0 := by decide +kernel
set_option maxRecDepth 65536 in
set_option maxHeartbeats 40000000 in
theorem own_pin {s : State} {args : Array Value} (hn : narrow_1.value args s none s [] = some true) : ∃ D kD, (Term.static "com/example/cladestream/cladestream/model/Bases" "STATE_SETS" "[B").eval args s none [] s = some (.ref D) ∧ Arv s s.heap D kD .byte (128 : Int32) (own_tab.map Value.int) (.int (0 : Int32)) := by
  obtain ⟨w0, hn⟩ := and_e hn
  obtain ⟨w1, hn⟩ := and_e hn
  obtain ⟨w2, hn⟩ := and_e hn
  obtain ⟨w3, hn⟩ := and_e hn
  obtain ⟨w4, hn⟩ := and_e hn
  obtain ⟨w5, hn⟩ := and_e hn
  obtain ⟨w6, hn⟩ := and_e hn
  obtain ⟨w7, hn⟩ := and_e hn
  obtain ⟨w8, hn⟩ := and_e hn
  obtain ⟨w9, hn⟩ := and_e hn
  obtain ⟨w10, hn⟩ := and_e hn
  obtain ⟨w11, hn⟩ := and_e hn
  obtain ⟨w12, hn⟩ := and_e hn
  obtain ⟨w13, hn⟩ := and_e hn
  obtain ⟨w14, hn⟩ := and_e hn
  obtain ⟨w15, hn⟩ := and_e hn
  obtain ⟨w16, hn⟩ := and_e hn
  obtain ⟨w17, hn⟩ := and_e hn
  obtain ⟨w18, hn⟩ := and_e hn
  obtain ⟨w19, hn⟩ := and_e hn
  obtain ⟨w20, hn⟩ := and_e hn
  obtain ⟨w21, hn⟩ := and_e hn
  obtain ⟨w22, hn⟩ := and_e hn
  obtain ⟨w23, hn⟩ := and_e hn
  obtain ⟨w24, hn⟩ := and_e hn
  obtain ⟨w25, hn⟩ := and_e hn
  obtain ⟨w26, hn⟩ := and_e hn
  obtain ⟨w27, hn⟩ := and_e hn
  obtain ⟨w28, hn⟩ := and_e hn
  obtain ⟨w29, hn⟩ := and_e hn
  obtain ⟨w30, hn⟩ := and_e hn
  obtain ⟨w31, hn⟩ := and_e hn
  obtain ⟨w32, hn⟩ := and_e hn
  obtain ⟨w33, hn⟩ := and_e hn
  obtain ⟨w34, hn⟩ := and_e hn
  obtain ⟨w35, hn⟩ := and_e hn
  obtain ⟨w36, hn⟩ := and_e hn
  obtain ⟨w37, hn⟩ := and_e hn
  obtain ⟨w38, hn⟩ := and_e hn
  obtain ⟨w39, hn⟩ := and_e hn
  obtain ⟨w40, hn⟩ := and_e hn
  obtain ⟨w41, hn⟩ := and_e hn
  obtain ⟨w42, hn⟩ := and_e hn
  obtain ⟨w43, hn⟩ := and_e hn
  obtain ⟨w44, hn⟩ := and_e hn
  obtain ⟨w45, hn⟩ := and_e hn
  obtain ⟨w46, hn⟩ := and_e hn
  obtain ⟨w47, hn⟩ := and_e hn
  obtain ⟨w48, hn⟩ := and_e hn
  obtain ⟨w49, hn⟩ := and_e hn
  obtain ⟨w50, hn⟩ := and_e hn
  obtain ⟨w51, hn⟩ := and_e hn
  obtain ⟨w52, hn⟩ := and_e hn
  obtain ⟨w53, hn⟩ := and_e hn
  obtain ⟨w54, hn⟩ := and_e hn
  obtain ⟨w55, hn⟩ := and_e hn
  obtain ⟨w56, hn⟩ := and_e hn
  obtain ⟨w57, hn⟩ := and_e hn
  obtain ⟨D, ev⟩ := arr_v w0
  obtain ⟨cl, A⟩ := Arr.start ev w0
  obtain ⟨q1, q2⟩ := own_len (Cond.before_iff.mpr w1) ev A
  have ha : s.arrayAt? D = some cl := A.fin (Vm.Alike.refl _)
  have q3 : cl.slots.size = 128 := by
    have h1 := len_toInt q1
    rw [q2] at h1
    have h0 : (128 : Int32).toInt = 128 := rfl
    omega
  have evk : ∀ k, (Term.static "com/example/cladestream/cladestream/model/Bases" "STATE_SETS" "[B").eval args s none [k] s = some (.ref D) := fun _ => ev
  have p0 : ∀ k, 0 ≤ k → k < 45 → cl.slots[k]? = some (.int (own_tab.getD k 0)) := fun k k1 k2 => by
    have hk : k < 128 := by omega
    have h := Cond.all_elim ev ha w2 k (by omega)
    rw [Cond.or_of_right (nay (Cond.le_ints (Term.int_eval _) (Term.index_eval _)) (own_nle hk (a := (45 : Int32)) (n := 45) rfl k2))] at h
    rw [own_zr_0 ⟨k, hk⟩ k1 k2]
    exact own_el h (evk k) (Term.index_eval _) ha (own_k hk).1 (own_k hk).2.1
  have p45 : cl.slots[45]? = some (.int (own_tab.getD 45 0)) := own_el w3 ev (Term.int_eval (45 : Int32)) ha (by decide) (by decide)
  have p46 : ∀ k, 46 ≤ k → k < 63 → cl.slots[k]? = some (.int (own_tab.getD k 0)) := fun k k1 k2 => by
    have hk : k < 128 := by omega
    have h := Cond.all_elim ev ha w4 k (by omega)
    rw [Cond.or_of_right (nay (Cond.lt_ints (Term.index_eval _) (Term.int_eval _)) (own_nlt hk (a := (46 : Int32)) (n := 46) rfl k1))] at h
    rw [Cond.or_of_right (nay (Cond.le_ints (Term.int_eval _) (Term.index_eval _)) (own_nle hk (a := (63 : Int32)) (n := 63) rfl k2))] at h
    rw [own_zr_46 ⟨k, hk⟩ k1 k2]
    exact own_el h (evk k) (Term.index_eval _) ha (own_k hk).1 (own_k hk).2.1
  have p63 : cl.slots[63]? = some (.int (own_tab.getD 63 0)) := own_el w5 ev (Term.int_eval (63 : Int32)) ha (by decide) (by decide)
  have p64 : cl.slots[64]? = some (.int (own_tab.getD 64 0)) := own_el w6 ev (Term.int_eval (64 : Int32)) ha (by decide) (by decide)
  have p65 : cl.slots[65]? = some (.int (own_tab.getD 65 0)) := own_el w7 ev (Term.int_eval (65 : Int32)) ha (by decide) (by decide)
  have p66 : cl.slots[66]? = some (.int (own_tab.getD 66 0)) := own_el w8 ev (Term.int_eval (66 : Int32)) ha (by decide) (by decide)
  have p67 : cl.slots[67]? = some (.int (own_tab.getD 67 0)) := own_el w9 ev (Term.int_eval (67 : Int32)) ha (by decide) (by decide)
  have p68 : cl.slots[68]? = some (.int (own_tab.getD 68 0)) := own_el w10 ev (Term.int_eval (68 : Int32)) ha (by decide) (by decide)
  have p69 : cl.slots[69]? = some (.int (own_tab.getD 69 0)) := own_el w11 ev (Term.int_eval (69 : Int32)) ha (by decide) (by decide)
  have p70 : cl.slots[70]? = some (.int (own_tab.getD 70 0)) := own_el w12 ev (Term.int_eval (70 : Int32)) ha (by decide) (by decide)
  have p71 : cl.slots[71]? = some (.int (own_tab.getD 71 0)) := own_el w13 ev (Term.int_eval (71 : Int32)) ha (by decide) (by decide)
  have p72 : cl.slots[72]? = some (.int (own_tab.getD 72 0)) := own_el w14 ev (Term.int_eval (72 : Int32)) ha (by decide) (by decide)
  have p73 : cl.slots[73]? = some (.int (own_tab.getD 73 0)) := own_el w15 ev (Term.int_eval (73 : Int32)) ha (by decide) (by decide)
  have p74 : cl.slots[74]? = some (.int (own_tab.getD 74 0)) := own_el w16 ev (Term.int_eval (74 : Int32)) ha (by decide) (by decide)
  have p75 : cl.slots[75]? = some (.int (own_tab.getD 75 0)) := own_el w17 ev (Term.int_eval (75 : Int32)) ha (by decide) (by decide)
  have p76 : cl.slots[76]? = some (.int (own_tab.getD 76 0)) := own_el w18 ev (Term.int_eval (76 : Int32)) ha (by decide) (by decide)
  have p77 : cl.slots[77]? = some (.int (own_tab.getD 77 0)) := own_el w19 ev (Term.int_eval (77 : Int32)) ha (by decide) (by decide)
  have p78 : cl.slots[78]? = some (.int (own_tab.getD 78 0)) := own_el w20 ev (Term.int_eval (78 : Int32)) ha (by decide) (by decide)
  have p79 : cl.slots[79]? = some (.int (own_tab.getD 79 0)) := own_el w21 ev (Term.int_eval (79 : Int32)) ha (by decide) (by decide)
  have p80 : cl.slots[80]? = some (.int (own_tab.getD 80 0)) := own_el w22 ev (Term.int_eval (80 : Int32)) ha (by decide) (by decide)
  have p81 : cl.slots[81]? = some (.int (own_tab.getD 81 0)) := own_el w23 ev (Term.int_eval (81 : Int32)) ha (by decide) (by decide)
  have p82 : cl.slots[82]? = some (.int (own_tab.getD 82 0)) := own_el w24 ev (Term.int_eval (82 : Int32)) ha (by decide) (by decide)
  have p83 : cl.slots[83]? = some (.int (own_tab.getD 83 0)) := own_el w25 ev (Term.int_eval (83 : Int32)) ha (by decide) (by decide)
  have p84 : cl.slots[84]? = some (.int (own_tab.getD 84 0)) := own_el w26 ev (Term.int_eval (84 : Int32)) ha (by decide) (by decide)
  have p85 : cl.slots[85]? = some (.int (own_tab.getD 85 0)) := own_el w27 ev (Term.int_eval (85 : Int32)) ha (by decide) (by decide)
  have p86 : cl.slots[86]? = some (.int (own_tab.getD 86 0)) := own_el w28 ev (Term.int_eval (86 : Int32)) ha (by decide) (by decide)
  have p87 : cl.slots[87]? = some (.int (own_tab.getD 87 0)) := own_el w29 ev (Term.int_eval (87 : Int32)) ha (by decide) (by decide)
  have p88 : cl.slots[88]? = some (.int (own_tab.getD 88 0)) := own_el w30 ev (Term.int_eval (88 : Int32)) ha (by decide) (by decide)
  have p89 : cl.slots[89]? = some (.int (own_tab.getD 89 0)) := own_el w31 ev (Term.int_eval (89 : Int32)) ha (by decide) (by decide)
  have p90 : ∀ k, 90 ≤ k → k < 97 → cl.slots[k]? = some (.int (own_tab.getD k 0)) := fun k k1 k2 => by
    have hk : k < 128 := by omega
    have h := Cond.all_elim ev ha w32 k (by omega)
    rw [Cond.or_of_right (nay (Cond.lt_ints (Term.index_eval _) (Term.int_eval _)) (own_nlt hk (a := (90 : Int32)) (n := 90) rfl k1))] at h
    rw [Cond.or_of_right (nay (Cond.le_ints (Term.int_eval _) (Term.index_eval _)) (own_nle hk (a := (97 : Int32)) (n := 97) rfl k2))] at h
    rw [own_zr_90 ⟨k, hk⟩ k1 k2]
    exact own_el h (evk k) (Term.index_eval _) ha (own_k hk).1 (own_k hk).2.1
  have p97 : cl.slots[97]? = some (.int (own_tab.getD 97 0)) := own_el w33 ev (Term.int_eval (97 : Int32)) ha (by decide) (by decide)
  have p98 : cl.slots[98]? = some (.int (own_tab.getD 98 0)) := own_el w34 ev (Term.int_eval (98 : Int32)) ha (by decide) (by decide)
  have p99 : cl.slots[99]? = some (.int (own_tab.getD 99 0)) := own_el w35 ev (Term.int_eval (99 : Int32)) ha (by decide) (by decide)
  have p100 : cl.slots[100]? = some (.int (own_tab.getD 100 0)) := own_el w36 ev (Term.int_eval (100 : Int32)) ha (by decide) (by decide)
  have p101 : cl.slots[101]? = some (.int (own_tab.getD 101 0)) := own_el w37 ev (Term.int_eval (101 : Int32)) ha (by decide) (by decide)
  have p102 : cl.slots[102]? = some (.int (own_tab.getD 102 0)) := own_el w38 ev (Term.int_eval (102 : Int32)) ha (by decide) (by decide)
  have p103 : cl.slots[103]? = some (.int (own_tab.getD 103 0)) := own_el w39 ev (Term.int_eval (103 : Int32)) ha (by decide) (by decide)
  have p104 : cl.slots[104]? = some (.int (own_tab.getD 104 0)) := own_el w40 ev (Term.int_eval (104 : Int32)) ha (by decide) (by decide)
  have p105 : cl.slots[105]? = some (.int (own_tab.getD 105 0)) := own_el w41 ev (Term.int_eval (105 : Int32)) ha (by decide) (by decide)
  have p106 : cl.slots[106]? = some (.int (own_tab.getD 106 0)) := own_el w42 ev (Term.int_eval (106 : Int32)) ha (by decide) (by decide)
  have p107 : cl.slots[107]? = some (.int (own_tab.getD 107 0)) := own_el w43 ev (Term.int_eval (107 : Int32)) ha (by decide) (by decide)
  have p108 : cl.slots[108]? = some (.int (own_tab.getD 108 0)) := own_el w44 ev (Term.int_eval (108 : Int32)) ha (by decide) (by decide)
  have p109 : cl.slots[109]? = some (.int (own_tab.getD 109 0)) := own_el w45 ev (Term.int_eval (109 : Int32)) ha (by decide) (by decide)
  have p110 : cl.slots[110]? = some (.int (own_tab.getD 110 0)) := own_el w46 ev (Term.int_eval (110 : Int32)) ha (by decide) (by decide)
  have p111 : cl.slots[111]? = some (.int (own_tab.getD 111 0)) := own_el w47 ev (Term.int_eval (111 : Int32)) ha (by decide) (by decide)
  have p112 : cl.slots[112]? = some (.int (own_tab.getD 112 0)) := own_el w48 ev (Term.int_eval (112 : Int32)) ha (by decide) (by decide)
  have p113 : cl.slots[113]? = some (.int (own_tab.getD 113 0)) := own_el w49 ev (Term.int_eval (113 : Int32)) ha (by decide) (by decide)
  have p114 : cl.slots[114]? = some (.int (own_tab.getD 114 0)) := own_el w50 ev (Term.int_eval (114 : Int32)) ha (by decide) (by decide)
  have p115 : cl.slots[115]? = some (.int (own_tab.getD 115 0)) := own_el w51 ev (Term.int_eval (115 : Int32)) ha (by decide) (by decide)
  have p116 : cl.slots[116]? = some (.int (own_tab.getD 116 0)) := own_el w52 ev (Term.int_eval (116 : Int32)) ha (by decide) (by decide)
  have p117 : cl.slots[117]? = some (.int (own_tab.getD 117 0)) := own_el w53 ev (Term.int_eval (117 : Int32)) ha (by decide) (by decide)
  have p118 : cl.slots[118]? = some (.int (own_tab.getD 118 0)) := own_el w54 ev (Term.int_eval (118 : Int32)) ha (by decide) (by decide)
  have p119 : cl.slots[119]? = some (.int (own_tab.getD 119 0)) := own_el w55 ev (Term.int_eval (119 : Int32)) ha (by decide) (by decide)
  have p120 : cl.slots[120]? = some (.int (own_tab.getD 120 0)) := own_el w56 ev (Term.int_eval (120 : Int32)) ha (by decide) (by decide)
  have p121 : cl.slots[121]? = some (.int (own_tab.getD 121 0)) := own_el w57 ev (Term.int_eval (121 : Int32)) ha (by decide) (by decide)
  have p122 : ∀ k, 122 ≤ k → k < 128 → cl.slots[k]? = some (.int (own_tab.getD k 0)) := fun k k1 k2 => by
    have hk : k < 128 := by omega
    have h := Cond.all_elim ev ha hn k (by omega)
    rw [Cond.or_of_right (nay (Cond.lt_ints (Term.index_eval _) (Term.int_eval _)) (own_nlt hk (a := (122 : Int32)) (n := 122) rfl k1))] at h
    rw [own_zr_122 ⟨k, hk⟩ k1 k2]
    exact own_el h (evk k) (Term.index_eval _) ha (own_k hk).1 (own_k hk).2.1
  have M : ∀ k, 0 ≤ k → k < 128 → cl.slots[k]? = some (.int (own_tab.getD k 0)) := (own_seg 45 p0 (own_seg 46 (own_one p45) (own_seg 63 p46 (own_seg 64 (own_one p63) (own_seg 65 (own_one p64) (own_seg 66 (own_one p65) (own_seg 67 (own_one p66) (own_seg 68 (own_one p67) (own_seg 69 (own_one p68) (own_seg 70 (own_one p69) (own_seg 71 (own_one p70) (own_seg 72 (own_one p71) (own_seg 73 (own_one p72) (own_seg 74 (own_one p73) (own_seg 75 (own_one p74) (own_seg 76 (own_one p75) (own_seg 77 (own_one p76) (own_seg 78 (own_one p77) (own_seg 79 (own_one p78) (own_seg 80 (own_one p79) (own_seg 81 (own_one p80) (own_seg 82 (own_one p81) (own_seg 83 (own_one p82) (own_seg 84 (own_one p83) (own_seg 85 (own_one p84) (own_seg 86 (own_one p85) (own_seg 87 (own_one p86) (own_seg 88 (own_one p87) (own_seg 89 (own_one p88) (own_seg 90 (own_one p89) (own_seg 97 p90 (own_seg 98 (own_one p97) (own_seg 99 (own_one p98) (own_seg 100 (own_one p99) (own_seg 101 (own_one p100) (own_seg 102 (own_one p101) (own_seg 103 (own_one p102) (own_seg 104 (own_one p103) (own_seg 105 (own_one p104) (own_seg 106 (own_one p105) (own_seg 107 (own_one p106) (own_seg 108 (own_one p107) (own_seg 109 (own_one p108) (own_seg 110 (own_one p109) (own_seg 111 (own_one p110) (own_seg 112 (own_one p111) (own_seg 113 (own_one p112) (own_seg 114 (own_one p113) (own_seg 115 (own_one p114) (own_seg 116 (own_one p115) (own_seg 117 (own_one p116) (own_seg 118 (own_one p117) (own_seg 119 (own_one p118) (own_seg 120 (own_one p119) (own_seg 121 (own_one p120) (own_seg 122 (own_one p121) p122))))))))))))))))))))))))))))))))))))))))))))))))))))))))
  exact ⟨D, cl.cls, ev, cl, A, rfl, q3, by decide, fun k hk => by rw [own_get]; exact M k (Nat.zero_le _) (by omega), fun k hk => by rw [own_get]; exact own_fit k⟩
theorem own_cs0 {s : State} {args : Array Value} (h1 : (Jvm.Cond.initializedFor "java/lang/String" "COMPACT_STRINGS" "Z").before args s = true) (h2 : (Jvm.Cond.isInt (Term.static "java/lang/String" "COMPACT_STRINGS" "Z")).before args s = true) (h3 : (Jvm.Cond.not (Jvm.Cond.eq (Term.static "java/lang/String" "COMPACT_STRINGS" "Z") (Term.int 0))).before args s = true) : ∃ cs : Int32, ¬ cs = 0 ∧ Sta s s.heap "java/lang/String" "COMPACT_STRINGS" "Z" (.int cs) := by
  obtain ⟨cs, ev⟩ := is_v (Cond.before_iff.mp h2)
  refine ⟨cs, fun q => ?_, Sta.start ev (Or.inl h1)⟩
  have h := Cond.before_iff.mp h3
  have e := Cond.eq_ints ev (Term.int_eval (0 : Int32))
  simp only [Cond.value] at h e
  rw [e] at h
  simp [q] at h
theorem own_fm {s : State} {args : Array Value} {C n d : String} (h1 : (Jvm.Cond.initializedFor C n d).before args s = true) (h2 : (Jvm.Cond.isRef (Term.static C n d)).before args s = true) : ∃ v : Value, v.isRef = true ∧ Sta s s.heap C n d v := by
  obtain ⟨v, ev, hv⟩ := isR_v (Cond.before_iff.mp h2)
  exact ⟨v, hv, Sta.start ev (Or.inl h1)⟩
theorem d7_0 : decode method_2_code 0 = .ok (.iload_n 0, 1) := by decide +kernel
theorem d7_1 : decode method_2_code 1 = .ok (.istore_n 1, 1) := by decide +kernel
theorem d7_2 : decode method_2_code 2 = .ok (.iload_n 1, 1) := by decide +kernel
theorem d7_3 : decode method_2_code 3 = .ok (.bipush 97, 2) := by decide +kernel
theorem d7_5 : decode method_2_code 5 = .ok (.if_icmp .lt 14, 3) := by decide +kernel
theorem d7_8 : decode method_2_code 8 = .ok (.iload_n 1, 1) := by decide +kernel
theorem d7_9 : decode method_2_code 9 = .ok (.bipush 122, 2) := by decide +kernel
theorem d7_11 : decode method_2_code 11 = .ok (.if_icmp .gt 8, 3) := by decide +kernel
theorem d7_14 : decode method_2_code 14 = .ok (.iload_n 1, 1) := by decide +kernel
theorem d7_15 : decode method_2_code 15 = .ok (.bipush 32, 2) := by decide +kernel
theorem d7_17 : decode method_2_code 17 = .ok (.isub, 1) := by decide +kernel
theorem d7_18 : decode method_2_code 18 = .ok (.istore_n 1, 1) := by decide +kernel
theorem d7_19 : decode method_2_code 19 = .ok (.iload_n 1, 1) := by decide +kernel
theorem d7_20 : decode method_2_code 20 = .ok (.bipush 65, 2) := by decide +kernel
theorem d7_22 : decode method_2_code 22 = .ok (.if_icmp .ne 5, 3) := by decide +kernel
theorem d7_25 : decode method_2_code 25 = .ok (.iconst 1, 1) := by decide +kernel
theorem d7_26 : decode method_2_code 26 = .ok (.ireturn, 1) := by decide +kernel
theorem d7_27 : decode method_2_code 27 = .ok (.iload_n 1, 1) := by decide +kernel
theorem d7_28 : decode method_2_code 28 = .ok (.bipush 67, 2) := by decide +kernel
theorem d7_30 : decode method_2_code 30 = .ok (.if_icmp .ne 5, 3) := by decide +kernel
theorem d7_33 : decode method_2_code 33 = .ok (.iconst 2, 1) := by decide +kernel
theorem d7_34 : decode method_2_code 34 = .ok (.ireturn, 1) := by decide +kernel
theorem d7_35 : decode method_2_code 35 = .ok (.iload_n 1, 1) := by decide +kernel
theorem d7_36 : decode method_2_code 36 = .ok (.bipush 71, 2) := by decide +kernel
theorem d7_38 : decode method_2_code 38 = .ok (.if_icmp .ne 5, 3) := by decide +kernel
theorem d7_41 : decode method_2_code 41 = .ok (.iconst 4, 1) := by decide +kernel
theorem d7_42 : decode method_2_code 42 = .ok (.ireturn, 1) := by decide +kernel
theorem d7_43 : decode method_2_code 43 = .ok (.iload_n 1, 1) := by decide +kernel
theorem d7_44 : decode method_2_code 44 = .ok (.bipush 84, 2) := by decide +kernel
theorem d7_46 : decode method_2_code 46 = .ok (.if_icmp .ne 6, 3) := by decide +kernel
theorem d7_49 : decode method_2_code 49 = .ok (.bipush 8, 2) := by decide +kernel
theorem d7_51 : decode method_2_code 51 = .ok (.ireturn, 1) := by decide +kernel
theorem d7_52 : decode method_2_code 52 = .ok (.iload_n 1, 1) := by decide +kernel
theorem d7_53 : decode method_2_code 53 = .ok (.bipush 82, 2) := by decide +kernel
theorem d7_55 : decode method_2_code 55 = .ok (.if_icmp .ne 5, 3) := by decide +kernel
theorem d7_58 : decode method_2_code 58 = .ok (.iconst 5, 1) := by decide +kernel
theorem d7_59 : decode method_2_code 59 = .ok (.ireturn, 1) := by decide +kernel
theorem d7_60 : decode method_2_code 60 = .ok (.iload_n 1, 1) := by decide +kernel
theorem d7_61 : decode method_2_code 61 = .ok (.bipush 89, 2) := by decide +kernel
theorem d7_63 : decode method_2_code 63 = .ok (.if_icmp .ne 6, 3) := by decide +kernel
theorem d7_66 : decode method_2_code 66 = .ok (.bipush 10, 2) := by decide +kernel
theorem d7_68 : decode method_2_code 68 = .ok (.ireturn, 1) := by decide +kernel
theorem d7_69 : decode method_2_code 69 = .ok (.iload_n 1, 1) := by decide +kernel
theorem d7_70 : decode method_2_code 70 = .ok (.bipush 75, 2) := by decide +kernel
theorem d7_72 : decode method_2_code 72 = .ok (.if_icmp .ne 6, 3) := by decide +kernel
theorem d7_75 : decode method_2_code 75 = .ok (.bipush 12, 2) := by decide +kernel
theorem d7_77 : decode method_2_code 77 = .ok (.ireturn, 1) := by decide +kernel
theorem d7_78 : decode method_2_code 78 = .ok (.iload_n 1, 1) := by decide +kernel
theorem d7_79 : decode method_2_code 79 = .ok (.bipush 77, 2) := by decide +kernel
theorem d7_81 : decode method_2_code 81 = .ok (.if_icmp .ne 5, 3) := by decide +kernel
theorem d7_84 : decode method_2_code 84 = .ok (.iconst 3, 1) := by decide +kernel
theorem d7_85 : decode method_2_code 85 = .ok (.ireturn, 1) := by decide +kernel
theorem d7_86 : decode method_2_code 86 = .ok (.iload_n 1, 1) := by decide +kernel
theorem d7_87 : decode method_2_code 87 = .ok (.bipush 83, 2) := by decide +kernel
theorem d7_89 : decode method_2_code 89 = .ok (.if_icmp .ne 6, 3) := by decide +kernel
theorem d7_92 : decode method_2_code 92 = .ok (.bipush 6, 2) := by decide +kernel
theorem d7_94 : decode method_2_code 94 = .ok (.ireturn, 1) := by decide +kernel
theorem d7_95 : decode method_2_code 95 = .ok (.iload_n 1, 1) := by decide +kernel
theorem d7_96 : decode method_2_code 96 = .ok (.bipush 87, 2) := by decide +kernel
theorem d7_98 : decode method_2_code 98 = .ok (.if_icmp .ne 6, 3) := by decide +kernel
theorem d7_101 : decode method_2_code 101 = .ok (.bipush 9, 2) := by decide +kernel
theorem d7_103 : decode method_2_code 103 = .ok (.ireturn, 1) := by decide +kernel
theorem d7_104 : decode method_2_code 104 = .ok (.iload_n 1, 1) := by decide +kernel
theorem d7_105 : decode method_2_code 105 = .ok (.bipush 66, 2) := by decide +kernel
theorem d7_107 : decode method_2_code 107 = .ok (.if_icmp .ne 6, 3) := by decide +kernel
theorem d7_110 : decode method_2_code 110 = .ok (.bipush 14, 2) := by decide +kernel
theorem d7_112 : decode method_2_code 112 = .ok (.ireturn, 1) := by decide +kernel
theorem d7_113 : decode method_2_code 113 = .ok (.iload_n 1, 1) := by decide +kernel
theorem d7_114 : decode method_2_code 114 = .ok (.bipush 68, 2) := by decide +kernel
theorem d7_116 : decode method_2_code 116 = .ok (.if_icmp .ne 6, 3) := by decide +kernel
theorem d7_119 : decode method_2_code 119 = .ok (.bipush 13, 2) := by decide +kernel
theorem d7_121 : decode method_2_code 121 = .ok (.ireturn, 1) := by decide +kernel
theorem d7_122 : decode method_2_code 122 = .ok (.iload_n 1, 1) := by decide +kernel
theorem d7_123 : decode method_2_code 123 = .ok (.bipush 72, 2) := by decide +kernel
theorem d7_125 : decode method_2_code 125 = .ok (.if_icmp .ne 6, 3) := by decide +kernel
theorem d7_128 : decode method_2_code 128 = .ok (.bipush 11, 2) := by decide +kernel
theorem d7_130 : decode method_2_code 130 = .ok (.ireturn, 1) := by decide +kernel
theorem d7_131 : decode method_2_code 131 = .ok (.iload_n 1, 1) := by decide +kernel
theorem d7_132 : decode method_2_code 132 = .ok (.bipush 86, 2) := by decide +kernel
theorem d7_134 : decode method_2_code 134 = .ok (.if_icmp .ne 6, 3) := by decide +kernel
theorem d7_137 : decode method_2_code 137 = .ok (.bipush 7, 2) := by decide +kernel
theorem d7_139 : decode method_2_code 139 = .ok (.ireturn, 1) := by decide +kernel
theorem d7_140 : decode method_2_code 140 = .ok (.iload_n 1, 1) := by decide +kernel
theorem d7_141 : decode method_2_code 141 = .ok (.bipush 78, 2) := by decide +kernel
theorem d7_143 : decode method_2_code 143 = .ok (.if_icmp .ne 6, 3) := by decide +kernel
theorem d7_146 : decode method_2_code 146 = .ok (.bipush 15, 2) := by decide +kernel
theorem d7_148 : decode method_2_code 148 = .ok (.ireturn, 1) := by decide +kernel
theorem d7_149 : decode method_2_code 149 = .ok (.iload_n 1, 1) := by decide +kernel
theorem d7_150 : decode method_2_code 150 = .ok (.bipush 45, 2) := by decide +kernel
theorem d7_152 : decode method_2_code 152 = .ok (.if_icmp .ne 6, 3) := by decide +kernel
theorem d7_155 : decode method_2_code 155 = .ok (.bipush 15, 2) := by decide +kernel
theorem d7_157 : decode method_2_code 157 = .ok (.ireturn, 1) := by decide +kernel
theorem d7_158 : decode method_2_code 158 = .ok (.iload_n 1, 1) := by decide +kernel
theorem d7_159 : decode method_2_code 159 = .ok (.bipush 63, 2) := by decide +kernel
theorem d7_161 : decode method_2_code 161 = .ok (.if_icmp .ne 6, 3) := by decide +kernel
theorem d7_164 : decode method_2_code 164 = .ok (.bipush 15, 2) := by decide +kernel
theorem d7_166 : decode method_2_code 166 = .ok (.ireturn, 1) := by decide +kernel
theorem d7_167 : decode method_2_code 167 = .ok (.iconst 0, 1) := by decide +kernel
theorem d7_168 : decode method_2_code 168 = .ok (.ireturn, 1) := by decide +kernel
theorem ef_7 (m : MethodId) (x0 : Int32) : entryFrame m #[(.int x0)] 2 = mkF m 0 #[.val (.int x0), .unset] [] := by first | (simp [entryFrame, mkF, argsToLocals, Value.category]; done) | rfl
def f7_19 (x0 : Int32) (x1 : Int32) : Int32 := (if x1 = (65 : Int32) then (1 : Int32) else (if x1 = (67 : Int32) then (2 : Int32) else (if x1 = (71 : Int32) then (4 : Int32) else (if x1 = (84 : Int32) then (8 : Int32) else (if x1 = (82 : Int32) then (5 : Int32) else (if x1 = (89 : Int32) then (10 : Int32) else (if x1 = (75 : Int32) then (12 : Int32) else (if x1 = (77 : Int32) then (3 : Int32) else (if x1 = (83 : Int32) then (6 : Int32) else (if x1 = (87 : Int32) then (9 : Int32) else (if x1 = (66 : Int32) then (14 : Int32) else (if x1 = (68 : Int32) then (13 : Int32) else (if x1 = (72 : Int32) then (11 : Int32) else (if x1 = (86 : Int32) then (7 : Int32) else (if x1 = (78 : Int32) then (15 : Int32) else (if x1 = (45 : Int32) then (15 : Int32) else (if x1 = (63 : Int32) then (15 : Int32) else (0 : Int32))))))))))))))))))
theorem b7_19 {p : Program} {l : Launch} {e : Env} {s : State} {m : MethodId} {args : Array Value} {below : List Frame} {meth : Method} {c : Code} {T : State} {Z : State} {a0 : Array Value} {h : Heap} {C S : Nat} (hw : ∀ d ∈ tables_1, d.before a0 Z = true) (K : Cx p s m meth c Z (⟨"com/example/cladestream/cladestream/model/BasesStateSetPinLaw", "expected", "(C)I"⟩ : MethodName) method_2_code 2 (some .int)) (X : Stand p l e ({ frames := 0, cells := 0, slots := 0, locals := 0 } : Room) s m args below meth c T [] 0 0) (eT : T.heap = h) (x0 : Int32) (x1 : Int32)  : OwnEnds p e below s C S (PQ (.int (f7_19 x0 x1)) h) T m 19 #[.val (.int x0), .val (.int x1)] [] := by
  obtain ⟨hx, hby, hml, hret, hlk, hnm, hown, hZ⟩ := id K
  unfold f7_19
  refine en_iloadN X hx (hb hby d7_19) (pc' := 20) rfl ?_
  refine en_bipush X hx (65 : Int32) (hb hby d7_20) (pc' := 22) ?_
  by_cases hc22_0 : x1 = (65 : Int32)
  · rw [if_pos hc22_0]
    refine en_icmpNo X hx (hb hby d7_22) (teq hc22_0).2 (pc' := 25) ?_
    refine en_iconst X hx (1 : Int32) (hb hby d7_25) (pc' := 26) ?_
    exact en_retI X hx hret hlk (hb hby d7_26) (Nat.zero_le _) (Nat.zero_le _) ⟨rfl, eT, rfl⟩
  · rw [if_neg hc22_0]
    refine en_icmpYes X hx (hb hby d7_22) (feq hc22_0).2 (pc' := 27) ?_
    refine en_iloadN X hx (hb hby d7_27) (pc' := 28) rfl ?_
    refine en_bipush X hx (67 : Int32) (hb hby d7_28) (pc' := 30) ?_
    by_cases hc30_1 : x1 = (67 : Int32)
    · rw [if_pos hc30_1]
      refine en_icmpNo X hx (hb hby d7_30) (teq hc30_1).2 (pc' := 33) ?_
      refine en_iconst X hx (2 : Int32) (hb hby d7_33) (pc' := 34) ?_
      exact en_retI X hx hret hlk (hb hby d7_34) (Nat.zero_le _) (Nat.zero_le _) ⟨rfl, eT, rfl⟩
    · rw [if_neg hc30_1]
      refine en_icmpYes X hx (hb hby d7_30) (feq hc30_1).2 (pc' := 35) ?_
      refine en_iloadN X hx (hb hby d7_35) (pc' := 36) rfl ?_
      refine en_bipush X hx (71 : Int32) (hb hby d7_36) (pc' := 38) ?_
      by_cases hc38_2 : x1 = (71 : Int32)
      · rw [if_pos hc38_2]
        refine en_icmpNo X hx (hb hby d7_38) (teq hc38_2).2 (pc' := 41) ?_
        refine en_iconst X hx (4 : Int32) (hb hby d7_41) (pc' := 42) ?_
        exact en_retI X hx hret hlk (hb hby d7_42) (Nat.zero_le _) (Nat.zero_le _) ⟨rfl, eT, rfl⟩
      · rw [if_neg hc38_2]
        refine en_icmpYes X hx (hb hby d7_38) (feq hc38_2).2 (pc' := 43) ?_
        refine en_iloadN X hx (hb hby d7_43) (pc' := 44) rfl ?_
        refine en_bipush X hx (84 : Int32) (hb hby d7_44) (pc' := 46) ?_
        by_cases hc46_3 : x1 = (84 : Int32)
        · rw [if_pos hc46_3]
          refine en_icmpNo X hx (hb hby d7_46) (teq hc46_3).2 (pc' := 49) ?_
          refine en_bipush X hx (8 : Int32) (hb hby d7_49) (pc' := 51) ?_
          exact en_retI X hx hret hlk (hb hby d7_51) (Nat.zero_le _) (Nat.zero_le _) ⟨rfl, eT, rfl⟩
        · rw [if_neg hc46_3]
          refine en_icmpYes X hx (hb hby d7_46) (feq hc46_3).2 (pc' := 52) ?_
          refine en_iloadN X hx (hb hby d7_52) (pc' := 53) rfl ?_
          refine en_bipush X hx (82 : Int32) (hb hby d7_53) (pc' := 55) ?_
          by_cases hc55_4 : x1 = (82 : Int32)
          · rw [if_pos hc55_4]
            refine en_icmpNo X hx (hb hby d7_55) (teq hc55_4).2 (pc' := 58) ?_
            refine en_iconst X hx (5 : Int32) (hb hby d7_58) (pc' := 59) ?_
            exact en_retI X hx hret hlk (hb hby d7_59) (Nat.zero_le _) (Nat.zero_le _) ⟨rfl, eT, rfl⟩
          · rw [if_neg hc55_4]
            refine en_icmpYes X hx (hb hby d7_55) (feq hc55_4).2 (pc' := 60) ?_
            refine en_iloadN X hx (hb hby d7_60) (pc' := 61) rfl ?_
            refine en_bipush X hx (89 : Int32) (hb hby d7_61) (pc' := 63) ?_
            by_cases hc63_5 : x1 = (89 : Int32)
            · rw [if_pos hc63_5]
              refine en_icmpNo X hx (hb hby d7_63) (teq hc63_5).2 (pc' := 66) ?_
              refine en_bipush X hx (10 : Int32) (hb hby d7_66) (pc' := 68) ?_
              exact en_retI X hx hret hlk (hb hby d7_68) (Nat.zero_le _) (Nat.zero_le _) ⟨rfl, eT, rfl⟩
            · rw [if_neg hc63_5]
              refine en_icmpYes X hx (hb hby d7_63) (feq hc63_5).2 (pc' := 69) ?_
              refine en_iloadN X hx (hb hby d7_69) (pc' := 70) rfl ?_
              refine en_bipush X hx (75 : Int32) (hb hby d7_70) (pc' := 72) ?_
              by_cases hc72_6 : x1 = (75 : Int32)
              · rw [if_pos hc72_6]
                refine en_icmpNo X hx (hb hby d7_72) (teq hc72_6).2 (pc' := 75) ?_
                refine en_bipush X hx (12 : Int32) (hb hby d7_75) (pc' := 77) ?_
                exact en_retI X hx hret hlk (hb hby d7_77) (Nat.zero_le _) (Nat.zero_le _) ⟨rfl, eT, rfl⟩
              · rw [if_neg hc72_6]
                refine en_icmpYes X hx (hb hby d7_72) (feq hc72_6).2 (pc' := 78) ?_
                refine en_iloadN X hx (hb hby d7_78) (pc' := 79) rfl ?_
                refine en_bipush X hx (77 : Int32) (hb hby d7_79) (pc' := 81) ?_
                by_cases hc81_7 : x1 = (77 : Int32)
                · rw [if_pos hc81_7]
                  refine en_icmpNo X hx (hb hby d7_81) (teq hc81_7).2 (pc' := 84) ?_
                  refine en_iconst X hx (3 : Int32) (hb hby d7_84) (pc' := 85) ?_
                  exact en_retI X hx hret hlk (hb hby d7_85) (Nat.zero_le _) (Nat.zero_le _) ⟨rfl, eT, rfl⟩
                · rw [if_neg hc81_7]
                  refine en_icmpYes X hx (hb hby d7_81) (feq hc81_7).2 (pc' := 86) ?_
                  refine en_iloadN X hx (hb hby d7_86) (pc' := 87) rfl ?_
                  refine en_bipush X hx (83 : Int32) (hb hby d7_87) (pc' := 89) ?_
                  by_cases hc89_8 : x1 = (83 : Int32)
                  · rw [if_pos hc89_8]
                    refine en_icmpNo X hx (hb hby d7_89) (teq hc89_8).2 (pc' := 92) ?_
                    refine en_bipush X hx (6 : Int32) (hb hby d7_92) (pc' := 94) ?_
                    exact en_retI X hx hret hlk (hb hby d7_94) (Nat.zero_le _) (Nat.zero_le _) ⟨rfl, eT, rfl⟩
                  · rw [if_neg hc89_8]
                    refine en_icmpYes X hx (hb hby d7_89) (feq hc89_8).2 (pc' := 95) ?_
                    refine en_iloadN X hx (hb hby d7_95) (pc' := 96) rfl ?_
                    refine en_bipush X hx (87 : Int32) (hb hby d7_96) (pc' := 98) ?_
                    by_cases hc98_9 : x1 = (87 : Int32)
                    · rw [if_pos hc98_9]
                      refine en_icmpNo X hx (hb hby d7_98) (teq hc98_9).2 (pc' := 101) ?_
                      refine en_bipush X hx (9 : Int32) (hb hby d7_101) (pc' := 103) ?_
                      exact en_retI X hx hret hlk (hb hby d7_103) (Nat.zero_le _) (Nat.zero_le _) ⟨rfl, eT, rfl⟩
                    · rw [if_neg hc98_9]
                      refine en_icmpYes X hx (hb hby d7_98) (feq hc98_9).2 (pc' := 104) ?_
                      refine en_iloadN X hx (hb hby d7_104) (pc' := 105) rfl ?_
                      refine en_bipush X hx (66 : Int32) (hb hby d7_105) (pc' := 107) ?_
                      by_cases hc107_10 : x1 = (66 : Int32)
                      · rw [if_pos hc107_10]
                        refine en_icmpNo X hx (hb hby d7_107) (teq hc107_10).2 (pc' := 110) ?_
                        refine en_bipush X hx (14 : Int32) (hb hby d7_110) (pc' := 112) ?_
                        exact en_retI X hx hret hlk (hb hby d7_112) (Nat.zero_le _) (Nat.zero_le _) ⟨rfl, eT, rfl⟩
                      · rw [if_neg hc107_10]
                        refine en_icmpYes X hx (hb hby d7_107) (feq hc107_10).2 (pc' := 113) ?_
                        refine en_iloadN X hx (hb hby d7_113) (pc' := 114) rfl ?_
                        refine en_bipush X hx (68 : Int32) (hb hby d7_114) (pc' := 116) ?_
                        by_cases hc116_11 : x1 = (68 : Int32)
                        · rw [if_pos hc116_11]
                          refine en_icmpNo X hx (hb hby d7_116) (teq hc116_11).2 (pc' := 119) ?_
                          refine en_bipush X hx (13 : Int32) (hb hby d7_119) (pc' := 121) ?_
                          exact en_retI X hx hret hlk (hb hby d7_121) (Nat.zero_le _) (Nat.zero_le _) ⟨rfl, eT, rfl⟩
                        · rw [if_neg hc116_11]
                          refine en_icmpYes X hx (hb hby d7_116) (feq hc116_11).2 (pc' := 122) ?_
                          refine en_iloadN X hx (hb hby d7_122) (pc' := 123) rfl ?_
                          refine en_bipush X hx (72 : Int32) (hb hby d7_123) (pc' := 125) ?_
                          by_cases hc125_12 : x1 = (72 : Int32)
                          · rw [if_pos hc125_12]
                            refine en_icmpNo X hx (hb hby d7_125) (teq hc125_12).2 (pc' := 128) ?_
                            refine en_bipush X hx (11 : Int32) (hb hby d7_128) (pc' := 130) ?_
                            exact en_retI X hx hret hlk (hb hby d7_130) (Nat.zero_le _) (Nat.zero_le _) ⟨rfl, eT, rfl⟩
                          · rw [if_neg hc125_12]
                            refine en_icmpYes X hx (hb hby d7_125) (feq hc125_12).2 (pc' := 131) ?_
                            refine en_iloadN X hx (hb hby d7_131) (pc' := 132) rfl ?_
                            refine en_bipush X hx (86 : Int32) (hb hby d7_132) (pc' := 134) ?_
                            by_cases hc134_13 : x1 = (86 : Int32)
                            · rw [if_pos hc134_13]
                              refine en_icmpNo X hx (hb hby d7_134) (teq hc134_13).2 (pc' := 137) ?_
                              refine en_bipush X hx (7 : Int32) (hb hby d7_137) (pc' := 139) ?_
                              exact en_retI X hx hret hlk (hb hby d7_139) (Nat.zero_le _) (Nat.zero_le _) ⟨rfl, eT, rfl⟩
                            · rw [if_neg hc134_13]
                              refine en_icmpYes X hx (hb hby d7_134) (feq hc134_13).2 (pc' := 140) ?_
                              refine en_iloadN X hx (hb hby d7_140) (pc' := 141) rfl ?_
                              refine en_bipush X hx (78 : Int32) (hb hby d7_141) (pc' := 143) ?_
                              by_cases hc143_14 : x1 = (78 : Int32)
                              · rw [if_pos hc143_14]
                                refine en_icmpNo X hx (hb hby d7_143) (teq hc143_14).2 (pc' := 146) ?_
                                refine en_bipush X hx (15 : Int32) (hb hby d7_146) (pc' := 148) ?_
                                exact en_retI X hx hret hlk (hb hby d7_148) (Nat.zero_le _) (Nat.zero_le _) ⟨rfl, eT, rfl⟩
                              · rw [if_neg hc143_14]
                                refine en_icmpYes X hx (hb hby d7_143) (feq hc143_14).2 (pc' := 149) ?_
                                refine en_iloadN X hx (hb hby d7_149) (pc' := 150) rfl ?_
                                refine en_bipush X hx (45 : Int32) (hb hby d7_150) (pc' := 152) ?_
                                by_cases hc152_15 : x1 = (45 : Int32)
                                · rw [if_pos hc152_15]
                                  refine en_icmpNo X hx (hb hby d7_152) (teq hc152_15).2 (pc' := 155) ?_
                                  refine en_bipush X hx (15 : Int32) (hb hby d7_155) (pc' := 157) ?_
                                  exact en_retI X hx hret hlk (hb hby d7_157) (Nat.zero_le _) (Nat.zero_le _) ⟨rfl, eT, rfl⟩
                                · rw [if_neg hc152_15]
                                  refine en_icmpYes X hx (hb hby d7_152) (feq hc152_15).2 (pc' := 158) ?_
                                  refine en_iloadN X hx (hb hby d7_158) (pc' := 159) rfl ?_
                                  refine en_bipush X hx (63 : Int32) (hb hby d7_159) (pc' := 161) ?_
                                  by_cases hc161_16 : x1 = (63 : Int32)
                                  · rw [if_pos hc161_16]
                                    refine en_icmpNo X hx (hb hby d7_161) (teq hc161_16).2 (pc' := 164) ?_
                                    refine en_bipush X hx (15 : Int32) (hb hby d7_164) (pc' := 166) ?_
                                    exact en_retI X hx hret hlk (hb hby d7_166) (Nat.zero_le _) (Nat.zero_le _) ⟨rfl, eT, rfl⟩
                                  · rw [if_neg hc161_16]
                                    refine en_icmpYes X hx (hb hby d7_161) (feq hc161_16).2 (pc' := 167) ?_
                                    refine en_iconst X hx (0 : Int32) (hb hby d7_167) (pc' := 168) ?_
                                    exact en_retI X hx hret hlk (hb hby d7_168) (Nat.zero_le _) (Nat.zero_le _) ⟨rfl, eT, rfl⟩
def f7 (x0 : Int32) : Int32 := (if x0 < (97 : Int32) then (f7_19 x0 x0) else (if (122 : Int32) < x0 then (f7_19 x0 x0) else (f7_19 x0 (x0 - (32 : Int32)))))
theorem b7_0 {p : Program} {l : Launch} {e : Env} {s : State} {m : MethodId} {args : Array Value} {below : List Frame} {meth : Method} {c : Code} {T : State} {Z : State} {a0 : Array Value} {h : Heap} {C S : Nat} (hw : ∀ d ∈ tables_1, d.before a0 Z = true) (K : Cx p s m meth c Z (⟨"com/example/cladestream/cladestream/model/BasesStateSetPinLaw", "expected", "(C)I"⟩ : MethodName) method_2_code 2 (some .int)) (X : Stand p l e ({ frames := 0, cells := 0, slots := 0, locals := 0 } : Room) s m args below meth c T [] 0 0) (eT : T.heap = h) (x0 : Int32)  : OwnEnds p e below s C S (PQ (.int (f7 x0)) h) T m 0 #[.val (.int x0), .unset] [] := by
  obtain ⟨hx, hby, hml, hret, hlk, hnm, hown, hZ⟩ := id K
  unfold f7
  refine en_iloadN X hx (hb hby d7_0) (pc' := 1) rfl ?_
  refine en_istoreN X hx (hb hby d7_1) (pc' := 2) (Ls' := #[.val (.int x0), .val (.int x0)]) rfl ?_
  refine en_iloadN X hx (hb hby d7_2) (pc' := 3) rfl ?_
  refine en_bipush X hx (97 : Int32) (hb hby d7_3) (pc' := 5) ?_
  by_cases hc5_0 : x0 < (97 : Int32)
  · rw [if_pos hc5_0]
    refine en_icmpYes X hx (hb hby d7_5) (tlt hc5_0).1 (pc' := 19) ?_
    exact b7_19 hw K X eT x0 x0
  · rw [if_neg hc5_0]
    refine en_icmpNo X hx (hb hby d7_5) (flt hc5_0).1 (pc' := 8) ?_
    refine en_iloadN X hx (hb hby d7_8) (pc' := 9) rfl ?_
    refine en_bipush X hx (122 : Int32) (hb hby d7_9) (pc' := 11) ?_
    by_cases hc11_1 : (122 : Int32) < x0
    · rw [if_pos hc11_1]
      refine en_icmpYes X hx (hb hby d7_11) (tlt hc11_1).2.2.1 (pc' := 19) ?_
      exact b7_19 hw K X eT x0 x0
    · rw [if_neg hc11_1]
      refine en_icmpNo X hx (hb hby d7_11) (flt hc11_1).2.2.1 (pc' := 14) ?_
      refine en_iloadN X hx (hb hby d7_14) (pc' := 15) rfl ?_
      refine en_bipush X hx (32 : Int32) (hb hby d7_15) (pc' := 17) ?_
      refine en_isub X hx (hb hby d7_17) (pc' := 18) ?_
      refine en_istoreN X hx (hb hby d7_18) (pc' := 19) (Ls' := #[.val (.int x0), .val (.int (x0 - (32 : Int32)))]) rfl ?_
      exact b7_19 hw K X eT x0 (x0 - (32 : Int32))
theorem pn_0 : plainName "com/example/cladestream/cladestream/model/BasesStateSetPinLaw" = true := by first | (simp [plainName, overriddenIn]; done) | decide +kernel
theorem rm7 (l : Launch) (Z : State) (a0 : Array Value) (hw : ∀ d ∈ tables_1, d.before a0 Z = true) (ws : List Jvm.Cond) (x0 : Int32) (h0 : Heap) : OwnMeets l Z (⟨"com/example/cladestream/cladestream/model/BasesStateSetPinLaw", "expected", "(C)I"⟩ : MethodName) method_2_code 2 (some .int) ws ({ frames := 0, cells := 0, slots := 0, locals := 0 } : Room) #[(.int x0)] h0 (PQ (.int (f7 x0)) h0) :=
  OwnMeets.of_walk (plainFor_of_name pn_0) (fun m => ef_7 m x0) (fun p e s m below meth c T X K eT => b7_0 hw K X eT x0)
theorem own_low : ∀ n : Fin 128, own_set (Int32.ofNat n.val) = f7 (Int32.ofNat n.val) := by decide +kernel
theorem own_of {c : Int32} {n : Nat} (h : c.toInt = n) : c = Int32.ofNat n := by
  have := Int32.toInt_lt c
  apply Int32.toInt_inj.mp
  rw [h, Int32.toInt_ofNat']
  have e : Int32.size = 2 ^ 32 := rfl
  rw [Int.bmod_eq_of_le] <;> omega
theorem own_law' (x : Int32) (h0 : 0 ≤ x.toInt) : own_set x = f7 x := by
  by_cases h : x.toInt < 128
  · obtain ⟨n, hn⟩ := Int.eq_ofNat_of_zero_le h0
    rw [own_of hn]
    exact own_low ⟨n, by omega⟩
  · have hne : ∀ c : Int32, c.toInt < 128 → ¬ x = c := fun c hc q => by rw [q] at h; exact h hc
    have hnl : ∀ c : Int32, c.toInt ≤ 128 → ¬ x < c := fun c hc q => by rw [Int32.lt_iff_toInt_lt] at q; omega
    have hgt : ∀ c : Int32, c.toInt < 128 → c < x := fun c hc => by rw [Int32.lt_iff_toInt_lt]; omega
    have e1 : own_set x = 0 := by unfold own_set; rw [if_neg (hnl 128 (by decide))]
    rw [e1]
    unfold f7
    have e2 : f7_19 x x = 0 := by
      unfold f7_19
      simp only [hne 65 (by decide), hne 67 (by decide), hne 71 (by decide), hne 84 (by decide), hne 82 (by decide), hne 89 (by decide), hne 75 (by decide), hne 77 (by decide), hne 83 (by decide), hne 87 (by decide), hne 66 (by decide), hne 68 (by decide), hne 72 (by decide), hne 86 (by decide), hne 78 (by decide), hne 45 (by decide), hne 63 (by decide), if_false]
    simp only [hnl 97 (by decide), hgt 122 (by decide), if_true, if_false, e2]
theorem own_law (q : Int32) : own_set q.toUInt32.toUInt16.toUInt32.toInt32 = f7 q.toUInt32.toUInt16.toUInt32.toInt32 := own_law' _ (c_i2c q).2.1
theorem ef_5v (m : MethodId) (x0 x1 : Int32) (v2 : Value) (hv : v2.isRef = true) : entryFrame m #[.int x0, .int x1, v2] 3 = mkF m 0 #[.val (.int x0), .val (.int x1), .val v2] [] := by
  rcases ref_cases hv with rfl | ⟨a, rfl⟩ <;> first | (simp [entryFrame, mkF, argsToLocals, Value.category]; done) | rfl
theorem d5_0 : decode jdk_41_method_11_code 0 = .ok (.iload_n 0, 1) := by decide +kernel
theorem d5_1 : decode jdk_41_method_11_code 1 = .ok (.ifCond .lt 8, 3) := by decide +kernel
theorem d5_4 : decode jdk_41_method_11_code 4 = .ok (.iload_n 0, 1) := by decide +kernel
theorem d5_5 : decode jdk_41_method_11_code 5 = .ok (.iload_n 1, 1) := by decide +kernel
theorem d5_6 : decode jdk_41_method_11_code 6 = .ok (.if_icmp .lt 10, 3) := by decide +kernel
theorem d5_9 : decode jdk_41_method_11_code 9 = .ok (.aload_n 2, 1) := by decide +kernel
theorem d5_10 : decode jdk_41_method_11_code 10 = .ok (.iload_n 0, 1) := by decide +kernel
theorem d5_11 : decode jdk_41_method_11_code 11 = .ok (.iload_n 1, 1) := by decide +kernel
theorem d5_12 : decode jdk_41_method_11_code 12 = .ok (.invokestatic 95, 3) := by decide +kernel
theorem d5_15 : decode jdk_41_method_11_code 15 = .ok (.athrow, 1) := by decide +kernel
theorem d5_16 : decode jdk_41_method_11_code 16 = .ok (.iload_n 0, 1) := by decide +kernel
theorem d5_17 : decode jdk_41_method_11_code 17 = .ok (.ireturn, 1) := by decide +kernel
theorem ef_5 (m : MethodId) (x0 : Int32) (x1 : Int32) (o2 : Addr) : entryFrame m #[(.int x0), (.int x1), (.ref o2)] 3 = mkF m 0 #[.val (.int x0), .val (.int x1), .val (.ref o2)] [] := by first | (simp [entryFrame, mkF, argsToLocals, Value.category]; done) | rfl
theorem pn_1 : plainName "jdk/internal/util/Preconditions" = true := by first | (simp [plainName, overriddenIn]; done) | decide +kernel
set_option maxRecDepth 65536 in
set_option maxHeartbeats 40000000 in
theorem rm5 (l : Launch) (Z : State) (a0 : Array Value) (hw : ∀ d ∈ tables_1, d.before a0 Z = true) (ws : List Jvm.Cond) (x0 : Int32) (x1 : Int32) (v2 : Value) (h0 : Heap) (n0 : Nat) (Z0 : n0 ≤ h0.size) (hv : v2.isRef = true) (hn : ¬ x0 < (0 : Int32)) (hl : x0 < x1) : OwnMeets l Z (⟨"jdk/internal/util/Preconditions", "checkIndex", "(IILjava/util/function/BiFunction;)I"⟩ : MethodName) jdk_41_method_11_code 3 (some .int) ws ({ frames := 0, cells := 0, slots := 0, locals := 0 } : Room) #[(.int x0), (.int x1), v2] h0 (PQ (.int x0) h0) := by
  refine OwnMeets.of_walk (plainFor_of_name pn_1) (fun m => ef_5v m x0 x1 v2 hv) ?_
  intro p e s m below meth c T0 X0 K e0
  obtain ⟨hx, hby, hml, hret, hlk, hnm, hown, hZ⟩ := id K
  have N0 := Fr.nil n0
  refine en_iloadN X0 hx (hb hby d5_0) (pc' := 1) rfl ?_
  refine en_ifNo X0 hx (hb hby d5_1) ((if0 _ _).trans (flt hn).1) (pc' := 4) ?_
  refine en_iloadN X0 hx (hb hby d5_4) (pc' := 5) rfl ?_
  refine en_iloadN X0 hx (hb hby d5_5) (pc' := 6) rfl ?_
  refine en_icmpYes X0 hx (hb hby d5_6) (tlt hl).1 (pc' := 16) ?_
  refine en_iloadN X0 hx (hb hby d5_16) (pc' := 17) rfl ?_
  exact en_retI X0 hx hret hlk (hb hby d5_17) (by decide) (by decide) (by first | (rw [e0]; exact ⟨rfl, rfl, rfl⟩) | exact ⟨rfl, rfl, rfl⟩)
theorem d4_0 : decode jdk_42_method_155_code 0 = .ok (.iload_n 0, 1) := by decide +kernel
theorem d4_1 : decode jdk_42_method_155_code 1 = .ok (.iload_n 1, 1) := by decide +kernel
theorem d4_2 : decode jdk_42_method_155_code 2 = .ok (.getstatic 1053, 3) := by decide +kernel
theorem d4_5 : decode jdk_42_method_155_code 5 = .ok (.invokestatic 1059, 3) := by decide +kernel
theorem d4_8 : decode jdk_42_method_155_code 8 = .ok (.pop, 1) := by decide +kernel
theorem d4_9 : decode jdk_42_method_155_code 9 = .ok (.return_, 1) := by decide +kernel
theorem ef_4 (m : MethodId) (x0 : Int32) (x1 : Int32) : entryFrame m #[(.int x0), (.int x1)] 2 = mkF m 0 #[.val (.int x0), .val (.int x1)] [] := by first | (simp [entryFrame, mkF, argsToLocals, Value.category]; done) | rfl
theorem pn_2 : plainName "java/lang/String" = true := by first | (simp [plainName, overriddenIn]; done) | decide +kernel
theorem pd_0 : parseMethodDescriptor "(IILjava/util/function/BiFunction;)I" = some ⟨[.int, .int, (.object "java/util/function/BiFunction")], some .int⟩ := by decide +kernel
set_option maxRecDepth 65536 in
set_option maxHeartbeats 40000000 in
theorem rm4 (l : Launch) (Z : State) (a0 : Array Value) (hw : ∀ d ∈ tables_1, d.before a0 Z = true) (ws : List Jvm.Cond) (x0 : Int32) (x1 : Int32) (fm : Value) (h0 : Heap) (n0 : Nat) (Z0 : n0 ≤ h0.size) (SF : Sta Z h0 "jdk/internal/util/Preconditions" "SIOOBE_FORMATTER" "Ljava/util/function/BiFunction;" fm) (hv : fm.isRef = true) (hn : ¬ x0 < (0 : Int32)) (hl : x0 < x1) : OwnMeets l Z (⟨"java/lang/String", "checkIndex", "(II)V"⟩ : MethodName) jdk_42_method_155_code 2 none ws ({ frames := 1, cells := 0, slots := 0, locals := 14 } : Room) #[(.int x0), (.int x1)] h0 (PQ0 h0) := by
  refine OwnMeets.of_walk (plainFor_of_name pn_2) (fun m => ef_4 m x0 x1) ?_
  intro p e s m below meth c T0 X0 K e0
  obtain ⟨hx, hby, hml, hret, hlk, hnm, hown, hZ⟩ := id K
  have N0 := Fr.nil n0
  refine en_iloadN X0 hx (hb hby d4_0) (pc' := 1) rfl ?_
  refine en_iloadN X0 hx (hb hby d4_1) (pc' := 2) rfl ?_
  refine en_getS X0 hx hZ hown (host := "") (Or.inl (tw hw 29 rfl)) Via.refl e0 SF (hb hby d4_2) (pc' := 5) (fun T1 X1 e1 => ?_)
  refine en_callP X1 hx hZ (fr := 0) (lo := 0) hown (tw hw 31 rfl) (tw hw 32 rfl) (tw hw 30 rfl) (tw hw 33 rfl) (by decide) (rm5 l Z a0 hw [] x0 x1 fm h0 0 (Nat.zero_le _) hv hn hl) e1 (by decide) 0 rfl (by decide) (by decide) (by decide) (by rw [hml]; rfl) (argsL := [(.int x0), (.int x1), fm]) (rest := []) (lenOf pd_0 rfl) rfl (hb hby d4_5) (pc' := 8) (fun T2 X2 e2 => ?_)
  refine en_pop X2 hx (hb hby d4_8) (pc' := 9) rfl ?_
  exact en_ret0 X2 hx hret hlk (hb hby d4_9) (by decide) (by decide) (by first | (rw [e2]; exact ⟨rfl, rfl, rfl⟩) | exact ⟨rfl, rfl, rfl⟩)
theorem d3_0 : decode jdk_43_method_2_code 0 = .ok (.iload_n 1, 1) := by decide +kernel
theorem d3_1 : decode jdk_43_method_2_code 1 = .ok (.aload_n 0, 1) := by decide +kernel
theorem d3_2 : decode jdk_43_method_2_code 2 = .ok (.arraylength, 1) := by decide +kernel
theorem d3_3 : decode jdk_43_method_2_code 3 = .ok (.invokestatic 9, 3) := by decide +kernel
theorem d3_6 : decode jdk_43_method_2_code 6 = .ok (.aload_n 0, 1) := by decide +kernel
theorem d3_7 : decode jdk_43_method_2_code 7 = .ok (.iload_n 1, 1) := by decide +kernel
theorem d3_8 : decode jdk_43_method_2_code 8 = .ok (.baload, 1) := by decide +kernel
theorem d3_9 : decode jdk_43_method_2_code 9 = .ok (.sipush 255, 3) := by decide +kernel
theorem d3_12 : decode jdk_43_method_2_code 12 = .ok (.iand, 1) := by decide +kernel
theorem d3_13 : decode jdk_43_method_2_code 13 = .ok (.i2c, 1) := by decide +kernel
theorem d3_14 : decode jdk_43_method_2_code 14 = .ok (.ireturn, 1) := by decide +kernel
theorem ef_3 (m : MethodId) (o0 : Addr) (x1 : Int32) : entryFrame m #[(.ref o0), (.int x1)] 2 = mkF m 0 #[.val (.ref o0), .val (.int x1)] [] := by first | (simp [entryFrame, mkF, argsToLocals, Value.category]; done) | rfl
theorem pn_3 : plainName "java/lang/StringLatin1" = true := by first | (simp [plainName, overriddenIn]; done) | decide +kernel
theorem pd_1 : parseMethodDescriptor "(II)V" = some ⟨[.int, .int], none⟩ := by decide +kernel
set_option maxRecDepth 65536 in
set_option maxHeartbeats 40000000 in
theorem rm3 (l : Launch) (Z : State) (a0 : Array Value) (hw : ∀ d ∈ tables_1, d.before a0 Z = true) (ws : List Jvm.Cond) (o0 : Addr) (x1 : Int32) (fm : Value) (k0 : ClassId) (nn : Int32) (vs : List Int32) (h0 : Heap) (n0 : Nat) (Z0 : n0 ≤ h0.size) (SF : Sta Z h0 "jdk/internal/util/Preconditions" "SIOOBE_FORMATTER" "Ljava/util/function/BiFunction;" fm) (hv : fm.isRef = true) (hj : ¬ x1 < (0 : Int32) ∧ x1 < nn) (V0 : Arv Z h0 o0 k0 .byte nn (vs.map Value.int) (.int (0 : Int32))) : OwnMeets l Z (⟨"java/lang/StringLatin1", "charAt", "([BI)C"⟩ : MethodName) jdk_43_method_2_code 2 (some .char) ws ({ frames := 2, cells := 0, slots := 0, locals := 27 } : Room) #[(.ref o0), (.int x1)] h0 (PQ (.int (own_ch vs x1)) h0) := by
  refine OwnMeets.of_walk (plainFor_of_name pn_3) (fun m => ef_3 m o0 x1) ?_
  intro p e s m below meth c T0 X0 K e0
  obtain ⟨hx, hby, hml, hret, hlk, hnm, hown, hZ⟩ := id K
  have N0 := Fr.nil n0
  refine en_iloadN X0 hx (hb hby d3_0) (pc' := 1) rfl ?_
  refine en_aloadN X0 hx (hb hby d3_1) (pc' := 2) rfl rfl ?_
  refine en_len X0 hx hZ e0 V0 (hb hby d3_2) (pc' := 3) ?_
  refine en_callP0 X0 hx hZ (fr := 1) (lo := 14) hown (tw hw 26 rfl) (tw hw 27 rfl) (tw hw 1 rfl) (tw hw 28 rfl) (by decide) (rm4 l Z a0 hw [] x1 nn fm h0 0 (Nat.zero_le _) SF hv hj.1 hj.2) e0 (by decide) 0 rfl (by decide) (by decide) (by decide) (by rw [hml]; rfl) (argsL := [(.int x1), (.int nn)]) (rest := []) (lenOf pd_1 rfl) rfl (hb hby d3_3) (pc' := 6) (fun T1 X1 e1 => ?_)
  refine en_aloadN X1 hx (hb hby d3_6) (pc' := 7) rfl rfl ?_
  refine en_iloadN X1 hx (hb hby d3_7) (pc' := 8) rfl ?_
  refine en_baload X1 hx hZ e1 V0 hj (x := (vs.getD x1.toNatClampNeg 0)) (own_get _ _) (hb hby d3_8) (pc' := 9) ?_
  refine en_sipush X1 hx (255 : Int32) (hb hby d3_9) (pc' := 12) ?_
  refine en_iand X1 hx (hb hby d3_12) (pc' := 13) ?_
  refine en_i2c X1 hx (hb hby d3_13) (pc' := 14) ?_
  exact en_ret X1 hx (t := .char) hret hlk (hb hby d3_14) (congrArg Value.int (own_cc _)) (Or.inl ⟨rfl, Or.inr (Or.inr (Or.inr (Or.inl rfl))), _, rfl⟩) (by decide) (by decide) (by first | (rw [e1]; exact ⟨rfl, rfl, rfl⟩) | exact ⟨rfl, rfl, rfl⟩)
theorem d2_0 : decode jdk_42_method_154_code 0 = .ok (.getstatic 38, 3) := by decide +kernel
theorem d2_3 : decode jdk_42_method_154_code 3 = .ok (.ifCond .eq 14, 3) := by decide +kernel
theorem d2_6 : decode jdk_42_method_154_code 6 = .ok (.aload_n 0, 1) := by decide +kernel
theorem d2_7 : decode jdk_42_method_154_code 7 = .ok (.getfield 15, 3) := by decide +kernel
theorem d2_10 : decode jdk_42_method_154_code 10 = .ok (.ifCond .ne 7, 3) := by decide +kernel
theorem d2_13 : decode jdk_42_method_154_code 13 = .ok (.iconst 1, 1) := by decide +kernel
theorem d2_14 : decode jdk_42_method_154_code 14 = .ok (.goto 4, 3) := by decide +kernel
theorem d2_17 : decode jdk_42_method_154_code 17 = .ok (.iconst 0, 1) := by decide +kernel
theorem d2_18 : decode jdk_42_method_154_code 18 = .ok (.ireturn, 1) := by decide +kernel
theorem ef_2 (m : MethodId) (o0 : Addr) : entryFrame m #[(.ref o0)] 1 = mkF m 0 #[.val (.ref o0)] [] := by first | (simp [entryFrame, mkF, argsToLocals, Value.category]; done) | rfl
set_option maxRecDepth 65536 in
set_option maxHeartbeats 40000000 in
theorem rm2 (l : Launch) (Z : State) (a0 : Array Value) (hw : ∀ d ∈ tables_1, d.before a0 Z = true) (ws : List Jvm.Cond) (o0 : Addr) (cs : Int32) (h0 : Heap) (n0 : Nat) (Z0 : n0 ≤ h0.size) (SC : Sta Z h0 "java/lang/String" "COMPACT_STRINGS" "Z" (.int cs)) (hcs : ¬ cs = (0 : Int32)) (FC : Fld Z h0 o0 "java/lang/String" "coder" "B" (.int (0 : Int32))) : OwnMeets l Z (⟨"java/lang/String", "isLatin1", "()Z"⟩ : MethodName) jdk_42_method_154_code 1 (some .boolean) ws ({ frames := 0, cells := 0, slots := 0, locals := 0 } : Room) #[(.ref o0)] h0 (PQ (.int (1 : Int32)) h0) := by
  refine OwnMeets.of_walk (plainFor_of_name pn_2) (fun m => ef_2 m o0) ?_
  intro p e s m below meth c T0 X0 K e0
  obtain ⟨hx, hby, hml, hret, hlk, hnm, hown, hZ⟩ := id K
  have N0 := Fr.nil n0
  refine en_getS X0 hx hZ hown (host := "") (Or.inl (tw hw 19 rfl)) Via.refl e0 SC (hb hby d2_0) (pc' := 3) (fun T1 X1 e1 => ?_)
  refine en_ifNo X1 hx (hb hby d2_3) ((if0 _ _).trans (feq hcs).1) (pc' := 6) ?_
  refine en_aloadN X1 hx (hb hby d2_6) (pc' := 7) rfl rfl ?_
  refine en_getF X1 hx hZ hown (host := "") (Or.inl (tw hw 20 rfl)) Via.refl e1 FC (hb hby d2_7) (pc' := 10) (fun T2 X2 e2 => ?_)
  refine en_ifNo X2 hx (hb hby d2_10) ((if0 _ _).trans (teq (rfl : (0 : Int32) = (0 : Int32))).2) (pc' := 13) ?_
  refine en_iconst X2 hx (1 : Int32) (hb hby d2_13) (pc' := 14) ?_
  refine en_goto X2 hx (hb hby d2_14) (pc' := 18) ?_
  exact en_retZ X2 hx hret hlk (hb hby d2_18) rfl (by decide) (by decide) (by first | (rw [e2]; exact ⟨rfl, rfl, rfl⟩) | exact ⟨rfl, rfl, rfl⟩)
theorem d1_0 : decode jdk_42_method_56_code 0 = .ok (.aload_n 0, 1) := by decide +kernel
theorem d1_1 : decode jdk_42_method_56_code 1 = .ok (.invokevirtual 492, 3) := by decide +kernel
theorem d1_4 : decode jdk_42_method_56_code 4 = .ok (.ifCond .eq 12, 3) := by decide +kernel
theorem d1_7 : decode jdk_42_method_56_code 7 = .ok (.aload_n 0, 1) := by decide +kernel
theorem d1_8 : decode jdk_42_method_56_code 8 = .ok (.getfield 9, 3) := by decide +kernel
theorem d1_11 : decode jdk_42_method_56_code 11 = .ok (.iload_n 1, 1) := by decide +kernel
theorem d1_12 : decode jdk_42_method_56_code 12 = .ok (.invokestatic 495, 3) := by decide +kernel
theorem d1_15 : decode jdk_42_method_56_code 15 = .ok (.ireturn, 1) := by decide +kernel
theorem d1_16 : decode jdk_42_method_56_code 16 = .ok (.aload_n 0, 1) := by decide +kernel
theorem d1_17 : decode jdk_42_method_56_code 17 = .ok (.getfield 9, 3) := by decide +kernel
theorem d1_20 : decode jdk_42_method_56_code 20 = .ok (.iload_n 1, 1) := by decide +kernel
theorem d1_21 : decode jdk_42_method_56_code 21 = .ok (.invokestatic 498, 3) := by decide +kernel
theorem d1_24 : decode jdk_42_method_56_code 24 = .ok (.ireturn, 1) := by decide +kernel
theorem ef_1 (m : MethodId) (o0 : Addr) (x1 : Int32) : entryFrame m #[(.ref o0), (.int x1)] 2 = mkF m 0 #[.val (.ref o0), .val (.int x1)] [] := by first | (simp [entryFrame, mkF, argsToLocals, Value.category]; done) | rfl
theorem pd_2 : parseMethodDescriptor "()Z" = some ⟨[], some .boolean⟩ := by decide +kernel
theorem pd_3 : parseMethodDescriptor "([BI)C" = some ⟨[(.array .byte), .int], some .char⟩ := by decide +kernel
set_option maxRecDepth 65536 in
set_option maxHeartbeats 40000000 in
theorem rm1 (l : Launch) (Z : State) (a0 : Array Value) (hw : ∀ d ∈ tables_1, d.before a0 Z = true) (ws : List Jvm.Cond) (o0 : Addr) (x1 : Int32) (cs : Int32) (fm : Value) (b : Addr) (k0 : ClassId) (nn : Int32) (vs : List Int32) (h0 : Heap) (n0 : Nat) (Z0 : n0 ≤ h0.size) (E0 : Exa Z h0 o0 "java/lang/String") (SC : Sta Z h0 "java/lang/String" "COMPACT_STRINGS" "Z" (.int cs)) (hcs : ¬ cs = (0 : Int32)) (FC : Fld Z h0 o0 "java/lang/String" "coder" "B" (.int (0 : Int32))) (FV : Fld Z h0 o0 "java/lang/String" "value" "[B" (.ref b)) (SF : Sta Z h0 "jdk/internal/util/Preconditions" "SIOOBE_FORMATTER" "Ljava/util/function/BiFunction;" fm) (hv : fm.isRef = true) (hj : ¬ x1 < (0 : Int32) ∧ x1 < nn) (V0 : Arv Z h0 b k0 .byte nn (vs.map Value.int) (.int (0 : Int32))) : OwnMeets l Z (⟨"java/lang/String", "charAt", "(I)C"⟩ : MethodName) jdk_42_method_56_code 2 (some .char) ws ({ frames := 3, cells := 0, slots := 0, locals := 40 } : Room) #[(.ref o0), (.int x1)] h0 (PQ (.int (own_ch vs x1)) h0) := by
  refine OwnMeets.of_walk (plainFor_of_name pn_2) (fun m => ef_1 m o0 x1) ?_
  intro p e s m below meth c T0 X0 K e0
  obtain ⟨hx, hby, hml, hret, hlk, hnm, hown, hZ⟩ := id K
  have N0 := Fr.nil n0
  refine en_aloadN X0 hx (hb hby d1_0) (pc' := 1) rfl rfl ?_
  refine en_callVP X0 hx hZ (y := (⟨"java/lang/String", "isLatin1", "()Z"⟩ : MethodName)) (z := (⟨"java/lang/String", "isLatin1", "()Z"⟩ : MethodName)) (K := "java/lang/String") (fr := 0) (lo := 0) hown (tw hw 14 rfl) (tw hw 15 rfl) (notFace_of_selects (args := #[]) (mvT hZ (tw hw 17 rfl))) (tw hw 17 rfl) (tw hw 16 rfl) (tw hw 1 rfl) (tw hw 18 rfl) E0 (by decide) (rm2 l Z a0 hw [] o0 cs h0 0 (Nat.zero_le _) SC hcs FC) e0 (by decide) 0 rfl (by decide) (by decide) (by decide) (by rw [hml]; rfl) (argsL := []) (rest := []) (lenOf pd_2 rfl) rfl (hb hby d1_1) (pc' := 4) (fun T1 X1 e1 => ?_)
  refine en_ifNo X1 hx (hb hby d1_4) ((if0 _ _).trans (feq (by decide : ¬ (1 : Int32) = (0 : Int32))).1) (pc' := 7) ?_
  refine en_aloadN X1 hx (hb hby d1_7) (pc' := 8) rfl rfl ?_
  refine en_getF X1 hx hZ hown (host := "") (Or.inl (tw hw 21 rfl)) Via.refl e1 FV (hb hby d1_8) (pc' := 11) (fun T2 X2 e2 => ?_)
  refine en_iloadN X2 hx (hb hby d1_11) (pc' := 12) rfl ?_
  refine en_callP X2 hx hZ (fr := 2) (lo := 27) hown (tw hw 22 rfl) (tw hw 23 rfl) (tw hw 24 rfl) (tw hw 25 rfl) (by decide) (rm3 l Z a0 hw [] b x1 fm k0 nn vs h0 0 (Nat.zero_le _) SF hv hj V0) e2 (by decide) 0 rfl (by decide) (by decide) (by decide) (by rw [hml]; rfl) (argsL := [(.ref b), (.int x1)]) (rest := []) (lenOf pd_3 rfl) rfl (hb hby d1_12) (pc' := 15) (fun T3 X3 e3 => ?_)
  exact en_ret X3 hx (t := .char) hret hlk (hb hby d1_15) (congrArg Value.int (own_cc _)) (Or.inl ⟨rfl, Or.inr (Or.inr (Or.inr (Or.inl rfl))), _, rfl⟩) (by decide) (by decide) (by first | (rw [e3]; exact ⟨rfl, rfl, rfl⟩) | exact ⟨rfl, rfl, rfl⟩)
theorem d6_0 : decode prog_39_method_2_code 0 = .ok (.iload_n 0, 1) := by decide +kernel
theorem d6_1 : decode prog_39_method_2_code 1 = .ok (.getstatic 9, 3) := by decide +kernel
theorem d6_4 : decode prog_39_method_2_code 4 = .ok (.arraylength, 1) := by decide +kernel
theorem d6_5 : decode prog_39_method_2_code 5 = .ok (.if_icmp .ge 11, 3) := by decide +kernel
theorem d6_8 : decode prog_39_method_2_code 8 = .ok (.getstatic 9, 3) := by decide +kernel
theorem d6_11 : decode prog_39_method_2_code 11 = .ok (.iload_n 0, 1) := by decide +kernel
theorem d6_12 : decode prog_39_method_2_code 12 = .ok (.baload, 1) := by decide +kernel
theorem d6_13 : decode prog_39_method_2_code 13 = .ok (.goto 4, 3) := by decide +kernel
theorem d6_16 : decode prog_39_method_2_code 16 = .ok (.iconst 0, 1) := by decide +kernel
theorem d6_17 : decode prog_39_method_2_code 17 = .ok (.ireturn, 1) := by decide +kernel
theorem ef_6 (m : MethodId) (x0 : Int32) : entryFrame m #[(.int x0)] 1 = mkF m 0 #[.val (.int x0)] [] := by first | (simp [entryFrame, mkF, argsToLocals, Value.category]; done) | rfl
theorem pn_4 : plainName "com/example/cladestream/cladestream/model/Bases" = true := by first | (simp [plainName, overriddenIn]; done) | decide +kernel
set_option maxRecDepth 65536 in
set_option maxHeartbeats 40000000 in
theorem rm6 (l : Launch) (Z : State) (a0 : Array Value) (hw : ∀ d ∈ tables_1, d.before a0 Z = true) (ws : List Jvm.Cond) (x0 : Int32) (D : Addr) (kD : ClassId) (h0 : Heap) (n0 : Nat) (Z0 : n0 ≤ h0.size) (h0n : ¬ x0 < (0 : Int32)) (SS : Sta Z h0 "com/example/cladestream/cladestream/model/Bases" "STATE_SETS" "[B" (.ref D)) (VD : Arv Z h0 D kD .byte (128 : Int32) (own_tab.map Value.int) (.int (0 : Int32))) : OwnMeets l Z (⟨"com/example/cladestream/cladestream/model/Bases", "stateSet", "(C)B"⟩ : MethodName) prog_39_method_2_code 1 (some .byte) ws ({ frames := 0, cells := 0, slots := 0, locals := 0 } : Room) #[(.int x0)] h0 (PQ (.int (own_set x0)) h0) := by
  refine OwnMeets.of_walk (plainFor_of_name pn_4) (fun m => ef_6 m x0) ?_
  intro p e s m below meth c T0 X0 K e0
  obtain ⟨hx, hby, hml, hret, hlk, hnm, hown, hZ⟩ := id K
  have N0 := Fr.nil n0
  refine en_iloadN X0 hx (hb hby d6_0) (pc' := 1) rfl ?_
  refine en_getS X0 hx hZ hown (host := "") (Or.inl (tw hw 38 rfl)) Via.refl e0 SS (hb hby d6_1) (pc' := 4) (fun T1 X1 e1 => ?_)
  refine en_len X1 hx hZ e1 VD (hb hby d6_4) (pc' := 5) ?_
  by_cases hc5_2 : x0 < (128 : Int32)
  · refine en_icmpNo X1 hx (hb hby d6_5) (tlt hc5_2).2.1 (pc' := 8) ?_
    refine en_getS X1 hx hZ hown (host := "") (Or.inl (tw hw 38 rfl)) Via.refl e1 SS (hb hby d6_8) (pc' := 11) (fun T3 X3 e3 => ?_)
    refine en_iloadN X3 hx (hb hby d6_11) (pc' := 12) rfl ?_
    refine en_baload X3 hx hZ e3 VD ⟨h0n, hc5_2⟩ (x := (own_tab.getD x0.toNatClampNeg 0)) (own_get _ _) (hb hby d6_12) (pc' := 13) ?_
    refine en_goto X3 hx (hb hby d6_13) (pc' := 17) ?_
    exact en_ret X3 hx (t := .byte) hret hlk (hb hby d6_17) (own_nar _) (Or.inl ⟨rfl, Or.inr (Or.inr (Or.inl rfl)), _, rfl⟩) (by decide) (by decide) (by first | (rw [e3]; exact ⟨by rw [own_set, if_pos hc5_2], rfl, rfl⟩) | exact ⟨by rw [own_set, if_pos hc5_2], rfl, rfl⟩)
  · refine en_icmpYes X1 hx (hb hby d6_5) (flt hc5_2).2.1 (pc' := 16) ?_
    refine en_iconst X1 hx (0 : Int32) (hb hby d6_16) (pc' := 17) ?_
    exact en_ret X1 hx (t := .byte) hret hlk (hb hby d6_17) rfl (Or.inl ⟨rfl, Or.inr (Or.inr (Or.inl rfl)), _, rfl⟩) (by decide) (by decide) (by first | (rw [e1]; exact ⟨by rw [own_set, if_neg hc5_2], rfl, rfl⟩) | exact ⟨by rw [own_set, if_neg hc5_2], rfl, rfl⟩)
theorem ef_0 (m : MethodId) (x0 : Int32) (x1 : Int32) : entryFrame m #[(.int x0), (.int x1)] maxLocals = mkF m 0 #[.val (.int x0), .val (.int x1), .unset, .unset, .unset, .unset] [] := by first | (simp [entryFrame, mkF, argsToLocals, Value.category, maxLocals]; done) | rfl
theorem pd_4 : parseMethodDescriptor "(C)B" = some ⟨[.char], some .byte⟩ := by decide +kernel
theorem pd_5 : parseMethodDescriptor "(C)I" = some ⟨[.char], some .int⟩ := by decide +kernel
theorem pd_6 : parseMethodDescriptor "(I)C" = some ⟨[.int], some .char⟩ := by decide +kernel
theorem own_txt : (∀ c ∈ "ACGTRYKMSWBDHVN-?".toList, c.toNat < 256) ∧ "ACGTRYKMSWBDHVN-?".toList.map (fun c => Value.int (Jvm.Lit.byteI c.toNat.toUInt16)) = own_cs.map Value.int := by decide +kernel
set_option maxRecDepth 65536 in
set_option maxHeartbeats 40000000 in
theorem rm0 (l : Launch) (Z : State) (a0 : Array Value) (hw : ∀ d ∈ tables_1, d.before a0 Z = true) (ws : List Jvm.Cond) (x0 x1 : Int32) (D : Addr) (kD : ClassId) (cs : Int32) (fm : Value) (hh : Jvm.Lit.constHeld Z "com/example/cladestream/cladestream/model/BasesStateSetPinLaw" 7) (hcw : Jvm.Lit.compactW.before a0 Z = true) (SC : Sta Z Z.heap "java/lang/String" "COMPACT_STRINGS" "Z" (.int cs)) (hcs : ¬ cs = (0 : Int32)) (SF : Sta Z Z.heap "jdk/internal/util/Preconditions" "SIOOBE_FORMATTER" "Ljava/util/function/BiFunction;" fm) (hv : fm.isRef = true) (SS : Sta Z Z.heap "com/example/cladestream/cladestream/model/Bases" "STATE_SETS" "[B" (.ref D)) (VD : Arv Z Z.heap D kD .byte (128 : Int32) (own_tab.map Value.int) (.int (0 : Int32))) : OwnMeetsW l Z x code maxLocals ret ws room_1 #[.int x0, .int x1] (fun v h L => v = some (.int (1 : Int32)) ∧ Fr Z.heap.size L) := by
  refine OwnMeetsW.of_walk (plainFor_of_name pn_0) (fun m => ef_0 m x0 x1) ?_
  intro p e m below meth c T0 X0 K e0
  obtain ⟨hx, hby, hml, hret, hlk, hnm, hown, hZ⟩ := id K
  by_cases c0 : (x1 &&& (3 : Int32)) = (0 : Int32)
  · refine OwnEnds.wide ?_
    refine en_iloadN X0 hx (hb hby at_0) (pc' := 1) rfl ?_
    refine en_iconst X0 hx (3 : Int32) (hb hby at_1) (pc' := 2) ?_
    refine en_iand X0 hx (hb hby at_2) (pc' := 3) ?_
    refine en_istoreN X0 hx (hb hby at_3) (pc' := 4) (Ls' := #[.val (.int x0), .val (.int x1), .val (.int (x1 &&& (3 : Int32))), .unset, .unset, .unset]) rfl ?_
    refine en_iloadN X0 hx (hb hby at_4) (pc' := 5) rfl ?_
    refine en_ifNo X0 hx (hb hby at_5) ((if0 _ _).trans (teq c0).2) (pc' := 8) ?_
    refine en_iloadN X0 hx (hb hby at_8) (pc' := 9) rfl ?_
    refine en_i2c X0 hx (hb hby at_9) (pc' := 10) ?_
    refine en_istoreN X0 hx (hb hby at_10) (pc' := 11) (Ls' := #[.val (.int x0), .val (.int x1), .val (.int (x1 &&& (3 : Int32))), .val (.int (x0.toUInt32.toUInt16.toUInt32.toInt32)), .unset, .unset]) rfl ?_
    refine en_goto X0 hx (hb hby at_11) (pc' := 77) ?_
    refine en_iloadN X0 hx (hb hby at_77) (pc' := 78) rfl ?_
    refine en_callP X0 hx hZ (fr := 0) (lo := 0) hown (tw hw 34 rfl) (tw hw 35 rfl) (tw hw 36 rfl) (tw hw 37 rfl) (by decide) (rm6 l Z a0 hw [] (x0.toUInt32.toUInt16.toUInt32.toInt32) D kD Z.heap 0 (Nat.zero_le _) (own_c0 _) SS VD) e0 (by decide) 0 rfl (by decide) (by decide) (by decide) (by rw [hml]; rfl) (argsL := [(.int (x0.toUInt32.toUInt16.toUInt32.toInt32))]) (rest := []) (lenOf pd_4 rfl) rfl (hb hby at_78) (pc' := 81) (fun T1 X1 e1 => ?_)
    refine en_istore X1 hx (hb hby at_81) (pc' := 83) (Ls' := #[.val (.int x0), .val (.int x1), .val (.int (x1 &&& (3 : Int32))), .val (.int (x0.toUInt32.toUInt16.toUInt32.toInt32)), .val (.int (own_set (x0.toUInt32.toUInt16.toUInt32.toInt32))), .unset]) rfl ?_
    refine en_iload X1 hx (hb hby at_83) (pc' := 85) rfl ?_
    refine en_iloadN X1 hx (hb hby at_85) (pc' := 86) rfl ?_
    refine en_callP X1 hx hZ hown (tw hw 40 rfl) (tw hw 41 rfl) (tw hw 42 rfl) (tw hw 43 rfl) (by decide) (rm7 l Z a0 hw [] (x0.toUInt32.toUInt16.toUInt32.toInt32) _) e1 (by decide) 1 rfl (by decide) (by decide) (by decide) (by rw [hml]; rfl) (argsL := [(.int (x0.toUInt32.toUInt16.toUInt32.toInt32))]) (rest := [(.int (own_set (x0.toUInt32.toUInt16.toUInt32.toInt32)))]) (lenOf pd_5 rfl) rfl (hb hby at_86) (pc' := 89) (fun T2 X2 e2 => ?_)
    refine en_icmpNo X2 hx (hb hby at_89) (teq (own_law x0)).2 (pc' := 92) ?_
    refine en_iconst X2 hx (1 : Int32) (hb hby at_92) (pc' := 93) ?_
    refine en_goto X2 hx (hb hby at_93) (pc' := 97) ?_
    exact en_retZ X2 hx hret hlk (hb hby at_97) rfl (by decide) (by decide) (by first | (rw [e2]; exact ⟨rfl, Fr.nil _⟩) | exact ⟨rfl, Fr.nil _⟩)
  by_cases c1 : (x1 &&& (3 : Int32)) = (1 : Int32)
  · refine OwnEnds.wide ?_
    refine en_iloadN X0 hx (hb hby at_0) (pc' := 1) rfl ?_
    refine en_iconst X0 hx (3 : Int32) (hb hby at_1) (pc' := 2) ?_
    refine en_iand X0 hx (hb hby at_2) (pc' := 3) ?_
    refine en_istoreN X0 hx (hb hby at_3) (pc' := 4) (Ls' := #[.val (.int x0), .val (.int x1), .val (.int (x1 &&& (3 : Int32))), .unset, .unset, .unset]) rfl ?_
    refine en_iloadN X0 hx (hb hby at_4) (pc' := 5) rfl ?_
    refine en_ifYes X0 hx (hb hby at_5) ((if0 _ _).trans (feq c0).2) (pc' := 14) ?_
    refine en_iloadN X0 hx (hb hby at_14) (pc' := 15) rfl ?_
    refine en_iconst X0 hx (1 : Int32) (hb hby at_15) (pc' := 16) ?_
    refine en_icmpNo X0 hx (hb hby at_16) (teq c1).2 (pc' := 19) ?_
    refine en_iloadN X0 hx (hb hby at_19) (pc' := 20) rfl ?_
    refine en_bipush X0 hx (127 : Int32) (hb hby at_20) (pc' := 22) ?_
    refine en_iand X0 hx (hb hby at_22) (pc' := 23) ?_
    refine en_i2c X0 hx (hb hby at_23) (pc' := 24) ?_
    refine en_istoreN X0 hx (hb hby at_24) (pc' := 25) (Ls' := #[.val (.int x0), .val (.int x1), .val (.int (x1 &&& (3 : Int32))), .val (.int ((x0 &&& (127 : Int32)).toUInt32.toUInt16.toUInt32.toInt32)), .unset, .unset]) rfl ?_
    refine en_goto X0 hx (hb hby at_25) (pc' := 77) ?_
    refine en_iloadN X0 hx (hb hby at_77) (pc' := 78) rfl ?_
    refine en_callP X0 hx hZ (fr := 0) (lo := 0) hown (tw hw 34 rfl) (tw hw 35 rfl) (tw hw 36 rfl) (tw hw 37 rfl) (by decide) (rm6 l Z a0 hw [] ((x0 &&& (127 : Int32)).toUInt32.toUInt16.toUInt32.toInt32) D kD Z.heap 0 (Nat.zero_le _) (own_c0 _) SS VD) e0 (by decide) 0 rfl (by decide) (by decide) (by decide) (by rw [hml]; rfl) (argsL := [(.int ((x0 &&& (127 : Int32)).toUInt32.toUInt16.toUInt32.toInt32))]) (rest := []) (lenOf pd_4 rfl) rfl (hb hby at_78) (pc' := 81) (fun T3 X3 e3 => ?_)
    refine en_istore X3 hx (hb hby at_81) (pc' := 83) (Ls' := #[.val (.int x0), .val (.int x1), .val (.int (x1 &&& (3 : Int32))), .val (.int ((x0 &&& (127 : Int32)).toUInt32.toUInt16.toUInt32.toInt32)), .val (.int (own_set ((x0 &&& (127 : Int32)).toUInt32.toUInt16.toUInt32.toInt32))), .unset]) rfl ?_
    refine en_iload X3 hx (hb hby at_83) (pc' := 85) rfl ?_
    refine en_iloadN X3 hx (hb hby at_85) (pc' := 86) rfl ?_
    refine en_callP X3 hx hZ hown (tw hw 40 rfl) (tw hw 41 rfl) (tw hw 42 rfl) (tw hw 43 rfl) (by decide) (rm7 l Z a0 hw [] ((x0 &&& (127 : Int32)).toUInt32.toUInt16.toUInt32.toInt32) _) e3 (by decide) 1 rfl (by decide) (by decide) (by decide) (by rw [hml]; rfl) (argsL := [(.int ((x0 &&& (127 : Int32)).toUInt32.toUInt16.toUInt32.toInt32))]) (rest := [(.int (own_set ((x0 &&& (127 : Int32)).toUInt32.toUInt16.toUInt32.toInt32)))]) (lenOf pd_5 rfl) rfl (hb hby at_86) (pc' := 89) (fun T4 X4 e4 => ?_)
    refine en_icmpNo X4 hx (hb hby at_89) (teq (own_law (x0 &&& (127 : Int32)))).2 (pc' := 92) ?_
    refine en_iconst X4 hx (1 : Int32) (hb hby at_92) (pc' := 93) ?_
    refine en_goto X4 hx (hb hby at_93) (pc' := 97) ?_
    exact en_retZ X4 hx hret hlk (hb hby at_97) rfl (by decide) (by decide) (by first | (rw [e4]; exact ⟨rfl, Fr.nil _⟩) | exact ⟨rfl, Fr.nil _⟩)
  refine ew_iloadN X0 hx (hb hby at_0) (pc' := 1) rfl ?_
  refine ew_iconst X0 hx (3 : Int32) (hb hby at_1) (pc' := 2) ?_
  refine ew_iand X0 hx (hb hby at_2) (pc' := 3) ?_
  refine ew_istoreN X0 hx (hb hby at_3) (pc' := 4) (Ls' := #[.val (.int x0), .val (.int x1), .val (.int (x1 &&& (3 : Int32))), .unset, .unset, .unset]) rfl ?_
  refine ew_iloadN X0 hx (hb hby at_4) (pc' := 5) rfl ?_
  refine ew_ifYes X0 hx (hb hby at_5) ((if0 _ _).trans (feq c0).2) (pc' := 14) ?_
  refine ew_iloadN X0 hx (hb hby at_14) (pc' := 15) rfl ?_
  refine ew_iconst X0 hx (1 : Int32) (hb hby at_15) (pc' := 16) ?_
  refine ew_icmpYes X0 hx (hb hby at_16) (feq c1).2 (pc' := 28) ?_
  have wS : ∀ d ∈ Bundle.stringAtoms, d.before a0 Z = true := fun d hd => by
    simp only [Bundle.stringAtoms, List.mem_cons, List.not_mem_nil, or_false] at hd
    rcases hd with rfl | rfl | rfl | rfl | rfl | rfl | rfl
    · exact tw hw 1 rfl
    · exact tw hw 2 rfl
    · exact tw hw 3 rfl
    · exact tw hw 4 rfl
    · exact tw hw 5 rfl
    · exact tw hw 6 rfl
    · exact tw hw 7 rfl
  obtain ⟨sa, T9, h9, k1, sb, kb, X9, e9, E9, S9, hk1, hZ, hown, Ea, FC, FV, Vb, la, lb, -, st9⟩ := ldcSV (s := Z) (vm0 := Z.vm) (Z := Z) (Ts := []) X0 hx hZ hown (tw hw 0 rfl) wS e0 (k0 := 0) ((State.WarmedH.refl Z).since 0) (Nat.zero_le _) (Fr.nil _) (fun _ _ q => q) IB.start (by simp) hh hcw (vs := own_cs.map Value.int) (z := (17 : Int32)) own_txt (by decide) (by decide) (g := mkF m 28 #[.val (.int x0), .val (.int x1), .val (.int (x1 &&& (3 : Int32))), .unset, .unset, .unset] []) rfl (hb hby at_28) (n := 68) (by decide) (by decide) (by decide) (by decide)
  refine OwnEndsW.of st9 ?_
  refine OwnEndsW.mono (Q := fun v h L => (v = some (.int (1 : Int32)) ∧ Fr Z.heap.size L) ∧ h = h9) ?_ (fun _ _ _ q => q.1)
  refine OwnEnds.since S9 (fun _ _ _ q => by rw [q.2]; exact hk1) ?_
  show OwnEnds p e below (Z.setVm T9.vm) _ _ _ T9 m 30 #[.val (.int x0), .val (.int x1), .val (.int (x1 &&& (3 : Int32))), .unset, .unset, .unset] [(.ref sa)]
  have SS9 := SS.ext E9
  have SC9 := SC.ext E9
  have SF9 := SF.ext E9
  have VD9 := VD.ext E9
  refine en_astore X9 hx (hb hby at_30) (pc' := 32) (Ls' := #[.val (.int x0), .val (.int x1), .val (.int (x1 &&& (3 : Int32))), .unset, .val (.ref sa), .unset]) rfl rfl ?_
  refine en_aload X9 hx (hb hby at_32) (pc' := 34) rfl rfl ?_
  refine en_iloadN X9 hx (hb hby at_34) (pc' := 35) rfl ?_
  refine en_ldc X9 hx hZ hown (tw hw 8 rfl) (hb hby at_35) (pc' := 37) ?_
  refine en_iand X9 hx (hb hby at_37) (pc' := 38) ?_
  refine en_bipush X9 hx (17 : Int32) (hb hby at_38) (pc' := 40) ?_
  refine en_irem X9 hx (hb hby at_40) (pc' := 41) (by decide) ?_
  refine en_callVP X9 hx hZ (y := (⟨"java/lang/String", "charAt", "(I)C"⟩ : MethodName)) (z := (⟨"java/lang/String", "charAt", "(I)C"⟩ : MethodName)) (K := "java/lang/String") (fr := 3) (lo := 40) hown (tw hw 9 rfl) (tw hw 10 rfl) (notFace_of_selects (args := #[]) (mvT hZ (tw hw 12 rfl))) (tw hw 12 rfl) (tw hw 11 rfl) (tw hw 1 rfl) (tw hw 13 rfl) Ea (by decide) (rm1 l Z a0 hw [] sa ((x0 &&& (2147483647 : Int32)) % (17 : Int32)) cs fm sb kb (17 : Int32) own_cs h9 0 (Nat.zero_le _) Ea SC9 hcs FC FV SF9 hv (own_idx x0) Vb) e9 (by decide) 0 rfl (by decide) (by decide) (by decide) (by rw [hml]; rfl) (argsL := [(.int ((x0 &&& (2147483647 : Int32)) % (17 : Int32)))]) (rest := []) (lenOf pd_6 rfl) rfl (hb hby at_41) (pc' := 44) (fun T5 X5 e5 => ?_)
  refine en_istore X5 hx (hb hby at_44) (pc' := 46) (Ls' := #[.val (.int x0), .val (.int x1), .val (.int (x1 &&& (3 : Int32))), .unset, .val (.ref sa), .val (.int (own_ch own_cs ((x0 &&& (2147483647 : Int32)) % (17 : Int32))))]) rfl ?_
  refine en_iloadN X5 hx (hb hby at_46) (pc' := 47) rfl ?_
  refine en_iconst X5 hx (4 : Int32) (hb hby at_47) (pc' := 48) ?_
  refine en_iand X5 hx (hb hby at_48) (pc' := 49) ?_
  by_cases hc49_6 : (x1 &&& (4 : Int32)) = (0 : Int32)
  · refine en_ifYes X5 hx (hb hby at_49) ((if0 _ _).trans (teq hc49_6).1) (pc' := 74) ?_
    refine en_iload X5 hx (hb hby at_74) (pc' := 76) rfl ?_
    refine en_istoreN X5 hx (hb hby at_76) (pc' := 77) (Ls' := #[.val (.int x0), .val (.int x1), .val (.int (x1 &&& (3 : Int32))), .val (.int (own_ch own_cs ((x0 &&& (2147483647 : Int32)) % (17 : Int32)))), .val (.ref sa), .val (.int (own_ch own_cs ((x0 &&& (2147483647 : Int32)) % (17 : Int32))))]) rfl ?_
    refine en_iloadN X5 hx (hb hby at_77) (pc' := 78) rfl ?_
    refine en_callP X5 hx hZ (fr := 0) (lo := 0) hown (tw hw 34 rfl) (tw hw 35 rfl) (tw hw 36 rfl) (tw hw 37 rfl) (by decide) (rm6 l Z a0 hw [] (own_ch own_cs ((x0 &&& (2147483647 : Int32)) % (17 : Int32))) D kD h9 0 (Nat.zero_le _) (own_c0 _) SS9 VD9) e5 (by decide) 0 rfl (by decide) (by decide) (by decide) (by rw [hml]; rfl) (argsL := [(.int (own_ch own_cs ((x0 &&& (2147483647 : Int32)) % (17 : Int32))))]) (rest := []) (lenOf pd_4 rfl) rfl (hb hby at_78) (pc' := 81) (fun T7 X7 e7 => ?_)
    refine en_istore X7 hx (hb hby at_81) (pc' := 83) (Ls' := #[.val (.int x0), .val (.int x1), .val (.int (x1 &&& (3 : Int32))), .val (.int (own_ch own_cs ((x0 &&& (2147483647 : Int32)) % (17 : Int32)))), .val (.int (own_set (own_ch own_cs ((x0 &&& (2147483647 : Int32)) % (17 : Int32))))), .val (.int (own_ch own_cs ((x0 &&& (2147483647 : Int32)) % (17 : Int32))))]) rfl ?_
    refine en_iload X7 hx (hb hby at_83) (pc' := 85) rfl ?_
    refine en_iloadN X7 hx (hb hby at_85) (pc' := 86) rfl ?_
    refine en_callP X7 hx hZ hown (tw hw 40 rfl) (tw hw 41 rfl) (tw hw 42 rfl) (tw hw 43 rfl) (by decide) (rm7 l Z a0 hw [] (own_ch own_cs ((x0 &&& (2147483647 : Int32)) % (17 : Int32))) _) e7 (by decide) 1 rfl (by decide) (by decide) (by decide) (by rw [hml]; rfl) (argsL := [(.int (own_ch own_cs ((x0 &&& (2147483647 : Int32)) % (17 : Int32))))]) (rest := [(.int (own_set (own_ch own_cs ((x0 &&& (2147483647 : Int32)) % (17 : Int32)))))]) (lenOf pd_5 rfl) rfl (hb hby at_86) (pc' := 89) (fun T8 X8 e8 => ?_)
    refine en_icmpNo X8 hx (hb hby at_89) (teq (own_law (own_cs.getD (((x0 &&& (2147483647 : Int32)) % (17 : Int32))).toNatClampNeg 0 &&& (255 : Int32)))).2 (pc' := 92) ?_
    refine en_iconst X8 hx (1 : Int32) (hb hby at_92) (pc' := 93) ?_
    refine en_goto X8 hx (hb hby at_93) (pc' := 97) ?_
    exact en_retZ X8 hx hret hlk (hb hby at_97) rfl (by decide) (by decide) (by first | (rw [e8]; exact ⟨⟨rfl, Fr.nil _⟩, rfl⟩) | exact ⟨⟨rfl, Fr.nil _⟩, rfl⟩)
  · refine en_ifNo X5 hx (hb hby at_49) ((if0 _ _).trans (feq hc49_6).1) (pc' := 52) ?_
    refine en_iload X5 hx (hb hby at_52) (pc' := 54) rfl ?_
    refine en_bipush X5 hx (65 : Int32) (hb hby at_54) (pc' := 56) ?_
    by_cases hc56_9 : (own_ch own_cs ((x0 &&& (2147483647 : Int32)) % (17 : Int32))) < (65 : Int32)
    · refine en_icmpYes X5 hx (hb hby at_56) (tlt hc56_9).1 (pc' := 74) ?_
      refine en_iload X5 hx (hb hby at_74) (pc' := 76) rfl ?_
      refine en_istoreN X5 hx (hb hby at_76) (pc' := 77) (Ls' := #[.val (.int x0), .val (.int x1), .val (.int (x1 &&& (3 : Int32))), .val (.int (own_ch own_cs ((x0 &&& (2147483647 : Int32)) % (17 : Int32)))), .val (.ref sa), .val (.int (own_ch own_cs ((x0 &&& (2147483647 : Int32)) % (17 : Int32))))]) rfl ?_
      refine en_iloadN X5 hx (hb hby at_77) (pc' := 78) rfl ?_
      refine en_callP X5 hx hZ (fr := 0) (lo := 0) hown (tw hw 34 rfl) (tw hw 35 rfl) (tw hw 36 rfl) (tw hw 37 rfl) (by decide) (rm6 l Z a0 hw [] (own_ch own_cs ((x0 &&& (2147483647 : Int32)) % (17 : Int32))) D kD h9 0 (Nat.zero_le _) (own_c0 _) SS9 VD9) e5 (by decide) 0 rfl (by decide) (by decide) (by decide) (by rw [hml]; rfl) (argsL := [(.int (own_ch own_cs ((x0 &&& (2147483647 : Int32)) % (17 : Int32))))]) (rest := []) (lenOf pd_4 rfl) rfl (hb hby at_78) (pc' := 81) (fun T10 X10 e10 => ?_)
      refine en_istore X10 hx (hb hby at_81) (pc' := 83) (Ls' := #[.val (.int x0), .val (.int x1), .val (.int (x1 &&& (3 : Int32))), .val (.int (own_ch own_cs ((x0 &&& (2147483647 : Int32)) % (17 : Int32)))), .val (.int (own_set (own_ch own_cs ((x0 &&& (2147483647 : Int32)) % (17 : Int32))))), .val (.int (own_ch own_cs ((x0 &&& (2147483647 : Int32)) % (17 : Int32))))]) rfl ?_
      refine en_iload X10 hx (hb hby at_83) (pc' := 85) rfl ?_
      refine en_iloadN X10 hx (hb hby at_85) (pc' := 86) rfl ?_
      refine en_callP X10 hx hZ hown (tw hw 40 rfl) (tw hw 41 rfl) (tw hw 42 rfl) (tw hw 43 rfl) (by decide) (rm7 l Z a0 hw [] (own_ch own_cs ((x0 &&& (2147483647 : Int32)) % (17 : Int32))) _) e10 (by decide) 1 rfl (by decide) (by decide) (by decide) (by rw [hml]; rfl) (argsL := [(.int (own_ch own_cs ((x0 &&& (2147483647 : Int32)) % (17 : Int32))))]) (rest := [(.int (own_set (own_ch own_cs ((x0 &&& (2147483647 : Int32)) % (17 : Int32)))))]) (lenOf pd_5 rfl) rfl (hb hby at_86) (pc' := 89) (fun T11 X11 e11 => ?_)
      refine en_icmpNo X11 hx (hb hby at_89) (teq (own_law (own_cs.getD (((x0 &&& (2147483647 : Int32)) % (17 : Int32))).toNatClampNeg 0 &&& (255 : Int32)))).2 (pc' := 92) ?_
      refine en_iconst X11 hx (1 : Int32) (hb hby at_92) (pc' := 93) ?_
      refine en_goto X11 hx (hb hby at_93) (pc' := 97) ?_
      exact en_retZ X11 hx hret hlk (hb hby at_97) rfl (by decide) (by decide) (by first | (rw [e11]; exact ⟨⟨rfl, Fr.nil _⟩, rfl⟩) | exact ⟨⟨rfl, Fr.nil _⟩, rfl⟩)
    · refine en_icmpNo X5 hx (hb hby at_56) (flt hc56_9).1 (pc' := 59) ?_
      refine en_iload X5 hx (hb hby at_59) (pc' := 61) rfl ?_
      refine en_bipush X5 hx (90 : Int32) (hb hby at_61) (pc' := 63) ?_
      by_cases hc63_12 : (90 : Int32) < (own_ch own_cs ((x0 &&& (2147483647 : Int32)) % (17 : Int32)))
      · refine en_icmpYes X5 hx (hb hby at_63) (tlt hc63_12).2.2.1 (pc' := 74) ?_
        refine en_iload X5 hx (hb hby at_74) (pc' := 76) rfl ?_
        refine en_istoreN X5 hx (hb hby at_76) (pc' := 77) (Ls' := #[.val (.int x0), .val (.int x1), .val (.int (x1 &&& (3 : Int32))), .val (.int (own_ch own_cs ((x0 &&& (2147483647 : Int32)) % (17 : Int32)))), .val (.ref sa), .val (.int (own_ch own_cs ((x0 &&& (2147483647 : Int32)) % (17 : Int32))))]) rfl ?_
        refine en_iloadN X5 hx (hb hby at_77) (pc' := 78) rfl ?_
        refine en_callP X5 hx hZ (fr := 0) (lo := 0) hown (tw hw 34 rfl) (tw hw 35 rfl) (tw hw 36 rfl) (tw hw 37 rfl) (by decide) (rm6 l Z a0 hw [] (own_ch own_cs ((x0 &&& (2147483647 : Int32)) % (17 : Int32))) D kD h9 0 (Nat.zero_le _) (own_c0 _) SS9 VD9) e5 (by decide) 0 rfl (by decide) (by decide) (by decide) (by rw [hml]; rfl) (argsL := [(.int (own_ch own_cs ((x0 &&& (2147483647 : Int32)) % (17 : Int32))))]) (rest := []) (lenOf pd_4 rfl) rfl (hb hby at_78) (pc' := 81) (fun T13 X13 e13 => ?_)
        refine en_istore X13 hx (hb hby at_81) (pc' := 83) (Ls' := #[.val (.int x0), .val (.int x1), .val (.int (x1 &&& (3 : Int32))), .val (.int (own_ch own_cs ((x0 &&& (2147483647 : Int32)) % (17 : Int32)))), .val (.int (own_set (own_ch own_cs ((x0 &&& (2147483647 : Int32)) % (17 : Int32))))), .val (.int (own_ch own_cs ((x0 &&& (2147483647 : Int32)) % (17 : Int32))))]) rfl ?_
        refine en_iload X13 hx (hb hby at_83) (pc' := 85) rfl ?_
        refine en_iloadN X13 hx (hb hby at_85) (pc' := 86) rfl ?_
        refine en_callP X13 hx hZ hown (tw hw 40 rfl) (tw hw 41 rfl) (tw hw 42 rfl) (tw hw 43 rfl) (by decide) (rm7 l Z a0 hw [] (own_ch own_cs ((x0 &&& (2147483647 : Int32)) % (17 : Int32))) _) e13 (by decide) 1 rfl (by decide) (by decide) (by decide) (by rw [hml]; rfl) (argsL := [(.int (own_ch own_cs ((x0 &&& (2147483647 : Int32)) % (17 : Int32))))]) (rest := [(.int (own_set (own_ch own_cs ((x0 &&& (2147483647 : Int32)) % (17 : Int32)))))]) (lenOf pd_5 rfl) rfl (hb hby at_86) (pc' := 89) (fun T14 X14 e14 => ?_)
        refine en_icmpNo X14 hx (hb hby at_89) (teq (own_law (own_cs.getD (((x0 &&& (2147483647 : Int32)) % (17 : Int32))).toNatClampNeg 0 &&& (255 : Int32)))).2 (pc' := 92) ?_
        refine en_iconst X14 hx (1 : Int32) (hb hby at_92) (pc' := 93) ?_
        refine en_goto X14 hx (hb hby at_93) (pc' := 97) ?_
        exact en_retZ X14 hx hret hlk (hb hby at_97) rfl (by decide) (by decide) (by first | (rw [e14]; exact ⟨⟨rfl, Fr.nil _⟩, rfl⟩) | exact ⟨⟨rfl, Fr.nil _⟩, rfl⟩)
      · refine en_icmpNo X5 hx (hb hby at_63) (flt hc63_12).2.2.1 (pc' := 66) ?_
        refine en_iload X5 hx (hb hby at_66) (pc' := 68) rfl ?_
        refine en_bipush X5 hx (32 : Int32) (hb hby at_68) (pc' := 70) ?_
        refine en_iadd X5 hx (hb hby at_70) (pc' := 71) ?_
        refine en_i2c X5 hx (hb hby at_71) (pc' := 72) ?_
        refine en_istore X5 hx (hb hby at_72) (pc' := 74) (Ls' := #[.val (.int x0), .val (.int x1), .val (.int (x1 &&& (3 : Int32))), .unset, .val (.ref sa), .val (.int (((own_ch own_cs ((x0 &&& (2147483647 : Int32)) % (17 : Int32))) + (32 : Int32)).toUInt32.toUInt16.toUInt32.toInt32))]) rfl ?_
        refine en_iload X5 hx (hb hby at_74) (pc' := 76) rfl ?_
        refine en_istoreN X5 hx (hb hby at_76) (pc' := 77) (Ls' := #[.val (.int x0), .val (.int x1), .val (.int (x1 &&& (3 : Int32))), .val (.int (((own_ch own_cs ((x0 &&& (2147483647 : Int32)) % (17 : Int32))) + (32 : Int32)).toUInt32.toUInt16.toUInt32.toInt32)), .val (.ref sa), .val (.int (((own_ch own_cs ((x0 &&& (2147483647 : Int32)) % (17 : Int32))) + (32 : Int32)).toUInt32.toUInt16.toUInt32.toInt32))]) rfl ?_
        refine en_iloadN X5 hx (hb hby at_77) (pc' := 78) rfl ?_
        refine en_callP X5 hx hZ (fr := 0) (lo := 0) hown (tw hw 34 rfl) (tw hw 35 rfl) (tw hw 36 rfl) (tw hw 37 rfl) (by decide) (rm6 l Z a0 hw [] (((own_ch own_cs ((x0 &&& (2147483647 : Int32)) % (17 : Int32))) + (32 : Int32)).toUInt32.toUInt16.toUInt32.toInt32) D kD h9 0 (Nat.zero_le _) (own_c0 _) SS9 VD9) e5 (by decide) 0 rfl (by decide) (by decide) (by decide) (by rw [hml]; rfl) (argsL := [(.int (((own_ch own_cs ((x0 &&& (2147483647 : Int32)) % (17 : Int32))) + (32 : Int32)).toUInt32.toUInt16.toUInt32.toInt32))]) (rest := []) (lenOf pd_4 rfl) rfl (hb hby at_78) (pc' := 81) (fun T15 X15 e15 => ?_)
        refine en_istore X15 hx (hb hby at_81) (pc' := 83) (Ls' := #[.val (.int x0), .val (.int x1), .val (.int (x1 &&& (3 : Int32))), .val (.int (((own_ch own_cs ((x0 &&& (2147483647 : Int32)) % (17 : Int32))) + (32 : Int32)).toUInt32.toUInt16.toUInt32.toInt32)), .val (.int (own_set (((own_ch own_cs ((x0 &&& (2147483647 : Int32)) % (17 : Int32))) + (32 : Int32)).toUInt32.toUInt16.toUInt32.toInt32))), .val (.int (((own_ch own_cs ((x0 &&& (2147483647 : Int32)) % (17 : Int32))) + (32 : Int32)).toUInt32.toUInt16.toUInt32.toInt32))]) rfl ?_
        refine en_iload X15 hx (hb hby at_83) (pc' := 85) rfl ?_
        refine en_iloadN X15 hx (hb hby at_85) (pc' := 86) rfl ?_
        refine en_callP X15 hx hZ hown (tw hw 40 rfl) (tw hw 41 rfl) (tw hw 42 rfl) (tw hw 43 rfl) (by decide) (rm7 l Z a0 hw [] (((own_ch own_cs ((x0 &&& (2147483647 : Int32)) % (17 : Int32))) + (32 : Int32)).toUInt32.toUInt16.toUInt32.toInt32) _) e15 (by decide) 1 rfl (by decide) (by decide) (by decide) (by rw [hml]; rfl) (argsL := [(.int (((own_ch own_cs ((x0 &&& (2147483647 : Int32)) % (17 : Int32))) + (32 : Int32)).toUInt32.toUInt16.toUInt32.toInt32))]) (rest := [(.int (own_set (((own_ch own_cs ((x0 &&& (2147483647 : Int32)) % (17 : Int32))) + (32 : Int32)).toUInt32.toUInt16.toUInt32.toInt32)))]) (lenOf pd_5 rfl) rfl (hb hby at_86) (pc' := 89) (fun T16 X16 e16 => ?_)
        refine en_icmpNo X16 hx (hb hby at_89) (teq (own_law ((own_ch own_cs ((x0 &&& (2147483647 : Int32)) % (17 : Int32))) + (32 : Int32)))).2 (pc' := 92) ?_
        refine en_iconst X16 hx (1 : Int32) (hb hby at_92) (pc' := 93) ?_
        refine en_goto X16 hx (hb hby at_93) (pc' := 97) ?_
        exact en_retZ X16 hx hret hlk (hb hby at_97) rfl (by decide) (by decide) (by first | (rw [e16]; exact ⟨⟨rfl, Fr.nil _⟩, rfl⟩) | exact ⟨⟨rfl, Fr.nil _⟩, rfl⟩)
set_option maxRecDepth 65536 in
set_option maxHeartbeats 40000000 in
theorem comes_1 {Post : Tables → Env → Array Value → State → Outcome → State → Prop} (hpost : ∀ tb e args s v u, (limb_1_1.after args s (.returned v) u = true ∧ limb_1_2.after args s (.returned v) u = true ∧ True) → ReturnedEndW s (.returned v) u (Jvm.fieldLocs frame_1_writes args s ++ Jvm.arrayLocs frame_1_arrays args s ++ Jvm.staticLocs frame_1_statics s) 8 1088 → Post tb e args s (.returned v) u) :
    ArmFor flags0 classFile x code maxLocals ret World_1 tables_1 room_1 Calls_1 rest_1 Pre_1 Post := by
  intro l hfl _ _ p e ha hc hk s m args below hf hA hF happ hP
  obtain ⟨hcalls, hrest, hpre⟩ := hP
  obtain ⟨-, -, -, hnamed, -, -, -, hat⟩ := (Spec.applies_iff hf).mp happ
  obtain ⟨hg, hn⟩ := and_e (Cond.before_iff.mp (show (Jvm.Cond.and given_1 narrow_1).before args s = true from hpre))
  obtain ⟨g1, g2⟩ := and_e hg
  obtain ⟨g3, g4⟩ := and_e g2
  obtain ⟨w0, w1, rfl⟩ : ∃ w0 w1 : Value, args = #[w0, w1] := by
    have hs : args.size = 2 := by simpa [Cond.value, given_1] using g1
    obtain ⟨L⟩ := args
    match L, hs with
    | [w0, w1], _ => exact ⟨w0, w1, rfl⟩
  have hw := fun d (hd : d ∈ tables_1) => atoms_spec (ws := Jvm.Cond.code x code maxLocals ret :: tables_1) hat d (List.mem_cons_of_mem _ hd)
  obtain ⟨i0, ei0⟩ := is_v g3
  obtain rfl : w0 = (.int i0) := Option.some.inj ei0
  obtain ⟨i1, ei1⟩ := is_v g4
  obtain rfl : w1 = (.int i1) := Option.some.inj ei1
  obtain ⟨hsets, hown0⟩ := atoms_of _ (rest_1_c_eq ▸ (show rest_1_c.before _ s = true from hrest))
  obtain ⟨D, kD, ev, VD⟩ := own_pin hn
  have SS := Sta.start ev (Or.inr ⟨hw _ (List.mem_of_getElem? (i := 36) rfl), hw _ (List.mem_of_getElem? (i := 39) rfl)⟩)
  obtain ⟨cs, hcs, SC⟩ := own_cs0 (hsets _ (List.mem_of_getElem? (i := 0) rfl)) (hsets _ (List.mem_of_getElem? (i := 1) rfl)) (hsets _ (List.mem_of_getElem? (i := 2) rfl))
  obtain ⟨fm, hv, SF⟩ := own_fm (hsets _ (List.mem_of_getElem? (i := 7) rfl)) (hsets _ (List.mem_of_getElem? (i := 8) rfl))
  have hh : Jvm.Lit.constHeld s "com/example/cladestream/cladestream/model/BasesStateSetPinLaw" 7 := hcalls.1 _ (List.mem_of_getElem? (i := 0) rfl)
  have hcw : Jvm.Lit.compactW.before _ s = true := hsets _ (List.mem_of_getElem? (i := 2) rfl)
  obtain ⟨n, o, h1, h2, h3, _, L, rfl, ⟨rfl, N⟩, hq⟩ := rm0 l s _ hw tables_1 i0 i1 D kD cs fm hh hcw SC hcs SF hv SS VD p e ha hc hk s m _ below hf ((Spec.applies_iff_loose hf).mp happ).1 ⟨rfl, rfl⟩ trivial
  refine ⟨n, _, h1, h2, h3, hpost _ _ _ _ _ _ ⟨Cond.after_iff.mpr rfl, Cond.after_iff.mpr (eq_i res_at (Term.int_eval (1)) rfl), trivial⟩ ⟨hq.1, hq.2.1, hq.2.2.1, (hq.2.2.2.sift fun y hy => Or.inr (N y hy)).mono (by decide) (by decide)⟩⟩
theorem main_1_1 : Claimed_1_1 := comes_1 fun _ _ _ _ _ _ h hF => ⟨h.1, hF⟩
theorem main_1_2 : Claimed_1_2 := comes_1 fun _ _ _ _ _ _ h hF => ⟨h.2.1, hF⟩
end Jvm.Pilot.@@N@@
namespace Jvm.Pilot.@@N@@
open Jvm Jvm.ClassFile Sem Op Lib Jvm.Free Jvm.Stand Jvm.Pilot.@@N@@.Jvm.D
/-! MADE BY PROGRAM (witnessworld.py) out of the Statement's table words and the real class files: 17 classes; the members and pool entries that the words name. The judged class is class 1, her method 2. -/
namespace start1
open Jvm.ClassFile
def u (s : String) : CpInfo := .utf8 (stringToUtf16 s)
/-- a pool by its gaps: so many unusable entries, then the entry; so many at the end -/
def gap : Nat → List CpInfo → List CpInfo
  | 0, r => r
  | n + 1, r => .unusable :: gap n r
def poolList (es : List (Nat × CpInfo)) (last : Nat) : List CpInfo := es.foldr (fun e r => gap e.1 (e.2 :: r)) (gap last [])
def pool (es : List (Nat × CpInfo)) (last : Nat) : Array CpInfo := ⟨poolList es last⟩
def fileOf (pool : Array CpInfo) (this : Nat) (attrs : Array Attribute := #[]) (ms : Array MethodInfo := #[]) (fl : Nat := 33) (sup : Nat := 0) (ifs : Array Nat := #[]) (fds : Array FieldInfo := #[]) : ClassFile where
  minorVersion := 0
  majorVersion := 65
  constantPool := pool
  accessFlags := fl
  thisClass := this
  superClass := sup
  interfaces := ifs
  fields := fds
  methods := ms
  attributes := attrs
def plain (name : String) (sup : Option ClassId) : Class where
  name := name
  kind := .ordinary
  loader := none
  accessFlags := 33
  super := sup
  interfaces := #[]
  cf := none
  fields := #[]
  methods := #[]
  instanceTypes := #[]
  staticTypes := #[]
  resolved := #[]
  callSites := []
  init := .initialized
  statics := none
  mirror := none

def pool0 : Array CpInfo := pool [(5, u "<init>"), (0, u "()V"), (1, .class_ 10), (1, u "java/lang/Object")] 113

def k0m0 : Method := { name := "<init>", desc := "()V", sig := { parameters := [], returnType := none }, accessFlags := 1, code := none }
/-- java/lang/Object -/
def k0 : Class := { plain "java/lang/Object" none with
  accessFlags := 33
  interfaces := #[]
  cf := some (fileOf pool0 8 #[] #[{ accessFlags := 1, nameIndex := 5, descriptorIndex := 6, attributes := #[] }] 33 0 #[] #[])
  fields := #[]
  methods := #[k0m0]
  instanceTypes := #[]
  staticTypes := #[]
  resolved := Array.replicate 124 none
  statics := none }

def pool1 : Array CpInfo := pool [(2, .class_ 4), (1, u "java/lang/Object"), (0, u "<init>"), (0, u "()V"), (0, .string 8), (0, u "ACGTRYKMSWBDHVN-?"), (0, .integer 2147483647), (0, .methodref 11 12), (0, .class_ 13), (0, .nameAndType 14 15), (0, u "java/lang/String"), (0, u "charAt"), (0, u "(I)C"), (0, .methodref 17 18), (0, .class_ 19), (0, .nameAndType 20 21), (0, u "com/example/cladestream/cladestream/model/Bases"), (0, u "stateSet"), (0, u "(C)B"), (0, .methodref 23 24), (0, .class_ 25), (0, .nameAndType 26 27), (0, u "com/example/cladestream/cladestream/model/BasesStateSetPinLaw"), (0, u "expected"), (0, u "(C)I"), (3, u "law"), (0, u "(II)Z")] 2

def k1m0 : Method := { name := "<init>", desc := "()V", sig := { parameters := [], returnType := none }, accessFlags := 2, code := none }
def k1c1 : Code := { maxStack := 2, maxLocals := 2, code := method_2_code, exceptionTable := #[], attributes := #[] }
def k1m1 : Method := { name := "expected", desc := "(C)I", sig := { parameters := [.char], returnType := some .int }, accessFlags := 10, code := some k1c1 }
def k1c2 : Code := { maxStack := 3, maxLocals := 6, code := code, exceptionTable := #[], attributes := #[] }
def k1m2 : Method := { name := "law", desc := "(II)Z", sig := { parameters := [.int, .int], returnType := some .boolean }, accessFlags := 9, code := some k1c2 }
/-- com/example/cladestream/cladestream/model/BasesStateSetPinLaw -/
def k1 : Class := { plain "com/example/cladestream/cladestream/model/BasesStateSetPinLaw" (some 0) with
  accessFlags := 49
  interfaces := #[]
  cf := some (fileOf pool1 23 #[] #[{ accessFlags := 2, nameIndex := 5, descriptorIndex := 6, attributes := #[] }, { accessFlags := 10, nameIndex := 26, descriptorIndex := 27, attributes := #[] }, { accessFlags := 9, nameIndex := 31, descriptorIndex := 32, attributes := #[] }] 49 2 #[] #[])
  fields := #[]
  methods := #[k1m0, k1m1, k1m2]
  instanceTypes := #[]
  staticTypes := #[]
  resolved := Array.replicate 35 none
  statics := none }

def pool2 : Array CpInfo := pool [(1, .class_ 2), (0, u "java/io/Serializable"), (0, .class_ 4), (0, u "java/lang/Object")] 2

/-- java/io/Serializable -/
def k2 : Class := { plain "java/io/Serializable" (some 0) with
  accessFlags := 1537
  interfaces := #[]
  cf := some (fileOf pool2 1 #[] #[] 1537 3 #[] #[])
  fields := #[]
  methods := #[]
  instanceTypes := #[]
  staticTypes := #[]
  resolved := Array.replicate 7 none
  statics := none }

def pool3 : Array CpInfo := pool [(1, .class_ 2), (0, u "java/lang/Comparable"), (0, .class_ 4), (0, u "java/lang/Object")] 7

/-- java/lang/Comparable -/
def k3 : Class := { plain "java/lang/Comparable" (some 0) with
  accessFlags := 1537
  interfaces := #[]
  cf := some (fileOf pool3 1 #[] #[] 1537 3 #[] #[])
  fields := #[]
  methods := #[]
  instanceTypes := #[]
  staticTypes := #[]
  resolved := Array.replicate 12 none
  statics := none }

def pool4 : Array CpInfo := pool [(2, .class_ 4), (1, u "java/lang/CharSequence"), (42, .class_ 48), (0, u "java/lang/CharSequence$1CodePointIterator"), (10, .class_ 60), (0, u "java/lang/CharSequence$1CharIterator"), (5, .class_ 67), (0, u "java/lang/Object")] 63

/-- java/lang/CharSequence -/
def k4 : Class := { plain "java/lang/CharSequence" (some 0) with
  accessFlags := 1537
  interfaces := #[]
  cf := some (fileOf pool4 2 #[.nestMembers #[47, 59]] #[] 1537 66 #[] #[])
  fields := #[]
  methods := #[]
  instanceTypes := #[]
  staticTypes := #[]
  resolved := Array.replicate 131 none
  statics := none }

def pool5 : Array CpInfo := pool [(1, .class_ 2), (0, u "java/lang/constant/Constable"), (0, .class_ 4), (0, u "java/lang/Object")] 6

/-- java/lang/constant/Constable -/
def k5 : Class := { plain "java/lang/constant/Constable" (some 0) with
  accessFlags := 1537
  interfaces := #[]
  cf := some (fileOf pool5 1 #[] #[] 1537 3 #[] #[])
  fields := #[]
  methods := #[]
  instanceTypes := #[]
  staticTypes := #[]
  resolved := Array.replicate 11 none
  statics := none }

def pool6 : Array CpInfo := pool [(1, .class_ 2), (0, u "java/lang/constant/ConstantDesc"), (0, .class_ 4), (0, u "java/lang/Object")] 32

/-- java/lang/constant/ConstantDesc -/
def k6 : Class := { plain "java/lang/constant/ConstantDesc" (some 0) with
  accessFlags := 1537
  interfaces := #[]
  cf := some (fileOf pool6 1 #[] #[] 1537 3 #[] #[])
  fields := #[]
  methods := #[]
  instanceTypes := #[]
  staticTypes := #[]
  resolved := Array.replicate 37 none
  statics := none }

def pool7 : Array CpInfo := pool [(2, .class_ 4), (1, u "java/lang/Object"), (0, u "<init>"), (0, u "()V"), (2, .fieldref 10 11), (0, .class_ 12), (0, .nameAndType 13 14), (0, u "java/lang/String"), (0, u "value"), (0, u "[B"), (0, .fieldref 10 16), (0, .nameAndType 17 18), (0, u "coder"), (0, u "B"), (2, u "hash"), (0, u "I"), (2, u "hashIsZero"), (0, u "Z"), (11, .fieldref 10 39), (0, .nameAndType 40 26), (0, u "COMPACT_STRINGS"), (66, .class_ 109), (1, u "java/lang/StringLatin1"), (32, u "()Z"), (220, u "([BI)C"), (27, u "(II)V"), (35, u "(I)C"), (64, .methodref 10 493), (0, .nameAndType 494 142), (0, u "isLatin1"), (0, .methodref 107 496), (0, .nameAndType 497 363), (0, u "charAt"), (3, u "checkIndex"), (73, .class_ 576), (0, u "java/lang/CharSequence"), (22, u "CASE_INSENSITIVE_ORDER"), (0, u "Ljava/util/Comparator;"), (452, .fieldref 1054 1055), (0, .class_ 1056), (0, .nameAndType 1057 1058), (0, u "jdk/internal/util/Preconditions"), (0, u "SIOOBE_FORMATTER"), (0, u "Ljava/util/function/BiFunction;"), (0, .methodref 1054 1060), (0, .nameAndType 501 1061), (0, u "(IILjava/util/function/BiFunction;)I"), (39, u "serialPersistentFields"), (0, u "[Ljava/io/ObjectStreamField;"), (0, .class_ 1104), (0, u "java/lang/String$CaseInsensitiveComparator"), (1, .class_ 1107), (0, u "java/io/Serializable"), (0, .class_ 1109), (0, u "java/lang/Comparable"), (0, .class_ 1111), (0, u "java/lang/constant/Constable"), (0, .class_ 1113), (0, u "java/lang/constant/ConstantDesc"), (2, u "serialVersionUID"), (0, u "J"), (3, u "REPL"), (0, u "C"), (2, u "LATIN1"), (1, u "UTF16")] 323

def k7m0 : Method := { name := "<init>", desc := "()V", sig := { parameters := [], returnType := none }, accessFlags := 1, code := none }
def k7c1 : Code := { maxStack := 2, maxLocals := 2, code := jdk_42_method_56_code, exceptionTable := #[], attributes := #[] }
def k7m1 : Method := { name := "charAt", desc := "(I)C", sig := { parameters := [.int], returnType := some .char }, accessFlags := 1, code := some k7c1 }
def k7c2 : Code := { maxStack := 1, maxLocals := 1, code := jdk_42_method_154_code, exceptionTable := #[], attributes := #[] }
def k7m2 : Method := { name := "isLatin1", desc := "()Z", sig := { parameters := [], returnType := some .boolean }, accessFlags := 0, code := some k7c2 }
def k7c3 : Code := { maxStack := 3, maxLocals := 2, code := jdk_42_method_155_code, exceptionTable := #[], attributes := #[] }
def k7m3 : Method := { name := "checkIndex", desc := "(II)V", sig := { parameters := [.int, .int], returnType := none }, accessFlags := 8, code := some k7c3 }
/-- java/lang/String -/
def k7 : Class := { plain "java/lang/String" (some 0) with
  accessFlags := 49
  interfaces := #[2, 3, 4, 5, 6]
  cf := some (fileOf pool7 10 #[.nestMembers #[1103]] #[{ accessFlags := 1, nameIndex := 5, descriptorIndex := 6, attributes := #[] }, { accessFlags := 1, nameIndex := 497, descriptorIndex := 427, attributes := #[] }, { accessFlags := 0, nameIndex := 494, descriptorIndex := 142, attributes := #[] }, { accessFlags := 8, nameIndex := 501, descriptorIndex := 391, attributes := #[] }] 49 2 #[1106, 1108, 575, 1110, 1112] #[{ accessFlags := 18, nameIndex := 13, descriptorIndex := 14, attributes := #[] }, { accessFlags := 18, nameIndex := 17, descriptorIndex := 18, attributes := #[] }, { accessFlags := 2, nameIndex := 21, descriptorIndex := 22, attributes := #[] }, { accessFlags := 2, nameIndex := 25, descriptorIndex := 26, attributes := #[] }, { accessFlags := 26, nameIndex := 1116, descriptorIndex := 1117, attributes := #[] }, { accessFlags := 24, nameIndex := 40, descriptorIndex := 26, attributes := #[] }, { accessFlags := 26, nameIndex := 1101, descriptorIndex := 1102, attributes := #[] }, { accessFlags := 26, nameIndex := 1121, descriptorIndex := 1122, attributes := #[] }, { accessFlags := 25, nameIndex := 599, descriptorIndex := 600, attributes := #[] }, { accessFlags := 24, nameIndex := 1125, descriptorIndex := 18, attributes := #[] }, { accessFlags := 24, nameIndex := 1127, descriptorIndex := 18, attributes := #[] }])
  fields := #[{ name := "value", type := (.array .byte), accessFlags := 18, slot := 0, constantValue := 0 }, { name := "coder", type := .byte, accessFlags := 18, slot := 1, constantValue := 0 }, { name := "hash", type := .int, accessFlags := 2, slot := 2, constantValue := 0 }, { name := "hashIsZero", type := .boolean, accessFlags := 2, slot := 3, constantValue := 0 }, { name := "serialVersionUID", type := .long, accessFlags := 26, slot := 0, constantValue := 0 }, { name := "COMPACT_STRINGS", type := .boolean, accessFlags := 24, slot := 1, constantValue := 0 }, { name := "serialPersistentFields", type := (.array (.object "java/io/ObjectStreamField")), accessFlags := 26, slot := 2, constantValue := 0 }, { name := "REPL", type := .char, accessFlags := 26, slot := 3, constantValue := 0 }, { name := "CASE_INSENSITIVE_ORDER", type := (.object "java/util/Comparator"), accessFlags := 25, slot := 4, constantValue := 0 }, { name := "LATIN1", type := .byte, accessFlags := 24, slot := 5, constantValue := 0 }, { name := "UTF16", type := .byte, accessFlags := 24, slot := 6, constantValue := 0 }]
  methods := #[k7m0, k7m1, k7m2, k7m3]
  instanceTypes := #[(.array .byte), .byte, .int, .boolean]
  staticTypes := #[.long, .boolean, (.array (.object "java/io/ObjectStreamField")), .char, (.object "java/util/Comparator"), .byte, .byte]
  resolved := Array.replicate 1451 none
  statics := some 0 }

def pool8 : Array CpInfo := pool [(1, .class_ 2), (0, u "java/lang/String"), (1, .class_ 6), (1, u "java/lang/Object"), (0, u "<init>"), (0, u "()V"), (0, .methodref 1 10), (0, .nameAndType 11 12), (0, u "checkIndex"), (0, u "(II)V"), (1, .class_ 16), (1, u "java/lang/StringLatin1"), (36, u "([BI)C"), (67, u "$assertionsDisabled"), (0, u "Z"), (98, .class_ 223), (1, u "java/lang/StringLatin1$LinesSpliterator"), (28, u "charAt"), (137, .class_ 391), (0, u "java/lang/StringLatin1$CharsSpliterator")] 3

def k8m0 : Method := { name := "<init>", desc := "()V", sig := { parameters := [], returnType := none }, accessFlags := 0, code := none }
def k8c1 : Code := { maxStack := 2, maxLocals := 2, code := jdk_43_method_2_code, exceptionTable := #[], attributes := #[] }
def k8m1 : Method := { name := "charAt", desc := "([BI)C", sig := { parameters := [(.array .byte), .int], returnType := some .char }, accessFlags := 9, code := some k8c1 }
/-- java/lang/StringLatin1 -/
def k8 : Class := { plain "java/lang/StringLatin1" (some 0) with
  accessFlags := 48
  interfaces := #[]
  cf := some (fileOf pool8 14 #[.nestMembers #[390, 221]] #[{ accessFlags := 0, nameIndex := 7, descriptorIndex := 8, attributes := #[] }, { accessFlags := 9, nameIndex := 252, descriptorIndex := 53, attributes := #[] }] 48 4 #[] #[{ accessFlags := 4120, nameIndex := 121, descriptorIndex := 122, attributes := #[] }])
  fields := #[{ name := "$assertionsDisabled", type := .boolean, accessFlags := 4120, slot := 0, constantValue := 0 }]
  methods := #[k8m0, k8m1]
  instanceTypes := #[]
  staticTypes := #[.boolean]
  resolved := Array.replicate 395 none
  statics := none }

def pool9 : Array CpInfo := pool [(2, .class_ 4), (1, u "java/lang/Object"), (0, u "<init>"), (0, u "()V"), (17, .class_ 26), (1, u "jdk/internal/util/Preconditions"), (6, u "checkIndex"), (21, .class_ 56), (0, u "jdk/internal/util/Preconditions$4"), (57, .class_ 115), (0, u "jdk/internal/util/Preconditions$1"), (7, u "SIOOBE_FORMATTER"), (0, u "Ljava/util/function/BiFunction;"), (0, .class_ 126), (0, u "jdk/internal/util/Preconditions$2"), (3, u "AIOOBE_FORMATTER"), (0, .class_ 132), (0, u "jdk/internal/util/Preconditions$3"), (3, u "IOOBE_FORMATTER"), (41, u "(IILjava/util/function/BiFunction;)I")] 15

def k9m0 : Method := { name := "<init>", desc := "()V", sig := { parameters := [], returnType := none }, accessFlags := 1, code := none }
def k9c1 : Code := { maxStack := 3, maxLocals := 3, code := jdk_41_method_11_code, exceptionTable := #[], attributes := #[] }
def k9m1 : Method := { name := "checkIndex", desc := "(IILjava/util/function/BiFunction;)I", sig := { parameters := [.int, .int, (.object "java/util/function/BiFunction")], returnType := some .int }, accessFlags := 9, code := some k9c1 }
/-- jdk/internal/util/Preconditions -/
def k9 : Class := { plain "jdk/internal/util/Preconditions" (some 0) with
  accessFlags := 33
  interfaces := #[]
  cf := some (fileOf pool9 24 #[.nestMembers #[55, 131, 125, 114]] #[{ accessFlags := 1, nameIndex := 5, descriptorIndex := 6, attributes := #[] }, { accessFlags := 9, nameIndex := 33, descriptorIndex := 178, attributes := #[] }] 33 2 #[] #[{ accessFlags := 25, nameIndex := 123, descriptorIndex := 124, attributes := #[] }, { accessFlags := 25, nameIndex := 130, descriptorIndex := 124, attributes := #[] }, { accessFlags := 25, nameIndex := 136, descriptorIndex := 124, attributes := #[] }])
  fields := #[{ name := "SIOOBE_FORMATTER", type := (.object "java/util/function/BiFunction"), accessFlags := 25, slot := 0, constantValue := 0 }, { name := "AIOOBE_FORMATTER", type := (.object "java/util/function/BiFunction"), accessFlags := 25, slot := 1, constantValue := 0 }, { name := "IOOBE_FORMATTER", type := (.object "java/util/function/BiFunction"), accessFlags := 25, slot := 2, constantValue := 0 }]
  methods := #[k9m0, k9m1]
  instanceTypes := #[]
  staticTypes := #[(.object "java/util/function/BiFunction"), (.object "java/util/function/BiFunction"), (.object "java/util/function/BiFunction")]
  resolved := Array.replicate 194 none
  statics := some 1 }

def pool10 : Array CpInfo := pool [(1, .class_ 2), (0, u "com/example/cladestream/cladestream/model/Bases"), (1, .class_ 6), (1, u "java/lang/Object"), (0, u "<init>"), (0, u "()V"), (0, .fieldref 1 10), (0, .nameAndType 11 12), (0, u "STATE_SETS"), (0, u "[B"), (11, u "LETTERS_BY_SET"), (0, u "[C"), (37, u "B"), (24, u "MEANINGS"), (0, u "[[Ljava/lang/String;"), (21, u "COUNT"), (0, u "I"), (2, u "LETTERS"), (0, u "Ljava/lang/String;"), (0, u "MISSING"), (3, u "stateSet"), (0, u "(C)B")] 23

def k10m0 : Method := { name := "<init>", desc := "()V", sig := { parameters := [], returnType := none }, accessFlags := 2, code := none }
def k10c1 : Code := { maxStack := 2, maxLocals := 1, code := prog_39_method_2_code, exceptionTable := #[], attributes := #[] }
def k10m1 : Method := { name := "stateSet", desc := "(C)B", sig := { parameters := [.char], returnType := some .byte }, accessFlags := 9, code := some k10c1 }
/-- com/example/cladestream/cladestream/model/Bases -/
def k10 : Class := { plain "com/example/cladestream/cladestream/model/Bases" (some 0) with
  accessFlags := 49
  interfaces := #[]
  cf := some (fileOf pool10 1 #[] #[{ accessFlags := 2, nameIndex := 7, descriptorIndex := 8, attributes := #[] }, { accessFlags := 9, nameIndex := 121, descriptorIndex := 122, attributes := #[] }] 49 4 #[] #[{ accessFlags := 25, nameIndex := 111, descriptorIndex := 112, attributes := #[] }, { accessFlags := 25, nameIndex := 115, descriptorIndex := 116, attributes := #[] }, { accessFlags := 25, nameIndex := 117, descriptorIndex := 63, attributes := #[] }, { accessFlags := 26, nameIndex := 88, descriptorIndex := 89, attributes := #[] }, { accessFlags := 26, nameIndex := 11, descriptorIndex := 12, attributes := #[] }, { accessFlags := 26, nameIndex := 24, descriptorIndex := 25, attributes := #[] }])
  fields := #[{ name := "COUNT", type := .int, accessFlags := 25, slot := 0, constantValue := 0 }, { name := "LETTERS", type := (.object "java/lang/String"), accessFlags := 25, slot := 1, constantValue := 0 }, { name := "MISSING", type := .byte, accessFlags := 25, slot := 2, constantValue := 0 }, { name := "MEANINGS", type := (.array (.array (.object "java/lang/String"))), accessFlags := 26, slot := 3, constantValue := 0 }, { name := "STATE_SETS", type := (.array .byte), accessFlags := 26, slot := 4, constantValue := 0 }, { name := "LETTERS_BY_SET", type := (.array .char), accessFlags := 26, slot := 5, constantValue := 0 }]
  methods := #[k10m0, k10m1]
  instanceTypes := #[]
  staticTypes := #[.int, (.object "java/lang/String"), .byte, (.array (.array (.object "java/lang/String"))), (.array .byte), (.array .char)]
  resolved := Array.replicate 146 none
  statics := some 2 }

def pool11 : Array CpInfo := pool [(9, u "<init>"), (6, .class_ 18), (1, u "java/lang/Object"), (0, u "()V"), (1, .class_ 23), (1, u "jdk/internal/util/ArraysSupport"), (0, u "LOG2_ARRAY_LONG_INDEX_SCALE"), (0, u "I"), (2, u "U"), (0, u "Ljdk/internal/misc/Unsafe;"), (8, u "BIG_ENDIAN"), (0, u "Z"), (8, u "LOG2_BYTE_BIT_SIZE"), (4, u "LOG2_ARRAY_INT_INDEX_SCALE"), (54, u "JLA"), (0, u "Ljdk/internal/access/JavaLangAccess;"), (11, u "LOG2_ARRAY_BOOLEAN_INDEX_SCALE"), (9, u "LOG2_ARRAY_BYTE_INDEX_SCALE"), (5, u "LOG2_ARRAY_CHAR_INDEX_SCALE"), (5, u "LOG2_ARRAY_SHORT_INDEX_SCALE"), (18, u "LOG2_ARRAY_FLOAT_INDEX_SCALE"), (24, u "LOG2_ARRAY_DOUBLE_INDEX_SCALE"), (89, u "T_BOOLEAN"), (2, u "T_CHAR"), (1, u "T_FLOAT"), (1, u "T_DOUBLE"), (1, u "T_BYTE"), (1, u "T_SHORT"), (1, u "T_INT"), (1, u "T_LONG"), (1, u "SOFT_MAX_ARRAY_LENGTH")] 83

def k11m0 : Method := { name := "<init>", desc := "()V", sig := { parameters := [], returnType := none }, accessFlags := 2, code := none }
/-- jdk/internal/util/ArraysSupport -/
def k11 : Class := { plain "jdk/internal/util/ArraysSupport" (some 0) with
  accessFlags := 33
  interfaces := #[]
  cf := some (fileOf pool11 21 #[] #[{ accessFlags := 2, nameIndex := 9, descriptorIndex := 19, attributes := #[] }] 33 16 #[] #[{ accessFlags := 24, nameIndex := 28, descriptorIndex := 29, attributes := #[] }, { accessFlags := 26, nameIndex := 38, descriptorIndex := 39, attributes := #[] }, { accessFlags := 25, nameIndex := 121, descriptorIndex := 25, attributes := #[] }, { accessFlags := 25, nameIndex := 131, descriptorIndex := 25, attributes := #[] }, { accessFlags := 25, nameIndex := 137, descriptorIndex := 25, attributes := #[] }, { accessFlags := 25, nameIndex := 143, descriptorIndex := 25, attributes := #[] }, { accessFlags := 25, nameIndex := 53, descriptorIndex := 25, attributes := #[] }, { accessFlags := 25, nameIndex := 24, descriptorIndex := 25, attributes := #[] }, { accessFlags := 25, nameIndex := 162, descriptorIndex := 25, attributes := #[] }, { accessFlags := 25, nameIndex := 187, descriptorIndex := 25, attributes := #[] }, { accessFlags := 26, nameIndex := 48, descriptorIndex := 25, attributes := #[] }, { accessFlags := 25, nameIndex := 277, descriptorIndex := 25, attributes := #[] }, { accessFlags := 25, nameIndex := 280, descriptorIndex := 25, attributes := #[] }, { accessFlags := 25, nameIndex := 282, descriptorIndex := 25, attributes := #[] }, { accessFlags := 25, nameIndex := 284, descriptorIndex := 25, attributes := #[] }, { accessFlags := 25, nameIndex := 286, descriptorIndex := 25, attributes := #[] }, { accessFlags := 25, nameIndex := 288, descriptorIndex := 25, attributes := #[] }, { accessFlags := 25, nameIndex := 290, descriptorIndex := 25, attributes := #[] }, { accessFlags := 25, nameIndex := 292, descriptorIndex := 25, attributes := #[] }, { accessFlags := 26, nameIndex := 108, descriptorIndex := 109, attributes := #[] }, { accessFlags := 25, nameIndex := 294, descriptorIndex := 25, attributes := #[] }])
  fields := #[{ name := "U", type := (.object "jdk/internal/misc/Unsafe"), accessFlags := 24, slot := 0, constantValue := 0 }, { name := "BIG_ENDIAN", type := .boolean, accessFlags := 26, slot := 1, constantValue := 0 }, { name := "LOG2_ARRAY_BOOLEAN_INDEX_SCALE", type := .int, accessFlags := 25, slot := 2, constantValue := 0 }, { name := "LOG2_ARRAY_BYTE_INDEX_SCALE", type := .int, accessFlags := 25, slot := 3, constantValue := 0 }, { name := "LOG2_ARRAY_CHAR_INDEX_SCALE", type := .int, accessFlags := 25, slot := 4, constantValue := 0 }, { name := "LOG2_ARRAY_SHORT_INDEX_SCALE", type := .int, accessFlags := 25, slot := 5, constantValue := 0 }, { name := "LOG2_ARRAY_INT_INDEX_SCALE", type := .int, accessFlags := 25, slot := 6, constantValue := 0 }, { name := "LOG2_ARRAY_LONG_INDEX_SCALE", type := .int, accessFlags := 25, slot := 7, constantValue := 0 }, { name := "LOG2_ARRAY_FLOAT_INDEX_SCALE", type := .int, accessFlags := 25, slot := 8, constantValue := 0 }, { name := "LOG2_ARRAY_DOUBLE_INDEX_SCALE", type := .int, accessFlags := 25, slot := 9, constantValue := 0 }, { name := "LOG2_BYTE_BIT_SIZE", type := .int, accessFlags := 26, slot := 10, constantValue := 0 }, { name := "T_BOOLEAN", type := .int, accessFlags := 25, slot := 11, constantValue := 0 }, { name := "T_CHAR", type := .int, accessFlags := 25, slot := 12, constantValue := 0 }, { name := "T_FLOAT", type := .int, accessFlags := 25, slot := 13, constantValue := 0 }, { name := "T_DOUBLE", type := .int, accessFlags := 25, slot := 14, constantValue := 0 }, { name := "T_BYTE", type := .int, accessFlags := 25, slot := 15, constantValue := 0 }, { name := "T_SHORT", type := .int, accessFlags := 25, slot := 16, constantValue := 0 }, { name := "T_INT", type := .int, accessFlags := 25, slot := 17, constantValue := 0 }, { name := "T_LONG", type := .int, accessFlags := 25, slot := 18, constantValue := 0 }, { name := "JLA", type := (.object "jdk/internal/access/JavaLangAccess"), accessFlags := 26, slot := 19, constantValue := 0 }, { name := "SOFT_MAX_ARRAY_LENGTH", type := .int, accessFlags := 25, slot := 20, constantValue := 0 }]
  methods := #[k11m0]
  instanceTypes := #[]
  staticTypes := #[(.object "jdk/internal/misc/Unsafe"), .boolean, .int, .int, .int, .int, .int, .int, .int, .int, .int, .int, .int, .int, .int, .int, .int, .int, .int, (.object "jdk/internal/access/JavaLangAccess"), .int]
  resolved := Array.replicate 378 none
  statics := none }

def pool12 : Array CpInfo := pool [(1, u "java/lang/Cloneable"), (0, .class_ 1), (0, u "java/lang/Object"), (0, .class_ 3)] 3

/-- java/lang/Cloneable -/
def k12 : Class := { plain "java/lang/Cloneable" (some 0) with
  accessFlags := 1537
  interfaces := #[]
  cf := some (fileOf pool12 2 #[] #[] 1537 4 #[] #[])
  fields := #[]
  methods := #[]
  instanceTypes := #[]
  staticTypes := #[]
  resolved := Array.replicate 8 none
  statics := none }

/-- the primitive byte -/
def k13 : Class := { plain "byte" none with kind := .primitive 'B', accessFlags := 0x411 }
/-- [B -/
def k14 : Class := { plain "[B" (some 0) with kind := .array 13 .byte, interfaces := #[12, 2], accessFlags := 1041 }

/-- the primitive int -/
def k15 : Class := { plain "int" none with kind := .primitive 'I', accessFlags := 0x411 }
/-- [I -/
def k16 : Class := { plain "[I" (some 0) with kind := .array 15 .int, interfaces := #[12, 2], accessFlags := 1041 }

def heap : Heap := #[{ cls := 7, slots := #[.long 0, .int 1, .null, .int 0, .null, .int 0, .int 0], vm := .statics 7 },
  { cls := 9, slots := #[.null, .null, .null], vm := .statics 9 },
  { cls := 10, slots := #[.int 0, .null, .int 0, .null, .ref 3, .null], vm := .statics 10 },
  { cls := 14, slots := #[.int 0, .int 0, .int 0, .int 0, .int 0, .int 0, .int 0, .int 0, .int 0, .int 0, .int 0, .int 0, .int 0, .int 0, .int 0, .int 0, .int 0, .int 0, .int 0, .int 0, .int 0, .int 0, .int 0, .int 0, .int 0, .int 0, .int 0, .int 0, .int 0, .int 0, .int 0, .int 0, .int 0, .int 0, .int 0, .int 0, .int 0, .int 0, .int 0, .int 0, .int 0, .int 0, .int 0, .int 0, .int 0, .int 15, .int 0, .int 0, .int 0, .int 0, .int 0, .int 0, .int 0, .int 0, .int 0, .int 0, .int 0, .int 0, .int 0, .int 0, .int 0, .int 0, .int 0, .int 15, .int 0, .int 1, .int 14, .int 2, .int 13, .int 0, .int 0, .int 4, .int 11, .int 0, .int 0, .int 12, .int 0, .int 3, .int 15, .int 0, .int 0, .int 0, .int 5, .int 6, .int 8, .int 0, .int 7, .int 9, .int 0, .int 10, .int 0, .int 0, .int 0, .int 0, .int 0, .int 0, .int 0, .int 1, .int 14, .int 2, .int 13, .int 0, .int 0, .int 4, .int 11, .int 0, .int 0, .int 12, .int 0, .int 3, .int 15, .int 0, .int 0, .int 0, .int 5, .int 6, .int 8, .int 0, .int 7, .int 9, .int 0, .int 10, .int 0, .int 0, .int 0, .int 0, .int 0, .int 0], vm := .none }]
def classes : Array Class := #[k0, k1, k2, k3, k4, k5, k6, k7, k8, k9, k10, k11, k12, k13, k14, k15, k16]
def interned : List (Array UInt16 × Addr) := []
def slotsUsed : Nat := 144
def theMethod : MethodId := ⟨1, 2⟩
def args0 : Array Value := #[.int 5, .int 6]
def aboutOver (below : List Frame) : State where
  vm := { classes := classes, interned := interned.toArray }
  heap := heap
  slotsUsed := slotsUsed
  threads := #[{ frames := .invoking theMethod args0 :: below }]
def below0 : List Frame := [.native { method := ⟨0, 0⟩, args := #[] }]
def about1 : State := aboutOver below0
def p0 : Program := .bare "" "" ""
def e0 : Env := launch0.env 0 0 0
theorem w_frames : about1.frames = Frame.invoking theMethod args0 :: below0 := rfl
set_option maxRecDepth 65536 in
theorem w_args : argsFit about1.vm theMethod args0 = true := by decide +kernel
set_option maxRecDepth 65536 in
theorem w_heap : heapFits about1 = true := by decide +kernel
set_option maxRecDepth 65536 in
theorem w_runnable : about1.curStatus? = some .runnable := by decide +kernel
set_option maxRecDepth 65536 in
theorem w_alone : about1.alone = true := by decide +kernel
set_option maxRecDepth 65536 in
theorem w_named : about1.methodNamed? x = some theMethod := by decide +kernel
set_option maxRecDepth 65536 in
theorem w_hears : about1.hears theMethod below0 = true := by decide +kernel
set_option maxRecDepth 65536 in
theorem w_ripe : about1.ripe theMethod args0 below0 = true := by decide +kernel
theorem w_running : about1.status = .running := rfl
set_option maxRecDepth 65536 in
theorem w_room : about1.hasRoom e0.platform room_1 = true :=
  launch0.hasRoom_least _ room_1 (by decide +kernel) (by decide +kernel) (by decide +kernel) (by decide +kernel) (by decide +kernel) (by decide +kernel)
theorem allAtoms_all (ts : List Jvm.Cond) (a : Array Jvm.Value) (st : Jvm.State) : (allAtoms ts).before a st = ts.all (fun c => c.before a st) := by
  induction ts with
  | nil => rfl
  | cons c t ih =>
    show (Jvm.Cond.and c (allAtoms t)).before a st = _
    rw [Jvm.Cond.before_and, ih, List.all_cons]
def words1 : List Jvm.Cond := Jvm.Cond.code x code maxLocals ret :: tables_1
/-- a 'code' word, met by the world's own term for the bytes: nothing is compared byte by byte -/
theorem code_word {y : MethodName} {bytes : ByteArray} {mx : Nat} {rt : Option FieldType} {a : Array Value} {s : State} {m : MethodId} {meth : Method} {c : Code} (h1 : s.methodNamed? y = some m) (h2 : s.vm.method? m = some meth) (h3 : meth.code = some c) (h4 : c.code = bytes)
    (h5 : (c.maxLocals == mx && c.exceptionTable.isEmpty && decide (c.maxStack ≤ mostOperands) && decide (meth.sig.returnType = rt) && !meth.locks && decide (parseMethodDescriptor y.desc = some meth.sig)) = true) : (Jvm.Cond.code y bytes mx rt).before a s = true := by
  simp only [Bool.and_eq_true, beq_iff_eq, Bool.not_eq_true', decide_eq_true_eq] at h5
  obtain ⟨⟨⟨⟨⟨g1, g2⟩, g3⟩, g4⟩, g5⟩, g6⟩ := h5
  simp [Cond.before, Cond.holds, Cond.value, h1, h2, h3, h4, g1, g2, g3, g4, g5, g6]
def isCode : Jvm.Cond → Bool
  | .code _ _ _ _ => true
  | _ => false
theorem all_split {L : List Jvm.Cond} {P : Jvm.Cond → Bool} (h1 : L.all (fun c => isCode c || P c) = true) (h2 : ∀ c ∈ L.filter isCode, P c = true) : L.all P = true := by
  refine List.all_eq_true.mpr fun c hc => ?_
  have h := List.all_eq_true.mp h1 c hc
  rcases Bool.eq_false_or_eq_true (isCode c) with hi | hi
  · exact h2 c (List.mem_filter.mpr ⟨hc, hi⟩)
  · simpa [hi] using h
set_option maxRecDepth 65536 in
theorem w_c0 : (Jvm.Cond.code x code maxLocals ret).before args0 about1 = true := code_word (m := ⟨1, 2⟩) (meth := k1m2) (c := k1c2) (by decide +kernel) rfl rfl rfl (by decide +kernel)
set_option maxRecDepth 65536 in
theorem w_c1 : (Jvm.Cond.code ({ cls := "java/lang/String", name := "charAt", desc := "(I)C" } : Jvm.MethodName) jdk_42_method_56_code (2 : Nat) (Option.some Jvm.ClassFile.FieldType.char)).before args0 about1 = true := code_word (m := ⟨7, 1⟩) (meth := k7m1) (c := k7c1) (by decide +kernel) rfl rfl rfl (by decide +kernel)
set_option maxRecDepth 65536 in
theorem w_c2 : (Jvm.Cond.code ({ cls := "java/lang/String", name := "isLatin1", desc := "()Z" } : Jvm.MethodName) jdk_42_method_154_code (1 : Nat) (Option.some Jvm.ClassFile.FieldType.boolean)).before args0 about1 = true := code_word (m := ⟨7, 2⟩) (meth := k7m2) (c := k7c2) (by decide +kernel) rfl rfl rfl (by decide +kernel)
set_option maxRecDepth 65536 in
theorem w_c3 : (Jvm.Cond.code ({ cls := "java/lang/StringLatin1", name := "charAt", desc := "([BI)C" } : Jvm.MethodName) jdk_43_method_2_code (2 : Nat) (Option.some Jvm.ClassFile.FieldType.char)).before args0 about1 = true := code_word (m := ⟨8, 1⟩) (meth := k8m1) (c := k8c1) (by decide +kernel) rfl rfl rfl (by decide +kernel)
set_option maxRecDepth 65536 in
theorem w_c4 : (Jvm.Cond.code ({ cls := "java/lang/String", name := "checkIndex", desc := "(II)V" } : Jvm.MethodName) jdk_42_method_155_code (2 : Nat) (Option.none : Option Jvm.ClassFile.FieldType)).before args0 about1 = true := code_word (m := ⟨7, 3⟩) (meth := k7m3) (c := k7c3) (by decide +kernel) rfl rfl rfl (by decide +kernel)
set_option maxRecDepth 65536 in
theorem w_c5 : (Jvm.Cond.code ({ cls := "jdk/internal/util/Preconditions", name := "checkIndex", desc := "(IILjava/util/function/BiFunction;)I" } : Jvm.MethodName) jdk_41_method_11_code (3 : Nat) (Option.some Jvm.ClassFile.FieldType.int)).before args0 about1 = true := code_word (m := ⟨9, 1⟩) (meth := k9m1) (c := k9c1) (by decide +kernel) rfl rfl rfl (by decide +kernel)
set_option maxRecDepth 65536 in
theorem w_c6 : (Jvm.Cond.code ({ cls := "com/example/cladestream/cladestream/model/Bases", name := "stateSet", desc := "(C)B" } : Jvm.MethodName) prog_39_method_2_code (1 : Nat) (Option.some Jvm.ClassFile.FieldType.byte)).before args0 about1 = true := code_word (m := ⟨10, 1⟩) (meth := k10m1) (c := k10c1) (by decide +kernel) rfl rfl rfl (by decide +kernel)
set_option maxRecDepth 65536 in
theorem w_c7 : (Jvm.Cond.code ({ cls := "com/example/cladestream/cladestream/model/BasesStateSetPinLaw", name := "expected", desc := "(C)I" } : Jvm.MethodName) method_2_code (2 : Nat) (Option.some Jvm.ClassFile.FieldType.int)).before args0 about1 = true := code_word (m := ⟨1, 1⟩) (meth := k1m1) (c := k1c1) (by decide +kernel) rfl rfl rfl (by decide +kernel)
def codes1 : List Jvm.Cond := [Jvm.Cond.code x code maxLocals ret, Jvm.Cond.code ({ cls := "java/lang/String", name := "charAt", desc := "(I)C" } : Jvm.MethodName) jdk_42_method_56_code (2 : Nat) (Option.some Jvm.ClassFile.FieldType.char), Jvm.Cond.code ({ cls := "java/lang/String", name := "isLatin1", desc := "()Z" } : Jvm.MethodName) jdk_42_method_154_code (1 : Nat) (Option.some Jvm.ClassFile.FieldType.boolean), Jvm.Cond.code ({ cls := "java/lang/StringLatin1", name := "charAt", desc := "([BI)C" } : Jvm.MethodName) jdk_43_method_2_code (2 : Nat) (Option.some Jvm.ClassFile.FieldType.char), Jvm.Cond.code ({ cls := "java/lang/String", name := "checkIndex", desc := "(II)V" } : Jvm.MethodName) jdk_42_method_155_code (2 : Nat) (Option.none : Option Jvm.ClassFile.FieldType), Jvm.Cond.code ({ cls := "jdk/internal/util/Preconditions", name := "checkIndex", desc := "(IILjava/util/function/BiFunction;)I" } : Jvm.MethodName) jdk_41_method_11_code (3 : Nat) (Option.some Jvm.ClassFile.FieldType.int), Jvm.Cond.code ({ cls := "com/example/cladestream/cladestream/model/Bases", name := "stateSet", desc := "(C)B" } : Jvm.MethodName) prog_39_method_2_code (1 : Nat) (Option.some Jvm.ClassFile.FieldType.byte), Jvm.Cond.code ({ cls := "com/example/cladestream/cladestream/model/BasesStateSetPinLaw", name := "expected", desc := "(C)I" } : Jvm.MethodName) method_2_code (2 : Nat) (Option.some Jvm.ClassFile.FieldType.int)]
set_option maxRecDepth 65536 in
theorem codes_eq : words1.filter isCode = codes1 := rfl
theorem w_codes : ∀ c ∈ words1.filter isCode, c.before args0 about1 = true := by
  rw [codes_eq]
  intro c hc
  simp only [codes1, List.mem_cons, List.not_mem_nil, or_false] at hc
  rcases hc with rfl | rfl | rfl | rfl | rfl | rfl | rfl | rfl
  · exact w_c0
  · exact w_c1
  · exact w_c2
  · exact w_c3
  · exact w_c4
  · exact w_c5
  · exact w_c6
  · exact w_c7
set_option maxRecDepth 65536 in
theorem w_t1 : (words1.take 24).all (fun c => isCode c || c.before args0 about1) = true := by decide +kernel
set_option maxRecDepth 65536 in
theorem w_t2 : (words1.drop 24).all (fun c => isCode c || c.before args0 about1) = true := by decide +kernel
theorem w_tables : (allAtoms (Jvm.Cond.code x code maxLocals ret :: tables_1)).before args0 about1 = true := by
  rw [allAtoms_all]
  show words1.all (fun c => c.before args0 about1) = true
  refine all_split ?_ w_codes
  rw [← List.take_append_drop 24 words1, List.all_append, w_t1, w_t2]
  rfl
set_option maxRecDepth 65536 in
theorem w_rest : rest_1_c.before args0 about1 = true := by decide +kernel
set_option maxRecDepth 65536 in
theorem w_case : (Jvm.Cond.and given_1 narrow_1).before args0 about1 = true := by decide +kernel
set_option maxRecDepth 65536 in
theorem w_consts : constsHeld consts_1 about1 := Jvm.Lit.constsHeldB_iff.mp (by decide +kernel)
theorem w_applies : (headSpec (Jvm.Cond.code x code maxLocals ret :: tables_1) room_1).applies x e0.platform about1 = true :=
  (Spec.applies_iff w_frames).mpr ⟨w_running, w_runnable, w_alone, w_named, w_hears, w_ripe, w_room, w_tables⟩
theorem atStart : AtStart classFile x code maxLocals ret World_1 tables_1 room_1 Calls_1 rest_1 Pre_1 launch0 p0 e0 about1 theMethod args0 below0 :=
  ⟨lists_1, trivial, launch0.admits_env _ _ _, launch0.least_env, fairChoices_fair.cas, fairChoices_fair.clock, w_frames, w_args, w_heap, w_applies, ⟨w_consts, trivial⟩, w_rest, w_case⟩
end start1
theorem witness_1 : WitnessClaimed_1 := ⟨start1.p0, start1.e0, start1.about1, start1.theMethod, start1.args0, start1.below0, start1.atStart⟩
end Jvm.Pilot.@@N@@
