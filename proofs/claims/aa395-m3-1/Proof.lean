import JvmDerived
import JvmDerived.Pilot.@@N@@Statement
import JvmDerived.Pilot.@@N@@Code
set_option linter.unusedVariables false
set_option linter.unusedSimpArgs false
namespace Jvm.OwnKit
open Sem ClassFile Op Lib Jvm.Stand Jvm.Free Jvm.LawKit Jvm.RoadKit
section Kit
variable {p : Program} {l : Launch} {e : Env} {R : Room} {s : State} {m : MethodId} {args : Array Value} {below : List Frame} {meth : Method} {c : Code} {T : State} {locs : List Loc} {cells slots : Nat} {Z : State} {a0 : Array Value} {h : Heap} {C S : Nat} {Q : Option Value → Heap → List Loc → Prop} {Ls Ls' : Array Slot} {st st' rest : List Value} {pc pc' : Nat}
/-- from here the invocation ends by a return, with Q -/
def OwnEnds (p : Program) (e : Env) (below : List Frame) (s : State) (C S : Nat) (Q : Option Value → Heap → List Loc → Prop) (T : State) (m : MethodId) (pc : Nat) (Ls : Array Slot) (st : List Value) : Prop :=
  ∃ t o, Steps p.tables e below (T.setTop (mkF m pc Ls st)) t ∧ t.status = .running ∧ Ended t below o ∧ ∃ v L, o = .returned v ∧ Q v t.heap L ∧ FrameEnd s o t L C S
theorem OwnEnds.of {T' : State} (k : ∀ t, Steps p.tables e below (T'.setTop (mkF m pc' Ls' st')) t → Steps p.tables e below (T.setTop (mkF m pc Ls st)) t) (h : OwnEnds p e below s C S Q T' m pc' Ls' st') : OwnEnds p e below s C S Q T m pc Ls st := by
  obtain ⟨t, o, h1, h2⟩ := h
  exact ⟨t, o, k t h1, h2⟩
theorem OwnEnds.mono {Q' : Option Value → Heap → List Loc → Prop} (h : OwnEnds p e below s C S Q T m pc Ls st) (q : ∀ v h L, Q v h L → Q' v h L) : OwnEnds p e below s C S Q' T m pc Ls st := by
  obtain ⟨t, o, h1, h2, h3, v, L, h4, h5, h6⟩ := h
  exact ⟨t, o, h1, h2, h3, v, L, h4, q _ _ _ h5, h6⟩
/-- what a walk knows of its method -/
def Cx (p : Program) (s : State) (m : MethodId) (meth : Method) (c : Code) (Z : State) (y : MethodName) (bytes : ByteArray) (maxL : Nat) (ret : Option FieldType) : Prop :=
  p.tables.exec = Jvm.exec ∧ c.code = bytes ∧ c.maxLocals = maxL ∧ meth.sig.returnType = ret ∧ meth.locks = false ∧ meth.name = y.name ∧ s.vm.findClass y.cls = some m.cls ∧ Z.Warmed39 s.vm
/-- a contract: called with these arguments at the heap h0, the method returns with Q -/
def OwnMeets (l : Launch) (Z : State) (y : MethodName) (bytes : ByteArray) (maxL : Nat) (ret : Option FieldType) (ws : List Jvm.Cond) (rm : Room) (as' : Array Value) (h0 : Heap) (Q : Option Value → Heap → List Loc → Prop) : Prop :=
  MetFree l y (head1 (Jvm.Cond.code y bytes maxL ret :: ws) rm) (fun a U => a = as' ∧ Z.Warmed39 U.vm ∧ U.heap = h0) (fun _ _ _ _ _ => True) (fun _ U o U' => ∃ v L, o = .returned v ∧ Q v U'.heap L ∧ FrameEnd U o U' L rm.cells rm.slots)
theorem OwnMeets.of_walk {y : MethodName} {bytes : ByteArray} {maxL : Nat} {ret : Option FieldType} {ws : List Jvm.Cond} {rm : Room} {as' : Array Value} {h0 : Heap} (hpl : plainFor y = true) (hent : ∀ m, entryFrame m as' maxL = mkF m 0 Ls [])
    (body : ∀ (p : Program) (e : Env) (s : State) (m : MethodId) (below : List Frame) (meth : Method) (c : Code) (T : State), Stand p l e rm s m as' below meth c T [] 0 0 → Cx p s m meth c Z y bytes maxL ret → T.heap = h0 → OwnEnds p e below s rm.cells rm.slots Q T m 0 Ls []) :
    OwnMeets l Z y bytes maxL ret ws rm as' h0 Q := by
  refine MetFree.of_bodySF hpl hisR ?_
  intro p e s m args below meth c s₁ Bd hml0 hP hK
  obtain ⟨rfl, hZ, hh⟩ := hP
  have X0 : Stand p l e rm s m _ below meth c s₁ [] 0 0 := Stand.of_body Bd
  have e0 : s₁.heap = h0 := by rw [← hh, Bd.state]; rfl
  obtain ⟨t, o, h1, h2, h3, v, L, h4, h5, h6⟩ := body p e s m below meth c s₁ X0 ⟨Bd.exec, Bd.bytes, hml0, Bd.returns, BodyLoose.notSynchronized Bd, (name_of_methodNamed Bd.named Bd.method).1, findClass_of_methodNamed Bd.named, hZ⟩ e0
  exact ⟨t, o, castTop (hent m) h1, h2, h3, v, L, h4, h5, h6⟩
theorem tw {W : List Jvm.Cond} (hw : ∀ d ∈ W, d.before a0 Z = true) (i : Nat) {d : Jvm.Cond} (q : W[i]? = some d) : d.before a0 Z = true := hw d (List.mem_of_getElem? q)
theorem pick {P : Prop} [Decidable P] {α : Type} {A B : α} {F : α → Prop} {G : Prop} (k : F (if P then A else B)) (k1 : P → F A → G) (k2 : ¬ P → F B → G) : G := by
  by_cases q : P
  · exact k1 q (by rwa [if_pos q] at k)
  · exact k2 q (by rwa [if_neg q] at k)
theorem pickR {P : Prop} [Decidable P] {α : Type} {A B : α} {F : α → Prop} (k1 : P → F A) (k2 : ¬ P → F B) : F (if P then A else B) := by
  by_cases q : P
  · rw [if_pos q]; exact k1 q
  · rw [if_neg q]; exact k2 q
theorem en_iloadN (X : Stand p l e R s m args below meth c T locs cells slots) (hx : p.tables.exec = Jvm.exec) {k : Fin 4} {v : Int32} (hd : decode c.code pc = .ok (.iload_n k, 1)) (hl : Ls[k.val]? = some (.val (.int v))) (k : OwnEnds p e below s C S Q T m pc' Ls (.int v :: st)) (hp : pc + 1 = pc' := by rfl) : OwnEnds p e below s C S Q T m pc Ls st := by
  subst hp
  exact OwnEnds.of (fun _ k => XS.iloadN X.here hx (g := mkF m pc Ls st) rfl hd hl k) k
theorem en_iload (X : Stand p l e R s m args below meth c T locs cells slots) (hx : p.tables.exec = Jvm.exec) {k : Nat} {v : Int32} (hd : decode c.code pc = .ok (.iload k, 2)) (hl : Ls[k]? = some (.val (.int v))) (k : OwnEnds p e below s C S Q T m pc' Ls (.int v :: st)) (hp : pc + 2 = pc' := by rfl) : OwnEnds p e below s C S Q T m pc Ls st := by
  subst hp
  exact OwnEnds.of (fun _ k => XS.iload X.here hx (g := mkF m pc Ls st) rfl hd hl k) k
theorem en_istoreN (X : Stand p l e R s m args below meth c T locs cells slots) (hx : p.tables.exec = Jvm.exec) {k : Fin 4} {v : Int32} (hd : decode c.code pc = .ok (.istore_n k, 1)) (hl : storeLocals Ls k.val (.int v) = some Ls') (k : OwnEnds p e below s C S Q T m pc' Ls' st) (hp : pc + 1 = pc' := by rfl) : OwnEnds p e below s C S Q T m pc Ls (.int v :: st) := by
  subst hp
  exact OwnEnds.of (fun _ k => XS.istoreN X.here hx (g := mkF m pc Ls (.int v :: st)) rfl hd rfl hl k) k
theorem en_istore (X : Stand p l e R s m args below meth c T locs cells slots) (hx : p.tables.exec = Jvm.exec) {k : Nat} {v : Int32} (hd : decode c.code pc = .ok (.istore k, 2)) (hl : storeLocals Ls k (.int v) = some Ls') (k : OwnEnds p e below s C S Q T m pc' Ls' st) (hp : pc + 2 = pc' := by rfl) : OwnEnds p e below s C S Q T m pc Ls (.int v :: st) := by
  subst hp
  exact OwnEnds.of (fun _ k => XS.istore X.here hx (g := mkF m pc Ls (.int v :: st)) rfl hd rfl hl k) k
theorem en_lloadN (X : Stand p l e R s m args below meth c T locs cells slots) (hx : p.tables.exec = Jvm.exec) {k : Fin 4} {v : Int64} (hd : decode c.code pc = .ok (.lload_n k, 1)) (hl : Ls[k.val]? = some (.val (.long v))) (k : OwnEnds p e below s C S Q T m pc' Ls (.long v :: st)) (hp : pc + 1 = pc' := by rfl) : OwnEnds p e below s C S Q T m pc Ls st := by
  subst hp
  exact OwnEnds.of (fun _ k => XS.lloadN X.here hx (g := mkF m pc Ls st) rfl hd hl k) k
theorem en_lload (X : Stand p l e R s m args below meth c T locs cells slots) (hx : p.tables.exec = Jvm.exec) {k : Nat} {v : Int64} (hd : decode c.code pc = .ok (.lload k, 2)) (hl : Ls[k]? = some (.val (.long v))) (k : OwnEnds p e below s C S Q T m pc' Ls (.long v :: st)) (hp : pc + 2 = pc' := by rfl) : OwnEnds p e below s C S Q T m pc Ls st := by
  subst hp
  exact OwnEnds.of (fun _ k => XS.lload X.here hx (g := mkF m pc Ls st) rfl hd hl k) k
theorem en_lstoreN (X : Stand p l e R s m args below meth c T locs cells slots) (hx : p.tables.exec = Jvm.exec) {k : Fin 4} {v : Int64} (hd : decode c.code pc = .ok (.lstore_n k, 1)) (hl : storeLocals Ls k.val (.long v) = some Ls') (k : OwnEnds p e below s C S Q T m pc' Ls' st) (hp : pc + 1 = pc' := by rfl) : OwnEnds p e below s C S Q T m pc Ls (.long v :: st) := by
  subst hp
  exact OwnEnds.of (fun _ k => XS.lstoreN X.here hx (g := mkF m pc Ls (.long v :: st)) rfl hd rfl hl k) k
theorem en_lstore (X : Stand p l e R s m args below meth c T locs cells slots) (hx : p.tables.exec = Jvm.exec) {k : Nat} {v : Int64} (hd : decode c.code pc = .ok (.lstore k, 2)) (hl : storeLocals Ls k (.long v) = some Ls') (k : OwnEnds p e below s C S Q T m pc' Ls' st) (hp : pc + 2 = pc' := by rfl) : OwnEnds p e below s C S Q T m pc Ls (.long v :: st) := by
  subst hp
  exact OwnEnds.of (fun _ k => XS.lstore X.here hx (g := mkF m pc Ls (.long v :: st)) rfl hd rfl hl k) k
theorem en_aloadN (X : Stand p l e R s m args below meth c T locs cells slots) (hx : p.tables.exec = Jvm.exec) {k : Fin 4} {v : Value} (hd : decode c.code pc = .ok (.aload_n k, 1)) (hl : Ls[k.val]? = some (.val v)) (hv : v.isRef = true) (k : OwnEnds p e below s C S Q T m pc' Ls (v :: st)) (hp : pc + 1 = pc' := by rfl) : OwnEnds p e below s C S Q T m pc Ls st := by
  subst hp
  exact OwnEnds.of (fun _ k => XS.aloadN X.here hx (g := mkF m pc Ls st) rfl hd hl hv k) k
theorem en_aload (X : Stand p l e R s m args below meth c T locs cells slots) (hx : p.tables.exec = Jvm.exec) {k : Nat} {v : Value} (hd : decode c.code pc = .ok (.aload k, 2)) (hl : Ls[k]? = some (.val v)) (hv : v.isRef = true) (k : OwnEnds p e below s C S Q T m pc' Ls (v :: st)) (hp : pc + 2 = pc' := by rfl) : OwnEnds p e below s C S Q T m pc Ls st := by
  subst hp
  exact OwnEnds.of (fun _ k => XS.aload X.here hx (g := mkF m pc Ls st) rfl hd hl hv k) k
theorem en_astoreN (X : Stand p l e R s m args below meth c T locs cells slots) (hx : p.tables.exec = Jvm.exec) {k : Fin 4} {v : Value} (hd : decode c.code pc = .ok (.astore_n k, 1)) (hv : v.isRef = true) (hl : storeLocals Ls k.val v = some Ls') (k : OwnEnds p e below s C S Q T m pc' Ls' st) (hp : pc + 1 = pc' := by rfl) : OwnEnds p e below s C S Q T m pc Ls (v :: st) := by
  subst hp
  exact OwnEnds.of (fun _ k => XS.astoreN X.here hx (g := mkF m pc Ls (v :: st)) rfl hd rfl hv hl k) k
theorem en_astore (X : Stand p l e R s m args below meth c T locs cells slots) (hx : p.tables.exec = Jvm.exec) {k : Nat} {v : Value} (hd : decode c.code pc = .ok (.astore k, 2)) (hv : v.isRef = true) (hl : storeLocals Ls k v = some Ls') (k : OwnEnds p e below s C S Q T m pc' Ls' st) (hp : pc + 2 = pc' := by rfl) : OwnEnds p e below s C S Q T m pc Ls (v :: st) := by
  subst hp
  exact OwnEnds.of (fun _ k => XS.astore X.here hx (g := mkF m pc Ls (v :: st)) rfl hd rfl hv hl k) k
theorem en_dload (X : Stand p l e R s m args below meth c T locs cells slots) (hx : p.tables.exec = Jvm.exec) {k : Nat} {v : UInt64} (hd : decode c.code pc = .ok (.dload k, 2)) (hl : Ls[k]? = some (.val (.double v))) (k : OwnEnds p e below s C S Q T m pc' Ls (.double v :: st)) (hp : pc + 2 = pc' := by rfl) : OwnEnds p e below s C S Q T m pc Ls st := by
  subst hp
  exact OwnEnds.of (fun _ k => XS.dload X.here hx (g := mkF m pc Ls st) rfl hd hl k) k
theorem en_iconst (X : Stand p l e R s m args below meth c T locs cells slots) (hx : p.tables.exec = Jvm.exec) {i : Int} (v : Int32) (hd : decode c.code pc = .ok (.iconst i, 1)) (k : OwnEnds p e below s C S Q T m pc' Ls (.int v :: st)) (hv : Int32.ofInt i = v := by rfl) (hp : pc + 1 = pc' := by rfl) : OwnEnds p e below s C S Q T m pc Ls st := by
  subst hp hv
  exact OwnEnds.of (fun _ k => XS.iconst X.here hx (g := mkF m pc Ls st) rfl hd k) k
theorem en_bipush (X : Stand p l e R s m args below meth c T locs cells slots) (hx : p.tables.exec = Jvm.exec) {i : Int} (v : Int32) (hd : decode c.code pc = .ok (.bipush i, 2)) (k : OwnEnds p e below s C S Q T m pc' Ls (.int v :: st)) (hv : (Int8.ofInt i).toInt32 = v := by rfl) (hp : pc + 2 = pc' := by rfl) : OwnEnds p e below s C S Q T m pc Ls st := by
  subst hp hv
  exact OwnEnds.of (fun _ k => XS.bipush X.here hx (g := mkF m pc Ls st) rfl hd k) k
theorem en_sipush (X : Stand p l e R s m args below meth c T locs cells slots) (hx : p.tables.exec = Jvm.exec) {i : Int} (v : Int32) (hd : decode c.code pc = .ok (.sipush i, 3)) (k : OwnEnds p e below s C S Q T m pc' Ls (.int v :: st)) (hv : (Int16.ofInt i).toInt32 = v := by rfl) (hp : pc + 3 = pc' := by rfl) : OwnEnds p e below s C S Q T m pc Ls st := by
  subst hp hv
  exact OwnEnds.of (fun _ k => XS.sipush X.here hx (g := mkF m pc Ls st) rfl hd k) k
theorem en_lconst (X : Stand p l e R s m args below meth c T locs cells slots) (hx : p.tables.exec = Jvm.exec) {i : Fin 2} (v : Int64) (hd : decode c.code pc = .ok (.lconst i, 1)) (k : OwnEnds p e below s C S Q T m pc' Ls (.long v :: st)) (hv : Int64.ofNat i = v := by rfl) (hp : pc + 1 = pc' := by rfl) : OwnEnds p e below s C S Q T m pc Ls st := by
  subst hp hv
  exact OwnEnds.of (fun _ k => XS.lconst X.here hx (g := mkF m pc Ls st) rfl hd k) k
theorem en_dconst0 (X : Stand p l e R s m args below meth c T locs cells slots) (hx : p.tables.exec = Jvm.exec) (hd : decode c.code pc = .ok (.dconst 0, 1)) (k : OwnEnds p e below s C S Q T m pc' Ls (.double FP.dconst0 :: st)) (hp : pc + 1 = pc' := by rfl) : OwnEnds p e below s C S Q T m pc Ls st := by
  subst hp
  exact OwnEnds.of (fun _ k => XS.dconst0 X.here hx (g := mkF m pc Ls st) rfl hd rfl k) k
theorem en_ldc (X : Stand p l e R s m args below meth c T locs cells slots) (hx : p.tables.exec = Jvm.exec) (hZ : Z.Warmed39 s.vm) {own : String} {index : Nat} {v : Int32} (hown : s.vm.findClass own = some m.cls) (w : (Jvm.Cond.constant own index v).before a0 Z = true) (hd : decode c.code pc = .ok (.ldc index, 2)) (k : OwnEnds p e below s C S Q T m pc' Ls (.int v :: st)) (hp : pc + 2 = pc' := by rfl) : OwnEnds p e below s C S Q T m pc Ls st := by
  subst hp
  exact OwnEnds.of (X.ldcInt hx hown (mvT hZ w) (g := mkF m pc Ls st) rfl hd) k
theorem en_ldc2 (X : Stand p l e R s m args below meth c T locs cells slots) (hx : p.tables.exec = Jvm.exec) (hZ : Z.Warmed39 s.vm) {own : String} {index : Nat} {v : Int64} (hown : s.vm.findClass own = some m.cls) (w : (Jvm.Cond.constantLong own index v).before a0 Z = true) (hd : decode c.code pc = .ok (.ldc2_w index, 3)) (k : OwnEnds p e below s C S Q T m pc' Ls (.long v :: st)) (hp : pc + 3 = pc' := by rfl) : OwnEnds p e below s C S Q T m pc Ls st := by
  subst hp
  exact OwnEnds.of (X.ldc2Long hx hown (mvT hZ w) (g := mkF m pc Ls st) rfl hd) k
theorem en_iadd (X : Stand p l e R s m args below meth c T locs cells slots) (hx : p.tables.exec = Jvm.exec) {x y : Int32} (hd : decode c.code pc = .ok (.iadd, 1))  (k : OwnEnds p e below s C S Q T m pc' Ls (.int (x + y) :: st)) (hp : pc + 1 = pc' := by rfl) : OwnEnds p e below s C S Q T m pc Ls (.int y :: .int x :: st) := by
  subst hp
  exact OwnEnds.of (fun _ k => XS.iadd X.here hx (g := mkF m pc Ls (.int y :: .int x :: st)) rfl hd rfl k) k
theorem en_isub (X : Stand p l e R s m args below meth c T locs cells slots) (hx : p.tables.exec = Jvm.exec) {x y : Int32} (hd : decode c.code pc = .ok (.isub, 1))  (k : OwnEnds p e below s C S Q T m pc' Ls (.int (x - y) :: st)) (hp : pc + 1 = pc' := by rfl) : OwnEnds p e below s C S Q T m pc Ls (.int y :: .int x :: st) := by
  subst hp
  exact OwnEnds.of (fun _ k => XS.isub X.here hx (g := mkF m pc Ls (.int y :: .int x :: st)) rfl hd rfl k) k
theorem en_imul (X : Stand p l e R s m args below meth c T locs cells slots) (hx : p.tables.exec = Jvm.exec) {x y : Int32} (hd : decode c.code pc = .ok (.imul, 1))  (k : OwnEnds p e below s C S Q T m pc' Ls (.int (x * y) :: st)) (hp : pc + 1 = pc' := by rfl) : OwnEnds p e below s C S Q T m pc Ls (.int y :: .int x :: st) := by
  subst hp
  exact OwnEnds.of (fun _ k => XS.imul X.here hx (g := mkF m pc Ls (.int y :: .int x :: st)) rfl hd rfl k) k
theorem en_iand (X : Stand p l e R s m args below meth c T locs cells slots) (hx : p.tables.exec = Jvm.exec) {x y : Int32} (hd : decode c.code pc = .ok (.iand, 1))  (k : OwnEnds p e below s C S Q T m pc' Ls (.int (x &&& y) :: st)) (hp : pc + 1 = pc' := by rfl) : OwnEnds p e below s C S Q T m pc Ls (.int y :: .int x :: st) := by
  subst hp
  exact OwnEnds.of (fun _ k => XS.iand X.here hx (g := mkF m pc Ls (.int y :: .int x :: st)) rfl hd rfl k) k
theorem en_ior (X : Stand p l e R s m args below meth c T locs cells slots) (hx : p.tables.exec = Jvm.exec) {x y : Int32} (hd : decode c.code pc = .ok (.ior, 1))  (k : OwnEnds p e below s C S Q T m pc' Ls (.int (x ||| y) :: st)) (hp : pc + 1 = pc' := by rfl) : OwnEnds p e below s C S Q T m pc Ls (.int y :: .int x :: st) := by
  subst hp
  exact OwnEnds.of (fun _ k => XS.ior X.here hx (g := mkF m pc Ls (.int y :: .int x :: st)) rfl hd rfl k) k
theorem en_ixor (X : Stand p l e R s m args below meth c T locs cells slots) (hx : p.tables.exec = Jvm.exec) {x y : Int32} (hd : decode c.code pc = .ok (.ixor, 1))  (k : OwnEnds p e below s C S Q T m pc' Ls (.int (x ^^^ y) :: st)) (hp : pc + 1 = pc' := by rfl) : OwnEnds p e below s C S Q T m pc Ls (.int y :: .int x :: st) := by
  subst hp
  exact OwnEnds.of (fun _ k => XS.ixor X.here hx (g := mkF m pc Ls (.int y :: .int x :: st)) rfl hd rfl k) k
theorem en_ishl (X : Stand p l e R s m args below meth c T locs cells slots) (hx : p.tables.exec = Jvm.exec) {x y : Int32} (hd : decode c.code pc = .ok (.ishl, 1))  (k : OwnEnds p e below s C S Q T m pc' Ls (.int (x <<< (y &&& 31)) :: st)) (hp : pc + 1 = pc' := by rfl) : OwnEnds p e below s C S Q T m pc Ls (.int y :: .int x :: st) := by
  subst hp
  exact OwnEnds.of (fun _ k => XS.ishl X.here hx (g := mkF m pc Ls (.int y :: .int x :: st)) rfl hd rfl k) k
theorem en_ishr (X : Stand p l e R s m args below meth c T locs cells slots) (hx : p.tables.exec = Jvm.exec) {x y : Int32} (hd : decode c.code pc = .ok (.ishr, 1))  (k : OwnEnds p e below s C S Q T m pc' Ls (.int (x >>> (y &&& 31)) :: st)) (hp : pc + 1 = pc' := by rfl) : OwnEnds p e below s C S Q T m pc Ls (.int y :: .int x :: st) := by
  subst hp
  exact OwnEnds.of (fun _ k => XS.ishr X.here hx (g := mkF m pc Ls (.int y :: .int x :: st)) rfl hd rfl k) k
theorem en_iushr (X : Stand p l e R s m args below meth c T locs cells slots) (hx : p.tables.exec = Jvm.exec) {x y : Int32} (hd : decode c.code pc = .ok (.iushr, 1))  (k : OwnEnds p e below s C S Q T m pc' Ls (.int ((x.toUInt32 >>> (y &&& 31).toUInt32).toInt32) :: st)) (hp : pc + 1 = pc' := by rfl) : OwnEnds p e below s C S Q T m pc Ls (.int y :: .int x :: st) := by
  subst hp
  exact OwnEnds.of (fun _ k => XS.iushr X.here hx (g := mkF m pc Ls (.int y :: .int x :: st)) rfl hd rfl k) k
theorem en_ladd (X : Stand p l e R s m args below meth c T locs cells slots) (hx : p.tables.exec = Jvm.exec) {x y : Int64} (hd : decode c.code pc = .ok (.ladd, 1))  (k : OwnEnds p e below s C S Q T m pc' Ls (.long (x + y) :: st)) (hp : pc + 1 = pc' := by rfl) : OwnEnds p e below s C S Q T m pc Ls (.long y :: .long x :: st) := by
  subst hp
  exact OwnEnds.of (fun _ k => XS.ladd X.here hx (g := mkF m pc Ls (.long y :: .long x :: st)) rfl hd rfl k) k
theorem en_lsub (X : Stand p l e R s m args below meth c T locs cells slots) (hx : p.tables.exec = Jvm.exec) {x y : Int64} (hd : decode c.code pc = .ok (.lsub, 1))  (k : OwnEnds p e below s C S Q T m pc' Ls (.long (x - y) :: st)) (hp : pc + 1 = pc' := by rfl) : OwnEnds p e below s C S Q T m pc Ls (.long y :: .long x :: st) := by
  subst hp
  exact OwnEnds.of (fun _ k => XS.lsub X.here hx (g := mkF m pc Ls (.long y :: .long x :: st)) rfl hd rfl k) k
theorem en_lmul (X : Stand p l e R s m args below meth c T locs cells slots) (hx : p.tables.exec = Jvm.exec) {x y : Int64} (hd : decode c.code pc = .ok (.lmul, 1))  (k : OwnEnds p e below s C S Q T m pc' Ls (.long (x * y) :: st)) (hp : pc + 1 = pc' := by rfl) : OwnEnds p e below s C S Q T m pc Ls (.long y :: .long x :: st) := by
  subst hp
  exact OwnEnds.of (fun _ k => XS.lmul X.here hx (g := mkF m pc Ls (.long y :: .long x :: st)) rfl hd rfl k) k
theorem en_land (X : Stand p l e R s m args below meth c T locs cells slots) (hx : p.tables.exec = Jvm.exec) {x y : Int64} (hd : decode c.code pc = .ok (.land, 1))  (k : OwnEnds p e below s C S Q T m pc' Ls (.long (x &&& y) :: st)) (hp : pc + 1 = pc' := by rfl) : OwnEnds p e below s C S Q T m pc Ls (.long y :: .long x :: st) := by
  subst hp
  exact OwnEnds.of (fun _ k => XS.land X.here hx (g := mkF m pc Ls (.long y :: .long x :: st)) rfl hd rfl k) k
theorem en_lor (X : Stand p l e R s m args below meth c T locs cells slots) (hx : p.tables.exec = Jvm.exec) {x y : Int64} (hd : decode c.code pc = .ok (.lor, 1))  (k : OwnEnds p e below s C S Q T m pc' Ls (.long (x ||| y) :: st)) (hp : pc + 1 = pc' := by rfl) : OwnEnds p e below s C S Q T m pc Ls (.long y :: .long x :: st) := by
  subst hp
  exact OwnEnds.of (fun _ k => XS.lor X.here hx (g := mkF m pc Ls (.long y :: .long x :: st)) rfl hd rfl k) k
theorem en_lxor (X : Stand p l e R s m args below meth c T locs cells slots) (hx : p.tables.exec = Jvm.exec) {x y : Int64} (hd : decode c.code pc = .ok (.lxor, 1))  (k : OwnEnds p e below s C S Q T m pc' Ls (.long (x ^^^ y) :: st)) (hp : pc + 1 = pc' := by rfl) : OwnEnds p e below s C S Q T m pc Ls (.long y :: .long x :: st) := by
  subst hp
  exact OwnEnds.of (fun _ k => XS.lxor X.here hx (g := mkF m pc Ls (.long y :: .long x :: st)) rfl hd rfl k) k
theorem en_lshl (X : Stand p l e R s m args below meth c T locs cells slots) (hx : p.tables.exec = Jvm.exec) {x : Int64} {y : Int32} (hd : decode c.code pc = .ok (.lshl, 1))  (k : OwnEnds p e below s C S Q T m pc' Ls (.long (x <<< (y &&& 0x3f).toInt64) :: st)) (hp : pc + 1 = pc' := by rfl) : OwnEnds p e below s C S Q T m pc Ls (.int y :: .long x :: st) := by
  subst hp
  exact OwnEnds.of (fun _ k => XS.lshl X.here hx (g := mkF m pc Ls (.int y :: .long x :: st)) rfl hd rfl k) k
theorem en_lshr (X : Stand p l e R s m args below meth c T locs cells slots) (hx : p.tables.exec = Jvm.exec) {x : Int64} {y : Int32} (hd : decode c.code pc = .ok (.lshr, 1))  (k : OwnEnds p e below s C S Q T m pc' Ls (.long (x >>> (y &&& 0x3f).toInt64) :: st)) (hp : pc + 1 = pc' := by rfl) : OwnEnds p e below s C S Q T m pc Ls (.int y :: .long x :: st) := by
  subst hp
  exact OwnEnds.of (fun _ k => XS.lshr X.here hx (g := mkF m pc Ls (.int y :: .long x :: st)) rfl hd rfl k) k
theorem en_lushr (X : Stand p l e R s m args below meth c T locs cells slots) (hx : p.tables.exec = Jvm.exec) {x : Int64} {y : Int32} (hd : decode c.code pc = .ok (.lushr, 1))  (k : OwnEnds p e below s C S Q T m pc' Ls (.long ((x.toUInt64 >>> (y &&& 0x3f).toInt64.toUInt64).toInt64) :: st)) (hp : pc + 1 = pc' := by rfl) : OwnEnds p e below s C S Q T m pc Ls (.int y :: .long x :: st) := by
  subst hp
  exact OwnEnds.of (fun _ k => XS.lushr X.here hx (g := mkF m pc Ls (.int y :: .long x :: st)) rfl hd rfl k) k
theorem en_lcmp (X : Stand p l e R s m args below meth c T locs cells slots) (hx : p.tables.exec = Jvm.exec) {x y : Int64} (hd : decode c.code pc = .ok (.lcmp, 1))  (k : OwnEnds p e below s C S Q T m pc' Ls (.int (lcmpW x y) :: st)) (hp : pc + 1 = pc' := by rfl) : OwnEnds p e below s C S Q T m pc Ls (.long y :: .long x :: st) := by
  subst hp
  exact OwnEnds.of (fun _ k => XS.lcmp X.here hx (g := mkF m pc Ls (.long y :: .long x :: st)) rfl hd rfl k) k
theorem en_i2l (X : Stand p l e R s m args below meth c T locs cells slots) (hx : p.tables.exec = Jvm.exec) {x : Int32} (hd : decode c.code pc = .ok (.i2l, 1))  (k : OwnEnds p e below s C S Q T m pc' Ls (.long (x.toInt64) :: st)) (hp : pc + 1 = pc' := by rfl) : OwnEnds p e below s C S Q T m pc Ls (.int x :: st) := by
  subst hp
  exact OwnEnds.of (fun _ k => XS.i2l X.here hx (g := mkF m pc Ls (.int x :: st)) rfl hd rfl k) k
theorem en_l2i (X : Stand p l e R s m args below meth c T locs cells slots) (hx : p.tables.exec = Jvm.exec) {x : Int64} (hd : decode c.code pc = .ok (.l2i, 1))  (k : OwnEnds p e below s C S Q T m pc' Ls (.int (x.toInt32) :: st)) (hp : pc + 1 = pc' := by rfl) : OwnEnds p e below s C S Q T m pc Ls (.long x :: st) := by
  subst hp
  exact OwnEnds.of (fun _ k => XS.l2i X.here hx (g := mkF m pc Ls (.long x :: st)) rfl hd rfl k) k
theorem en_i2b (X : Stand p l e R s m args below meth c T locs cells slots) (hx : p.tables.exec = Jvm.exec) {x : Int32} (hd : decode c.code pc = .ok (.i2b, 1))  (k : OwnEnds p e below s C S Q T m pc' Ls (.int (x.toInt8.toInt32) :: st)) (hp : pc + 1 = pc' := by rfl) : OwnEnds p e below s C S Q T m pc Ls (.int x :: st) := by
  subst hp
  exact OwnEnds.of (fun _ k => XS.i2b X.here hx (g := mkF m pc Ls (.int x :: st)) rfl hd rfl k) k
theorem en_i2c (X : Stand p l e R s m args below meth c T locs cells slots) (hx : p.tables.exec = Jvm.exec) {x : Int32} (hd : decode c.code pc = .ok (.i2c, 1))  (k : OwnEnds p e below s C S Q T m pc' Ls (.int (x.toUInt32.toUInt16.toUInt32.toInt32) :: st)) (hp : pc + 1 = pc' := by rfl) : OwnEnds p e below s C S Q T m pc Ls (.int x :: st) := by
  subst hp
  exact OwnEnds.of (fun _ k => XS.i2c X.here hx (g := mkF m pc Ls (.int x :: st)) rfl hd rfl k) k
theorem en_i2s (X : Stand p l e R s m args below meth c T locs cells slots) (hx : p.tables.exec = Jvm.exec) {x : Int32} (hd : decode c.code pc = .ok (.i2s, 1))  (k : OwnEnds p e below s C S Q T m pc' Ls (.int (x.toInt16.toInt32) :: st)) (hp : pc + 1 = pc' := by rfl) : OwnEnds p e below s C S Q T m pc Ls (.int x :: st) := by
  subst hp
  exact OwnEnds.of (fun _ k => XS.i2s X.here hx (g := mkF m pc Ls (.int x :: st)) rfl hd rfl k) k
theorem en_ineg (X : Stand p l e R s m args below meth c T locs cells slots) (hx : p.tables.exec = Jvm.exec) {x : Int32} (hd : decode c.code pc = .ok (.ineg, 1))  (k : OwnEnds p e below s C S Q T m pc' Ls (.int (-x) :: st)) (hp : pc + 1 = pc' := by rfl) : OwnEnds p e below s C S Q T m pc Ls (.int x :: st) := by
  subst hp
  exact OwnEnds.of (fun _ k => XS.ineg X.here hx (g := mkF m pc Ls (.int x :: st)) rfl hd rfl k) k
theorem en_lneg (X : Stand p l e R s m args below meth c T locs cells slots) (hx : p.tables.exec = Jvm.exec) {x : Int64} (hd : decode c.code pc = .ok (.lneg, 1))  (k : OwnEnds p e below s C S Q T m pc' Ls (.long (-x) :: st)) (hp : pc + 1 = pc' := by rfl) : OwnEnds p e below s C S Q T m pc Ls (.long x :: st) := by
  subst hp
  exact OwnEnds.of (fun _ k => XS.lneg X.here hx (g := mkF m pc Ls (.long x :: st)) rfl hd rfl k) k
theorem en_idiv (X : Stand p l e R s m args below meth c T locs cells slots) (hx : p.tables.exec = Jvm.exec) {x y : Int32} (hd : decode c.code pc = .ok (.idiv, 1)) (hy : y ≠ 0) (k : OwnEnds p e below s C S Q T m pc' Ls (.int (x / y) :: st)) (hp : pc + 1 = pc' := by rfl) : OwnEnds p e below s C S Q T m pc Ls (.int y :: .int x :: st) := by
  subst hp
  exact OwnEnds.of (fun _ k => XS.idiv X.here hx (g := mkF m pc Ls (.int y :: .int x :: st)) rfl hd rfl hy k) k
theorem en_irem (X : Stand p l e R s m args below meth c T locs cells slots) (hx : p.tables.exec = Jvm.exec) {x y : Int32} (hd : decode c.code pc = .ok (.irem, 1)) (hy : y ≠ 0) (k : OwnEnds p e below s C S Q T m pc' Ls (.int (x % y) :: st)) (hp : pc + 1 = pc' := by rfl) : OwnEnds p e below s C S Q T m pc Ls (.int y :: .int x :: st) := by
  subst hp
  exact OwnEnds.of (fun _ k => iremM (g := mkF m pc Ls (.int y :: .int x :: st)) X hx rfl hd rfl hy k) k
theorem en_lrem (X : Stand p l e R s m args below meth c T locs cells slots) (hx : p.tables.exec = Jvm.exec) {x y : Int64} (hd : decode c.code pc = .ok (.lrem, 1)) (hy : y ≠ 0) (k : OwnEnds p e below s C S Q T m pc' Ls (.long (x % y) :: st)) (hp : pc + 1 = pc' := by rfl) : OwnEnds p e below s C S Q T m pc Ls (.long y :: .long x :: st) := by
  subst hp
  rw [← lrem_mod x y] at k
  exact OwnEnds.of (fun _ k => XS.lrem X.here hx (g := mkF m pc Ls (.long y :: .long x :: st)) rfl hd rfl hy k) k
theorem en_dup (X : Stand p l e R s m args below meth c T locs cells slots) (hx : p.tables.exec = Jvm.exec) {v : Value} (hd : decode c.code pc = .ok (.dup, 1)) (hc : v.category = 1) (k : OwnEnds p e below s C S Q T m pc' Ls (v :: v :: st)) (hp : pc + 1 = pc' := by rfl) : OwnEnds p e below s C S Q T m pc Ls (v :: st) := by
  subst hp
  exact OwnEnds.of (fun _ k => XS.dup X.here hx (g := mkF m pc Ls (v :: st)) rfl hd rfl hc k) k
theorem en_pop (X : Stand p l e R s m args below meth c T locs cells slots) (hx : p.tables.exec = Jvm.exec) {v : Value} (hd : decode c.code pc = .ok (.pop, 1)) (hc : v.category = 1) (k : OwnEnds p e below s C S Q T m pc' Ls st) (hp : pc + 1 = pc' := by rfl) : OwnEnds p e below s C S Q T m pc Ls (v :: st) := by
  subst hp
  exact OwnEnds.of (fun _ k => XS.pop X.here hx (g := mkF m pc Ls (v :: st)) rfl hd rfl hc k) k
theorem en_dupX1 (X : Stand p l e R s m args below meth c T locs cells slots) (hx : p.tables.exec = Jvm.exec) {v w : Value} (hd : decode c.code pc = .ok (.dup_x1, 1)) (hc : v.category = 1) (hc2 : w.category = 1) (k : OwnEnds p e below s C S Q T m pc' Ls (v :: w :: v :: st)) (hp : pc + 1 = pc' := by rfl) : OwnEnds p e below s C S Q T m pc Ls (v :: w :: st) := by
  subst hp
  exact OwnEnds.of (fun _ k => XS.dupX1 X.here hx (g := mkF m pc Ls (v :: w :: st)) rfl hd rfl hc hc2 k) k
theorem en_iinc (X : Stand p l e R s m args below meth c T locs cells slots) (hx : p.tables.exec = Jvm.exec) {k : Nat} {q : Int} {x : Int32} (hd : decode c.code pc = .ok (.iinc k q, 3)) (hl : Ls[k]? = some (.val (.int x))) (hl' : storeLocals Ls k (.int (x + Int32.ofInt q)) = some Ls') (k : OwnEnds p e below s C S Q T m pc' Ls' st) (hp : pc + 3 = pc' := by rfl) : OwnEnds p e below s C S Q T m pc Ls st := by
  subst hp
  exact OwnEnds.of (fun _ k => XS.iinc X.here hx (g := mkF m pc Ls st) rfl hd hl hl' k) k
theorem en_goto (X : Stand p l e R s m args below meth c T locs cells slots) (hx : p.tables.exec = Jvm.exec) {o : Int} (hd : decode c.code pc = .ok (.goto o, 3)) (k : OwnEnds p e below s C S Q T m pc' Ls st) (ho : 0 ≤ (pc : Int) + o := by decide) (hp : ((pc : Int) + o).toNat = pc' := by decide) : OwnEnds p e below s C S Q T m pc Ls st := by
  exact OwnEnds.of (fun _ k => XS.goto X.here hx (g := mkF m pc Ls st) rfl rfl hd ho hp k) k
theorem en_ifYes (X : Stand p l e R s m args below meth c T locs cells slots) (hx : p.tables.exec = Jvm.exec) {cd : ClassFile.Cond} {o : Int} {x : Int32} (hd : decode c.code pc = .ok (.ifCond cd o, 3)) (hc : ifCond.holds cd x = true) (k : OwnEnds p e below s C S Q T m pc' Ls st) (ho : 0 ≤ (pc : Int) + o := by decide) (hp : ((pc : Int) + o).toNat = pc' := by decide) : OwnEnds p e below s C S Q T m pc Ls (.int x :: st) := by
  exact OwnEnds.of (fun _ k => XS.ifYes X.here hx (g := mkF m pc Ls (.int x :: st)) rfl rfl hd rfl hc ho hp k) k
theorem en_ifNo (X : Stand p l e R s m args below meth c T locs cells slots) (hx : p.tables.exec = Jvm.exec) {cd : ClassFile.Cond} {o : Int} {x : Int32} (hd : decode c.code pc = .ok (.ifCond cd o, 3)) (hc : ifCond.holds cd x = false) (k : OwnEnds p e below s C S Q T m pc' Ls st) (hp : pc + 3 = pc' := by rfl) : OwnEnds p e below s C S Q T m pc Ls (.int x :: st) := by
  subst hp
  exact OwnEnds.of (fun _ k => XS.ifNo X.here hx (g := mkF m pc Ls (.int x :: st)) rfl hd rfl hc k) k
theorem en_icmpYes (X : Stand p l e R s m args below meth c T locs cells slots) (hx : p.tables.exec = Jvm.exec) {cd : ClassFile.Cond} {o : Int} {x y : Int32} (hd : decode c.code pc = .ok (.if_icmp cd o, 3)) (hc : if_icmp.holds cd x y = true) (k : OwnEnds p e below s C S Q T m pc' Ls st) (ho : 0 ≤ (pc : Int) + o := by decide) (hp : ((pc : Int) + o).toNat = pc' := by decide) : OwnEnds p e below s C S Q T m pc Ls (.int y :: .int x :: st) := by
  exact OwnEnds.of (fun _ k => XS.icmpYes X.here hx (g := mkF m pc Ls (.int y :: .int x :: st)) rfl rfl hd rfl hc ho hp k) k
theorem en_icmpNo (X : Stand p l e R s m args below meth c T locs cells slots) (hx : p.tables.exec = Jvm.exec) {cd : ClassFile.Cond} {o : Int} {x y : Int32} (hd : decode c.code pc = .ok (.if_icmp cd o, 3)) (hc : if_icmp.holds cd x y = false) (k : OwnEnds p e below s C S Q T m pc' Ls st) (hp : pc + 3 = pc' := by rfl) : OwnEnds p e below s C S Q T m pc Ls (.int y :: .int x :: st) := by
  subst hp
  exact OwnEnds.of (fun _ k => XS.icmpNo X.here hx (g := mkF m pc Ls (.int y :: .int x :: st)) rfl hd rfl hc k) k
theorem wlt {x y : Int64} (h : x < y) : ifCond.holds .lt (lcmpW x y) = true ∧ ifCond.holds .ge (lcmpW x y) = false := by
  have q := (lw_lt x y).mpr h
  exact ⟨(if0 _ _).trans (tlt q).1, (if0 _ _).trans (tlt q).2.1⟩
theorem nwlt {x y : Int64} (h : ¬ x < y) : ifCond.holds .lt (lcmpW x y) = false ∧ ifCond.holds .ge (lcmpW x y) = true := by
  have q : ¬ lcmpW x y < 0 := fun z => h ((lw_lt x y).mp z)
  exact ⟨(if0 _ _).trans (flt q).1, (if0 _ _).trans (flt q).2.1⟩
theorem wgt {x y : Int64} (h : y < x) : ifCond.holds .gt (lcmpW x y) = true ∧ ifCond.holds .le (lcmpW x y) = false := by
  have q := (lw_gt x y).mpr h
  exact ⟨(if0 _ _).trans (tlt q).2.2.1, (if0 _ _).trans (tlt q).2.2.2⟩
theorem nwgt {x y : Int64} (h : ¬ y < x) : ifCond.holds .gt (lcmpW x y) = false ∧ ifCond.holds .le (lcmpW x y) = true := by
  have q : ¬ 0 < lcmpW x y := fun z => h ((lw_gt x y).mp z)
  exact ⟨(if0 _ _).trans (flt q).2.2.1, (if0 _ _).trans (flt q).2.2.2⟩
theorem weq {x y : Int64} (h : x = y) : ifCond.holds .eq (lcmpW x y) = true ∧ ifCond.holds .ne (lcmpW x y) = false := by
  have q := (lw_eq x y).mpr h
  exact ⟨(if0 _ _).trans (teq q).1, (if0 _ _).trans (teq q).2⟩
theorem nweq {x y : Int64} (h : ¬ x = y) : ifCond.holds .eq (lcmpW x y) = false ∧ ifCond.holds .ne (lcmpW x y) = true := by
  have q : ¬ lcmpW x y = 0 := fun z => h ((lw_eq x y).mp z)
  exact ⟨(if0 _ _).trans (feq q).1, (if0 _ _).trans (feq q).2⟩
theorem en_ret {t : FieldType} {w : Value} {i : Instr} (X : Stand p l e R s m args below meth c T locs cells slots) (hx : p.tables.exec = Jvm.exec) (hret : meth.sig.returnType = some t) (hlk : meth.locks = false) (hd : decode c.code pc = .ok (i, 1)) (hn : narrow t w = w)
    (hi : (i = .ireturn ∧ (t = .int ∨ t = .boolean ∨ t = .byte ∨ t = .char ∨ t = .short) ∧ ∃ z, w = .int z) ∨ (i = .lreturn ∧ t = .long ∧ ∃ z, w = .long z) ∨ (i = .dreturn ∧ t = .double ∧ ∃ z, w = .double z) ∨ (i = .freturn ∧ t = .float ∧ ∃ z, w = .float z) ∨ (i = .areturn ∧ t.isReference = true ∧ w.isRef = true))
    (hc : cells ≤ C) (hs : slots ≤ S) (hq : Q (some w) T.heap locs) : OwnEnds p e below s C S Q T m pc Ls (w :: st) := by
  obtain ⟨fs, hr, hrun, hended, hW, hsame⟩ := X.leave (v := some w) (fun q => by rw [hret] at q; cases q) hlk
  exact ⟨_, _, retOut X hx hret hn hi hd hr, hrun, hended, _, _, rfl, hq, ⟨_, rfl⟩, hW, hsame.mono hc hs⟩
theorem en_retI {z : Int32} (X : Stand p l e R s m args below meth c T locs cells slots) (hx : p.tables.exec = Jvm.exec) (hret : meth.sig.returnType = some .int) (hlk : meth.locks = false) (hd : decode c.code pc = .ok (.ireturn, 1)) (hc : cells ≤ C) (hs : slots ≤ S) (hq : Q (some (.int z)) T.heap locs) : OwnEnds p e below s C S Q T m pc Ls (.int z :: st) :=
  en_ret X hx hret hlk hd rfl (Or.inl ⟨rfl, Or.inl rfl, _, rfl⟩) hc hs hq
theorem en_retZ {z : Int32} (X : Stand p l e R s m args below meth c T locs cells slots) (hx : p.tables.exec = Jvm.exec) (hret : meth.sig.returnType = some .boolean) (hlk : meth.locks = false) (hd : decode c.code pc = .ok (.ireturn, 1)) (hn : narrow .boolean (.int z) = .int z) (hc : cells ≤ C) (hs : slots ≤ S) (hq : Q (some (.int z)) T.heap locs) : OwnEnds p e below s C S Q T m pc Ls (.int z :: st) :=
  en_ret X hx hret hlk hd hn (Or.inl ⟨rfl, Or.inr (Or.inl rfl), _, rfl⟩) hc hs hq
theorem en_retL {z : Int64} (X : Stand p l e R s m args below meth c T locs cells slots) (hx : p.tables.exec = Jvm.exec) (hret : meth.sig.returnType = some .long) (hlk : meth.locks = false) (hd : decode c.code pc = .ok (.lreturn, 1)) (hc : cells ≤ C) (hs : slots ≤ S) (hq : Q (some (.long z)) T.heap locs) : OwnEnds p e below s C S Q T m pc Ls (.long z :: st) :=
  en_ret X hx hret hlk hd rfl (Or.inr (Or.inl ⟨rfl, rfl, _, rfl⟩)) hc hs hq
theorem en_retA {a : Addr} {t : FieldType} (X : Stand p l e R s m args below meth c T locs cells slots) (hx : p.tables.exec = Jvm.exec) (hret : meth.sig.returnType = some t) (ht : t.isReference = true) (hn : narrow t (.ref a) = .ref a) (hlk : meth.locks = false) (hd : decode c.code pc = .ok (.areturn, 1)) (hc : cells ≤ C) (hs : slots ≤ S) (hq : Q (some (.ref a)) T.heap locs) : OwnEnds p e below s C S Q T m pc Ls (.ref a :: st) :=
  en_ret X hx hret hlk hd hn (Or.inr (Or.inr (Or.inr (Or.inr ⟨rfl, ht, rfl⟩)))) hc hs hq
theorem en_ret0 (X : Stand p l e R s m args below meth c T locs cells slots) (hx : p.tables.exec = Jvm.exec) (hret : meth.sig.returnType = none) (hlk : meth.locks = false) (hd : decode c.code pc = .ok (.return_, 1)) (hc : cells ≤ C) (hs : slots ≤ S) (hq : Q none T.heap locs) : OwnEnds p e below s C S Q T m pc Ls [] := by
  obtain ⟨fs, hr, hrun, hended, hW, hsame⟩ := X.leave (v := none) (fun _ => rfl) hlk
  exact ⟨_, _, X.returnOut hx hret hd hr, hrun, hended, _, _, rfl, hq, ⟨_, rfl⟩, hW, hsame.mono hc hs⟩
theorem en_getF (X : Stand p l e R s m args below meth c T locs cells slots) (hx : p.tables.exec = Jvm.exec) (hZ : Z.Warmed39 s.vm) {own R0 O n d host : String} {index : Nat} (hown : s.vm.findClass own = some m.cls) (w : (Jvm.Cond.fieldLink own index R0 n d).before a0 Z = true ∨ (Jvm.Cond.fieldLinkNest own index R0 n d host).before a0 Z = true) (via : Via Z R0 O n d) (eT : T.heap = h) {a : Addr} {v : Value} (F : Fld Z h a O n d v) (hd : decode c.code pc = .ok (.getfield index, 3)) (k : ∀ T', Stand p l e R s m args below meth c T' locs cells slots → T'.heap = h → OwnEnds p e below s C S Q T' m pc' Ls (v :: st)) (hp : pc + 3 = pc' := by rfl) : OwnEnds p e below s C S Q T m pc Ls (.ref a :: st) := by
  subst hp
  obtain ⟨T', X', e', st'⟩ := getF X hx hZ hown w via eT F (g := mkF m pc Ls (.ref a :: st)) rfl rfl hd
  exact OwnEnds.of st' (k T' X' e')
theorem en_getS (X : Stand p l e R s m args below meth c T locs cells slots) (hx : p.tables.exec = Jvm.exec) (hZ : Z.Warmed39 s.vm) {own R0 O n d host : String} {index : Nat} (hown : s.vm.findClass own = some m.cls) (w : (Jvm.Cond.fieldLink own index R0 n d).before a0 Z = true ∨ (Jvm.Cond.fieldLinkNest own index R0 n d host).before a0 Z = true) (via : Via Z R0 O n d) (eT : T.heap = h) {v : Value} (F : Sta Z h O n d v) (hd : decode c.code pc = .ok (.getstatic index, 3)) (k : ∀ T', Stand p l e R s m args below meth c T' locs cells slots → T'.heap = h → OwnEnds p e below s C S Q T' m pc' Ls (v :: st)) (hp : pc + 3 = pc' := by rfl) : OwnEnds p e below s C S Q T m pc Ls st := by
  subst hp
  obtain ⟨T', X', e', st'⟩ := getS2 X hx hZ hown w via eT F (g := mkF m pc Ls st) rfl hd
  exact OwnEnds.of st' (k T' X' e')
theorem en_putF (X : Stand p l e R s m args below meth c T locs cells slots) (hx : p.tables.exec = Jvm.exec) (hZ : Z.Warmed39 s.vm) {own R0 O n d host K : String} {index kk : Nat} {ty : FieldType} (hown : s.vm.findClass own = some m.cls) (w : (Jvm.Cond.fieldLink own index R0 n d).before a0 Z = true ∨ (Jvm.Cond.fieldLinkNest own index R0 n d host).before a0 Z = true) (via : Via Z R0 O n d) (eT : T.heap = h) {a : Addr} {v old : Value} (F : Fld Z h a O n d old) (E : Exa Z h a K) (L : (Jvm.Cond.lays K O n d).before a0 Z = true ∨ ((Jvm.Cond.laysFinal K O n d).before a0 Z = true ∧ own = O ∧ meth.name = "<init>")) (wi : (Jvm.Cond.instantiable K kk).before a0 Z = true) (hty : parseFieldDescriptor d = some ty) (hn : narrow ty v = v) (hf : fits ty v = true) (hd : decode c.code pc = .ok (.putfield index, 3))
    (k : ∀ T' h', Stand p l e R s m args below meth c T' (locs ++ [⟨a, Jvm.RoadKit.slotOf Z O n d⟩]) cells slots → T'.heap = h' → Wr h h' a (Jvm.RoadKit.slotOf Z O n d) v → OwnEnds p e below s C S Q T' m pc' Ls st) (hp : pc + 3 = pc' := by rfl) : OwnEnds p e below s C S Q T m pc Ls (v :: .ref a :: st) := by
  subst hp
  obtain ⟨T', h', X', e', W', st'⟩ := putF X hx hZ hown w via eT F E L wi hty hn hf (g := mkF m pc Ls (v :: .ref a :: st)) rfl rfl hd
  exact OwnEnds.of st' (k T' h' X' e' W')
theorem en_newO (X : Stand p l e R s m args below meth c T locs cells slots) (hx : p.tables.exec = Jvm.exec) (hZ : Z.Warmed39 s.vm) {own K : String} {index n : Nat} (hown : s.vm.findClass own = some m.cls) (w : (Jvm.Cond.classLink own index K).before a0 Z = true) (wi : (Jvm.Cond.instantiable K n).before a0 Z = true) (wz : (Jvm.Cond.initialized K).before a0 Z = true) (eT : T.heap = h) (hd : decode c.code pc = .ok (.new index, 3)) (hc : cells + 1 ≤ R.cells) (hl : slots + n ≤ R.slots)
    (k : ∀ T' h' a, a = h.size → Stand p l e R s m args below meth c T' locs (cells + 1) (slots + n) → T'.heap = h' → Ext h h' → Exa Z h' a K → (∀ {O nm d : String} {ty : FieldType}, Laid Z a0 K O nm d → parseFieldDescriptor d = some ty → Fld Z h' a O nm d (defaultValue ty)) → OwnEnds p e below s C S Q T' m pc' Ls (.ref a :: st)) (hp : pc + 3 = pc' := by rfl) : OwnEnds p e below s C S Q T m pc Ls st := by
  subst hp
  obtain ⟨T', h', X', e', E', A', D', -, st'⟩ := newO X hx hZ hown w wi wz eT (g := mkF m pc Ls st) rfl hd hc hl
  exact OwnEnds.of st' (k T' h' _ rfl X' e' E' A' D')
theorem en_newP (X : Stand p l e R s m args below meth c T locs cells slots) (hx : p.tables.exec = Jvm.exec) (hZ : Z.Warmed39 s.vm) {aty : ArrayType} (w : (Jvm.Cond.arrayClass (newarray.typeOf aty)).before a0 Z = true) (eT : T.heap = h) (hd : decode c.code pc = .ok (.newarray aty, 2)) {n : Int32} (hn : ¬ n < 0) (cap : Nat) (hcap : n.toNatClampNeg ≤ cap) (hb : cap * 8 ≤ 536870912) (hc : cells + 1 ≤ R.cells) (hl : slots + cap ≤ R.slots)
    (k : ∀ T' h' a kA, a = h.size → Stand p l e R s m args below meth c T' locs (cells + 1) (slots + cap) → T'.heap = h' → Ext h h' → Arv Z h' a kA (newarray.typeOf aty) n [] (defaultValue (newarray.typeOf aty)) → OwnEnds p e below s C S Q T' m pc' Ls (.ref a :: st)) (hp : pc + 2 = pc' := by rfl) : OwnEnds p e below s C S Q T m pc Ls (.int n :: st) := by
  subst hp
  obtain ⟨T', h', kA, X', e', E', A', st'⟩ := newP X hx hZ w eT (g := mkF m pc Ls (.int n :: st)) rfl hd rfl hn hcap hb hc hl
  exact OwnEnds.of st' (k T' h' _ kA rfl X' e' E' (Arv.new A' hn))
theorem en_initO (X : Stand p l e R s m args below meth c T locs cells slots) (hx : p.tables.exec = Jvm.exec) (hZ : Z.Warmed39 s.vm) {own : String} {idx : Nat} (hown : s.vm.findClass own = some m.cls) (w1 : (Jvm.Cond.methodLink own idx Lib.objectInit).before a0 Z = true) (w2 : (Jvm.Cond.instanceMethod Lib.objectInit).before a0 Z = true) (w3 : (Jvm.Cond.code Lib.objectInit Lib.objCode 1 none).before a0 Z = true) (eT : T.heap = h) (hsize : Ls.size = c.maxLocals) {a : Addr} (hd : decode c.code pc = .ok (.invokespecial idx, 3)) (hf : 1 ≤ R.frames) (W : Nat) (hW : (st.map fun v => v.category).sum = W) (hl : W + 12 ≤ R.locals) (k : ∀ T', Stand p l e R s m args below meth c T' locs cells slots → T'.heap = h → OwnEnds p e below s C S Q T' m pc' Ls st) (hp : pc + 3 = pc' := by rfl) : OwnEnds p e below s C S Q T m pc Ls (.ref a :: st) := by
  subst hp
  obtain ⟨T', X', e', st'⟩ := initO X hx hZ hown w1 w2 w3 eT (g := mkF m pc Ls (.ref a :: st)) rfl hsize rfl hd hf (W := W) (by show 2 * 0 + _ ≤ _; rw [hW]; omega) hl
  exact OwnEnds.of st' (k T' X' e')
theorem en_iaload (X : Stand p l e R s m args below meth c T locs cells slots) (hx : p.tables.exec = Jvm.exec) (hZ : Z.Warmed39 s.vm) (eT : T.heap = h) {a : Addr} {kA : ClassId} {n j : Int32} {vs : List Value} {dv : Value} (V : Arv Z h a kA .int n vs dv) (hj : ¬ j < 0 ∧ j < n) {x : Int32} (hv : vs.getD j.toNatClampNeg dv = .int x) (hd : decode c.code pc = .ok (.iaload, 1)) (k : OwnEnds p e below s C S Q T m pc' Ls (.int x :: st)) (hp : pc + 1 = pc' := by rfl) : OwnEnds p e below s C S Q T m pc Ls (.int j :: .ref a :: st) := by
  subst hp
  obtain ⟨cl, Ar, -, Sz, -, Hs, -⟩ := V
  have hin := inb_of Sz hj
  exact OwnEnds.of (X.iaload hx (by rw [eT]; exact Ar.1) (State.isArrayOf_alike hZ.alike Ar.2.1) Ar.2.2 hin (Hs.at hin hv) (g := mkF m pc Ls (.int j :: .ref a :: st)) rfl rfl hd) k
theorem en_laload (X : Stand p l e R s m args below meth c T locs cells slots) (hx : p.tables.exec = Jvm.exec) (hZ : Z.Warmed39 s.vm) (eT : T.heap = h) {a : Addr} {kA : ClassId} {n j : Int32} {vs : List Value} {dv : Value} (V : Arv Z h a kA .long n vs dv) (hj : ¬ j < 0 ∧ j < n) {x : Int64} (hv : vs.getD j.toNatClampNeg dv = .long x) (hd : decode c.code pc = .ok (.laload, 1)) (k : OwnEnds p e below s C S Q T m pc' Ls (.long x :: st)) (hp : pc + 1 = pc' := by rfl) : OwnEnds p e below s C S Q T m pc Ls (.int j :: .ref a :: st) := by
  subst hp
  obtain ⟨cl, Ar, -, Sz, -, Hs, -⟩ := V
  have hin := inb_of Sz hj
  exact OwnEnds.of (X.laload hx (by rw [eT]; exact Ar.1) (State.isArrayOf_alike hZ.alike Ar.2.1) Ar.2.2 hin (Hs.at hin hv) (g := mkF m pc Ls (.int j :: .ref a :: st)) rfl rfl hd) k
theorem en_len (X : Stand p l e R s m args below meth c T locs cells slots) (hx : p.tables.exec = Jvm.exec) (hZ : Z.Warmed39 s.vm) (eT : T.heap = h) {a : Addr} {kA : ClassId} {ty : FieldType} {n : Int32} {vs : List Value} {dv : Value} (V : Arv Z h a kA ty n vs dv) (hd : decode c.code pc = .ok (.arraylength, 1)) (k : OwnEnds p e below s C S Q T m pc' Ls (.int n :: st)) (hp : pc + 1 = pc' := by rfl) : OwnEnds p e below s C S Q T m pc Ls (.ref a :: st) := by
  subst hp
  obtain ⟨cl, Ar, -, Sz, Nn, -⟩ := V
  rw [← len_of Sz Nn] at k
  exact OwnEnds.of (X.arraylength hx (by rw [eT]; exact Ar.1) (State.isArrayOf_alike hZ.alike Ar.2.1) (g := mkF m pc Ls (.ref a :: st)) rfl rfl hd) k
theorem en_iastore (X : Stand p l e R s m args below meth c T locs cells slots) (hx : p.tables.exec = Jvm.exec) (hZ : Z.Warmed39 s.vm) (eT : T.heap = h) {a : Addr} {kA : ClassId} {n j : Int32} {x : Int32} {vs : List Value} {dv : Value} (V : Arv Z h a kA .int n vs dv) (hj : ¬ j < 0 ∧ j < n) (i : Nat) (hi : j.toNatClampNeg = i) (hil : i < vs.length) (hd : decode c.code pc = .ok (.iastore, 1))
    (k : ∀ T' h', Stand p l e R s m args below meth c T' (locs ++ [⟨a, j.toNatClampNeg⟩]) cells slots → T'.heap = h' → Wr h h' a j.toNatClampNeg (.int x) → Arv Z h' a kA .int n (vs.set i (.int x)) dv → OwnEnds p e below s C S Q T' m pc' Ls st) (hp : pc + 1 = pc' := by rfl) : OwnEnds p e below s C S Q T m pc Ls (.int x :: .int j :: .ref a :: st) := by
  subst hp
  obtain ⟨cl, Ar, q1, Sz, Nn, Hs, G⟩ := V
  have hin := inb_of Sz hj
  obtain ⟨T', h', X', e', W', st'⟩ := stI X hx hZ eT Ar hin (g := mkF m pc Ls (.int x :: .int j :: .ref a :: st)) rfl rfl hd
  exact OwnEnds.of st' (k T' h' X' e' W' (Arv.set Ar q1 Sz Nn Hs G rfl W' i hi hil))
theorem en_lastore (X : Stand p l e R s m args below meth c T locs cells slots) (hx : p.tables.exec = Jvm.exec) (hZ : Z.Warmed39 s.vm) (eT : T.heap = h) {a : Addr} {kA : ClassId} {n j : Int32} {x : Int64} {vs : List Value} {dv : Value} (V : Arv Z h a kA .long n vs dv) (hj : ¬ j < 0 ∧ j < n) (i : Nat) (hi : j.toNatClampNeg = i) (hil : i < vs.length) (hd : decode c.code pc = .ok (.lastore, 1))
    (k : ∀ T' h', Stand p l e R s m args below meth c T' (locs ++ [⟨a, j.toNatClampNeg⟩]) cells slots → T'.heap = h' → Wr h h' a j.toNatClampNeg (.long x) → Arv Z h' a kA .long n (vs.set i (.long x)) dv → OwnEnds p e below s C S Q T' m pc' Ls st) (hp : pc + 1 = pc' := by rfl) : OwnEnds p e below s C S Q T m pc Ls (.long x :: .int j :: .ref a :: st) := by
  subst hp
  obtain ⟨cl, Ar, q1, Sz, Nn, Hs, G⟩ := V
  have hin := inb_of Sz hj
  obtain ⟨T', h', X', e', W', st'⟩ := stJ X hx hZ eT Ar hin (g := mkF m pc Ls (.long x :: .int j :: .ref a :: st)) rfl rfl hd
  exact OwnEnds.of st' (k T' h' X' e' W' (Arv.set Ar q1 Sz Nn Hs G rfl W' i hi hil))
theorem en_callS (X : Stand p l e R s m args below meth c T locs cells slots) (hx : p.tables.exec = Jvm.exec) (hZ : Z.Warmed39 s.vm) {y : MethodName} {bytes : ByteArray} {maxL : Nat} {ret : Option FieldType} {rm : Room} {Qc : Option Value → Heap → List Loc → Prop} {argsL : List Value}  {own : String} {index : Nat} (hown : s.vm.findClass own = some m.cls) (w1 : (Jvm.Cond.methodLink own index y).before a0 Z = true) (w2 : (Jvm.Cond.static y).before a0 Z = true) (wz : (Jvm.Cond.initialized y.cls).before a0 Z = true) (wc : (Jvm.Cond.code y bytes maxL ret).before a0 Z = true) (hy : y.cls ≠ "java/lang/invoke/MethodHandle" ∧ y.cls ≠ "java/lang/invoke/VarHandle") (hM : OwnMeets l Z y bytes maxL ret [] rm argsL.toArray h Qc) (eT : T.heap = h) (hf : rm.frames + 1 ≤ R.frames) (W : Nat) (hW : (rest.map fun v => v.category).sum = W) (hl : W + (maxL + 11) + rm.locals ≤ R.locals) (hcl : cells + rm.cells ≤ R.cells) (hsl : slots + rm.slots ≤ R.slots) (hsz : Ls.size = c.maxLocals) (hlen : ∀ sig, parseMethodDescriptor y.desc = some sig → argsL.length = sig.parameters.length) (hst : st = argsL.reverse ++ rest) (hd : decode c.code pc = .ok (.invokestatic index, 3)) (k : ∀ v T' L, Stand p l e R s m args below meth c T' (locs ++ L) (cells + rm.cells) (slots + rm.slots) → Qc v T'.heap L → OwnEnds p e below s C S Q T' m pc' Ls (v.toList ++ rest)) (hp : pc + 3 = pc' := by rfl) : OwnEnds p e below s C S Q T m pc Ls st := by
  subst hp hst
  obtain ⟨v, vm', ⟨T', L', k', n'⟩, -, X', ⟨Lc, hQ, l1, l2, l3⟩, st'⟩ := Jvm.LawKit.callS X hx (y := y) hown (mvT hZ w1) (mvT hZ w2) (mvT hZ wz) (mvT hZ wc) hy (backOf (W := W) hM hZ wc wz hf hl)  (g := mkF m pc Ls (argsL.reverse ++ rest)) rfl hsz  (argsL := argsL) (rest := rest) hlen rfl (by show 2 * 0 + _ ≤ _; rw [hW]; omega) hd (fun _ _ => ⟨rfl, eT, hcl, hsl⟩)
  dsimp only [Pt.U, Pt.locs, Pt.cells, Pt.slots] at X' l1 l2 l3 st' hQ
  subst l1 l2 l3
  exact OwnEnds.of st' (k v T' Lc X' hQ)
theorem en_callN (X : Stand p l e R s m args below meth c T locs cells slots) (hx : p.tables.exec = Jvm.exec) (hZ : Z.Warmed39 s.vm) {y : MethodName} {bytes : ByteArray} {maxL : Nat} {rm : Room} {Qc : Option Value → Heap → List Loc → Prop} {argsL : List Value} {a : Addr}  {own : String} {index : Nat} (hown : s.vm.findClass own = some m.cls) (hin : y.name = "<init>") (w1 : (Jvm.Cond.methodLink own index y).before a0 Z = true) (w2 : (Jvm.Cond.instanceMethod y).before a0 Z = true) (wz : (Jvm.Cond.initialized y.cls).before a0 Z = true) (wc : (Jvm.Cond.code y bytes maxL none).before a0 Z = true) (hy : y.cls ≠ "java/lang/invoke/MethodHandle" ∧ y.cls ≠ "java/lang/invoke/VarHandle") (hM : OwnMeets l Z y bytes maxL none [] rm (.ref a :: argsL).toArray h Qc) (eT : T.heap = h) (hf : rm.frames + 1 ≤ R.frames) (W : Nat) (hW : (rest.map fun v => v.category).sum = W) (hl : W + (maxL + 11) + rm.locals ≤ R.locals) (hcl : cells + rm.cells ≤ R.cells) (hsl : slots + rm.slots ≤ R.slots) (hsz : Ls.size = c.maxLocals) (hlen : ∀ sig, parseMethodDescriptor y.desc = some sig → argsL.length = sig.parameters.length) (hst : st = argsL.reverse ++ .ref a :: rest) (hd : decode c.code pc = .ok (.invokespecial index, 3)) (k : ∀ v T' L, Stand p l e R s m args below meth c T' (locs ++ L) (cells + rm.cells) (slots + rm.slots) → Qc v T'.heap L → OwnEnds p e below s C S Q T' m pc' Ls (v.toList ++ rest)) (hp : pc + 3 = pc' := by rfl) : OwnEnds p e below s C S Q T m pc Ls st := by
  subst hp hst
  obtain ⟨v, vm', ⟨T', L', k', n'⟩, -, X', ⟨Lc, hQ, l1, l2, l3⟩, st'⟩ := X.specialBack hx (y := y) hin hown (mvT hZ w1) (mvT hZ w2) (mvT hZ wc) hy (backOf (W := W) hM hZ wc wz hf hl)  (g := mkF m pc Ls (argsL.reverse ++ .ref a :: rest)) rfl hsz (Steps.refl _) (a := a) (argsL := argsL) (rest := rest) hlen rfl (by show 2 * 0 + _ ≤ _; rw [hW]; omega) hd (fun _ _ => ⟨rfl, eT, hcl, hsl⟩)
  dsimp only [Pt.U, Pt.locs, Pt.cells, Pt.slots] at X' l1 l2 l3 st' hQ
  subst l1 l2 l3
  exact OwnEnds.of (fun _ k => st'.trans k) (k v T' Lc X' hQ)
theorem en_callV (X : Stand p l e R s m args below meth c T locs cells slots) (hx : p.tables.exec = Jvm.exec) (hZ : Z.Warmed39 s.vm) {y : MethodName} {bytes : ByteArray} {maxL : Nat} {ret : Option FieldType} {rm : Room} {Qc : Option Value → Heap → List Loc → Prop} {argsL : List Value} {a : Addr} {z : MethodName} {K : String} {own : String} {index : Nat} (hown : s.vm.findClass own = some m.cls) (w1 : (Jvm.Cond.methodLink own index y).before a0 Z = true) (w2 : (Jvm.Cond.declares y).before a0 Z = true) (nf : NotFace s y) (w3 : (Jvm.Cond.selects K y z).before a0 Z = true) (w4 : (Jvm.Cond.instanceMethod z).before a0 Z = true) (wz : (Jvm.Cond.initialized z.cls).before a0 Z = true) (wc : (Jvm.Cond.code z bytes maxL ret).before a0 Z = true) (Ex : Exa Z h a K) (hy : y.cls ≠ "java/lang/invoke/MethodHandle" ∧ y.cls ≠ "java/lang/invoke/VarHandle") (hM : OwnMeets l Z z bytes maxL ret [] rm (.ref a :: argsL).toArray h Qc) (eT : T.heap = h) (hf : rm.frames + 1 ≤ R.frames) (W : Nat) (hW : (rest.map fun v => v.category).sum = W) (hl : W + (maxL + 11) + rm.locals ≤ R.locals) (hcl : cells + rm.cells ≤ R.cells) (hsl : slots + rm.slots ≤ R.slots) (hsz : Ls.size = c.maxLocals) (hlen : ∀ sig, parseMethodDescriptor y.desc = some sig → argsL.length = sig.parameters.length) (hst : st = argsL.reverse ++ .ref a :: rest) (hd : decode c.code pc = .ok (.invokevirtual index, 3)) (k : ∀ v T' L, Stand p l e R s m args below meth c T' (locs ++ L) (cells + rm.cells) (slots + rm.slots) → Qc v T'.heap L → OwnEnds p e below s C S Q T' m pc' Ls (v.toList ++ rest)) (hp : pc + 3 = pc' := by rfl) : OwnEnds p e below s C S Q T m pc Ls st := by
  subst hp hst
  obtain ⟨cq, kq, qa, qb, qc⟩ := isOf hZ eT Ex
  obtain ⟨v, vm', ⟨T', L', k', n'⟩, -, X', ⟨Lc, hQ, l1, l2, l3⟩, st'⟩ := X.virtualBack hx (y := y) (z := z) hown (mvT hZ w1) (mvT hZ w2) nf (mvT hZ w3) (mvT hZ w4) hy (backOf (W := W) hM hZ wc wz hf hl) qa qc (g := mkF m pc Ls (argsL.reverse ++ .ref a :: rest)) rfl hsz (Steps.refl _) (argsL := argsL) (rest := rest) hlen rfl (by show 2 * 0 + _ ≤ _; rw [hW]; omega) hd (fun _ _ => ⟨rfl, eT, hcl, hsl⟩)
  dsimp only [Pt.U, Pt.locs, Pt.cells, Pt.slots] at X' l1 l2 l3 st' hQ
  subst l1 l2 l3
  exact OwnEnds.of (fun _ k => st'.trans k) (k v T' Lc X' hQ)
theorem en_callU (X : Stand p l e R s m args below meth c T locs cells slots) (hx : p.tables.exec = Jvm.exec) (hZ : Z.Warmed39 s.vm) {y : MethodName} {bytes : ByteArray} {maxL : Nat} {ret : Option FieldType} {rm : Room} {Qc : Option Value → Heap → List Loc → Prop} {argsL : List Value} {a : Addr} {z : MethodName} {K owner : String} {own : String} {index : Nat} (hown : s.vm.findClass own = some m.cls) (w1 : (Jvm.Cond.methodLink own index y).before a0 Z = true) (w2 : (Jvm.Cond.sameMethod y.cls owner y.name y.desc).before a0 Z = true) (w2' : (Jvm.Cond.declares ⟨owner, y.name, y.desc⟩).before a0 Z = true) (w3 : (Jvm.Cond.selects K y z).before a0 Z = true) (w4 : (Jvm.Cond.instanceMethod z).before a0 Z = true) (wz : (Jvm.Cond.initialized z.cls).before a0 Z = true) (wc : (Jvm.Cond.code z bytes maxL ret).before a0 Z = true) (Ex : Exa Z h a K) (hy : owner ≠ "java/lang/invoke/MethodHandle" ∧ owner ≠ "java/lang/invoke/VarHandle") (hM : OwnMeets l Z z bytes maxL ret [] rm (.ref a :: argsL).toArray h Qc) (eT : T.heap = h) (hf : rm.frames + 1 ≤ R.frames) (W : Nat) (hW : (rest.map fun v => v.category).sum = W) (hl : W + (maxL + 11) + rm.locals ≤ R.locals) (hcl : cells + rm.cells ≤ R.cells) (hsl : slots + rm.slots ≤ R.slots) (hsz : Ls.size = c.maxLocals) (hlen : ∀ sig, parseMethodDescriptor y.desc = some sig → argsL.length = sig.parameters.length) (hst : st = argsL.reverse ++ .ref a :: rest) (hd : decode c.code pc = .ok (.invokevirtual index, 3)) (k : ∀ v T' L, Stand p l e R s m args below meth c T' (locs ++ L) (cells + rm.cells) (slots + rm.slots) → Qc v T'.heap L → OwnEnds p e below s C S Q T' m pc' Ls (v.toList ++ rest)) (hp : pc + 3 = pc' := by rfl) : OwnEnds p e below s C S Q T m pc Ls st := by
  subst hp hst
  obtain ⟨cq, kq, qa, qb, qc⟩ := isOf hZ eT Ex
  obtain ⟨v, vm', ⟨T', L', k', n'⟩, -, X', ⟨Lc, hQ, l1, l2, l3⟩, st'⟩ := X.virtualBackUp hx (owner := owner) (x := y) (y := z) hown (mvT hZ w1) (mvT hZ w2) (mvT hZ w2') hy (mvT hZ w3) (mvT hZ w4) (backOf (W := W) hM hZ wc wz hf hl) qa qc (g := mkF m pc Ls (argsL.reverse ++ .ref a :: rest)) rfl hsz (Steps.refl _) (argsL := argsL) (rest := rest) hlen rfl (by show 2 * 0 + _ ≤ _; rw [hW]; omega) hd (fun _ _ => ⟨rfl, eT, hcl, hsl⟩)
  dsimp only [Pt.U, Pt.locs, Pt.cells, Pt.slots] at X' l1 l2 l3 st' hQ
  subst l1 l2 l3
  exact OwnEnds.of (fun _ k => st'.trans k) (k v T' Lc X' hQ)
theorem en_callI (X : Stand p l e R s m args below meth c T locs cells slots) (hx : p.tables.exec = Jvm.exec) (hZ : Z.Warmed39 s.vm) {y : MethodName} {bytes : ByteArray} {maxL : Nat} {ret : Option FieldType} {rm : Room} {Qc : Option Value → Heap → List Loc → Prop} {argsL : List Value} {a : Addr} {z : MethodName} {K : String} {own : String} {index count : Nat} (hown : s.vm.findClass own = some m.cls) (w1 : (Jvm.Cond.methodLink own index y).before a0 Z = true) (w2 : (Jvm.Cond.declares y).before a0 Z = true) (w3 : (Jvm.Cond.interfaceMethod y.cls y.cls y.name y.desc).before args s = true) (w4 : (Jvm.Cond.selects K y z).before a0 Z = true) (w5 : (Jvm.Cond.instanceMethod z).before a0 Z = true) (w6 : (Jvm.Cond.publicMethod z).before a0 Z = true) (w7 : (Jvm.Cond.unhidden K y.name y.desc).before a0 Z = true) (w8 : (Jvm.Cond.castable K y.cls).before a0 Z = true) (wz : (Jvm.Cond.initialized z.cls).before a0 Z = true) (wc : (Jvm.Cond.code z bytes maxL ret).before a0 Z = true) (Ex : Exa Z h a K) (hy : y.cls ≠ "java/lang/invoke/MethodHandle" ∧ y.cls ≠ "java/lang/invoke/VarHandle") (hM : OwnMeets l Z z bytes maxL ret [] rm (.ref a :: argsL).toArray h Qc) (eT : T.heap = h) (hf : rm.frames + 1 ≤ R.frames) (W : Nat) (hW : (rest.map fun v => v.category).sum = W) (hl : W + (maxL + 11) + rm.locals ≤ R.locals) (hcl : cells + rm.cells ≤ R.cells) (hsl : slots + rm.slots ≤ R.slots) (hsz : Ls.size = c.maxLocals) (hlen : ∀ sig, parseMethodDescriptor y.desc = some sig → argsL.length = sig.parameters.length) (hst : st = argsL.reverse ++ .ref a :: rest) (hd : decode c.code pc = .ok (.invokeinterface index count, 5)) (k : ∀ v T' L, Stand p l e R s m args below meth c T' (locs ++ L) (cells + rm.cells) (slots + rm.slots) → Qc v T'.heap L → OwnEnds p e below s C S Q T' m pc' Ls (v.toList ++ rest)) (hp : pc + 5 = pc' := by rfl) : OwnEnds p e below s C S Q T m pc Ls st := by
  subst hp hst
  obtain ⟨cq, kq, qa, qb, qc⟩ := isOf hZ eT Ex
  obtain ⟨v, vm', ⟨T', L', k', n'⟩, -, X', ⟨Lc, hQ, l1, l2, l3⟩, st'⟩ := X.interfaceBack hx (xi := y) (y := z) hown (mvT hZ w1) (mvT hZ w2) w3 (mvT hZ w4) (mvT hZ w5) (mvT hZ w6) (mvT hZ w7) (mvT hZ w8) hy (backOf (W := W) hM hZ wc wz hf hl) qa qb qc (g := mkF m pc Ls (argsL.reverse ++ .ref a :: rest)) rfl hsz (Steps.refl _) (argsL := argsL) (rest := rest) hlen rfl (by show 2 * 0 + _ ≤ _; rw [hW]; omega) hd (fun _ _ => ⟨rfl, eT, hcl, hsl⟩)
  dsimp only [Pt.U, Pt.locs, Pt.cells, Pt.slots] at X' l1 l2 l3 st' hQ
  subst l1 l2 l3
  exact OwnEnds.of (fun _ k => st'.trans k) (k v T' Lc X' hQ)
theorem self_private {y x1 y1 : MethodName} {K : String} (hp : s.PrivateAt y) (hinst : (Jvm.Cond.instanceMethod y).before args s = true) (hy : y.cls ≠ "java/lang/invoke/MethodHandle" ∧ y.cls ≠ "java/lang/invoke/VarHandle") (hsel : (Jvm.Cond.selects K x1 y1).before args s = true) (hc : y1.cls = y.cls) : (Jvm.Cond.selects y.cls y y).before args s = true := by
  obtain ⟨c, r, m, q1, q2, q3, q4, k, hk, hki⟩ := Cond.selects_spec hsel
  have q := findClass_of_methodNamed q3
  rw [hc] at q
  exact selects_self_of_private q hk hki hp hinst hy
theorem nf_by {y x1 y1 : MethodName} {K : String} (hsel : (Jvm.Cond.selects K x1 y1).before args s = true) (hc : y1.cls = y.cls) : NotFace s y := fun r0 h0 => by
  obtain ⟨c, r, m, q1, q2, q3, q4, k, hk, hki⟩ := Cond.selects_spec hsel
  have q := findClass_of_methodNamed q3
  rw [hc, findClass_of_methodNamed h0] at q
  exact ⟨k, by rw [Option.some.inj q]; exact hk, hki⟩
theorem en_callQ (X : Stand p l e R s m args below meth c T locs cells slots) (hx : p.tables.exec = Jvm.exec) (hZ : Z.Warmed39 s.vm) {y : MethodName} {bytes : ByteArray} {maxL : Nat} {ret : Option FieldType} {rm : Room} {Qc : Option Value → Heap → List Loc → Prop} {argsL : List Value} {a : Addr} {K C1 : String} {x1 y1 : MethodName} {own : String} {index : Nat} (hown : s.vm.findClass own = some m.cls) (w1 : (Jvm.Cond.methodLink own index y).before a0 Z = true) (w2 : (Jvm.Cond.instanceMethod y).before a0 Z = true) (w3 : (Jvm.Cond.privateMethod y).before a0 Z = true) (w4 : (Jvm.Cond.selects C1 x1 y1).before a0 Z = true) (hc1 : y1.cls = y.cls) (wz : (Jvm.Cond.initialized y.cls).before a0 Z = true) (wc : (Jvm.Cond.code y bytes maxL ret).before a0 Z = true) (Ex : Exa Z h a K) (hy : y.cls ≠ "java/lang/invoke/MethodHandle" ∧ y.cls ≠ "java/lang/invoke/VarHandle") (hM : OwnMeets l Z y bytes maxL ret [] rm (.ref a :: argsL).toArray h Qc) (eT : T.heap = h) (hf : rm.frames + 1 ≤ R.frames) (W : Nat) (hW : (rest.map fun v => v.category).sum = W) (hl : W + (maxL + 11) + rm.locals ≤ R.locals) (hcl : cells + rm.cells ≤ R.cells) (hsl : slots + rm.slots ≤ R.slots) (hsz : Ls.size = c.maxLocals) (hlen : ∀ sig, parseMethodDescriptor y.desc = some sig → argsL.length = sig.parameters.length) (hst : st = argsL.reverse ++ .ref a :: rest) (hd : decode c.code pc = .ok (.invokevirtual index, 3)) (k : ∀ v T' L, Stand p l e R s m args below meth c T' (locs ++ L) (cells + rm.cells) (slots + rm.slots) → Qc v T'.heap L → OwnEnds p e below s C S Q T' m pc' Ls (v.toList ++ rest)) (hp : pc + 3 = pc' := by rfl) : OwnEnds p e below s C S Q T m pc Ls st := by
  subst hp hst
  obtain ⟨cq, q1, q2⟩ := Ex.cell
  obtain ⟨v, vm', ⟨T', L', k', n'⟩, -, X', ⟨Lc, hQ, l1, l2, l3⟩, st'⟩ := X.privateBack hx (y := y) hown (mvT hZ w1) (mvT hZ w2) (self_private (Cond.privateMethod_at (mvP hZ w3 (args := #[]))) (mvT hZ w2) hy (mvT hZ w4) hc1) (Cond.privateMethod_at (mvP hZ w3 (args := #[]))) (mvT hZ wc) hy (backOf (W := W) hM hZ wc wz hf hl)  (g := mkF m pc Ls (argsL.reverse ++ .ref a :: rest)) rfl hsz (Steps.refl _) (a := a) (by rw [eT]; exact q1) q2 (argsL := argsL) (rest := rest) hlen rfl (by show 2 * 0 + _ ≤ _; rw [hW]; omega) hd (fun _ _ => ⟨rfl, eT, hcl, hsl⟩)
  dsimp only [Pt.U, Pt.locs, Pt.cells, Pt.slots] at X' l1 l2 l3 st' hQ
  subst l1 l2 l3
  exact OwnEnds.of (fun _ k => st'.trans k) (k v T' Lc X' hQ)
def PQ (w : Value) (h : Heap) : Option Value → Heap → List Loc → Prop := fun v h' L => v = some w ∧ h' = h ∧ L = []
theorem en_callP (X : Stand p l e R s m args below meth c T locs cells slots) (hx : p.tables.exec = Jvm.exec) (hZ : Z.Warmed39 s.vm) {y : MethodName} {bytes : ByteArray} {maxL : Nat} {ret : Option FieldType} {fr lo : Nat} {w : Value} {argsL : List Value} {own : String} {index : Nat} (hown : s.vm.findClass own = some m.cls) (w1 : (Jvm.Cond.methodLink own index y).before a0 Z = true) (w2 : (Jvm.Cond.static y).before a0 Z = true) (wz : (Jvm.Cond.initialized y.cls).before a0 Z = true) (wc : (Jvm.Cond.code y bytes maxL ret).before a0 Z = true) (hy : y.cls ≠ "java/lang/invoke/MethodHandle" ∧ y.cls ≠ "java/lang/invoke/VarHandle") (hM : OwnMeets l Z y bytes maxL ret [] ({ frames := fr, cells := 0, slots := 0, locals := lo } : Room) argsL.toArray h (PQ w h)) (eT : T.heap = h) (hf : fr + 1 ≤ R.frames) (W : Nat) (hW : (rest.map fun v => v.category).sum = W) (hl : W + (maxL + 11) + lo ≤ R.locals) (hcl : cells ≤ R.cells) (hsl : slots ≤ R.slots) (hsz : Ls.size = c.maxLocals) (hlen : ∀ sig, parseMethodDescriptor y.desc = some sig → argsL.length = sig.parameters.length) (hst : st = argsL.reverse ++ rest) (hd : decode c.code pc = .ok (.invokestatic index, 3)) (k : ∀ T', Stand p l e R s m args below meth c T' locs cells slots → T'.heap = h → OwnEnds p e below s C S Q T' m pc' Ls (w :: rest)) (hp : pc + 3 = pc' := by rfl) : OwnEnds p e below s C S Q T m pc Ls st := by
  refine en_callS X hx hZ hown w1 w2 wz wc hy hM eT hf W hW hl hcl hsl hsz hlen hst hd (fun v T' L X' q => ?_) hp
  obtain ⟨rfl, q2, rfl⟩ := q
  rw [List.append_nil] at X'
  exact k T' X' q2
theorem en_callVP (X : Stand p l e R s m args below meth c T locs cells slots) (hx : p.tables.exec = Jvm.exec) (hZ : Z.Warmed39 s.vm) {y z : MethodName} {K : String} {bytes : ByteArray} {maxL : Nat} {ret : Option FieldType} {fr lo : Nat} {w : Value} {a : Addr} {argsL : List Value} {own : String} {index : Nat} (hown : s.vm.findClass own = some m.cls) (w1 : (Jvm.Cond.methodLink own index y).before a0 Z = true) (w2 : (Jvm.Cond.declares y).before a0 Z = true) (nf : NotFace s y) (w3 : (Jvm.Cond.selects K y z).before a0 Z = true) (w4 : (Jvm.Cond.instanceMethod z).before a0 Z = true) (wz : (Jvm.Cond.initialized z.cls).before a0 Z = true) (wc : (Jvm.Cond.code z bytes maxL ret).before a0 Z = true) (Ex : Exa Z h a K) (hy : y.cls ≠ "java/lang/invoke/MethodHandle" ∧ y.cls ≠ "java/lang/invoke/VarHandle") (hM : OwnMeets l Z z bytes maxL ret [] ({ frames := fr, cells := 0, slots := 0, locals := lo } : Room) (.ref a :: argsL).toArray h (PQ w h)) (eT : T.heap = h) (hf : fr + 1 ≤ R.frames) (W : Nat) (hW : (rest.map fun v => v.category).sum = W) (hl : W + (maxL + 11) + lo ≤ R.locals) (hcl : cells ≤ R.cells) (hsl : slots ≤ R.slots) (hsz : Ls.size = c.maxLocals) (hlen : ∀ sig, parseMethodDescriptor y.desc = some sig → argsL.length = sig.parameters.length) (hst : st = argsL.reverse ++ .ref a :: rest) (hd : decode c.code pc = .ok (.invokevirtual index, 3)) (k : ∀ T', Stand p l e R s m args below meth c T' locs cells slots → T'.heap = h → OwnEnds p e below s C S Q T' m pc' Ls (w :: rest)) (hp : pc + 3 = pc' := by rfl) : OwnEnds p e below s C S Q T m pc Ls st := by
  refine en_callV X hx hZ hown w1 w2 nf w3 w4 wz wc Ex hy hM eT hf W hW hl hcl hsl hsz hlen hst hd (fun v T' L X' q => ?_) hp
  obtain ⟨rfl, q2, rfl⟩ := q
  rw [List.append_nil] at X'
  exact k T' X' q2
theorem en_newPE (X : Stand p l e R s m args below meth c T locs cells slots) (hx : p.tables.exec = Jvm.exec) (hZ : Z.Warmed39 s.vm) {aty : ArrayType} (w : (Jvm.Cond.arrayClass (newarray.typeOf aty)).before a0 Z = true) (eT : T.heap = h) (hd : decode c.code pc = .ok (.newarray aty, 2)) {n : Int32} (hn : ¬ n < 0) (cap : Nat) (hcap : n.toNatClampNeg ≤ cap) (hb : cap * 8 ≤ 536870912) (hc : cells + 1 ≤ R.cells) (hl : slots + cap ≤ R.slots) {ad : String} (had : "[" ++ (newarray.typeOf aty).toString = ad)
    (k : ∀ T' h' a kA, a = h.size → Stand p l e R s m args below meth c T' locs (cells + 1) (slots + cap) → T'.heap = h' → Ext h h' → Arv Z h' a kA (newarray.typeOf aty) n [] (defaultValue (newarray.typeOf aty)) → Exa Z h' a ad → OwnEnds p e below s C S Q T' m pc' Ls (.ref a :: st)) (hp : pc + 2 = pc' := by rfl) : OwnEnds p e below s C S Q T m pc Ls (.int n :: st) := by
  subst hp
  obtain ⟨T', h', kA, X', e', E', A', Ex', st'⟩ := newPE X hx hZ w eT (g := mkF m pc Ls (.int n :: st)) rfl hd rfl hn hcap hb hc hl had
  exact OwnEnds.of st' (k T' h' _ kA rfl X' e' E' (Arv.new A' hn) Ex')
theorem en_newR (X : Stand p l e R s m args below meth c T locs cells slots) (hx : p.tables.exec = Jvm.exec) (hZ : Z.Warmed39 s.vm) {own K : String} {index : Nat} (hown : s.vm.findClass own = some m.cls) (w1 : (Jvm.Cond.classLink own index K).before a0 Z = true) (w2 : (Jvm.Cond.arrayOver (.object K)).before a0 Z = true) (eT : T.heap = h) (hd : decode c.code pc = .ok (.anewarray index, 3)) {n : Int32} (hn : ¬ n < 0) (cap : Nat) (hcap : n.toNatClampNeg ≤ cap) (hb : cap * 8 ≤ 536870912) (hc : cells + 1 ≤ R.cells) (hl : slots + cap ≤ R.slots)
    (k : ∀ T' h' a kA, a = h.size → Stand p l e R s m args below meth c T' locs (cells + 1) (slots + cap) → T'.heap = h' → Ext h h' → Arv Z h' a kA (.object K) n [] (defaultValue (.object K)) → Ovr Z kA K → OwnEnds p e below s C S Q T' m pc' Ls (.ref a :: st)) (hp : pc + 3 = pc' := by rfl) : OwnEnds p e below s C S Q T m pc Ls (.int n :: st) := by
  subst hp
  obtain ⟨T', h', kA, X', e', E', A', O', st'⟩ := newR X hx hZ hown w1 w2 eT (g := mkF m pc Ls (.int n :: st)) rfl hd rfl hn hcap hb hc hl
  exact OwnEnds.of st' (k T' h' _ kA rfl X' e' E' (Arv.new A' hn) O')
theorem en_aastore (X : Stand p l e R s m args below meth c T locs cells slots) (hx : p.tables.exec = Jvm.exec) (hZ : Z.Warmed39 s.vm) (eT : T.heap = h) {a y : Addr} {kA : ClassId} {K : String} {n j : Int32} {vs : List Value} {dv : Value} (V : Arv Z h a kA (.object K) n vs dv) (O : Ovr Z kA K) (I : Ins Z h y K true) (hj : ¬ j < 0 ∧ j < n) (i : Nat) (hi : j.toNatClampNeg = i) (hil : i < vs.length) (hd : decode c.code pc = .ok (.aastore, 1))
    (k : ∀ T' h', Stand p l e R s m args below meth c T' (locs ++ [⟨a, j.toNatClampNeg⟩]) cells slots → T'.heap = h' → Wr h h' a j.toNatClampNeg (.ref y) → Arv Z h' a kA (.object K) n (vs.set i (.ref y)) dv → OwnEnds p e below s C S Q T' m pc' Ls st) (hp : pc + 1 = pc' := by rfl) : OwnEnds p e below s C S Q T m pc Ls (.ref y :: .int j :: .ref a :: st) := by
  subst hp
  obtain ⟨cl, Ar, q1, Sz, Nn, Hs, G⟩ := V
  have hin := inb_of Sz hj
  obtain ⟨T', h', X', e', W', st'⟩ := stR X hx hZ eT Ar hin rfl (Sto.ofV Ar q1 O I) (g := mkF m pc Ls (.ref y :: .int j :: .ref a :: st)) rfl rfl hd
  exact OwnEnds.of st' (k T' h' X' e' W' (Arv.set Ar q1 Sz Nn Hs G rfl W' i hi hil))
theorem en_acmpYes (X : Stand p l e R s m args below meth c T locs cells slots) (hx : p.tables.exec = Jvm.exec) {cd : ClassFile.ACond} {o : Int} {a b : Addr} (hd : decode c.code pc = .ok (.if_acmp cd o, 3)) (hc : if_acmp.holds cd (some a) (some b) = true) (k : OwnEnds p e below s C S Q T m pc' Ls st) (ho : 0 ≤ (pc : Int) + o := by decide) (hp : ((pc : Int) + o).toNat = pc' := by decide) : OwnEnds p e below s C S Q T m pc Ls (.ref b :: .ref a :: st) :=
  OwnEnds.of (fun _ k => XS.acmpYes X.here hx (g := mkF m pc Ls (.ref b :: .ref a :: st)) rfl rfl hd rfl hc ho hp k) k
theorem en_callIP (X : Stand p l e R s m args below meth c T locs cells slots) (hx : p.tables.exec = Jvm.exec) (hZ : Z.Warmed39 s.vm) {y z : MethodName} {K : String} {bytes : ByteArray} {maxL : Nat} {ret : Option FieldType} {fr lo : Nat} {w : Value} {a : Addr} {argsL : List Value} {own : String} {index count : Nat} (hown : s.vm.findClass own = some m.cls) (w1 : (Jvm.Cond.methodLink own index y).before a0 Z = true) (w2 : (Jvm.Cond.declares y).before a0 Z = true) (w3 : (Jvm.Cond.interfaceMethod y.cls y.cls y.name y.desc).before args s = true) (w4 : (Jvm.Cond.selects K y z).before a0 Z = true) (w5 : (Jvm.Cond.instanceMethod z).before a0 Z = true) (w6 : (Jvm.Cond.publicMethod z).before a0 Z = true) (w7 : (Jvm.Cond.unhidden K y.name y.desc).before a0 Z = true) (w8 : (Jvm.Cond.castable K y.cls).before a0 Z = true) (wz : (Jvm.Cond.initialized z.cls).before a0 Z = true) (wc : (Jvm.Cond.code z bytes maxL ret).before a0 Z = true) (Ex : Exa Z h a K) (hy : y.cls ≠ "java/lang/invoke/MethodHandle" ∧ y.cls ≠ "java/lang/invoke/VarHandle") (hM : OwnMeets l Z z bytes maxL ret [] ({ frames := fr, cells := 0, slots := 0, locals := lo } : Room) (.ref a :: argsL).toArray h (PQ w h)) (eT : T.heap = h) (hf : fr + 1 ≤ R.frames) (W : Nat) (hW : (rest.map fun v => v.category).sum = W) (hl : W + (maxL + 11) + lo ≤ R.locals) (hcl : cells ≤ R.cells) (hsl : slots ≤ R.slots) (hsz : Ls.size = c.maxLocals) (hlen : ∀ sig, parseMethodDescriptor y.desc = some sig → argsL.length = sig.parameters.length) (hst : st = argsL.reverse ++ .ref a :: rest) (hd : decode c.code pc = .ok (.invokeinterface index count, 5)) (k : ∀ T', Stand p l e R s m args below meth c T' locs cells slots → T'.heap = h → OwnEnds p e below s C S Q T' m pc' Ls (w :: rest)) (hp : pc + 5 = pc' := by rfl) : OwnEnds p e below s C S Q T m pc Ls st := by
  refine en_callI X hx hZ hown w1 w2 w3 w4 w5 w6 w7 w8 wz wc Ex hy hM eT hf W hW hl hcl hsl hsz hlen hst hd (fun v T' L X' q => ?_) hp
  obtain ⟨rfl, q2, rfl⟩ := q
  rw [List.append_nil] at X'
  exact k T' X' q2
end Kit
end Jvm.OwnKit
namespace Jvm.Pilot.@@N@@
open Jvm Jvm.ClassFile Sem Op Lib Jvm.Free Jvm.Stand Jvm.LawKit Jvm.RoadKit Bundle Jvm.OwnKit Jvm.Pilot.@@N@@.Jvm.D
theorem d1_0 : decode prog_9_method_1_code 0 = .ok (.aload_n 0, 1) := by decide +kernel
theorem d1_1 : decode prog_9_method_1_code 1 = .ok (.invokespecial 1, 3) := by decide +kernel
theorem d1_4 : decode prog_9_method_1_code 4 = .ok (.aload_n 0, 1) := by decide +kernel
theorem d1_5 : decode prog_9_method_1_code 5 = .ok (.aload_n 1, 1) := by decide +kernel
theorem d1_6 : decode prog_9_method_1_code 6 = .ok (.putfield 7, 3) := by decide +kernel
theorem d1_9 : decode prog_9_method_1_code 9 = .ok (.aload_n 0, 1) := by decide +kernel
theorem d1_10 : decode prog_9_method_1_code 10 = .ok (.aload_n 2, 1) := by decide +kernel
theorem d1_11 : decode prog_9_method_1_code 11 = .ok (.putfield 13, 3) := by decide +kernel
theorem d1_14 : decode prog_9_method_1_code 14 = .ok (.aload_n 0, 1) := by decide +kernel
theorem d1_15 : decode prog_9_method_1_code 15 = .ok (.aload_n 3, 1) := by decide +kernel
theorem d1_16 : decode prog_9_method_1_code 16 = .ok (.putfield 16, 3) := by decide +kernel
theorem d1_19 : decode prog_9_method_1_code 19 = .ok (.aload_n 0, 1) := by decide +kernel
theorem d1_20 : decode prog_9_method_1_code 20 = .ok (.dload 4, 2) := by decide +kernel
theorem d1_22 : decode prog_9_method_1_code 22 = .ok (.putfield 20, 3) := by decide +kernel
theorem d1_25 : decode prog_9_method_1_code 25 = .ok (.return_, 1) := by decide +kernel
theorem ef_1 (m : MethodId) (o0 : Addr) (o1 : Addr) (o2 : Addr) (o3 : Addr) (x4 : UInt64) : entryFrame m #[(.ref o0), (.ref o1), (.ref o2), (.ref o3), (.double x4)] 6 = mkF m 0 #[.val (.ref o0), .val (.ref o1), .val (.ref o2), .val (.ref o3), .val (.double x4), .second] [] := by first | (simp [entryFrame, mkF, argsToLocals, Value.category]; done) | rfl
theorem pn_0 : plainName "com/example/cladestream/cladestream/inference/ParticleTree" = true := by first | (simp [plainName, overriddenIn]; done) | decide +kernel
set_option maxRecDepth 65536 in
set_option maxHeartbeats 40000000 in
theorem rm1 (l : Launch) (Z : State) (a0 : Array Value) (hw : ∀ d ∈ tables_1, d.before a0 Z = true) (ws : List Jvm.Cond) (o0 : Addr) (o1 : Addr) (o2 : Addr) (o3 : Addr) (x4 : UInt64) (h0 : Heap) (n0 : Nat) (Z0 : n0 ≤ h0.size) (E0 : Exa Z h0 o0 "com/example/cladestream/cladestream/inference/ParticleTree") (F_parents : Fld Z h0 o0 "com/example/cladestream/cladestream/inference/ParticleTree" "parents" "[I" .null) (F_children : Fld Z h0 o0 "com/example/cladestream/cladestream/inference/ParticleTree" "children" "[I" .null) (F_lengths : Fld Z h0 o0 "com/example/cladestream/cladestream/inference/ParticleTree" "lengths" "[D" .null) (F_logLikelihood : Fld Z h0 o0 "com/example/cladestream/cladestream/inference/ParticleTree" "logLikelihood" "D" (defaultValue .double)) (g0 : n0 ≤ o0) : OwnMeets l Z (⟨"com/example/cladestream/cladestream/inference/ParticleTree", "<init>", "([I[I[DD)V"⟩ : MethodName) prog_9_method_1_code 6 none ws ({ frames := 1, cells := 0, slots := 0, locals := 12 } : Room) #[(.ref o0), (.ref o1), (.ref o2), (.ref o3), (.double x4)] h0 (fun v h L => v = none ∧ Fr n0 L ∧ Keep h0 h [o0] ∧ Fld Z h o0 "com/example/cladestream/cladestream/inference/ParticleTree" "parents" "[I" (.ref o1)) := by
  refine OwnMeets.of_walk (plainFor_of_name pn_0) (fun m => ef_1 m o0 o1 o2 o3 x4) ?_
  intro p e s m below meth c T0 X0 K e0
  obtain ⟨hx, hby, hml, hret, hlk, hnm, hown, hZ⟩ := id K
  have N0 := Fr.nil n0
  refine en_aloadN X0 hx (hb hby d1_0) (pc' := 1) rfl rfl ?_
  refine en_initO X0 hx hZ hown (tw hw 9 rfl) (tw hw 10 rfl) (tw hw 11 rfl) e0 (by rw [hml]; rfl) (hb hby d1_1) (by decide) 0 rfl (by decide) (pc' := 4) (fun T1 X1 e1 => ?_)
  refine en_aloadN X1 hx (hb hby d1_4) (pc' := 5) rfl rfl ?_
  refine en_aloadN X1 hx (hb hby d1_5) (pc' := 6) rfl rfl ?_
  refine en_putF X1 hx hZ hown (host := "") (Or.inl (tw hw 12 rfl)) Via.refl e1 F_parents E0 (Or.inr ⟨(tw hw 13 rfl), rfl, hnm⟩) (tw hw 4 rfl) (ty := (.array .int)) (by decide) rfl rfl (hb hby d1_6) (pc' := 9) (fun T2 h2 X2 e2 W2 => ?_)
  have F2_o0_children := F_children.other W2 (Or.inr (slot_ne (Or.inr (tw hw 15 rfl)) (Or.inr (tw hw 13 rfl)) (by decide) (t := (.array .int)) (t' := (.array .int)) (by decide) (by decide)))
  have F2_o0_lengths := F_lengths.other W2 (Or.inr (slot_ne (Or.inr (tw hw 17 rfl)) (Or.inr (tw hw 13 rfl)) (by decide) (t := (.array .double)) (t' := (.array .int)) (by decide) (by decide)))
  have F2_o0_logLikelihood := F_logLikelihood.other W2 (Or.inr (slot_ne (Or.inr (tw hw 19 rfl)) (Or.inr (tw hw 13 rfl)) (by decide) (t := .double) (t' := (.array .int)) (by decide) (by decide)))
  have E2_o0 := E0.wr W2
  have K2 : Keep h0 h2 [o0] := (Keep.refl h0 [o0]).wr W2 (Or.inl (List.mem_of_getElem? (i := 0) rfl))
  have Z2 : n0 ≤ h2.size := Nat.le_trans Z0 (Keep.of_wr W2).1
  have N2 := Fr.snoc X2 N0 g0
  have F2_o0_parents := F_parents.same W2
  refine en_aloadN X2 hx (hb hby d1_9) (pc' := 10) rfl rfl ?_
  refine en_aloadN X2 hx (hb hby d1_10) (pc' := 11) rfl rfl ?_
  refine en_putF X2 hx hZ hown (host := "") (Or.inl (tw hw 14 rfl)) Via.refl e2 F2_o0_children E2_o0 (Or.inr ⟨(tw hw 15 rfl), rfl, hnm⟩) (tw hw 4 rfl) (ty := (.array .int)) (by decide) rfl rfl (hb hby d1_11) (pc' := 14) (fun T3 h3 X3 e3 W3 => ?_)
  have F3_o0_parents := F2_o0_parents.other W3 (Or.inr (slot_ne (Or.inr (tw hw 13 rfl)) (Or.inr (tw hw 15 rfl)) (by decide) (t := (.array .int)) (t' := (.array .int)) (by decide) (by decide)))
  have F3_o0_lengths := F2_o0_lengths.other W3 (Or.inr (slot_ne (Or.inr (tw hw 17 rfl)) (Or.inr (tw hw 15 rfl)) (by decide) (t := (.array .double)) (t' := (.array .int)) (by decide) (by decide)))
  have F3_o0_logLikelihood := F2_o0_logLikelihood.other W3 (Or.inr (slot_ne (Or.inr (tw hw 19 rfl)) (Or.inr (tw hw 15 rfl)) (by decide) (t := .double) (t' := (.array .int)) (by decide) (by decide)))
  have E3_o0 := E2_o0.wr W3
  have K3 : Keep h0 h3 [o0] := K2.wr W3 (Or.inl (List.mem_of_getElem? (i := 0) rfl))
  have Z3 : n0 ≤ h3.size := Nat.le_trans Z2 (Keep.of_wr W3).1
  have N3 := Fr.snoc X3 N2 g0
  have F3_o0_children := F2_o0_children.same W3
  refine en_aloadN X3 hx (hb hby d1_14) (pc' := 15) rfl rfl ?_
  refine en_aloadN X3 hx (hb hby d1_15) (pc' := 16) rfl rfl ?_
  refine en_putF X3 hx hZ hown (host := "") (Or.inl (tw hw 16 rfl)) Via.refl e3 F3_o0_lengths E3_o0 (Or.inr ⟨(tw hw 17 rfl), rfl, hnm⟩) (tw hw 4 rfl) (ty := (.array .double)) (by decide) rfl rfl (hb hby d1_16) (pc' := 19) (fun T4 h4 X4 e4 W4 => ?_)
  have F4_o0_parents := F3_o0_parents.other W4 (Or.inr (slot_ne (Or.inr (tw hw 13 rfl)) (Or.inr (tw hw 17 rfl)) (by decide) (t := (.array .int)) (t' := (.array .double)) (by decide) (by decide)))
  have F4_o0_children := F3_o0_children.other W4 (Or.inr (slot_ne (Or.inr (tw hw 15 rfl)) (Or.inr (tw hw 17 rfl)) (by decide) (t := (.array .int)) (t' := (.array .double)) (by decide) (by decide)))
  have F4_o0_logLikelihood := F3_o0_logLikelihood.other W4 (Or.inr (slot_ne (Or.inr (tw hw 19 rfl)) (Or.inr (tw hw 17 rfl)) (by decide) (t := .double) (t' := (.array .double)) (by decide) (by decide)))
  have E4_o0 := E3_o0.wr W4
  have K4 : Keep h0 h4 [o0] := K3.wr W4 (Or.inl (List.mem_of_getElem? (i := 0) rfl))
  have Z4 : n0 ≤ h4.size := Nat.le_trans Z3 (Keep.of_wr W4).1
  have N4 := Fr.snoc X4 N3 g0
  have F4_o0_lengths := F3_o0_lengths.same W4
  refine en_aloadN X4 hx (hb hby d1_19) (pc' := 20) rfl rfl ?_
  refine en_dload X4 hx (hb hby d1_20) (pc' := 22) rfl ?_
  refine en_putF X4 hx hZ hown (host := "") (Or.inl (tw hw 18 rfl)) Via.refl e4 F4_o0_logLikelihood E4_o0 (Or.inr ⟨(tw hw 19 rfl), rfl, hnm⟩) (tw hw 4 rfl) (ty := .double) (by decide) rfl rfl (hb hby d1_22) (pc' := 25) (fun T5 h5 X5 e5 W5 => ?_)
  have F5_o0_parents := F4_o0_parents.other W5 (Or.inr (slot_ne (Or.inr (tw hw 13 rfl)) (Or.inr (tw hw 19 rfl)) (by decide) (t := (.array .int)) (t' := .double) (by decide) (by decide)))
  have F5_o0_children := F4_o0_children.other W5 (Or.inr (slot_ne (Or.inr (tw hw 15 rfl)) (Or.inr (tw hw 19 rfl)) (by decide) (t := (.array .int)) (t' := .double) (by decide) (by decide)))
  have F5_o0_lengths := F4_o0_lengths.other W5 (Or.inr (slot_ne (Or.inr (tw hw 17 rfl)) (Or.inr (tw hw 19 rfl)) (by decide) (t := (.array .double)) (t' := .double) (by decide) (by decide)))
  have E5_o0 := E4_o0.wr W5
  have K5 : Keep h0 h5 [o0] := K4.wr W5 (Or.inl (List.mem_of_getElem? (i := 0) rfl))
  have Z5 : n0 ≤ h5.size := Nat.le_trans Z4 (Keep.of_wr W5).1
  have N5 := Fr.snoc X5 N4 g0
  have F5_o0_logLikelihood := F4_o0_logLikelihood.same W5
  exact en_ret0 X5 hx hret hlk (hb hby d1_25) (by decide) (by decide) (by first | (rw [e5]; exact ⟨rfl, N5, K5, F5_o0_parents⟩) | exact ⟨rfl, N5, K5, F5_o0_parents⟩)
theorem d4_0 : decode prog_9_method_2_code 0 = .ok (.aload_n 0, 1) := by decide +kernel
theorem d4_1 : decode prog_9_method_2_code 1 = .ok (.getfield 7, 3) := by decide +kernel
theorem d4_4 : decode prog_9_method_2_code 4 = .ok (.arraylength, 1) := by decide +kernel
theorem d4_5 : decode prog_9_method_2_code 5 = .ok (.iconst 2, 1) := by decide +kernel
theorem d4_6 : decode prog_9_method_2_code 6 = .ok (.iadd, 1) := by decide +kernel
theorem d4_7 : decode prog_9_method_2_code 7 = .ok (.iconst 2, 1) := by decide +kernel
theorem d4_8 : decode prog_9_method_2_code 8 = .ok (.idiv, 1) := by decide +kernel
theorem d4_9 : decode prog_9_method_2_code 9 = .ok (.ireturn, 1) := by decide +kernel
theorem ef_4 (m : MethodId) (o0 : Addr) : entryFrame m #[(.ref o0)] 1 = mkF m 0 #[.val (.ref o0)] [] := by first | (simp [entryFrame, mkF, argsToLocals, Value.category]; done) | rfl
set_option maxRecDepth 65536 in
set_option maxHeartbeats 40000000 in
theorem rm4 (l : Launch) (Z : State) (a0 : Array Value) (hw : ∀ d ∈ tables_1, d.before a0 Z = true) (ws : List Jvm.Cond) (o0 : Addr) (b : Addr) (kA : ClassId) (n : Int32) (vs : List Value) (dv : Value) (h0 : Heap) (n0 : Nat) (Z0 : n0 ≤ h0.size) (F0 : Fld Z h0 o0 "com/example/cladestream/cladestream/inference/ParticleTree" "parents" "[I" (.ref b)) (V0 : Arv Z h0 b kA .int n vs dv) : OwnMeets l Z (⟨"com/example/cladestream/cladestream/inference/ParticleTree", "taxonCount", "()I"⟩ : MethodName) prog_9_method_2_code 1 (some .int) ws ({ frames := 0, cells := 0, slots := 0, locals := 0 } : Room) #[(.ref o0)] h0 (PQ (.int ((n + (2 : Int32)) / (2 : Int32))) h0) := by
  refine OwnMeets.of_walk (plainFor_of_name pn_0) (fun m => ef_4 m o0) ?_
  intro p e s m below meth c T0 X0 K e0
  obtain ⟨hx, hby, hml, hret, hlk, hnm, hown, hZ⟩ := id K
  have N0 := Fr.nil n0
  refine en_aloadN X0 hx (hb hby d4_0) (pc' := 1) rfl rfl ?_
  refine en_getF X0 hx hZ hown (host := "") (Or.inl (tw hw 12 rfl)) Via.refl e0 F0 (hb hby d4_1) (pc' := 4) (fun T1 X1 e1 => ?_)
  refine en_len X1 hx hZ e1 V0 (hb hby d4_4) (pc' := 5) ?_
  refine en_iconst X1 hx (2 : Int32) (hb hby d4_5) (pc' := 6) ?_
  refine en_iadd X1 hx (hb hby d4_6) (pc' := 7) ?_
  refine en_iconst X1 hx (2 : Int32) (hb hby d4_7) (pc' := 8) ?_
  refine en_idiv X1 hx (hb hby d4_8) (pc' := 9) (by decide) ?_
  exact en_retI X1 hx hret hlk (hb hby d4_9) (by decide) (by decide) (by first | (rw [e1]; exact ⟨rfl, rfl, rfl⟩) | exact ⟨rfl, rfl, rfl⟩)
theorem d3_0 : decode prog_9_method_6_code 0 = .ok (.iload_n 1, 1) := by decide +kernel
theorem d3_1 : decode prog_9_method_6_code 1 = .ok (.aload_n 0, 1) := by decide +kernel
theorem d3_2 : decode prog_9_method_6_code 2 = .ok (.invokevirtual 24, 3) := by decide +kernel
theorem d3_5 : decode prog_9_method_6_code 5 = .ok (.if_icmp .ge 7, 3) := by decide +kernel
theorem d3_8 : decode prog_9_method_6_code 8 = .ok (.iconst 1, 1) := by decide +kernel
theorem d3_9 : decode prog_9_method_6_code 9 = .ok (.goto 4, 3) := by decide +kernel
theorem d3_12 : decode prog_9_method_6_code 12 = .ok (.iconst 0, 1) := by decide +kernel
theorem d3_13 : decode prog_9_method_6_code 13 = .ok (.ireturn, 1) := by decide +kernel
theorem ef_3 (m : MethodId) (o0 : Addr) (x1 : Int32) : entryFrame m #[(.ref o0), (.int x1)] 2 = mkF m 0 #[.val (.ref o0), .val (.int x1)] [] := by first | (simp [entryFrame, mkF, argsToLocals, Value.category]; done) | rfl
theorem pd_0 : parseMethodDescriptor "()I" = some ⟨[], some .int⟩ := by decide +kernel
set_option maxRecDepth 65536 in
set_option maxHeartbeats 40000000 in
theorem rm3 (l : Launch) (Z : State) (a0 : Array Value) (hw : ∀ d ∈ tables_1, d.before a0 Z = true) (ws : List Jvm.Cond) (o0 : Addr) (x1 : Int32) (b : Addr) (kA : ClassId) (n : Int32) (vs : List Value) (dv : Value) (h0 : Heap) (n0 : Nat) (Z0 : n0 ≤ h0.size) (E0 : Exa Z h0 o0 "com/example/cladestream/cladestream/inference/ParticleTree") (F0 : Fld Z h0 o0 "com/example/cladestream/cladestream/inference/ParticleTree" "parents" "[I" (.ref b)) (V0 : Arv Z h0 b kA .int n vs dv) : OwnMeets l Z (⟨"com/example/cladestream/cladestream/inference/ParticleTree", "isLeaf", "(I)Z"⟩ : MethodName) prog_9_method_6_code 2 (some .boolean) ws ({ frames := 1, cells := 0, slots := 0, locals := 13 } : Room) #[(.ref o0), (.int x1)] h0 (PQ (.int (if x1 < ((n + (2 : Int32)) / (2 : Int32)) then (1 : Int32) else (0 : Int32))) h0) := by
  refine OwnMeets.of_walk (plainFor_of_name pn_0) (fun m => ef_3 m o0 x1) ?_
  intro p e s m below meth c T0 X0 K e0
  obtain ⟨hx, hby, hml, hret, hlk, hnm, hown, hZ⟩ := id K
  have N0 := Fr.nil n0
  refine en_iloadN X0 hx (hb hby d3_0) (pc' := 1) rfl ?_
  refine en_aloadN X0 hx (hb hby d3_1) (pc' := 2) rfl rfl ?_
  refine en_callVP X0 hx hZ (y := (⟨"com/example/cladestream/cladestream/inference/ParticleTree", "taxonCount", "()I"⟩ : MethodName)) (z := (⟨"com/example/cladestream/cladestream/inference/ParticleTree", "taxonCount", "()I"⟩ : MethodName)) (K := "com/example/cladestream/cladestream/inference/ParticleTree") (fr := 0) (lo := 0) hown (tw hw 25 rfl) (tw hw 26 rfl) (notFace_of_selects (args := #[]) (mvT hZ (tw hw 28 rfl))) (tw hw 28 rfl) (tw hw 27 rfl) (tw hw 5 rfl) (tw hw 29 rfl) E0 (by decide) (rm4 l Z a0 hw [] o0 b kA n vs dv _ n0 Z0 F0 V0) e0 (by decide) 1 rfl (by decide) (by decide) (by decide) (by rw [hml]; rfl) (argsL := []) (rest := [(.int x1)]) (lenOf pd_0 rfl) rfl (hb hby d3_2) (pc' := 5) (fun T1 X1 e1 => ?_)
  by_cases hc : x1 < ((n + (2 : Int32)) / (2 : Int32))
  · rw [if_pos hc]
    refine en_icmpNo X1 hx (hb hby d3_5) (tlt hc).2.1 (pc' := 8) ?_
    refine en_iconst X1 hx (1 : Int32) (hb hby d3_8) (pc' := 9) ?_
    refine en_goto X1 hx (hb hby d3_9) (pc' := 13) ?_
    exact en_retZ X1 hx hret hlk (hb hby d3_13) rfl (by decide) (by decide) (by first | (rw [e1]; exact ⟨rfl, rfl, rfl⟩) | exact ⟨rfl, rfl, rfl⟩)
  · rw [if_neg hc]
    refine en_icmpYes X1 hx (hb hby d3_5) (flt hc).2.1 (pc' := 12) ?_
    refine en_iconst X1 hx (0 : Int32) (hb hby d3_12) (pc' := 13) ?_
    exact en_retZ X1 hx hret hlk (hb hby d3_13) rfl (by decide) (by decide) (by first | (rw [e1]; exact ⟨rfl, rfl, rfl⟩) | exact ⟨rfl, rfl, rfl⟩)
def g0_88_105_l10 (y3 : Int32) (y5 : Int32) : Int32 := (if (y3 - (1 : Int32)) < y5 then (0 : Int32) else (1 : Int32))
theorem r0_88_105 {p : Program} {l : Launch} {e : Env} {R : Room} {s : State} {m : MethodId} {args : Array Value} {below : List Frame} {meth : Method} {c : Code} {T : State} {locs : List Loc} {cells slots : Nat} {Z : State} {a0 : Array Value} {C S : Nat} {Q : Option Value → Heap → List Loc → Prop} (hw : ∀ d ∈ tables_1, d.before a0 Z = true) (K : Cx p s m meth c Z x code maxLocals ret) (X : Stand p l e R s m args below meth c T locs cells slots) (y0 : Int32) (y1 : Int32) (y2 : Int32) (y3 : Int32) (y4 : Int32) (y5 : Int32) (y6 : Addr) (y7 : Addr) (y8 : Addr) (y9 : Addr) (k : OwnEnds p e below s C S Q T m 105 #[.val (.int y0), .val (.int y1), .val (.int y2), .val (.int y3), .val (.int y4), .val (.int y5), .val (.ref y6), .val (.ref y7), .val (.ref y8), .val (.ref y9), .val (.int (g0_88_105_l10 y3 y5))] []) : OwnEnds p e below s C S Q T m 88 #[.val (.int y0), .val (.int y1), .val (.int y2), .val (.int y3), .val (.int y4), .val (.int y5), .val (.ref y6), .val (.ref y7), .val (.ref y8), .val (.ref y9), .unset] [] := by
  obtain ⟨hx, hby, hml, hret, hlk, hnm, hown, hZ⟩ := id K
  unfold g0_88_105_l10 at k
  refine en_iload X hx (hb hby at_88) (pc' := 90) rfl ?_
  refine en_iloadN X hx (hb hby at_90) (pc' := 91) rfl ?_
  refine en_iconst X hx (1 : Int32) (hb hby at_91) (pc' := 92) ?_
  refine en_isub X hx (hb hby at_92) (pc' := 93) ?_
  by_cases hc93_0 : (y3 - (1 : Int32)) < y5
  · simp only [if_pos hc93_0] at k
    refine en_icmpYes X hx (hb hby at_93) (tlt hc93_0).2.2.1 (pc' := 102) ?_
    refine en_iconst X hx (0 : Int32) (hb hby at_102) (pc' := 103) ?_
    refine en_istore X hx (hb hby at_103) (pc' := 105) (Ls' := #[.val (.int y0), .val (.int y1), .val (.int y2), .val (.int y3), .val (.int y4), .val (.int y5), .val (.ref y6), .val (.ref y7), .val (.ref y8), .val (.ref y9), .val (.int (0 : Int32))]) rfl ?_
    exact k
  · simp only [if_neg hc93_0] at k
    refine en_icmpNo X hx (hb hby at_93) (flt hc93_0).2.2.1 (pc' := 96) ?_
    refine en_iconst X hx (1 : Int32) (hb hby at_96) (pc' := 97) ?_
    refine en_istore X hx (hb hby at_97) (pc' := 99) (Ls' := #[.val (.int y0), .val (.int y1), .val (.int y2), .val (.int y3), .val (.int y4), .val (.int y5), .val (.ref y6), .val (.ref y7), .val (.ref y8), .val (.ref y9), .val (.int (1 : Int32))]) rfl ?_
    refine en_goto X hx (hb hby at_99) (pc' := 105) ?_
    exact k
theorem own_e1 : (1 : Int32).toInt = 1 := rfl
theorem own_e2 : (2 : Int32).toInt = 2 := rfl
theorem own_e3 : (3 : Int32).toInt = 3 := rfl
theorem own_n (x : Int32) {n : Int32} (h : ((3 : Int32) + (x &&& (63 : Int32))) = n) : 3 ≤ n.toInt ∧ n.toInt ≤ 66 := by
  subst h
  have h1 := c_and x 63 (by decide)
  have e63 : (63 : Int32).toInt = 63 := rfl
  have h2 := c_iadd 3 (x &&& 63)
  have h3 := rng32 ((3 : Int32) + (x &&& (63 : Int32)))
  rw [own_e3] at h2
  omega
theorem own_nodes {n q : Int32} (hn : 3 ≤ n.toInt ∧ n.toInt ≤ 66) (h : (((2 : Int32) * n) - (2 : Int32)) = q) : q.toInt = 2 * n.toInt - 2 := by
  subst h
  have h1 := c_imul 2 n
  have h2 := c_isub (2 * n) 2
  have h3 := rng32 ((2 : Int32) * n)
  have h4 := rng32 (((2 : Int32) * n) - (2 : Int32))
  rw [own_e2] at h1 h2
  omega
theorem own_kids {n q : Int32} (hn : 3 ≤ n.toInt ∧ n.toInt ≤ 66) (h : (((2 : Int32) * n) - (3 : Int32)) = q) : q.toInt = 2 * n.toInt - 3 := by
  subst h
  have h1 := c_imul 2 n
  have h2 := c_isub (2 * n) 3
  have h3 := rng32 ((2 : Int32) * n)
  have h4 := rng32 (((2 : Int32) * n) - (3 : Int32))
  rw [own_e2] at h1
  rw [own_e3] at h2
  omega
theorem own_nn {q : Int32} (h : 0 ≤ q.toInt) : ¬ q < 0 := by
  rw [Int32.lt_iff_toInt_lt]; show ¬ q.toInt < 0; omega
theorem own_cap {q : Int32} {c : Nat} (h : 0 ≤ q.toInt ∧ q.toInt ≤ c) : q.toNatClampNeg ≤ c := by
  have := nat_of (own_nn h.1); omega
theorem own_nz (y : Int32) (h : 0 < y.toInt) : y ≠ 0 := fun q => by rw [q] at h; exact absurd h (by decide)
theorem own_last {q : Int32} (h : 0 < q.toInt) : (q - (1 : Int32)).toInt = q.toInt - 1 := by
  have h2 := c_isub q 1
  have h3 := rng32 q
  have h4 := rng32 (q - (1 : Int32))
  rw [own_e1] at h2
  omega
theorem own_inb {q : Int32} (h : 0 < q.toInt) : ¬ (q - (1 : Int32)) < 0 ∧ (q - (1 : Int32)) < q := by
  have h1 := own_last h
  exact ⟨own_nn (by omega), by rw [Int32.lt_iff_toInt_lt]; omega⟩
theorem own_ix {q : Int32} (h : 0 < q.toInt) : (q - (1 : Int32)).toNatClampNeg < (([] : List Value) ++ List.replicate q.toNatClampNeg (Value.int (0 : Int32))).length := by
  have h1 := own_last h
  have h2 := nat_of (own_nn (show 0 ≤ q.toInt by omega))
  have h3 := nat_of (own_nn (show 0 ≤ (q - (1 : Int32)).toInt by omega))
  simp
  omega
theorem own_cnt {n q : Int32} (hn : 3 ≤ n.toInt ∧ n.toInt ≤ 66) (h : q.toInt = 2 * n.toInt - 2) : ((q + (2 : Int32)) / (2 : Int32)) = n := by
  apply Int32.toInt_inj.mp
  have h1 := c_iadd q 2
  have h2 := rng32 (q + 2)
  rw [own_e2] at h1
  have h3 := (c_idiv (q + 2) 2 2 own_e2 (by decide)).1 (by omega)
  omega
theorem own_same {n : Int32} (hn : 3 ≤ n.toInt ∧ n.toInt ≤ 66) (node : Int32) : (if node < n then (1 : Int32) else (0 : Int32)) = g0_88_105_l10 n node := by
  have h1 := own_last (q := n) (by omega)
  unfold g0_88_105_l10
  by_cases c : node < n
  · have c2 : ¬ (n - (1 : Int32)) < node := by rw [Int32.lt_iff_toInt_lt] at c ⊢; omega
    rw [if_pos c, if_neg c2]
  · have c2 : (n - (1 : Int32)) < node := by rw [Int32.lt_iff_toInt_lt] at c ⊢; omega
    rw [if_neg c, if_pos c2]
theorem ef_0 (m : MethodId) (x0 : Int32) (x1 : Int32) (x2 : Int32) : entryFrame m #[(.int x0), (.int x1), (.int x2)] maxLocals = mkF m 0 #[.val (.int x0), .val (.int x1), .val (.int x2), .unset, .unset, .unset, .unset, .unset, .unset, .unset, .unset] [] := by first | (simp [entryFrame, mkF, argsToLocals, Value.category, maxLocals]; done) | rfl
theorem pn_1 : plainName "com/example/cladestream/cladestream/inference/ParticleTreeIsLeafPinLaw" = true := by first | (simp [plainName, overriddenIn]; done) | decide +kernel
theorem pd_1 : parseMethodDescriptor "([I[I[DD)V" = some ⟨[(.array .int), (.array .int), (.array .double), .double], none⟩ := by decide +kernel
theorem pd_2 : parseMethodDescriptor "(I)Z" = some ⟨[.int], some .boolean⟩ := by decide +kernel
set_option maxRecDepth 65536 in
set_option maxHeartbeats 40000000 in
theorem rm0 (l : Launch) (Z : State) (a0 : Array Value) (hw : ∀ d ∈ tables_1, d.before a0 Z = true) (ws : List Jvm.Cond) (x0 : Int32) (x1 : Int32) (x2 : Int32) (h0 : Heap) (n0 : Nat) (Z0 : n0 ≤ h0.size)  : OwnMeets l Z x code maxLocals ret ws room_1 #[(.int x0), (.int x1), (.int x2)] h0 (fun v h L => v = some (.int (1 : Int32)) ∧ Fr n0 L) := by
  refine OwnMeets.of_walk (plainFor_of_name pn_1) (fun m => ef_0 m x0 x1 x2) ?_
  intro p e s m below meth c T0 X0 K e0
  obtain ⟨hx, hby, hml, hret, hlk, hnm, hown, hZ⟩ := id K
  have N0 := Fr.nil n0
  refine en_iconst X0 hx (3 : Int32) (hb hby at_0) (pc' := 1) ?_
  refine en_iloadN X0 hx (hb hby at_1) (pc' := 2) rfl ?_
  refine en_bipush X0 hx (63 : Int32) (hb hby at_2) (pc' := 4) ?_
  refine en_iand X0 hx (hb hby at_4) (pc' := 5) ?_
  refine en_iadd X0 hx (hb hby at_5) (pc' := 6) ?_
  generalize hn : ((3 : Int32) + (x0 &&& (63 : Int32))) = n
  have hn1 := own_n x0 hn
  refine en_istoreN X0 hx (hb hby at_6) (pc' := 7) (Ls' := #[.val (.int x0), .val (.int x1), .val (.int x2), .val (.int n), .unset, .unset, .unset, .unset, .unset, .unset, .unset]) rfl ?_
  refine en_iconst X0 hx (2 : Int32) (hb hby at_7) (pc' := 8) ?_
  refine en_iloadN X0 hx (hb hby at_8) (pc' := 9) rfl ?_
  refine en_imul X0 hx (hb hby at_9) (pc' := 10) ?_
  refine en_iconst X0 hx (2 : Int32) (hb hby at_10) (pc' := 11) ?_
  refine en_isub X0 hx (hb hby at_11) (pc' := 12) ?_
  generalize hq : (((2 : Int32) * n) - (2 : Int32)) = q
  have hq1 := own_nodes hn1 hq
  refine en_istore X0 hx (hb hby at_12) (pc' := 14) (Ls' := #[.val (.int x0), .val (.int x1), .val (.int x2), .val (.int n), .val (.int q), .unset, .unset, .unset, .unset, .unset, .unset]) rfl ?_
  refine en_iloadN X0 hx (hb hby at_14) (pc' := 15) rfl ?_
  refine en_iconst X0 hx (1 : Int32) (hb hby at_15) (pc' := 16) ?_
  refine en_iand X0 hx (hb hby at_16) (pc' := 17) ?_
  have J : ∀ node : Int32, OwnEnds p e below s room_1.cells room_1.slots (fun v h L => v = some (.int (1 : Int32)) ∧ Fr n0 L) T0 m 43 #[.val (.int x0), .val (.int x1), .val (.int x2), .val (.int n), .val (.int q), .val (.int node), .unset, .unset, .unset, .unset, .unset] [] := by
    intro node
    refine en_iload X0 hx (hb hby at_43) (pc' := 45) rfl ?_
    refine en_newP X0 hx hZ (tw hw 1 rfl) e0 (hb hby at_45) (own_nn (by omega)) 130 (own_cap (by omega)) (by decide) (by decide) (by decide) (pc' := 47) (fun T1 h1 b1 k1 g1 X1 e1 E1 V10 => ?_)
    have g_b1 : n0 ≤ b1 := by rw [g1]; exact Z0
    have Z1 : n0 ≤ h1.size := Nat.le_trans Z0 E1.1
    have V1 : Arv Z h1 b1 k1 .int q [] (.int (0 : Int32)) := V10
    refine en_astore X1 hx (hb hby at_47) (pc' := 49) (Ls' := #[.val (.int x0), .val (.int x1), .val (.int x2), .val (.int n), .val (.int q), .val (.int node), .val (.ref b1), .unset, .unset, .unset, .unset]) rfl rfl ?_
    refine en_aload X1 hx (hb hby at_49) (pc' := 51) rfl rfl ?_
    refine en_iload X1 hx (hb hby at_51) (pc' := 53) rfl ?_
    refine en_iconst X1 hx (1 : Int32) (hb hby at_53) (pc' := 54) ?_
    refine en_isub X1 hx (hb hby at_54) (pc' := 55) ?_
    refine en_iconst X1 hx (-1 : Int32) (hb hby at_55) (pc' := 56) ?_
    have V2p := V1.pad (pad_rep [] (.int (0 : Int32)) q.toNatClampNeg)
    refine en_iastore X1 hx hZ e1 V2p (own_inb (by omega)) _ rfl (own_ix (by omega)) (hb hby at_56) (pc' := 57) (fun T2 h2 X2 e2 W2 V2 => ?_)
    have Z2 : n0 ≤ h2.size := Nat.le_trans Z1 (Keep.of_wr W2).1
    have N2 := Fr.snoc X2 N0 g_b1
    refine en_iconst X2 hx (2 : Int32) (hb hby at_57) (pc' := 58) ?_
    refine en_iloadN X2 hx (hb hby at_58) (pc' := 59) rfl ?_
    refine en_imul X2 hx (hb hby at_59) (pc' := 60) ?_
    refine en_iconst X2 hx (3 : Int32) (hb hby at_60) (pc' := 61) ?_
    refine en_isub X2 hx (hb hby at_61) (pc' := 62) ?_
    generalize hkd : (((2 : Int32) * n) - (3 : Int32)) = kd
    have hk1 := own_kids hn1 hkd
    refine en_newP X2 hx hZ (tw hw 1 rfl) e2 (hb hby at_62) (own_nn (by omega)) 129 (own_cap (by omega)) (by decide) (by decide) (by decide) (pc' := 64) (fun T3 h3 b3 k3 g3 X3 e3 E3 V30 => ?_)
    have ne3_b1 : b1 ≠ b3 := by rw [g3]; exact Nat.ne_of_lt V2.lt
    have g_b3 : n0 ≤ b3 := by rw [g3]; exact Z2
    have V3_b1 := V2.ext E3
    have Z3 : n0 ≤ h3.size := Nat.le_trans Z2 E3.1
    have V3 : Arv Z h3 b3 k3 .int kd [] (.int (0 : Int32)) := V30
    refine en_astore X3 hx (hb hby at_64) (pc' := 66) (Ls' := #[.val (.int x0), .val (.int x1), .val (.int x2), .val (.int n), .val (.int q), .val (.int node), .val (.ref b1), .val (.ref b3), .unset, .unset, .unset]) rfl rfl ?_
    refine en_iload X3 hx (hb hby at_66) (pc' := 68) rfl ?_
    refine en_newP X3 hx hZ (tw hw 2 rfl) e3 (hb hby at_68) (own_nn (by omega)) 130 (own_cap (by omega)) (by decide) (by decide) (by decide) (pc' := 70) (fun T4 h4 b4 k4 g4 X4 e4 E4 V40 => ?_)
    have ne4_b1 : b1 ≠ b4 := by rw [g4]; exact Nat.ne_of_lt V3_b1.lt
    have ne4_b3 : b3 ≠ b4 := by rw [g4]; exact Nat.ne_of_lt V3.lt
    have g_b4 : n0 ≤ b4 := by rw [g4]; exact Z3
    have V4_b1 := V3_b1.ext E4
    have V4_b3 := V3.ext E4
    have Z4 : n0 ≤ h4.size := Nat.le_trans Z3 E4.1
    have V4 : Arv Z h4 b4 k4 .double q [] (defaultValue .double) := V40
    refine en_astore X4 hx (hb hby at_70) (pc' := 72) (Ls' := #[.val (.int x0), .val (.int x1), .val (.int x2), .val (.int n), .val (.int q), .val (.int node), .val (.ref b1), .val (.ref b3), .val (.ref b4), .unset, .unset]) rfl rfl ?_
    refine en_newO X4 hx hZ hown (tw hw 3 rfl) (tw hw 4 rfl) (tw hw 5 rfl) e4 (hb hby at_72) (by decide) (by decide) (pc' := 75) (fun T5 h5 b5 g5 X5 e5 E5 A5 D5 => ?_)
    have ne5_b1 : b1 ≠ b5 := by rw [g5]; exact Nat.ne_of_lt V4_b1.lt
    have ne5_b3 : b3 ≠ b5 := by rw [g5]; exact Nat.ne_of_lt V4_b3.lt
    have ne5_b4 : b4 ≠ b5 := by rw [g5]; exact Nat.ne_of_lt V4.lt
    have g_b5 : n0 ≤ b5 := by rw [g5]; exact Z4
    have V5_b1 := V4_b1.ext E5
    have V5_b3 := V4_b3.ext E5
    have V5_b4 := V4.ext E5
    have Z5 : n0 ≤ h5.size := Nat.le_trans Z4 E5.1
    have F5_b5_parents : Fld Z h5 b5 "com/example/cladestream/cladestream/inference/ParticleTree" "parents" "[I" .null := D5 (Or.inr (tw hw 13 rfl)) (ty := (.array .int)) (by decide)
    have F5_b5_children : Fld Z h5 b5 "com/example/cladestream/cladestream/inference/ParticleTree" "children" "[I" .null := D5 (Or.inr (tw hw 15 rfl)) (ty := (.array .int)) (by decide)
    have F5_b5_lengths : Fld Z h5 b5 "com/example/cladestream/cladestream/inference/ParticleTree" "lengths" "[D" .null := D5 (Or.inr (tw hw 17 rfl)) (ty := (.array .double)) (by decide)
    have F5_b5_logLikelihood : Fld Z h5 b5 "com/example/cladestream/cladestream/inference/ParticleTree" "logLikelihood" "D" (defaultValue .double) := D5 (Or.inr (tw hw 19 rfl)) (ty := .double) (by decide)
    refine en_dup X5 hx (hb hby at_75) (pc' := 76) rfl ?_
    refine en_aload X5 hx (hb hby at_76) (pc' := 78) rfl rfl ?_
    refine en_aload X5 hx (hb hby at_78) (pc' := 80) rfl rfl ?_
    refine en_aload X5 hx (hb hby at_80) (pc' := 82) rfl rfl ?_
    refine en_dconst0 X5 hx (hb hby at_82) (pc' := 83) ?_
    refine en_callN X5 hx hZ (rm := ({ frames := 1, cells := 0, slots := 0, locals := 12 } : Room)) (y := (⟨"com/example/cladestream/cladestream/inference/ParticleTree", "<init>", "([I[I[DD)V"⟩ : MethodName)) hown rfl (tw hw 6 rfl) (tw hw 7 rfl) (tw hw 5 rfl) (tw hw 8 rfl) (by decide) (rm1 l Z a0 hw [] b5 b1 b3 b4 FP.dconst0 h5 n0 Z5 A5 F5_b5_parents F5_b5_children F5_b5_lengths F5_b5_logLikelihood g_b5) e5 (by decide) 1 rfl (by decide) (by decide) (by decide) (by rw [hml]; rfl) (argsL := [(.ref b1), (.ref b3), (.ref b4), (.double FP.dconst0)]) (rest := [(.ref b5)]) (lenOf pd_1 rfl) rfl (hb hby at_83) (pc' := 86) (fun v6 T6 Lq6 X6 hQ6 => ?_)
    obtain ⟨h6, e6⟩ : ∃ q, T6.heap = q := ⟨_, rfl⟩
    rw [e6] at hQ6
    obtain ⟨rfl, Nq6, Kq6, Fp⟩ := hQ6
    have N6 := Fr.app N2 Nq6
    show OwnEnds p e below s _ _ _ T6 m 86 #[.val (.int x0), .val (.int x1), .val (.int x2), .val (.int n), .val (.int q), .val (.int node), .val (.ref b1), .val (.ref b3), .val (.ref b4), .unset, .unset] [(.ref b5)]
    have E6_b5 := A5.keep Kq6
    have V6_b1 := V5_b1.keep Kq6 (ninS ne5_b1 nin0)
    have V6_b3 := V5_b3.keep Kq6 (ninS ne5_b3 nin0)
    have V6_b4 := V5_b4.keep Kq6 (ninS ne5_b4 nin0)
    have Z6 : n0 ≤ h6.size := Nat.le_trans Z5 Kq6.1
    refine en_astore X6 hx (hb hby at_86) (pc' := 88) (Ls' := #[.val (.int x0), .val (.int x1), .val (.int x2), .val (.int n), .val (.int q), .val (.int node), .val (.ref b1), .val (.ref b3), .val (.ref b4), .val (.ref b5), .unset]) rfl rfl ?_
    refine r0_88_105 hw K X6 x0 x1 x2 n q node b1 b3 b4 b5 ?_
    refine en_aload X6 hx (hb hby at_105) (pc' := 107) rfl rfl ?_
    refine en_iload X6 hx (hb hby at_107) (pc' := 109) rfl ?_
    refine en_callVP X6 hx hZ (y := (⟨"com/example/cladestream/cladestream/inference/ParticleTree", "isLeaf", "(I)Z"⟩ : MethodName)) (z := (⟨"com/example/cladestream/cladestream/inference/ParticleTree", "isLeaf", "(I)Z"⟩ : MethodName)) (K := "com/example/cladestream/cladestream/inference/ParticleTree") (fr := 1) (lo := 13) hown (tw hw 20 rfl) (tw hw 21 rfl) (notFace_of_selects (args := #[]) (mvT hZ (tw hw 23 rfl))) (tw hw 23 rfl) (tw hw 22 rfl) (tw hw 5 rfl) (tw hw 24 rfl) E6_b5 (by decide) (rm3 l Z a0 hw [] b5 node b1 k1 q _ _ _ n0 Z6 E6_b5 Fp V6_b1) e6 (by decide) 0 rfl (by decide) (by decide) (by decide) (by rw [hml]; rfl) (argsL := [(.int node)]) (rest := []) (lenOf pd_2 rfl) rfl (hb hby at_109) (pc' := 112) (fun T7 X7 e7 => ?_)
    refine en_iload X7 hx (hb hby at_112) (pc' := 114) rfl ?_
    refine en_icmpNo X7 hx (hb hby at_114) (teq (by rw [own_cnt hn1 hq1]; exact own_same hn1 node)).2 (pc' := 117) ?_
    refine en_iconst X7 hx (1 : Int32) (hb hby at_117) (pc' := 118) ?_
    refine en_goto X7 hx (hb hby at_118) (pc' := 122) ?_
    exact en_retZ X7 hx hret hlk (hb hby at_122) rfl (by decide) (by decide) (by first | (rw [e7]; exact ⟨rfl, N6⟩) | exact ⟨rfl, N6⟩)
  by_cases hc17_8 : (x2 &&& (1 : Int32)) = (0 : Int32)
  · refine en_ifYes X0 hx (hb hby at_17) ((if0 _ _).trans (teq hc17_8).1) (pc' := 34) ?_
    refine en_iloadN X0 hx (hb hby at_34) (pc' := 35) rfl ?_
    refine en_ldc X0 hx hZ hown (tw hw 0 rfl) (hb hby at_35) (pc' := 37) ?_
    refine en_iand X0 hx (hb hby at_37) (pc' := 38) ?_
    refine en_iload X0 hx (hb hby at_38) (pc' := 40) rfl ?_
    refine en_irem X0 hx (hb hby at_40) (pc' := 41) (own_nz q (by omega)) ?_
    refine en_istore X0 hx (hb hby at_41) (pc' := 43) (Ls' := #[.val (.int x0), .val (.int x1), .val (.int x2), .val (.int n), .val (.int q), .val (.int ((x1 &&& (2147483647 : Int32)) % q)), .unset, .unset, .unset, .unset, .unset]) rfl ?_
    exact J _
  · refine en_ifNo X0 hx (hb hby at_17) ((if0 _ _).trans (feq hc17_8).1) (pc' := 20) ?_
    refine en_iloadN X0 hx (hb hby at_20) (pc' := 21) rfl ?_
    refine en_iconst X0 hx (1 : Int32) (hb hby at_21) (pc' := 22) ?_
    refine en_isub X0 hx (hb hby at_22) (pc' := 23) ?_
    refine en_iloadN X0 hx (hb hby at_23) (pc' := 24) rfl ?_
    refine en_iconst X0 hx (1 : Int32) (hb hby at_24) (pc' := 25) ?_
    refine en_ishr X0 hx (hb hby at_25) (pc' := 26) ?_
    refine en_iconst X0 hx (1 : Int32) (hb hby at_26) (pc' := 27) ?_
    refine en_iand X0 hx (hb hby at_27) (pc' := 28) ?_
    refine en_iadd X0 hx (hb hby at_28) (pc' := 29) ?_
    refine en_istore X0 hx (hb hby at_29) (pc' := 31) (Ls' := #[.val (.int x0), .val (.int x1), .val (.int x2), .val (.int n), .val (.int q), .val (.int ((n - (1 : Int32)) + ((x2 >>> ((1 : Int32) &&& 31)) &&& (1 : Int32)))), .unset, .unset, .unset, .unset, .unset]) rfl ?_
    refine en_goto X0 hx (hb hby at_31) (pc' := 43) ?_
    exact J _
set_option maxRecDepth 65536 in
set_option maxHeartbeats 40000000 in
theorem comes_1 {Post : Tables → Env → Array Value → State → Outcome → State → Prop} (hpost : ∀ tb e args s v u, (limb_1_1.after args s (.returned v) u = true ∧ limb_1_2.after args s (.returned v) u = true ∧ True) → FrameEnd s (.returned v) u (Jvm.fieldLocs frame_1_writes args s ++ Jvm.arrayLocs frame_1_arrays args s ++ Jvm.staticLocs frame_1_statics s) 16 896 → Post tb e args s (.returned v) u) :
    ArmFor flags0 classFile x code maxLocals ret World_1 tables_1 room_1 Calls_1 rest_1 Pre_1 Post := by
  intro l hfl _ _ p e ha hc hk s m args below hf hA hF happ hP
  obtain ⟨hcalls, hrest, hpre⟩ := hP
  obtain ⟨-, -, -, hnamed, -, -, -, hat⟩ := (Spec.applies_iff hf).mp happ
  obtain ⟨hg, hn⟩ := and_e (Cond.before_iff.mp (show (Jvm.Cond.and given_1 narrow_1).before args s = true from hpre))
  obtain ⟨g1, g2⟩ := and_e hg
  obtain ⟨g3, g4⟩ := and_e g2
  obtain ⟨g5, g6⟩ := and_e g4
  obtain ⟨w0, w1, w2, rfl⟩ : ∃ w0 w1 w2 : Value, args = #[w0, w1, w2] := by
    have hs : args.size = 3 := by simpa [Cond.value, given_1] using g1
    obtain ⟨L⟩ := args
    match L, hs with
    | [w0, w1, w2], _ => exact ⟨w0, w1, w2, rfl⟩
  have hw := fun d (hd : d ∈ tables_1) => atoms_spec (ws := Jvm.Cond.code x code maxLocals ret :: tables_1) hat d (List.mem_cons_of_mem _ hd)
  obtain ⟨i0, ei0⟩ := is_v g3
  obtain rfl : w0 = (.int i0) := Option.some.inj ei0
  obtain ⟨i1, ei1⟩ := is_v g5
  obtain rfl : w1 = (.int i1) := Option.some.inj ei1
  obtain ⟨i2, ei2⟩ := is_v g6
  obtain rfl : w2 = (.int i2) := Option.some.inj ei2
  obtain ⟨n, o, h1, h2, h3, _, L, rfl, ⟨rfl, N⟩, hq⟩ := rm0 l s _ hw tables_1 i0 i1 i2 s.heap s.heap.size (Nat.le_refl _)  p e ha hc hk s m _ below hf ((Spec.applies_iff_loose hf).mp happ).1 ⟨rfl, State.Warmed39.refl s, rfl⟩ trivial
  refine ⟨n, _, h1, h2, h3, hpost _ _ _ _ _ _ ⟨Cond.after_iff.mpr rfl, Cond.after_iff.mpr (eq_i res_at (Term.int_eval (1)) rfl), trivial⟩ ⟨hq.1, hq.2.1, (hq.2.2.sift fun y hy => Or.inr (N y hy)).mono (by decide) (by decide)⟩⟩
theorem main_1_1 : Claimed_1_1 := comes_1 fun _ _ _ _ _ _ h hF => ⟨h.1, hF⟩
theorem main_1_2 : Claimed_1_2 := comes_1 fun _ _ _ _ _ _ h hF => ⟨h.2.1, hF⟩
end Jvm.Pilot.@@N@@
namespace Jvm.Pilot.@@N@@
open Jvm Jvm.ClassFile Sem Op Lib Jvm.Free Jvm.Stand Jvm.Pilot.@@N@@.Jvm.D
/-! MADE BY PROGRAM (witnessworld.py) out of the Statement's table words and the real class files: 9 classes; the members and pool entries that the words name. The judged class is class 1, her method 1. -/
namespace start1
open Jvm.ClassFile
def u (s : String) : CpInfo := .utf8 (stringToUtf16 s)
/-- a pool by its gaps: so many unusable entries, then the entry; so many at the end -/
def gap : Nat → List CpInfo → List CpInfo
  | 0, r => r
  | n + 1, r => .unusable :: gap n r
def poolList (es : List (Nat × CpInfo)) (last : Nat) : List CpInfo := es.foldr (fun e r => gap e.1 (e.2 :: r)) (gap last [])
def pool (es : List (Nat × CpInfo)) (last : Nat) : Array CpInfo := ⟨poolList es last⟩
def fileOf (pool : Array CpInfo) (this : Nat) (attrs : Array Attribute := #[]) (ms : Array MethodInfo := #[]) (fl : Nat := 33) (sup : Nat := 0) (ifs : Array Nat := #[]) (fds : Array FieldInfo := #[]) : ClassFile where
  minorVersion := 0
  majorVersion := 65
  constantPool := pool
  accessFlags := fl
  thisClass := this
  superClass := sup
  interfaces := ifs
  fields := fds
  methods := ms
  attributes := attrs
def plain (name : String) (sup : Option ClassId) : Class where
  name := name
  kind := .ordinary
  loader := none
  accessFlags := 33
  super := sup
  interfaces := #[]
  cf := none
  fields := #[]
  methods := #[]
  instanceTypes := #[]
  staticTypes := #[]
  resolved := #[]
  callSites := []
  init := .initialized
  statics := none
  mirror := none

def pool0 : Array CpInfo := pool [(5, u "<init>"), (0, u "()V"), (1, .class_ 10), (1, u "java/lang/Object")] 113

def k0c0 : Code := { maxStack := 0, maxLocals := 1, code := object_method_1_code, exceptionTable := #[], attributes := #[] }
def k0m0 : Method := { name := "<init>", desc := "()V", sig := { parameters := [], returnType := none }, accessFlags := 1, code := some k0c0 }
/-- java/lang/Object -/
def k0 : Class := { plain "java/lang/Object" none with
  accessFlags := 33
  interfaces := #[]
  cf := some (fileOf pool0 8 #[] #[{ accessFlags := 1, nameIndex := 5, descriptorIndex := 6, attributes := #[] }] 33 0 #[] #[])
  fields := #[]
  methods := #[k0m0]
  instanceTypes := #[]
  staticTypes := #[]
  resolved := Array.replicate 124 none
  statics := none }

def pool1 : Array CpInfo := pool [(2, .class_ 4), (1, u "java/lang/Object"), (0, u "<init>"), (0, u "()V"), (0, .integer 2147483647), (0, .class_ 9), (0, u "com/example/cladestream/cladestream/inference/ParticleTree"), (0, .methodref 8 11), (0, .nameAndType 5 12), (0, u "([I[I[DD)V"), (0, .methodref 8 14), (0, .nameAndType 15 16), (0, u "isLeaf"), (0, u "(I)Z"), (0, .class_ 18), (0, u "com/example/cladestream/cladestream/inference/ParticleTreeIsLeafPinLaw"), (2, u "law"), (0, u "(III)Z")] 7

def k1m0 : Method := { name := "<init>", desc := "()V", sig := { parameters := [], returnType := none }, accessFlags := 1, code := none }
def k1c1 : Code := { maxStack := 7, maxLocals := 11, code := code, exceptionTable := #[], attributes := #[] }
def k1m1 : Method := { name := "law", desc := "(III)Z", sig := { parameters := [.int, .int, .int], returnType := some .boolean }, accessFlags := 9, code := some k1c1 }
/-- com/example/cladestream/cladestream/inference/ParticleTreeIsLeafPinLaw -/
def k1 : Class := { plain "com/example/cladestream/cladestream/inference/ParticleTreeIsLeafPinLaw" (some 0) with
  accessFlags := 49
  interfaces := #[]
  cf := some (fileOf pool1 17 #[] #[{ accessFlags := 1, nameIndex := 5, descriptorIndex := 6, attributes := #[] }, { accessFlags := 9, nameIndex := 21, descriptorIndex := 22, attributes := #[] }] 49 2 #[] #[])
  fields := #[]
  methods := #[k1m0, k1m1]
  instanceTypes := #[]
  staticTypes := #[]
  resolved := Array.replicate 30 none
  statics := none }

def pool2 : Array CpInfo := pool [(1, .methodref 2 3), (0, .class_ 4), (0, .nameAndType 5 6), (0, u "java/lang/Object"), (0, u "<init>"), (0, u "()V"), (0, .fieldref 8 9), (0, .class_ 10), (0, .nameAndType 11 12), (0, u "com/example/cladestream/cladestream/inference/ParticleTree"), (0, u "parents"), (0, u "[I"), (0, .fieldref 8 14), (0, .nameAndType 15 12), (0, u "children"), (0, .fieldref 8 17), (0, .nameAndType 18 19), (0, u "lengths"), (0, u "[D"), (0, .fieldref 8 21), (0, .nameAndType 22 23), (0, u "logLikelihood"), (0, u "D"), (0, .methodref 8 25), (0, .nameAndType 26 27), (0, u "taxonCount"), (0, u "()I"), (6, u "isLeaf"), (0, u "(I)Z"), (57, u "([I[I[DD)V")] 40

def k2c0 : Code := { maxStack := 3, maxLocals := 6, code := prog_9_method_1_code, exceptionTable := #[], attributes := #[] }
def k2m0 : Method := { name := "<init>", desc := "([I[I[DD)V", sig := { parameters := [(.array .int), (.array .int), (.array .double), .double], returnType := none }, accessFlags := 0, code := some k2c0 }
def k2c1 : Code := { maxStack := 2, maxLocals := 1, code := prog_9_method_2_code, exceptionTable := #[], attributes := #[] }
def k2m1 : Method := { name := "taxonCount", desc := "()I", sig := { parameters := [], returnType := some .int }, accessFlags := 0, code := some k2c1 }
def k2c2 : Code := { maxStack := 2, maxLocals := 2, code := prog_9_method_6_code, exceptionTable := #[], attributes := #[] }
def k2m2 : Method := { name := "isLeaf", desc := "(I)Z", sig := { parameters := [.int], returnType := some .boolean }, accessFlags := 0, code := some k2c2 }
/-- com/example/cladestream/cladestream/inference/ParticleTree -/
def k2 : Class := { plain "com/example/cladestream/cladestream/inference/ParticleTree" (some 0) with
  accessFlags := 48
  interfaces := #[]
  cf := some (fileOf pool2 8 #[] #[{ accessFlags := 0, nameIndex := 5, descriptorIndex := 93, attributes := #[] }, { accessFlags := 0, nameIndex := 26, descriptorIndex := 27, attributes := #[] }, { accessFlags := 0, nameIndex := 34, descriptorIndex := 35, attributes := #[] }] 48 2 #[] #[{ accessFlags := 16, nameIndex := 11, descriptorIndex := 12, attributes := #[] }, { accessFlags := 16, nameIndex := 15, descriptorIndex := 12, attributes := #[] }, { accessFlags := 16, nameIndex := 18, descriptorIndex := 19, attributes := #[] }, { accessFlags := 16, nameIndex := 22, descriptorIndex := 23, attributes := #[] }])
  fields := #[{ name := "parents", type := (.array .int), accessFlags := 16, slot := 0, constantValue := 0 }, { name := "children", type := (.array .int), accessFlags := 16, slot := 1, constantValue := 0 }, { name := "lengths", type := (.array .double), accessFlags := 16, slot := 2, constantValue := 0 }, { name := "logLikelihood", type := .double, accessFlags := 16, slot := 3, constantValue := 0 }]
  methods := #[k2m0, k2m1, k2m2]
  instanceTypes := #[(.array .int), (.array .int), (.array .double), .double]
  staticTypes := #[]
  resolved := Array.replicate 134 none
  statics := none }

def pool3 : Array CpInfo := pool [(1, u "java/lang/Cloneable"), (0, .class_ 1), (0, u "java/lang/Object"), (0, .class_ 3)] 3

/-- java/lang/Cloneable -/
def k3 : Class := { plain "java/lang/Cloneable" (some 0) with
  accessFlags := 1537
  interfaces := #[]
  cf := some (fileOf pool3 2 #[] #[] 1537 4 #[] #[])
  fields := #[]
  methods := #[]
  instanceTypes := #[]
  staticTypes := #[]
  resolved := Array.replicate 8 none
  statics := none }

def pool4 : Array CpInfo := pool [(1, u "java/io/Serializable"), (0, .class_ 1), (0, u "java/lang/Object"), (0, .class_ 3)] 3

/-- java/io/Serializable -/
def k4 : Class := { plain "java/io/Serializable" (some 0) with
  accessFlags := 1537
  interfaces := #[]
  cf := some (fileOf pool4 2 #[] #[] 1537 4 #[] #[])
  fields := #[]
  methods := #[]
  instanceTypes := #[]
  staticTypes := #[]
  resolved := Array.replicate 8 none
  statics := none }

/-- the primitive byte -/
def k5 : Class := { plain "byte" none with kind := .primitive 'B', accessFlags := 0x411 }
/-- [B -/
def k6 : Class := { plain "[B" (some 0) with kind := .array 5 .byte, interfaces := #[3, 4], accessFlags := 1041 }

/-- the primitive int -/
def k7 : Class := { plain "int" none with kind := .primitive 'I', accessFlags := 0x411 }
/-- [I -/
def k8 : Class := { plain "[I" (some 0) with kind := .array 7 .int, interfaces := #[3, 4], accessFlags := 1041 }

/-- the primitive double -/
def k9 : Class := { plain "double" none with kind := .primitive 'D', accessFlags := 0x411 }
/-- [D -/
def k10 : Class := { plain "[D" (some 0) with kind := .array 9 .double, interfaces := #[3, 4], accessFlags := 1041 }

def heap : Heap := #[]
def classes : Array Class := #[k0, k1, k2, k3, k4, k5, k6, k7, k8, k9, k10]
def interned : List (Array UInt16 × Addr) := []
def slotsUsed : Nat := 0
def theMethod : MethodId := ⟨1, 1⟩
def args0 : Array Value := #[.int 5, .int 7, .int 9]
def aboutOver (below : List Frame) : State where
  vm := { classes := classes, interned := interned.toArray }
  heap := heap
  slotsUsed := slotsUsed
  threads := #[{ frames := .invoking theMethod args0 :: below }]
def below0 : List Frame := [.native { method := ⟨0, 0⟩, args := #[] }]
def about1 : State := aboutOver below0
def p0 : Program := .bare "" "" ""
def e0 : Env := launch0.env 0 0 0
theorem w_frames : about1.frames = Frame.invoking theMethod args0 :: below0 := rfl
set_option maxRecDepth 65536 in
theorem w_args : argsFit about1.vm theMethod args0 = true := by decide +kernel
set_option maxRecDepth 65536 in
theorem w_heap : heapFits about1 = true := by decide +kernel
set_option maxRecDepth 65536 in
theorem w_runnable : about1.curStatus? = some .runnable := by decide +kernel
set_option maxRecDepth 65536 in
theorem w_alone : about1.alone = true := by decide +kernel
set_option maxRecDepth 65536 in
theorem w_named : about1.methodNamed? x = some theMethod := by decide +kernel
set_option maxRecDepth 65536 in
theorem w_hears : about1.hears theMethod below0 = true := by decide +kernel
set_option maxRecDepth 65536 in
theorem w_ripe : about1.ripe theMethod args0 below0 = true := by decide +kernel
theorem w_running : about1.status = .running := rfl
set_option maxRecDepth 65536 in
theorem w_room : about1.hasRoom e0.platform room_1 = true :=
  launch0.hasRoom_least _ room_1 (by decide +kernel) (by decide +kernel) (by decide +kernel) (by decide +kernel) (by decide +kernel) (by decide +kernel)
theorem allAtoms_all (ts : List Jvm.Cond) (a : Array Jvm.Value) (st : Jvm.State) : (allAtoms ts).before a st = ts.all (fun c => c.before a st) := by
  induction ts with
  | nil => rfl
  | cons c t ih =>
    show (Jvm.Cond.and c (allAtoms t)).before a st = _
    rw [Jvm.Cond.before_and, ih, List.all_cons]
def words1 : List Jvm.Cond := Jvm.Cond.code x code maxLocals ret :: tables_1
/-- a 'code' word, met by the world's own term for the bytes: nothing is compared byte by byte -/
theorem code_word {y : MethodName} {bytes : ByteArray} {mx : Nat} {rt : Option FieldType} {a : Array Value} {s : State} {m : MethodId} {meth : Method} {c : Code} (h1 : s.methodNamed? y = some m) (h2 : s.vm.method? m = some meth) (h3 : meth.code = some c) (h4 : c.code = bytes)
    (h5 : (c.maxLocals == mx && c.exceptionTable.isEmpty && decide (c.maxStack ≤ mostOperands) && decide (meth.sig.returnType = rt) && !meth.locks && decide (parseMethodDescriptor y.desc = some meth.sig)) = true) : (Jvm.Cond.code y bytes mx rt).before a s = true := by
  simp only [Bool.and_eq_true, beq_iff_eq, Bool.not_eq_true', decide_eq_true_eq] at h5
  obtain ⟨⟨⟨⟨⟨g1, g2⟩, g3⟩, g4⟩, g5⟩, g6⟩ := h5
  simp [Cond.before, Cond.holds, Cond.value, h1, h2, h3, h4, g1, g2, g3, g4, g5, g6]
def isCode : Jvm.Cond → Bool
  | .code _ _ _ _ => true
  | _ => false
theorem all_split {L : List Jvm.Cond} {P : Jvm.Cond → Bool} (h1 : L.all (fun c => isCode c || P c) = true) (h2 : ∀ c ∈ L.filter isCode, P c = true) : L.all P = true := by
  refine List.all_eq_true.mpr fun c hc => ?_
  have h := List.all_eq_true.mp h1 c hc
  rcases Bool.eq_false_or_eq_true (isCode c) with hi | hi
  · exact h2 c (List.mem_filter.mpr ⟨hc, hi⟩)
  · simpa [hi] using h
set_option maxRecDepth 65536 in
theorem w_c0 : (Jvm.Cond.code x code maxLocals ret).before args0 about1 = true := code_word (m := ⟨1, 1⟩) (meth := k1m1) (c := k1c1) (by decide +kernel) rfl rfl rfl (by decide +kernel)
set_option maxRecDepth 65536 in
theorem w_c1 : (Jvm.Cond.code ({ cls := "com/example/cladestream/cladestream/inference/ParticleTree", name := "<init>", desc := "([I[I[DD)V" } : Jvm.MethodName) prog_9_method_1_code (6 : Nat) (Option.none : Option Jvm.ClassFile.FieldType)).before args0 about1 = true := code_word (m := ⟨2, 0⟩) (meth := k2m0) (c := k2c0) (by decide +kernel) rfl rfl rfl (by decide +kernel)
set_option maxRecDepth 65536 in
theorem w_c2 : (Jvm.Cond.code ({ cls := "java/lang/Object", name := "<init>", desc := "()V" } : Jvm.MethodName) object_method_1_code (1 : Nat) (Option.none : Option Jvm.ClassFile.FieldType)).before args0 about1 = true := code_word (m := ⟨0, 0⟩) (meth := k0m0) (c := k0c0) (by decide +kernel) rfl rfl rfl (by decide +kernel)
set_option maxRecDepth 65536 in
theorem w_c3 : (Jvm.Cond.code ({ cls := "com/example/cladestream/cladestream/inference/ParticleTree", name := "isLeaf", desc := "(I)Z" } : Jvm.MethodName) prog_9_method_6_code (2 : Nat) (Option.some Jvm.ClassFile.FieldType.boolean)).before args0 about1 = true := code_word (m := ⟨2, 2⟩) (meth := k2m2) (c := k2c2) (by decide +kernel) rfl rfl rfl (by decide +kernel)
set_option maxRecDepth 65536 in
theorem w_c4 : (Jvm.Cond.code ({ cls := "com/example/cladestream/cladestream/inference/ParticleTree", name := "taxonCount", desc := "()I" } : Jvm.MethodName) prog_9_method_2_code (1 : Nat) (Option.some Jvm.ClassFile.FieldType.int)).before args0 about1 = true := code_word (m := ⟨2, 1⟩) (meth := k2m1) (c := k2c1) (by decide +kernel) rfl rfl rfl (by decide +kernel)
def codes1 : List Jvm.Cond := [Jvm.Cond.code x code maxLocals ret, Jvm.Cond.code ({ cls := "com/example/cladestream/cladestream/inference/ParticleTree", name := "<init>", desc := "([I[I[DD)V" } : Jvm.MethodName) prog_9_method_1_code (6 : Nat) (Option.none : Option Jvm.ClassFile.FieldType), Jvm.Cond.code ({ cls := "java/lang/Object", name := "<init>", desc := "()V" } : Jvm.MethodName) object_method_1_code (1 : Nat) (Option.none : Option Jvm.ClassFile.FieldType), Jvm.Cond.code ({ cls := "com/example/cladestream/cladestream/inference/ParticleTree", name := "isLeaf", desc := "(I)Z" } : Jvm.MethodName) prog_9_method_6_code (2 : Nat) (Option.some Jvm.ClassFile.FieldType.boolean), Jvm.Cond.code ({ cls := "com/example/cladestream/cladestream/inference/ParticleTree", name := "taxonCount", desc := "()I" } : Jvm.MethodName) prog_9_method_2_code (1 : Nat) (Option.some Jvm.ClassFile.FieldType.int)]
set_option maxRecDepth 65536 in
theorem codes_eq : words1.filter isCode = codes1 := rfl
theorem w_codes : ∀ c ∈ words1.filter isCode, c.before args0 about1 = true := by
  rw [codes_eq]
  intro c hc
  simp only [codes1, List.mem_cons, List.not_mem_nil, or_false] at hc
  rcases hc with rfl | rfl | rfl | rfl | rfl
  · exact w_c0
  · exact w_c1
  · exact w_c2
  · exact w_c3
  · exact w_c4
set_option maxRecDepth 65536 in
theorem w_t1 : (words1.take 24).all (fun c => isCode c || c.before args0 about1) = true := by decide +kernel
set_option maxRecDepth 65536 in
theorem w_t2 : (words1.drop 24).all (fun c => isCode c || c.before args0 about1) = true := by decide +kernel
theorem w_tables : (allAtoms (Jvm.Cond.code x code maxLocals ret :: tables_1)).before args0 about1 = true := by
  rw [allAtoms_all]
  show words1.all (fun c => c.before args0 about1) = true
  refine all_split ?_ w_codes
  rw [← List.take_append_drop 24 words1, List.all_append, w_t1, w_t2]
  rfl
set_option maxRecDepth 65536 in
theorem w_case : (Jvm.Cond.and given_1 narrow_1).before args0 about1 = true := by decide +kernel
theorem w_applies : (headSpec (Jvm.Cond.code x code maxLocals ret :: tables_1) room_1).applies x e0.platform about1 = true :=
  (Spec.applies_iff w_frames).mpr ⟨w_running, w_runnable, w_alone, w_named, w_hears, w_ripe, w_room, w_tables⟩
theorem atStart : AtStart classFile x code maxLocals ret World_1 tables_1 room_1 Calls_1 rest_1 Pre_1 launch0 p0 e0 about1 theMethod args0 below0 :=
  ⟨lists_1, trivial, launch0.admits_env _ _ _, launch0.least_env, fairChoices_fair.cas, fairChoices_fair.clock, w_frames, w_args, w_heap, w_applies, trivial, trivial, w_case⟩
end start1
theorem witness_1 : WitnessClaimed_1 := ⟨start1.p0, start1.e0, start1.about1, start1.theMethod, start1.args0, start1.below0, start1.atStart⟩
end Jvm.Pilot.@@N@@
