import JvmDerived
import JvmDerived.Pilot.@@N@@Statement
import JvmDerived.Pilot.@@N@@Code
set_option linter.unusedVariables false
set_option linter.unusedSimpArgs false
namespace Jvm.OwnKit
open Sem ClassFile Op Lib Jvm.Stand Jvm.Free Jvm.LawKit Jvm.RoadKit
section Kit
variable {p : Program} {l : Launch} {e : Env} {R : Room} {s : State} {m : MethodId} {args : Array Value} {below : List Frame} {meth : Method} {c : Code} {T : State} {locs : List Loc} {cells slots : Nat} {Z : State} {a0 : Array Value} {h : Heap} {C S : Nat} {Q : Option Value → Heap → List Loc → Prop} {Ls Ls' : Array Slot} {st st' rest : List Value} {pc pc' : Nat}
/-- from here the invocation ends by a return, with Q -/
def OwnEnds (p : Program) (e : Env) (below : List Frame) (s : State) (C S : Nat) (Q : Option Value → Heap → List Loc → Prop) (T : State) (m : MethodId) (pc : Nat) (Ls : Array Slot) (st : List Value) : Prop :=
  ∃ t o, Steps p.tables e below (T.setTop (mkF m pc Ls st)) t ∧ t.status = .running ∧ Ended t below o ∧ ∃ v L, o = .returned v ∧ Q v t.heap L ∧ FrameEnd s o t L C S
theorem OwnEnds.of {T' : State} (k : ∀ t, Steps p.tables e below (T'.setTop (mkF m pc' Ls' st')) t → Steps p.tables e below (T.setTop (mkF m pc Ls st)) t) (h : OwnEnds p e below s C S Q T' m pc' Ls' st') : OwnEnds p e below s C S Q T m pc Ls st := by
  obtain ⟨t, o, h1, h2⟩ := h
  exact ⟨t, o, k t h1, h2⟩
theorem OwnEnds.mono {Q' : Option Value → Heap → List Loc → Prop} (h : OwnEnds p e below s C S Q T m pc Ls st) (q : ∀ v h L, Q v h L → Q' v h L) : OwnEnds p e below s C S Q' T m pc Ls st := by
  obtain ⟨t, o, h1, h2, h3, v, L, h4, h5, h6⟩ := h
  exact ⟨t, o, h1, h2, h3, v, L, h4, q _ _ _ h5, h6⟩
/-- what a walk knows of its method -/
def Cx (p : Program) (s : State) (m : MethodId) (meth : Method) (c : Code) (Z : State) (y : MethodName) (bytes : ByteArray) (maxL : Nat) (ret : Option FieldType) : Prop :=
  p.tables.exec = Jvm.exec ∧ c.code = bytes ∧ c.maxLocals = maxL ∧ meth.sig.returnType = ret ∧ meth.locks = false ∧ meth.name = y.name ∧ s.vm.findClass y.cls = some m.cls ∧ Z.Warmed39 s.vm
/-- a contract: called with these arguments at the heap h0, the method returns with Q -/
def OwnMeets (l : Launch) (Z : State) (y : MethodName) (bytes : ByteArray) (maxL : Nat) (ret : Option FieldType) (ws : List Jvm.Cond) (rm : Room) (as' : Array Value) (h0 : Heap) (Q : Option Value → Heap → List Loc → Prop) : Prop :=
  MetFree l y (head1 (Jvm.Cond.code y bytes maxL ret :: ws) rm) (fun a U => a = as' ∧ Z.Warmed39 U.vm ∧ U.heap = h0) (fun _ _ _ _ _ => True) (fun _ U o U' => ∃ v L, o = .returned v ∧ Q v U'.heap L ∧ FrameEnd U o U' L rm.cells rm.slots)
theorem OwnMeets.of_walk {y : MethodName} {bytes : ByteArray} {maxL : Nat} {ret : Option FieldType} {ws : List Jvm.Cond} {rm : Room} {as' : Array Value} {h0 : Heap} (hpl : plainFor y = true) (hent : ∀ m, entryFrame m as' maxL = mkF m 0 Ls [])
    (body : ∀ (p : Program) (e : Env) (s : State) (m : MethodId) (below : List Frame) (meth : Method) (c : Code) (T : State), Stand p l e rm s m as' below meth c T [] 0 0 → Cx p s m meth c Z y bytes maxL ret → T.heap = h0 → OwnEnds p e below s rm.cells rm.slots Q T m 0 Ls []) :
    OwnMeets l Z y bytes maxL ret ws rm as' h0 Q := by
  refine MetFree.of_bodySF hpl hisR ?_
  intro p e s m args below meth c s₁ Bd hml0 hP hK
  obtain ⟨rfl, hZ, hh⟩ := hP
  have X0 : Stand p l e rm s m _ below meth c s₁ [] 0 0 := Stand.of_body Bd
  have e0 : s₁.heap = h0 := by rw [← hh, Bd.state]; rfl
  obtain ⟨t, o, h1, h2, h3, v, L, h4, h5, h6⟩ := body p e s m below meth c s₁ X0 ⟨Bd.exec, Bd.bytes, hml0, Bd.returns, BodyLoose.notSynchronized Bd, (name_of_methodNamed Bd.named Bd.method).1, findClass_of_methodNamed Bd.named, hZ⟩ e0
  exact ⟨t, o, castTop (hent m) h1, h2, h3, v, L, h4, h5, h6⟩
theorem tw {W : List Jvm.Cond} (hw : ∀ d ∈ W, d.before a0 Z = true) (i : Nat) {d : Jvm.Cond} (q : W[i]? = some d) : d.before a0 Z = true := hw d (List.mem_of_getElem? q)
theorem pick {P : Prop} [Decidable P] {α : Type} {A B : α} {F : α → Prop} {G : Prop} (k : F (if P then A else B)) (k1 : P → F A → G) (k2 : ¬ P → F B → G) : G := by
  by_cases q : P
  · exact k1 q (by rwa [if_pos q] at k)
  · exact k2 q (by rwa [if_neg q] at k)
theorem pickR {P : Prop} [Decidable P] {α : Type} {A B : α} {F : α → Prop} (k1 : P → F A) (k2 : ¬ P → F B) : F (if P then A else B) := by
  by_cases q : P
  · rw [if_pos q]; exact k1 q
  · rw [if_neg q]; exact k2 q
theorem en_iloadN (X : Stand p l e R s m args below meth c T locs cells slots) (hx : p.tables.exec = Jvm.exec) {k : Fin 4} {v : Int32} (hd : decode c.code pc = .ok (.iload_n k, 1)) (hl : Ls[k.val]? = some (.val (.int v))) (k : OwnEnds p e below s C S Q T m pc' Ls (.int v :: st)) (hp : pc + 1 = pc' := by rfl) : OwnEnds p e below s C S Q T m pc Ls st := by
  subst hp
  exact OwnEnds.of (fun _ k => XS.iloadN X.here hx (g := mkF m pc Ls st) rfl hd hl k) k
theorem en_iload (X : Stand p l e R s m args below meth c T locs cells slots) (hx : p.tables.exec = Jvm.exec) {k : Nat} {v : Int32} (hd : decode c.code pc = .ok (.iload k, 2)) (hl : Ls[k]? = some (.val (.int v))) (k : OwnEnds p e below s C S Q T m pc' Ls (.int v :: st)) (hp : pc + 2 = pc' := by rfl) : OwnEnds p e below s C S Q T m pc Ls st := by
  subst hp
  exact OwnEnds.of (fun _ k => XS.iload X.here hx (g := mkF m pc Ls st) rfl hd hl k) k
theorem en_istoreN (X : Stand p l e R s m args below meth c T locs cells slots) (hx : p.tables.exec = Jvm.exec) {k : Fin 4} {v : Int32} (hd : decode c.code pc = .ok (.istore_n k, 1)) (hl : storeLocals Ls k.val (.int v) = some Ls') (k : OwnEnds p e below s C S Q T m pc' Ls' st) (hp : pc + 1 = pc' := by rfl) : OwnEnds p e below s C S Q T m pc Ls (.int v :: st) := by
  subst hp
  exact OwnEnds.of (fun _ k => XS.istoreN X.here hx (g := mkF m pc Ls (.int v :: st)) rfl hd rfl hl k) k
theorem en_istore (X : Stand p l e R s m args below meth c T locs cells slots) (hx : p.tables.exec = Jvm.exec) {k : Nat} {v : Int32} (hd : decode c.code pc = .ok (.istore k, 2)) (hl : storeLocals Ls k (.int v) = some Ls') (k : OwnEnds p e below s C S Q T m pc' Ls' st) (hp : pc + 2 = pc' := by rfl) : OwnEnds p e below s C S Q T m pc Ls (.int v :: st) := by
  subst hp
  exact OwnEnds.of (fun _ k => XS.istore X.here hx (g := mkF m pc Ls (.int v :: st)) rfl hd rfl hl k) k
theorem en_lloadN (X : Stand p l e R s m args below meth c T locs cells slots) (hx : p.tables.exec = Jvm.exec) {k : Fin 4} {v : Int64} (hd : decode c.code pc = .ok (.lload_n k, 1)) (hl : Ls[k.val]? = some (.val (.long v))) (k : OwnEnds p e below s C S Q T m pc' Ls (.long v :: st)) (hp : pc + 1 = pc' := by rfl) : OwnEnds p e below s C S Q T m pc Ls st := by
  subst hp
  exact OwnEnds.of (fun _ k => XS.lloadN X.here hx (g := mkF m pc Ls st) rfl hd hl k) k
theorem en_lload (X : Stand p l e R s m args below meth c T locs cells slots) (hx : p.tables.exec = Jvm.exec) {k : Nat} {v : Int64} (hd : decode c.code pc = .ok (.lload k, 2)) (hl : Ls[k]? = some (.val (.long v))) (k : OwnEnds p e below s C S Q T m pc' Ls (.long v :: st)) (hp : pc + 2 = pc' := by rfl) : OwnEnds p e below s C S Q T m pc Ls st := by
  subst hp
  exact OwnEnds.of (fun _ k => XS.lload X.here hx (g := mkF m pc Ls st) rfl hd hl k) k
theorem en_lstoreN (X : Stand p l e R s m args below meth c T locs cells slots) (hx : p.tables.exec = Jvm.exec) {k : Fin 4} {v : Int64} (hd : decode c.code pc = .ok (.lstore_n k, 1)) (hl : storeLocals Ls k.val (.long v) = some Ls') (k : OwnEnds p e below s C S Q T m pc' Ls' st) (hp : pc + 1 = pc' := by rfl) : OwnEnds p e below s C S Q T m pc Ls (.long v :: st) := by
  subst hp
  exact OwnEnds.of (fun _ k => XS.lstoreN X.here hx (g := mkF m pc Ls (.long v :: st)) rfl hd rfl hl k) k
theorem en_lstore (X : Stand p l e R s m args below meth c T locs cells slots) (hx : p.tables.exec = Jvm.exec) {k : Nat} {v : Int64} (hd : decode c.code pc = .ok (.lstore k, 2)) (hl : storeLocals Ls k (.long v) = some Ls') (k : OwnEnds p e below s C S Q T m pc' Ls' st) (hp : pc + 2 = pc' := by rfl) : OwnEnds p e below s C S Q T m pc Ls (.long v :: st) := by
  subst hp
  exact OwnEnds.of (fun _ k => XS.lstore X.here hx (g := mkF m pc Ls (.long v :: st)) rfl hd rfl hl k) k
theorem en_aloadN (X : Stand p l e R s m args below meth c T locs cells slots) (hx : p.tables.exec = Jvm.exec) {k : Fin 4} {v : Value} (hd : decode c.code pc = .ok (.aload_n k, 1)) (hl : Ls[k.val]? = some (.val v)) (hv : v.isRef = true) (k : OwnEnds p e below s C S Q T m pc' Ls (v :: st)) (hp : pc + 1 = pc' := by rfl) : OwnEnds p e below s C S Q T m pc Ls st := by
  subst hp
  exact OwnEnds.of (fun _ k => XS.aloadN X.here hx (g := mkF m pc Ls st) rfl hd hl hv k) k
theorem en_aload (X : Stand p l e R s m args below meth c T locs cells slots) (hx : p.tables.exec = Jvm.exec) {k : Nat} {v : Value} (hd : decode c.code pc = .ok (.aload k, 2)) (hl : Ls[k]? = some (.val v)) (hv : v.isRef = true) (k : OwnEnds p e below s C S Q T m pc' Ls (v :: st)) (hp : pc + 2 = pc' := by rfl) : OwnEnds p e below s C S Q T m pc Ls st := by
  subst hp
  exact OwnEnds.of (fun _ k => XS.aload X.here hx (g := mkF m pc Ls st) rfl hd hl hv k) k
theorem en_astoreN (X : Stand p l e R s m args below meth c T locs cells slots) (hx : p.tables.exec = Jvm.exec) {k : Fin 4} {v : Value} (hd : decode c.code pc = .ok (.astore_n k, 1)) (hv : v.isRef = true) (hl : storeLocals Ls k.val v = some Ls') (k : OwnEnds p e below s C S Q T m pc' Ls' st) (hp : pc + 1 = pc' := by rfl) : OwnEnds p e below s C S Q T m pc Ls (v :: st) := by
  subst hp
  exact OwnEnds.of (fun _ k => XS.astoreN X.here hx (g := mkF m pc Ls (v :: st)) rfl hd rfl hv hl k) k
theorem en_astore (X : Stand p l e R s m args below meth c T locs cells slots) (hx : p.tables.exec = Jvm.exec) {k : Nat} {v : Value} (hd : decode c.code pc = .ok (.astore k, 2)) (hv : v.isRef = true) (hl : storeLocals Ls k v = some Ls') (k : OwnEnds p e below s C S Q T m pc' Ls' st) (hp : pc + 2 = pc' := by rfl) : OwnEnds p e below s C S Q T m pc Ls (v :: st) := by
  subst hp
  exact OwnEnds.of (fun _ k => XS.astore X.here hx (g := mkF m pc Ls (v :: st)) rfl hd rfl hv hl k) k
theorem en_dload (X : Stand p l e R s m args below meth c T locs cells slots) (hx : p.tables.exec = Jvm.exec) {k : Nat} {v : UInt64} (hd : decode c.code pc = .ok (.dload k, 2)) (hl : Ls[k]? = some (.val (.double v))) (k : OwnEnds p e below s C S Q T m pc' Ls (.double v :: st)) (hp : pc + 2 = pc' := by rfl) : OwnEnds p e below s C S Q T m pc Ls st := by
  subst hp
  exact OwnEnds.of (fun _ k => XS.dload X.here hx (g := mkF m pc Ls st) rfl hd hl k) k
theorem en_iconst (X : Stand p l e R s m args below meth c T locs cells slots) (hx : p.tables.exec = Jvm.exec) {i : Int} (v : Int32) (hd : decode c.code pc = .ok (.iconst i, 1)) (k : OwnEnds p e below s C S Q T m pc' Ls (.int v :: st)) (hv : Int32.ofInt i = v := by rfl) (hp : pc + 1 = pc' := by rfl) : OwnEnds p e below s C S Q T m pc Ls st := by
  subst hp hv
  exact OwnEnds.of (fun _ k => XS.iconst X.here hx (g := mkF m pc Ls st) rfl hd k) k
theorem en_bipush (X : Stand p l e R s m args below meth c T locs cells slots) (hx : p.tables.exec = Jvm.exec) {i : Int} (v : Int32) (hd : decode c.code pc = .ok (.bipush i, 2)) (k : OwnEnds p e below s C S Q T m pc' Ls (.int v :: st)) (hv : (Int8.ofInt i).toInt32 = v := by rfl) (hp : pc + 2 = pc' := by rfl) : OwnEnds p e below s C S Q T m pc Ls st := by
  subst hp hv
  exact OwnEnds.of (fun _ k => XS.bipush X.here hx (g := mkF m pc Ls st) rfl hd k) k
theorem en_sipush (X : Stand p l e R s m args below meth c T locs cells slots) (hx : p.tables.exec = Jvm.exec) {i : Int} (v : Int32) (hd : decode c.code pc = .ok (.sipush i, 3)) (k : OwnEnds p e below s C S Q T m pc' Ls (.int v :: st)) (hv : (Int16.ofInt i).toInt32 = v := by rfl) (hp : pc + 3 = pc' := by rfl) : OwnEnds p e below s C S Q T m pc Ls st := by
  subst hp hv
  exact OwnEnds.of (fun _ k => XS.sipush X.here hx (g := mkF m pc Ls st) rfl hd k) k
theorem en_lconst (X : Stand p l e R s m args below meth c T locs cells slots) (hx : p.tables.exec = Jvm.exec) {i : Fin 2} (v : Int64) (hd : decode c.code pc = .ok (.lconst i, 1)) (k : OwnEnds p e below s C S Q T m pc' Ls (.long v :: st)) (hv : Int64.ofNat i = v := by rfl) (hp : pc + 1 = pc' := by rfl) : OwnEnds p e below s C S Q T m pc Ls st := by
  subst hp hv
  exact OwnEnds.of (fun _ k => XS.lconst X.here hx (g := mkF m pc Ls st) rfl hd k) k
theorem en_dconst0 (X : Stand p l e R s m args below meth c T locs cells slots) (hx : p.tables.exec = Jvm.exec) (hd : decode c.code pc = .ok (.dconst 0, 1)) (k : OwnEnds p e below s C S Q T m pc' Ls (.double FP.dconst0 :: st)) (hp : pc + 1 = pc' := by rfl) : OwnEnds p e below s C S Q T m pc Ls st := by
  subst hp
  exact OwnEnds.of (fun _ k => XS.dconst0 X.here hx (g := mkF m pc Ls st) rfl hd rfl k) k
theorem en_ldc (X : Stand p l e R s m args below meth c T locs cells slots) (hx : p.tables.exec = Jvm.exec) (hZ : Z.Warmed39 s.vm) {own : String} {index : Nat} {v : Int32} (hown : s.vm.findClass own = some m.cls) (w : (Jvm.Cond.constant own index v).before a0 Z = true) (hd : decode c.code pc = .ok (.ldc index, 2)) (k : OwnEnds p e below s C S Q T m pc' Ls (.int v :: st)) (hp : pc + 2 = pc' := by rfl) : OwnEnds p e below s C S Q T m pc Ls st := by
  subst hp
  exact OwnEnds.of (X.ldcInt hx hown (mvT hZ w) (g := mkF m pc Ls st) rfl hd) k
theorem en_ldc2 (X : Stand p l e R s m args below meth c T locs cells slots) (hx : p.tables.exec = Jvm.exec) (hZ : Z.Warmed39 s.vm) {own : String} {index : Nat} {v : Int64} (hown : s.vm.findClass own = some m.cls) (w : (Jvm.Cond.constantLong own index v).before a0 Z = true) (hd : decode c.code pc = .ok (.ldc2_w index, 3)) (k : OwnEnds p e below s C S Q T m pc' Ls (.long v :: st)) (hp : pc + 3 = pc' := by rfl) : OwnEnds p e below s C S Q T m pc Ls st := by
  subst hp
  exact OwnEnds.of (X.ldc2Long hx hown (mvT hZ w) (g := mkF m pc Ls st) rfl hd) k
theorem en_iadd (X : Stand p l e R s m args below meth c T locs cells slots) (hx : p.tables.exec = Jvm.exec) {x y : Int32} (hd : decode c.code pc = .ok (.iadd, 1))  (k : OwnEnds p e below s C S Q T m pc' Ls (.int (x + y) :: st)) (hp : pc + 1 = pc' := by rfl) : OwnEnds p e below s C S Q T m pc Ls (.int y :: .int x :: st) := by
  subst hp
  exact OwnEnds.of (fun _ k => XS.iadd X.here hx (g := mkF m pc Ls (.int y :: .int x :: st)) rfl hd rfl k) k
theorem en_isub (X : Stand p l e R s m args below meth c T locs cells slots) (hx : p.tables.exec = Jvm.exec) {x y : Int32} (hd : decode c.code pc = .ok (.isub, 1))  (k : OwnEnds p e below s C S Q T m pc' Ls (.int (x - y) :: st)) (hp : pc + 1 = pc' := by rfl) : OwnEnds p e below s C S Q T m pc Ls (.int y :: .int x :: st) := by
  subst hp
  exact OwnEnds.of (fun _ k => XS.isub X.here hx (g := mkF m pc Ls (.int y :: .int x :: st)) rfl hd rfl k) k
theorem en_imul (X : Stand p l e R s m args below meth c T locs cells slots) (hx : p.tables.exec = Jvm.exec) {x y : Int32} (hd : decode c.code pc = .ok (.imul, 1))  (k : OwnEnds p e below s C S Q T m pc' Ls (.int (x * y) :: st)) (hp : pc + 1 = pc' := by rfl) : OwnEnds p e below s C S Q T m pc Ls (.int y :: .int x :: st) := by
  subst hp
  exact OwnEnds.of (fun _ k => XS.imul X.here hx (g := mkF m pc Ls (.int y :: .int x :: st)) rfl hd rfl k) k
theorem en_iand (X : Stand p l e R s m args below meth c T locs cells slots) (hx : p.tables.exec = Jvm.exec) {x y : Int32} (hd : decode c.code pc = .ok (.iand, 1))  (k : OwnEnds p e below s C S Q T m pc' Ls (.int (x &&& y) :: st)) (hp : pc + 1 = pc' := by rfl) : OwnEnds p e below s C S Q T m pc Ls (.int y :: .int x :: st) := by
  subst hp
  exact OwnEnds.of (fun _ k => XS.iand X.here hx (g := mkF m pc Ls (.int y :: .int x :: st)) rfl hd rfl k) k
theorem en_ior (X : Stand p l e R s m args below meth c T locs cells slots) (hx : p.tables.exec = Jvm.exec) {x y : Int32} (hd : decode c.code pc = .ok (.ior, 1))  (k : OwnEnds p e below s C S Q T m pc' Ls (.int (x ||| y) :: st)) (hp : pc + 1 = pc' := by rfl) : OwnEnds p e below s C S Q T m pc Ls (.int y :: .int x :: st) := by
  subst hp
  exact OwnEnds.of (fun _ k => XS.ior X.here hx (g := mkF m pc Ls (.int y :: .int x :: st)) rfl hd rfl k) k
theorem en_ixor (X : Stand p l e R s m args below meth c T locs cells slots) (hx : p.tables.exec = Jvm.exec) {x y : Int32} (hd : decode c.code pc = .ok (.ixor, 1))  (k : OwnEnds p e below s C S Q T m pc' Ls (.int (x ^^^ y) :: st)) (hp : pc + 1 = pc' := by rfl) : OwnEnds p e below s C S Q T m pc Ls (.int y :: .int x :: st) := by
  subst hp
  exact OwnEnds.of (fun _ k => XS.ixor X.here hx (g := mkF m pc Ls (.int y :: .int x :: st)) rfl hd rfl k) k
theorem en_ishl (X : Stand p l e R s m args below meth c T locs cells slots) (hx : p.tables.exec = Jvm.exec) {x y : Int32} (hd : decode c.code pc = .ok (.ishl, 1))  (k : OwnEnds p e below s C S Q T m pc' Ls (.int (x <<< (y &&& 31)) :: st)) (hp : pc + 1 = pc' := by rfl) : OwnEnds p e below s C S Q T m pc Ls (.int y :: .int x :: st) := by
  subst hp
  exact OwnEnds.of (fun _ k => XS.ishl X.here hx (g := mkF m pc Ls (.int y :: .int x :: st)) rfl hd rfl k) k
theorem en_ishr (X : Stand p l e R s m args below meth c T locs cells slots) (hx : p.tables.exec = Jvm.exec) {x y : Int32} (hd : decode c.code pc = .ok (.ishr, 1))  (k : OwnEnds p e below s C S Q T m pc' Ls (.int (x >>> (y &&& 31)) :: st)) (hp : pc + 1 = pc' := by rfl) : OwnEnds p e below s C S Q T m pc Ls (.int y :: .int x :: st) := by
  subst hp
  exact OwnEnds.of (fun _ k => XS.ishr X.here hx (g := mkF m pc Ls (.int y :: .int x :: st)) rfl hd rfl k) k
theorem en_iushr (X : Stand p l e R s m args below meth c T locs cells slots) (hx : p.tables.exec = Jvm.exec) {x y : Int32} (hd : decode c.code pc = .ok (.iushr, 1))  (k : OwnEnds p e below s C S Q T m pc' Ls (.int ((x.toUInt32 >>> (y &&& 31).toUInt32).toInt32) :: st)) (hp : pc + 1 = pc' := by rfl) : OwnEnds p e below s C S Q T m pc Ls (.int y :: .int x :: st) := by
  subst hp
  exact OwnEnds.of (fun _ k => XS.iushr X.here hx (g := mkF m pc Ls (.int y :: .int x :: st)) rfl hd rfl k) k
theorem en_ladd (X : Stand p l e R s m args below meth c T locs cells slots) (hx : p.tables.exec = Jvm.exec) {x y : Int64} (hd : decode c.code pc = .ok (.ladd, 1))  (k : OwnEnds p e below s C S Q T m pc' Ls (.long (x + y) :: st)) (hp : pc + 1 = pc' := by rfl) : OwnEnds p e below s C S Q T m pc Ls (.long y :: .long x :: st) := by
  subst hp
  exact OwnEnds.of (fun _ k => XS.ladd X.here hx (g := mkF m pc Ls (.long y :: .long x :: st)) rfl hd rfl k) k
theorem en_lsub (X : Stand p l e R s m args below meth c T locs cells slots) (hx : p.tables.exec = Jvm.exec) {x y : Int64} (hd : decode c.code pc = .ok (.lsub, 1))  (k : OwnEnds p e below s C S Q T m pc' Ls (.long (x - y) :: st)) (hp : pc + 1 = pc' := by rfl) : OwnEnds p e below s C S Q T m pc Ls (.long y :: .long x :: st) := by
  subst hp
  exact OwnEnds.of (fun _ k => XS.lsub X.here hx (g := mkF m pc Ls (.long y :: .long x :: st)) rfl hd rfl k) k
theorem en_lmul (X : Stand p l e R s m args below meth c T locs cells slots) (hx : p.tables.exec = Jvm.exec) {x y : Int64} (hd : decode c.code pc = .ok (.lmul, 1))  (k : OwnEnds p e below s C S Q T m pc' Ls (.long (x * y) :: st)) (hp : pc + 1 = pc' := by rfl) : OwnEnds p e below s C S Q T m pc Ls (.long y :: .long x :: st) := by
  subst hp
  exact OwnEnds.of (fun _ k => XS.lmul X.here hx (g := mkF m pc Ls (.long y :: .long x :: st)) rfl hd rfl k) k
theorem en_land (X : Stand p l e R s m args below meth c T locs cells slots) (hx : p.tables.exec = Jvm.exec) {x y : Int64} (hd : decode c.code pc = .ok (.land, 1))  (k : OwnEnds p e below s C S Q T m pc' Ls (.long (x &&& y) :: st)) (hp : pc + 1 = pc' := by rfl) : OwnEnds p e below s C S Q T m pc Ls (.long y :: .long x :: st) := by
  subst hp
  exact OwnEnds.of (fun _ k => XS.land X.here hx (g := mkF m pc Ls (.long y :: .long x :: st)) rfl hd rfl k) k
theorem en_lor (X : Stand p l e R s m args below meth c T locs cells slots) (hx : p.tables.exec = Jvm.exec) {x y : Int64} (hd : decode c.code pc = .ok (.lor, 1))  (k : OwnEnds p e below s C S Q T m pc' Ls (.long (x ||| y) :: st)) (hp : pc + 1 = pc' := by rfl) : OwnEnds p e below s C S Q T m pc Ls (.long y :: .long x :: st) := by
  subst hp
  exact OwnEnds.of (fun _ k => XS.lor X.here hx (g := mkF m pc Ls (.long y :: .long x :: st)) rfl hd rfl k) k
theorem en_lxor (X : Stand p l e R s m args below meth c T locs cells slots) (hx : p.tables.exec = Jvm.exec) {x y : Int64} (hd : decode c.code pc = .ok (.lxor, 1))  (k : OwnEnds p e below s C S Q T m pc' Ls (.long (x ^^^ y) :: st)) (hp : pc + 1 = pc' := by rfl) : OwnEnds p e below s C S Q T m pc Ls (.long y :: .long x :: st) := by
  subst hp
  exact OwnEnds.of (fun _ k => XS.lxor X.here hx (g := mkF m pc Ls (.long y :: .long x :: st)) rfl hd rfl k) k
theorem en_lshl (X : Stand p l e R s m args below meth c T locs cells slots) (hx : p.tables.exec = Jvm.exec) {x : Int64} {y : Int32} (hd : decode c.code pc = .ok (.lshl, 1))  (k : OwnEnds p e below s C S Q T m pc' Ls (.long (x <<< (y &&& 0x3f).toInt64) :: st)) (hp : pc + 1 = pc' := by rfl) : OwnEnds p e below s C S Q T m pc Ls (.int y :: .long x :: st) := by
  subst hp
  exact OwnEnds.of (fun _ k => XS.lshl X.here hx (g := mkF m pc Ls (.int y :: .long x :: st)) rfl hd rfl k) k
theorem en_lshr (X : Stand p l e R s m args below meth c T locs cells slots) (hx : p.tables.exec = Jvm.exec) {x : Int64} {y : Int32} (hd : decode c.code pc = .ok (.lshr, 1))  (k : OwnEnds p e below s C S Q T m pc' Ls (.long (x >>> (y &&& 0x3f).toInt64) :: st)) (hp : pc + 1 = pc' := by rfl) : OwnEnds p e below s C S Q T m pc Ls (.int y :: .long x :: st) := by
  subst hp
  exact OwnEnds.of (fun _ k => XS.lshr X.here hx (g := mkF m pc Ls (.int y :: .long x :: st)) rfl hd rfl k) k
theorem en_lushr (X : Stand p l e R s m args below meth c T locs cells slots) (hx : p.tables.exec = Jvm.exec) {x : Int64} {y : Int32} (hd : decode c.code pc = .ok (.lushr, 1))  (k : OwnEnds p e below s C S Q T m pc' Ls (.long ((x.toUInt64 >>> (y &&& 0x3f).toInt64.toUInt64).toInt64) :: st)) (hp : pc + 1 = pc' := by rfl) : OwnEnds p e below s C S Q T m pc Ls (.int y :: .long x :: st) := by
  subst hp
  exact OwnEnds.of (fun _ k => XS.lushr X.here hx (g := mkF m pc Ls (.int y :: .long x :: st)) rfl hd rfl k) k
theorem en_lcmp (X : Stand p l e R s m args below meth c T locs cells slots) (hx : p.tables.exec = Jvm.exec) {x y : Int64} (hd : decode c.code pc = .ok (.lcmp, 1))  (k : OwnEnds p e below s C S Q T m pc' Ls (.int (lcmpW x y) :: st)) (hp : pc + 1 = pc' := by rfl) : OwnEnds p e below s C S Q T m pc Ls (.long y :: .long x :: st) := by
  subst hp
  exact OwnEnds.of (fun _ k => XS.lcmp X.here hx (g := mkF m pc Ls (.long y :: .long x :: st)) rfl hd rfl k) k
theorem en_i2l (X : Stand p l e R s m args below meth c T locs cells slots) (hx : p.tables.exec = Jvm.exec) {x : Int32} (hd : decode c.code pc = .ok (.i2l, 1))  (k : OwnEnds p e below s C S Q T m pc' Ls (.long (x.toInt64) :: st)) (hp : pc + 1 = pc' := by rfl) : OwnEnds p e below s C S Q T m pc Ls (.int x :: st) := by
  subst hp
  exact OwnEnds.of (fun _ k => XS.i2l X.here hx (g := mkF m pc Ls (.int x :: st)) rfl hd rfl k) k
theorem en_l2i (X : Stand p l e R s m args below meth c T locs cells slots) (hx : p.tables.exec = Jvm.exec) {x : Int64} (hd : decode c.code pc = .ok (.l2i, 1))  (k : OwnEnds p e below s C S Q T m pc' Ls (.int (x.toInt32) :: st)) (hp : pc + 1 = pc' := by rfl) : OwnEnds p e below s C S Q T m pc Ls (.long x :: st) := by
  subst hp
  exact OwnEnds.of (fun _ k => XS.l2i X.here hx (g := mkF m pc Ls (.long x :: st)) rfl hd rfl k) k
theorem en_i2b (X : Stand p l e R s m args below meth c T locs cells slots) (hx : p.tables.exec = Jvm.exec) {x : Int32} (hd : decode c.code pc = .ok (.i2b, 1))  (k : OwnEnds p e below s C S Q T m pc' Ls (.int (x.toInt8.toInt32) :: st)) (hp : pc + 1 = pc' := by rfl) : OwnEnds p e below s C S Q T m pc Ls (.int x :: st) := by
  subst hp
  exact OwnEnds.of (fun _ k => XS.i2b X.here hx (g := mkF m pc Ls (.int x :: st)) rfl hd rfl k) k
theorem en_i2c (X : Stand p l e R s m args below meth c T locs cells slots) (hx : p.tables.exec = Jvm.exec) {x : Int32} (hd : decode c.code pc = .ok (.i2c, 1))  (k : OwnEnds p e below s C S Q T m pc' Ls (.int (x.toUInt32.toUInt16.toUInt32.toInt32) :: st)) (hp : pc + 1 = pc' := by rfl) : OwnEnds p e below s C S Q T m pc Ls (.int x :: st) := by
  subst hp
  exact OwnEnds.of (fun _ k => XS.i2c X.here hx (g := mkF m pc Ls (.int x :: st)) rfl hd rfl k) k
theorem en_i2s (X : Stand p l e R s m args below meth c T locs cells slots) (hx : p.tables.exec = Jvm.exec) {x : Int32} (hd : decode c.code pc = .ok (.i2s, 1))  (k : OwnEnds p e below s C S Q T m pc' Ls (.int (x.toInt16.toInt32) :: st)) (hp : pc + 1 = pc' := by rfl) : OwnEnds p e below s C S Q T m pc Ls (.int x :: st) := by
  subst hp
  exact OwnEnds.of (fun _ k => XS.i2s X.here hx (g := mkF m pc Ls (.int x :: st)) rfl hd rfl k) k
theorem en_ineg (X : Stand p l e R s m args below meth c T locs cells slots) (hx : p.tables.exec = Jvm.exec) {x : Int32} (hd : decode c.code pc = .ok (.ineg, 1))  (k : OwnEnds p e below s C S Q T m pc' Ls (.int (-x) :: st)) (hp : pc + 1 = pc' := by rfl) : OwnEnds p e below s C S Q T m pc Ls (.int x :: st) := by
  subst hp
  exact OwnEnds.of (fun _ k => XS.ineg X.here hx (g := mkF m pc Ls (.int x :: st)) rfl hd rfl k) k
theorem en_lneg (X : Stand p l e R s m args below meth c T locs cells slots) (hx : p.tables.exec = Jvm.exec) {x : Int64} (hd : decode c.code pc = .ok (.lneg, 1))  (k : OwnEnds p e below s C S Q T m pc' Ls (.long (-x) :: st)) (hp : pc + 1 = pc' := by rfl) : OwnEnds p e below s C S Q T m pc Ls (.long x :: st) := by
  subst hp
  exact OwnEnds.of (fun _ k => XS.lneg X.here hx (g := mkF m pc Ls (.long x :: st)) rfl hd rfl k) k
theorem en_idiv (X : Stand p l e R s m args below meth c T locs cells slots) (hx : p.tables.exec = Jvm.exec) {x y : Int32} (hd : decode c.code pc = .ok (.idiv, 1)) (hy : y ≠ 0) (k : OwnEnds p e below s C S Q T m pc' Ls (.int (x / y) :: st)) (hp : pc + 1 = pc' := by rfl) : OwnEnds p e below s C S Q T m pc Ls (.int y :: .int x :: st) := by
  subst hp
  exact OwnEnds.of (fun _ k => XS.idiv X.here hx (g := mkF m pc Ls (.int y :: .int x :: st)) rfl hd rfl hy k) k
theorem en_irem (X : Stand p l e R s m args below meth c T locs cells slots) (hx : p.tables.exec = Jvm.exec) {x y : Int32} (hd : decode c.code pc = .ok (.irem, 1)) (hy : y ≠ 0) (k : OwnEnds p e below s C S Q T m pc' Ls (.int (x % y) :: st)) (hp : pc + 1 = pc' := by rfl) : OwnEnds p e below s C S Q T m pc Ls (.int y :: .int x :: st) := by
  subst hp
  exact OwnEnds.of (fun _ k => iremM (g := mkF m pc Ls (.int y :: .int x :: st)) X hx rfl hd rfl hy k) k
theorem en_lrem (X : Stand p l e R s m args below meth c T locs cells slots) (hx : p.tables.exec = Jvm.exec) {x y : Int64} (hd : decode c.code pc = .ok (.lrem, 1)) (hy : y ≠ 0) (k : OwnEnds p e below s C S Q T m pc' Ls (.long (x % y) :: st)) (hp : pc + 1 = pc' := by rfl) : OwnEnds p e below s C S Q T m pc Ls (.long y :: .long x :: st) := by
  subst hp
  rw [← lrem_mod x y] at k
  exact OwnEnds.of (fun _ k => XS.lrem X.here hx (g := mkF m pc Ls (.long y :: .long x :: st)) rfl hd rfl hy k) k
theorem en_dup (X : Stand p l e R s m args below meth c T locs cells slots) (hx : p.tables.exec = Jvm.exec) {v : Value} (hd : decode c.code pc = .ok (.dup, 1)) (hc : v.category = 1) (k : OwnEnds p e below s C S Q T m pc' Ls (v :: v :: st)) (hp : pc + 1 = pc' := by rfl) : OwnEnds p e below s C S Q T m pc Ls (v :: st) := by
  subst hp
  exact OwnEnds.of (fun _ k => XS.dup X.here hx (g := mkF m pc Ls (v :: st)) rfl hd rfl hc k) k
theorem en_pop (X : Stand p l e R s m args below meth c T locs cells slots) (hx : p.tables.exec = Jvm.exec) {v : Value} (hd : decode c.code pc = .ok (.pop, 1)) (hc : v.category = 1) (k : OwnEnds p e below s C S Q T m pc' Ls st) (hp : pc + 1 = pc' := by rfl) : OwnEnds p e below s C S Q T m pc Ls (v :: st) := by
  subst hp
  exact OwnEnds.of (fun _ k => XS.pop X.here hx (g := mkF m pc Ls (v :: st)) rfl hd rfl hc k) k
theorem en_dupX1 (X : Stand p l e R s m args below meth c T locs cells slots) (hx : p.tables.exec = Jvm.exec) {v w : Value} (hd : decode c.code pc = .ok (.dup_x1, 1)) (hc : v.category = 1) (hc2 : w.category = 1) (k : OwnEnds p e below s C S Q T m pc' Ls (v :: w :: v :: st)) (hp : pc + 1 = pc' := by rfl) : OwnEnds p e below s C S Q T m pc Ls (v :: w :: st) := by
  subst hp
  exact OwnEnds.of (fun _ k => XS.dupX1 X.here hx (g := mkF m pc Ls (v :: w :: st)) rfl hd rfl hc hc2 k) k
theorem en_iinc (X : Stand p l e R s m args below meth c T locs cells slots) (hx : p.tables.exec = Jvm.exec) {k : Nat} {q : Int} {x : Int32} (hd : decode c.code pc = .ok (.iinc k q, 3)) (hl : Ls[k]? = some (.val (.int x))) (hl' : storeLocals Ls k (.int (x + Int32.ofInt q)) = some Ls') (k : OwnEnds p e below s C S Q T m pc' Ls' st) (hp : pc + 3 = pc' := by rfl) : OwnEnds p e below s C S Q T m pc Ls st := by
  subst hp
  exact OwnEnds.of (fun _ k => XS.iinc X.here hx (g := mkF m pc Ls st) rfl hd hl hl' k) k
theorem en_goto (X : Stand p l e R s m args below meth c T locs cells slots) (hx : p.tables.exec = Jvm.exec) {o : Int} (hd : decode c.code pc = .ok (.goto o, 3)) (k : OwnEnds p e below s C S Q T m pc' Ls st) (ho : 0 ≤ (pc : Int) + o := by decide) (hp : ((pc : Int) + o).toNat = pc' := by decide) : OwnEnds p e below s C S Q T m pc Ls st := by
  exact OwnEnds.of (fun _ k => XS.goto X.here hx (g := mkF m pc Ls st) rfl rfl hd ho hp k) k
theorem en_ifYes (X : Stand p l e R s m args below meth c T locs cells slots) (hx : p.tables.exec = Jvm.exec) {cd : ClassFile.Cond} {o : Int} {x : Int32} (hd : decode c.code pc = .ok (.ifCond cd o, 3)) (hc : ifCond.holds cd x = true) (k : OwnEnds p e below s C S Q T m pc' Ls st) (ho : 0 ≤ (pc : Int) + o := by decide) (hp : ((pc : Int) + o).toNat = pc' := by decide) : OwnEnds p e below s C S Q T m pc Ls (.int x :: st) := by
  exact OwnEnds.of (fun _ k => XS.ifYes X.here hx (g := mkF m pc Ls (.int x :: st)) rfl rfl hd rfl hc ho hp k) k
theorem en_ifNo (X : Stand p l e R s m args below meth c T locs cells slots) (hx : p.tables.exec = Jvm.exec) {cd : ClassFile.Cond} {o : Int} {x : Int32} (hd : decode c.code pc = .ok (.ifCond cd o, 3)) (hc : ifCond.holds cd x = false) (k : OwnEnds p e below s C S Q T m pc' Ls st) (hp : pc + 3 = pc' := by rfl) : OwnEnds p e below s C S Q T m pc Ls (.int x :: st) := by
  subst hp
  exact OwnEnds.of (fun _ k => XS.ifNo X.here hx (g := mkF m pc Ls (.int x :: st)) rfl hd rfl hc k) k
theorem en_icmpYes (X : Stand p l e R s m args below meth c T locs cells slots) (hx : p.tables.exec = Jvm.exec) {cd : ClassFile.Cond} {o : Int} {x y : Int32} (hd : decode c.code pc = .ok (.if_icmp cd o, 3)) (hc : if_icmp.holds cd x y = true) (k : OwnEnds p e below s C S Q T m pc' Ls st) (ho : 0 ≤ (pc : Int) + o := by decide) (hp : ((pc : Int) + o).toNat = pc' := by decide) : OwnEnds p e below s C S Q T m pc Ls (.int y :: .int x :: st) := by
  exact OwnEnds.of (fun _ k => XS.icmpYes X.here hx (g := mkF m pc Ls (.int y :: .int x :: st)) rfl rfl hd rfl hc ho hp k) k
theorem en_icmpNo (X : Stand p l e R s m args below meth c T locs cells slots) (hx : p.tables.exec = Jvm.exec) {cd : ClassFile.Cond} {o : Int} {x y : Int32} (hd : decode c.code pc = .ok (.if_icmp cd o, 3)) (hc : if_icmp.holds cd x y = false) (k : OwnEnds p e below s C S Q T m pc' Ls st) (hp : pc + 3 = pc' := by rfl) : OwnEnds p e below s C S Q T m pc Ls (.int y :: .int x :: st) := by
  subst hp
  exact OwnEnds.of (fun _ k => XS.icmpNo X.here hx (g := mkF m pc Ls (.int y :: .int x :: st)) rfl hd rfl hc k) k
theorem wlt {x y : Int64} (h : x < y) : ifCond.holds .lt (lcmpW x y) = true ∧ ifCond.holds .ge (lcmpW x y) = false := by
  have q := (lw_lt x y).mpr h
  exact ⟨(if0 _ _).trans (tlt q).1, (if0 _ _).trans (tlt q).2.1⟩
theorem nwlt {x y : Int64} (h : ¬ x < y) : ifCond.holds .lt (lcmpW x y) = false ∧ ifCond.holds .ge (lcmpW x y) = true := by
  have q : ¬ lcmpW x y < 0 := fun z => h ((lw_lt x y).mp z)
  exact ⟨(if0 _ _).trans (flt q).1, (if0 _ _).trans (flt q).2.1⟩
theorem wgt {x y : Int64} (h : y < x) : ifCond.holds .gt (lcmpW x y) = true ∧ ifCond.holds .le (lcmpW x y) = false := by
  have q := (lw_gt x y).mpr h
  exact ⟨(if0 _ _).trans (tlt q).2.2.1, (if0 _ _).trans (tlt q).2.2.2⟩
theorem nwgt {x y : Int64} (h : ¬ y < x) : ifCond.holds .gt (lcmpW x y) = false ∧ ifCond.holds .le (lcmpW x y) = true := by
  have q : ¬ 0 < lcmpW x y := fun z => h ((lw_gt x y).mp z)
  exact ⟨(if0 _ _).trans (flt q).2.2.1, (if0 _ _).trans (flt q).2.2.2⟩
theorem weq {x y : Int64} (h : x = y) : ifCond.holds .eq (lcmpW x y) = true ∧ ifCond.holds .ne (lcmpW x y) = false := by
  have q := (lw_eq x y).mpr h
  exact ⟨(if0 _ _).trans (teq q).1, (if0 _ _).trans (teq q).2⟩
theorem nweq {x y : Int64} (h : ¬ x = y) : ifCond.holds .eq (lcmpW x y) = false ∧ ifCond.holds .ne (lcmpW x y) = true := by
  have q : ¬ lcmpW x y = 0 := fun z => h ((lw_eq x y).mp z)
  exact ⟨(if0 _ _).trans (feq q).1, (if0 _ _).trans (feq q).2⟩
theorem en_ret {t : FieldType} {w : Value} {i : Instr} (X : Stand p l e R s m args below meth c T locs cells slots) (hx : p.tables.exec = Jvm.exec) (hret : meth.sig.returnType = some t) (hlk : meth.locks = false) (hd : decode c.code pc = .ok (i, 1)) (hn : narrow t w = w)
    (hi : (i = .ireturn ∧ (t = .int ∨ t = .boolean ∨ t = .byte ∨ t = .char ∨ t = .short) ∧ ∃ z, w = .int z) ∨ (i = .lreturn ∧ t = .long ∧ ∃ z, w = .long z) ∨ (i = .dreturn ∧ t = .double ∧ ∃ z, w = .double z) ∨ (i = .freturn ∧ t = .float ∧ ∃ z, w = .float z) ∨ (i = .areturn ∧ t.isReference = true ∧ w.isRef = true))
    (hc : cells ≤ C) (hs : slots ≤ S) (hq : Q (some w) T.heap locs) : OwnEnds p e below s C S Q T m pc Ls (w :: st) := by
  obtain ⟨fs, hr, hrun, hended, hW, hsame⟩ := X.leave (v := some w) (fun q => by rw [hret] at q; cases q) hlk
  exact ⟨_, _, retOut X hx hret hn hi hd hr, hrun, hended, _, _, rfl, hq, ⟨_, rfl⟩, hW, hsame.mono hc hs⟩
theorem en_retI {z : Int32} (X : Stand p l e R s m args below meth c T locs cells slots) (hx : p.tables.exec = Jvm.exec) (hret : meth.sig.returnType = some .int) (hlk : meth.locks = false) (hd : decode c.code pc = .ok (.ireturn, 1)) (hc : cells ≤ C) (hs : slots ≤ S) (hq : Q (some (.int z)) T.heap locs) : OwnEnds p e below s C S Q T m pc Ls (.int z :: st) :=
  en_ret X hx hret hlk hd rfl (Or.inl ⟨rfl, Or.inl rfl, _, rfl⟩) hc hs hq
theorem en_retZ {z : Int32} (X : Stand p l e R s m args below meth c T locs cells slots) (hx : p.tables.exec = Jvm.exec) (hret : meth.sig.returnType = some .boolean) (hlk : meth.locks = false) (hd : decode c.code pc = .ok (.ireturn, 1)) (hn : narrow .boolean (.int z) = .int z) (hc : cells ≤ C) (hs : slots ≤ S) (hq : Q (some (.int z)) T.heap locs) : OwnEnds p e below s C S Q T m pc Ls (.int z :: st) :=
  en_ret X hx hret hlk hd hn (Or.inl ⟨rfl, Or.inr (Or.inl rfl), _, rfl⟩) hc hs hq
theorem en_retL {z : Int64} (X : Stand p l e R s m args below meth c T locs cells slots) (hx : p.tables.exec = Jvm.exec) (hret : meth.sig.returnType = some .long) (hlk : meth.locks = false) (hd : decode c.code pc = .ok (.lreturn, 1)) (hc : cells ≤ C) (hs : slots ≤ S) (hq : Q (some (.long z)) T.heap locs) : OwnEnds p e below s C S Q T m pc Ls (.long z :: st) :=
  en_ret X hx hret hlk hd rfl (Or.inr (Or.inl ⟨rfl, rfl, _, rfl⟩)) hc hs hq
theorem en_retA {a : Addr} {t : FieldType} (X : Stand p l e R s m args below meth c T locs cells slots) (hx : p.tables.exec = Jvm.exec) (hret : meth.sig.returnType = some t) (ht : t.isReference = true) (hn : narrow t (.ref a) = .ref a) (hlk : meth.locks = false) (hd : decode c.code pc = .ok (.areturn, 1)) (hc : cells ≤ C) (hs : slots ≤ S) (hq : Q (some (.ref a)) T.heap locs) : OwnEnds p e below s C S Q T m pc Ls (.ref a :: st) :=
  en_ret X hx hret hlk hd hn (Or.inr (Or.inr (Or.inr (Or.inr ⟨rfl, ht, rfl⟩)))) hc hs hq
theorem en_ret0 (X : Stand p l e R s m args below meth c T locs cells slots) (hx : p.tables.exec = Jvm.exec) (hret : meth.sig.returnType = none) (hlk : meth.locks = false) (hd : decode c.code pc = .ok (.return_, 1)) (hc : cells ≤ C) (hs : slots ≤ S) (hq : Q none T.heap locs) : OwnEnds p e below s C S Q T m pc Ls [] := by
  obtain ⟨fs, hr, hrun, hended, hW, hsame⟩ := X.leave (v := none) (fun _ => rfl) hlk
  exact ⟨_, _, X.returnOut hx hret hd hr, hrun, hended, _, _, rfl, hq, ⟨_, rfl⟩, hW, hsame.mono hc hs⟩
theorem en_getF (X : Stand p l e R s m args below meth c T locs cells slots) (hx : p.tables.exec = Jvm.exec) (hZ : Z.Warmed39 s.vm) {own R0 O n d host : String} {index : Nat} (hown : s.vm.findClass own = some m.cls) (w : (Jvm.Cond.fieldLink own index R0 n d).before a0 Z = true ∨ (Jvm.Cond.fieldLinkNest own index R0 n d host).before a0 Z = true) (via : Via Z R0 O n d) (eT : T.heap = h) {a : Addr} {v : Value} (F : Fld Z h a O n d v) (hd : decode c.code pc = .ok (.getfield index, 3)) (k : ∀ T', Stand p l e R s m args below meth c T' locs cells slots → T'.heap = h → OwnEnds p e below s C S Q T' m pc' Ls (v :: st)) (hp : pc + 3 = pc' := by rfl) : OwnEnds p e below s C S Q T m pc Ls (.ref a :: st) := by
  subst hp
  obtain ⟨T', X', e', st'⟩ := getF X hx hZ hown w via eT F (g := mkF m pc Ls (.ref a :: st)) rfl rfl hd
  exact OwnEnds.of st' (k T' X' e')
theorem en_getS (X : Stand p l e R s m args below meth c T locs cells slots) (hx : p.tables.exec = Jvm.exec) (hZ : Z.Warmed39 s.vm) {own R0 O n d host : String} {index : Nat} (hown : s.vm.findClass own = some m.cls) (w : (Jvm.Cond.fieldLink own index R0 n d).before a0 Z = true ∨ (Jvm.Cond.fieldLinkNest own index R0 n d host).before a0 Z = true) (via : Via Z R0 O n d) (eT : T.heap = h) {v : Value} (F : Sta Z h O n d v) (hd : decode c.code pc = .ok (.getstatic index, 3)) (k : ∀ T', Stand p l e R s m args below meth c T' locs cells slots → T'.heap = h → OwnEnds p e below s C S Q T' m pc' Ls (v :: st)) (hp : pc + 3 = pc' := by rfl) : OwnEnds p e below s C S Q T m pc Ls st := by
  subst hp
  obtain ⟨T', X', e', st'⟩ := getS2 X hx hZ hown w via eT F (g := mkF m pc Ls st) rfl hd
  exact OwnEnds.of st' (k T' X' e')
theorem en_putF (X : Stand p l e R s m args below meth c T locs cells slots) (hx : p.tables.exec = Jvm.exec) (hZ : Z.Warmed39 s.vm) {own R0 O n d host K : String} {index kk : Nat} {ty : FieldType} (hown : s.vm.findClass own = some m.cls) (w : (Jvm.Cond.fieldLink own index R0 n d).before a0 Z = true ∨ (Jvm.Cond.fieldLinkNest own index R0 n d host).before a0 Z = true) (via : Via Z R0 O n d) (eT : T.heap = h) {a : Addr} {v old : Value} (F : Fld Z h a O n d old) (E : Exa Z h a K) (L : (Jvm.Cond.lays K O n d).before a0 Z = true ∨ ((Jvm.Cond.laysFinal K O n d).before a0 Z = true ∧ own = O ∧ meth.name = "<init>")) (wi : (Jvm.Cond.instantiable K kk).before a0 Z = true) (hty : parseFieldDescriptor d = some ty) (hn : narrow ty v = v) (hf : fits ty v = true) (hd : decode c.code pc = .ok (.putfield index, 3))
    (k : ∀ T' h', Stand p l e R s m args below meth c T' (locs ++ [⟨a, Jvm.RoadKit.slotOf Z O n d⟩]) cells slots → T'.heap = h' → Wr h h' a (Jvm.RoadKit.slotOf Z O n d) v → OwnEnds p e below s C S Q T' m pc' Ls st) (hp : pc + 3 = pc' := by rfl) : OwnEnds p e below s C S Q T m pc Ls (v :: .ref a :: st) := by
  subst hp
  obtain ⟨T', h', X', e', W', st'⟩ := putF X hx hZ hown w via eT F E L wi hty hn hf (g := mkF m pc Ls (v :: .ref a :: st)) rfl rfl hd
  exact OwnEnds.of st' (k T' h' X' e' W')
theorem en_newO (X : Stand p l e R s m args below meth c T locs cells slots) (hx : p.tables.exec = Jvm.exec) (hZ : Z.Warmed39 s.vm) {own K : String} {index n : Nat} (hown : s.vm.findClass own = some m.cls) (w : (Jvm.Cond.classLink own index K).before a0 Z = true) (wi : (Jvm.Cond.instantiable K n).before a0 Z = true) (wz : (Jvm.Cond.initialized K).before a0 Z = true) (eT : T.heap = h) (hd : decode c.code pc = .ok (.new index, 3)) (hc : cells + 1 ≤ R.cells) (hl : slots + n ≤ R.slots)
    (k : ∀ T' h' a, a = h.size → Stand p l e R s m args below meth c T' locs (cells + 1) (slots + n) → T'.heap = h' → Ext h h' → Exa Z h' a K → (∀ {O nm d : String} {ty : FieldType}, Laid Z a0 K O nm d → parseFieldDescriptor d = some ty → Fld Z h' a O nm d (defaultValue ty)) → OwnEnds p e below s C S Q T' m pc' Ls (.ref a :: st)) (hp : pc + 3 = pc' := by rfl) : OwnEnds p e below s C S Q T m pc Ls st := by
  subst hp
  obtain ⟨T', h', X', e', E', A', D', -, st'⟩ := newO X hx hZ hown w wi wz eT (g := mkF m pc Ls st) rfl hd hc hl
  exact OwnEnds.of st' (k T' h' _ rfl X' e' E' A' D')
theorem en_newP (X : Stand p l e R s m args below meth c T locs cells slots) (hx : p.tables.exec = Jvm.exec) (hZ : Z.Warmed39 s.vm) {aty : ArrayType} (w : (Jvm.Cond.arrayClass (newarray.typeOf aty)).before a0 Z = true) (eT : T.heap = h) (hd : decode c.code pc = .ok (.newarray aty, 2)) {n : Int32} (hn : ¬ n < 0) (cap : Nat) (hcap : n.toNatClampNeg ≤ cap) (hb : cap * 8 ≤ 536870912) (hc : cells + 1 ≤ R.cells) (hl : slots + cap ≤ R.slots)
    (k : ∀ T' h' a kA, a = h.size → Stand p l e R s m args below meth c T' locs (cells + 1) (slots + cap) → T'.heap = h' → Ext h h' → Arv Z h' a kA (newarray.typeOf aty) n [] (defaultValue (newarray.typeOf aty)) → OwnEnds p e below s C S Q T' m pc' Ls (.ref a :: st)) (hp : pc + 2 = pc' := by rfl) : OwnEnds p e below s C S Q T m pc Ls (.int n :: st) := by
  subst hp
  obtain ⟨T', h', kA, X', e', E', A', st'⟩ := newP X hx hZ w eT (g := mkF m pc Ls (.int n :: st)) rfl hd rfl hn hcap hb hc hl
  exact OwnEnds.of st' (k T' h' _ kA rfl X' e' E' (Arv.new A' hn))
theorem en_initO (X : Stand p l e R s m args below meth c T locs cells slots) (hx : p.tables.exec = Jvm.exec) (hZ : Z.Warmed39 s.vm) {own : String} {idx : Nat} (hown : s.vm.findClass own = some m.cls) (w1 : (Jvm.Cond.methodLink own idx Lib.objectInit).before a0 Z = true) (w2 : (Jvm.Cond.instanceMethod Lib.objectInit).before a0 Z = true) (w3 : (Jvm.Cond.code Lib.objectInit Lib.objCode 1 none).before a0 Z = true) (eT : T.heap = h) (hsize : Ls.size = c.maxLocals) {a : Addr} (hd : decode c.code pc = .ok (.invokespecial idx, 3)) (hf : 1 ≤ R.frames) (W : Nat) (hW : (st.map fun v => v.category).sum = W) (hl : W + 12 ≤ R.locals) (k : ∀ T', Stand p l e R s m args below meth c T' locs cells slots → T'.heap = h → OwnEnds p e below s C S Q T' m pc' Ls st) (hp : pc + 3 = pc' := by rfl) : OwnEnds p e below s C S Q T m pc Ls (.ref a :: st) := by
  subst hp
  obtain ⟨T', X', e', st'⟩ := initO X hx hZ hown w1 w2 w3 eT (g := mkF m pc Ls (.ref a :: st)) rfl hsize rfl hd hf (W := W) (by show 2 * 0 + _ ≤ _; rw [hW]; omega) hl
  exact OwnEnds.of st' (k T' X' e')
theorem en_iaload (X : Stand p l e R s m args below meth c T locs cells slots) (hx : p.tables.exec = Jvm.exec) (hZ : Z.Warmed39 s.vm) (eT : T.heap = h) {a : Addr} {kA : ClassId} {n j : Int32} {vs : List Value} {dv : Value} (V : Arv Z h a kA .int n vs dv) (hj : ¬ j < 0 ∧ j < n) {x : Int32} (hv : vs.getD j.toNatClampNeg dv = .int x) (hd : decode c.code pc = .ok (.iaload, 1)) (k : OwnEnds p e below s C S Q T m pc' Ls (.int x :: st)) (hp : pc + 1 = pc' := by rfl) : OwnEnds p e below s C S Q T m pc Ls (.int j :: .ref a :: st) := by
  subst hp
  obtain ⟨cl, Ar, -, Sz, -, Hs, -⟩ := V
  have hin := inb_of Sz hj
  exact OwnEnds.of (X.iaload hx (by rw [eT]; exact Ar.1) (State.isArrayOf_alike hZ.alike Ar.2.1) Ar.2.2 hin (Hs.at hin hv) (g := mkF m pc Ls (.int j :: .ref a :: st)) rfl rfl hd) k
theorem en_laload (X : Stand p l e R s m args below meth c T locs cells slots) (hx : p.tables.exec = Jvm.exec) (hZ : Z.Warmed39 s.vm) (eT : T.heap = h) {a : Addr} {kA : ClassId} {n j : Int32} {vs : List Value} {dv : Value} (V : Arv Z h a kA .long n vs dv) (hj : ¬ j < 0 ∧ j < n) {x : Int64} (hv : vs.getD j.toNatClampNeg dv = .long x) (hd : decode c.code pc = .ok (.laload, 1)) (k : OwnEnds p e below s C S Q T m pc' Ls (.long x :: st)) (hp : pc + 1 = pc' := by rfl) : OwnEnds p e below s C S Q T m pc Ls (.int j :: .ref a :: st) := by
  subst hp
  obtain ⟨cl, Ar, -, Sz, -, Hs, -⟩ := V
  have hin := inb_of Sz hj
  exact OwnEnds.of (X.laload hx (by rw [eT]; exact Ar.1) (State.isArrayOf_alike hZ.alike Ar.2.1) Ar.2.2 hin (Hs.at hin hv) (g := mkF m pc Ls (.int j :: .ref a :: st)) rfl rfl hd) k
theorem en_len (X : Stand p l e R s m args below meth c T locs cells slots) (hx : p.tables.exec = Jvm.exec) (hZ : Z.Warmed39 s.vm) (eT : T.heap = h) {a : Addr} {kA : ClassId} {ty : FieldType} {n : Int32} {vs : List Value} {dv : Value} (V : Arv Z h a kA ty n vs dv) (hd : decode c.code pc = .ok (.arraylength, 1)) (k : OwnEnds p e below s C S Q T m pc' Ls (.int n :: st)) (hp : pc + 1 = pc' := by rfl) : OwnEnds p e below s C S Q T m pc Ls (.ref a :: st) := by
  subst hp
  obtain ⟨cl, Ar, -, Sz, Nn, -⟩ := V
  rw [← len_of Sz Nn] at k
  exact OwnEnds.of (X.arraylength hx (by rw [eT]; exact Ar.1) (State.isArrayOf_alike hZ.alike Ar.2.1) (g := mkF m pc Ls (.ref a :: st)) rfl rfl hd) k
theorem en_iastore (X : Stand p l e R s m args below meth c T locs cells slots) (hx : p.tables.exec = Jvm.exec) (hZ : Z.Warmed39 s.vm) (eT : T.heap = h) {a : Addr} {kA : ClassId} {n j : Int32} {x : Int32} {vs : List Value} {dv : Value} (V : Arv Z h a kA .int n vs dv) (hj : ¬ j < 0 ∧ j < n) (i : Nat) (hi : j.toNatClampNeg = i) (hil : i < vs.length) (hd : decode c.code pc = .ok (.iastore, 1))
    (k : ∀ T' h', Stand p l e R s m args below meth c T' (locs ++ [⟨a, j.toNatClampNeg⟩]) cells slots → T'.heap = h' → Wr h h' a j.toNatClampNeg (.int x) → Arv Z h' a kA .int n (vs.set i (.int x)) dv → OwnEnds p e below s C S Q T' m pc' Ls st) (hp : pc + 1 = pc' := by rfl) : OwnEnds p e below s C S Q T m pc Ls (.int x :: .int j :: .ref a :: st) := by
  subst hp
  obtain ⟨cl, Ar, q1, Sz, Nn, Hs, G⟩ := V
  have hin := inb_of Sz hj
  obtain ⟨T', h', X', e', W', st'⟩ := stI X hx hZ eT Ar hin (g := mkF m pc Ls (.int x :: .int j :: .ref a :: st)) rfl rfl hd
  exact OwnEnds.of st' (k T' h' X' e' W' (Arv.set Ar q1 Sz Nn Hs G rfl W' i hi hil))
theorem en_lastore (X : Stand p l e R s m args below meth c T locs cells slots) (hx : p.tables.exec = Jvm.exec) (hZ : Z.Warmed39 s.vm) (eT : T.heap = h) {a : Addr} {kA : ClassId} {n j : Int32} {x : Int64} {vs : List Value} {dv : Value} (V : Arv Z h a kA .long n vs dv) (hj : ¬ j < 0 ∧ j < n) (i : Nat) (hi : j.toNatClampNeg = i) (hil : i < vs.length) (hd : decode c.code pc = .ok (.lastore, 1))
    (k : ∀ T' h', Stand p l e R s m args below meth c T' (locs ++ [⟨a, j.toNatClampNeg⟩]) cells slots → T'.heap = h' → Wr h h' a j.toNatClampNeg (.long x) → Arv Z h' a kA .long n (vs.set i (.long x)) dv → OwnEnds p e below s C S Q T' m pc' Ls st) (hp : pc + 1 = pc' := by rfl) : OwnEnds p e below s C S Q T m pc Ls (.long x :: .int j :: .ref a :: st) := by
  subst hp
  obtain ⟨cl, Ar, q1, Sz, Nn, Hs, G⟩ := V
  have hin := inb_of Sz hj
  obtain ⟨T', h', X', e', W', st'⟩ := stJ X hx hZ eT Ar hin (g := mkF m pc Ls (.long x :: .int j :: .ref a :: st)) rfl rfl hd
  exact OwnEnds.of st' (k T' h' X' e' W' (Arv.set Ar q1 Sz Nn Hs G rfl W' i hi hil))
theorem en_callS (X : Stand p l e R s m args below meth c T locs cells slots) (hx : p.tables.exec = Jvm.exec) (hZ : Z.Warmed39 s.vm) {y : MethodName} {bytes : ByteArray} {maxL : Nat} {ret : Option FieldType} {rm : Room} {Qc : Option Value → Heap → List Loc → Prop} {argsL : List Value}  {own : String} {index : Nat} (hown : s.vm.findClass own = some m.cls) (w1 : (Jvm.Cond.methodLink own index y).before a0 Z = true) (w2 : (Jvm.Cond.static y).before a0 Z = true) (wz : (Jvm.Cond.initialized y.cls).before a0 Z = true) (wc : (Jvm.Cond.code y bytes maxL ret).before a0 Z = true) (hy : y.cls ≠ "java/lang/invoke/MethodHandle" ∧ y.cls ≠ "java/lang/invoke/VarHandle") (hM : OwnMeets l Z y bytes maxL ret [] rm argsL.toArray h Qc) (eT : T.heap = h) (hf : rm.frames + 1 ≤ R.frames) (W : Nat) (hW : (rest.map fun v => v.category).sum = W) (hl : W + (maxL + 11) + rm.locals ≤ R.locals) (hcl : cells + rm.cells ≤ R.cells) (hsl : slots + rm.slots ≤ R.slots) (hsz : Ls.size = c.maxLocals) (hlen : ∀ sig, parseMethodDescriptor y.desc = some sig → argsL.length = sig.parameters.length) (hst : st = argsL.reverse ++ rest) (hd : decode c.code pc = .ok (.invokestatic index, 3)) (k : ∀ v T' L, Stand p l e R s m args below meth c T' (locs ++ L) (cells + rm.cells) (slots + rm.slots) → Qc v T'.heap L → OwnEnds p e below s C S Q T' m pc' Ls (v.toList ++ rest)) (hp : pc + 3 = pc' := by rfl) : OwnEnds p e below s C S Q T m pc Ls st := by
  subst hp hst
  obtain ⟨v, vm', ⟨T', L', k', n'⟩, -, X', ⟨Lc, hQ, l1, l2, l3⟩, st'⟩ := Jvm.LawKit.callS X hx (y := y) hown (mvT hZ w1) (mvT hZ w2) (mvT hZ wz) (mvT hZ wc) hy (backOf (W := W) hM hZ wc wz hf hl)  (g := mkF m pc Ls (argsL.reverse ++ rest)) rfl hsz  (argsL := argsL) (rest := rest) hlen rfl (by show 2 * 0 + _ ≤ _; rw [hW]; omega) hd (fun _ _ => ⟨rfl, eT, hcl, hsl⟩)
  dsimp only [Pt.U, Pt.locs, Pt.cells, Pt.slots] at X' l1 l2 l3 st' hQ
  subst l1 l2 l3
  exact OwnEnds.of st' (k v T' Lc X' hQ)
theorem en_callN (X : Stand p l e R s m args below meth c T locs cells slots) (hx : p.tables.exec = Jvm.exec) (hZ : Z.Warmed39 s.vm) {y : MethodName} {bytes : ByteArray} {maxL : Nat} {rm : Room} {Qc : Option Value → Heap → List Loc → Prop} {argsL : List Value} {a : Addr}  {own : String} {index : Nat} (hown : s.vm.findClass own = some m.cls) (hin : y.name = "<init>") (w1 : (Jvm.Cond.methodLink own index y).before a0 Z = true) (w2 : (Jvm.Cond.instanceMethod y).before a0 Z = true) (wz : (Jvm.Cond.initialized y.cls).before a0 Z = true) (wc : (Jvm.Cond.code y bytes maxL none).before a0 Z = true) (hy : y.cls ≠ "java/lang/invoke/MethodHandle" ∧ y.cls ≠ "java/lang/invoke/VarHandle") (hM : OwnMeets l Z y bytes maxL none [] rm (.ref a :: argsL).toArray h Qc) (eT : T.heap = h) (hf : rm.frames + 1 ≤ R.frames) (W : Nat) (hW : (rest.map fun v => v.category).sum = W) (hl : W + (maxL + 11) + rm.locals ≤ R.locals) (hcl : cells + rm.cells ≤ R.cells) (hsl : slots + rm.slots ≤ R.slots) (hsz : Ls.size = c.maxLocals) (hlen : ∀ sig, parseMethodDescriptor y.desc = some sig → argsL.length = sig.parameters.length) (hst : st = argsL.reverse ++ .ref a :: rest) (hd : decode c.code pc = .ok (.invokespecial index, 3)) (k : ∀ v T' L, Stand p l e R s m args below meth c T' (locs ++ L) (cells + rm.cells) (slots + rm.slots) → Qc v T'.heap L → OwnEnds p e below s C S Q T' m pc' Ls (v.toList ++ rest)) (hp : pc + 3 = pc' := by rfl) : OwnEnds p e below s C S Q T m pc Ls st := by
  subst hp hst
  obtain ⟨v, vm', ⟨T', L', k', n'⟩, -, X', ⟨Lc, hQ, l1, l2, l3⟩, st'⟩ := X.specialBack hx (y := y) hin hown (mvT hZ w1) (mvT hZ w2) (mvT hZ wc) hy (backOf (W := W) hM hZ wc wz hf hl)  (g := mkF m pc Ls (argsL.reverse ++ .ref a :: rest)) rfl hsz (Steps.refl _) (a := a) (argsL := argsL) (rest := rest) hlen rfl (by show 2 * 0 + _ ≤ _; rw [hW]; omega) hd (fun _ _ => ⟨rfl, eT, hcl, hsl⟩)
  dsimp only [Pt.U, Pt.locs, Pt.cells, Pt.slots] at X' l1 l2 l3 st' hQ
  subst l1 l2 l3
  exact OwnEnds.of (fun _ k => st'.trans k) (k v T' Lc X' hQ)
theorem en_callV (X : Stand p l e R s m args below meth c T locs cells slots) (hx : p.tables.exec = Jvm.exec) (hZ : Z.Warmed39 s.vm) {y : MethodName} {bytes : ByteArray} {maxL : Nat} {ret : Option FieldType} {rm : Room} {Qc : Option Value → Heap → List Loc → Prop} {argsL : List Value} {a : Addr} {z : MethodName} {K : String} {own : String} {index : Nat} (hown : s.vm.findClass own = some m.cls) (w1 : (Jvm.Cond.methodLink own index y).before a0 Z = true) (w2 : (Jvm.Cond.declares y).before a0 Z = true) (nf : NotFace s y) (w3 : (Jvm.Cond.selects K y z).before a0 Z = true) (w4 : (Jvm.Cond.instanceMethod z).before a0 Z = true) (wz : (Jvm.Cond.initialized z.cls).before a0 Z = true) (wc : (Jvm.Cond.code z bytes maxL ret).before a0 Z = true) (Ex : Exa Z h a K) (hy : y.cls ≠ "java/lang/invoke/MethodHandle" ∧ y.cls ≠ "java/lang/invoke/VarHandle") (hM : OwnMeets l Z z bytes maxL ret [] rm (.ref a :: argsL).toArray h Qc) (eT : T.heap = h) (hf : rm.frames + 1 ≤ R.frames) (W : Nat) (hW : (rest.map fun v => v.category).sum = W) (hl : W + (maxL + 11) + rm.locals ≤ R.locals) (hcl : cells + rm.cells ≤ R.cells) (hsl : slots + rm.slots ≤ R.slots) (hsz : Ls.size = c.maxLocals) (hlen : ∀ sig, parseMethodDescriptor y.desc = some sig → argsL.length = sig.parameters.length) (hst : st = argsL.reverse ++ .ref a :: rest) (hd : decode c.code pc = .ok (.invokevirtual index, 3)) (k : ∀ v T' L, Stand p l e R s m args below meth c T' (locs ++ L) (cells + rm.cells) (slots + rm.slots) → Qc v T'.heap L → OwnEnds p e below s C S Q T' m pc' Ls (v.toList ++ rest)) (hp : pc + 3 = pc' := by rfl) : OwnEnds p e below s C S Q T m pc Ls st := by
  subst hp hst
  obtain ⟨cq, kq, qa, qb, qc⟩ := isOf hZ eT Ex
  obtain ⟨v, vm', ⟨T', L', k', n'⟩, -, X', ⟨Lc, hQ, l1, l2, l3⟩, st'⟩ := X.virtualBack hx (y := y) (z := z) hown (mvT hZ w1) (mvT hZ w2) nf (mvT hZ w3) (mvT hZ w4) hy (backOf (W := W) hM hZ wc wz hf hl) qa qc (g := mkF m pc Ls (argsL.reverse ++ .ref a :: rest)) rfl hsz (Steps.refl _) (argsL := argsL) (rest := rest) hlen rfl (by show 2 * 0 + _ ≤ _; rw [hW]; omega) hd (fun _ _ => ⟨rfl, eT, hcl, hsl⟩)
  dsimp only [Pt.U, Pt.locs, Pt.cells, Pt.slots] at X' l1 l2 l3 st' hQ
  subst l1 l2 l3
  exact OwnEnds.of (fun _ k => st'.trans k) (k v T' Lc X' hQ)
theorem en_callU (X : Stand p l e R s m args below meth c T locs cells slots) (hx : p.tables.exec = Jvm.exec) (hZ : Z.Warmed39 s.vm) {y : MethodName} {bytes : ByteArray} {maxL : Nat} {ret : Option FieldType} {rm : Room} {Qc : Option Value → Heap → List Loc → Prop} {argsL : List Value} {a : Addr} {z : MethodName} {K owner : String} {own : String} {index : Nat} (hown : s.vm.findClass own = some m.cls) (w1 : (Jvm.Cond.methodLink own index y).before a0 Z = true) (w2 : (Jvm.Cond.sameMethod y.cls owner y.name y.desc).before a0 Z = true) (w2' : (Jvm.Cond.declares ⟨owner, y.name, y.desc⟩).before a0 Z = true) (w3 : (Jvm.Cond.selects K y z).before a0 Z = true) (w4 : (Jvm.Cond.instanceMethod z).before a0 Z = true) (wz : (Jvm.Cond.initialized z.cls).before a0 Z = true) (wc : (Jvm.Cond.code z bytes maxL ret).before a0 Z = true) (Ex : Exa Z h a K) (hy : owner ≠ "java/lang/invoke/MethodHandle" ∧ owner ≠ "java/lang/invoke/VarHandle") (hM : OwnMeets l Z z bytes maxL ret [] rm (.ref a :: argsL).toArray h Qc) (eT : T.heap = h) (hf : rm.frames + 1 ≤ R.frames) (W : Nat) (hW : (rest.map fun v => v.category).sum = W) (hl : W + (maxL + 11) + rm.locals ≤ R.locals) (hcl : cells + rm.cells ≤ R.cells) (hsl : slots + rm.slots ≤ R.slots) (hsz : Ls.size = c.maxLocals) (hlen : ∀ sig, parseMethodDescriptor y.desc = some sig → argsL.length = sig.parameters.length) (hst : st = argsL.reverse ++ .ref a :: rest) (hd : decode c.code pc = .ok (.invokevirtual index, 3)) (k : ∀ v T' L, Stand p l e R s m args below meth c T' (locs ++ L) (cells + rm.cells) (slots + rm.slots) → Qc v T'.heap L → OwnEnds p e below s C S Q T' m pc' Ls (v.toList ++ rest)) (hp : pc + 3 = pc' := by rfl) : OwnEnds p e below s C S Q T m pc Ls st := by
  subst hp hst
  obtain ⟨cq, kq, qa, qb, qc⟩ := isOf hZ eT Ex
  obtain ⟨v, vm', ⟨T', L', k', n'⟩, -, X', ⟨Lc, hQ, l1, l2, l3⟩, st'⟩ := X.virtualBackUp hx (owner := owner) (x := y) (y := z) hown (mvT hZ w1) (mvT hZ w2) (mvT hZ w2') hy (mvT hZ w3) (mvT hZ w4) (backOf (W := W) hM hZ wc wz hf hl) qa qc (g := mkF m pc Ls (argsL.reverse ++ .ref a :: rest)) rfl hsz (Steps.refl _) (argsL := argsL) (rest := rest) hlen rfl (by show 2 * 0 + _ ≤ _; rw [hW]; omega) hd (fun _ _ => ⟨rfl, eT, hcl, hsl⟩)
  dsimp only [Pt.U, Pt.locs, Pt.cells, Pt.slots] at X' l1 l2 l3 st' hQ
  subst l1 l2 l3
  exact OwnEnds.of (fun _ k => st'.trans k) (k v T' Lc X' hQ)
theorem en_callI (X : Stand p l e R s m args below meth c T locs cells slots) (hx : p.tables.exec = Jvm.exec) (hZ : Z.Warmed39 s.vm) {y : MethodName} {bytes : ByteArray} {maxL : Nat} {ret : Option FieldType} {rm : Room} {Qc : Option Value → Heap → List Loc → Prop} {argsL : List Value} {a : Addr} {z : MethodName} {K : String} {own : String} {index count : Nat} (hown : s.vm.findClass own = some m.cls) (w1 : (Jvm.Cond.methodLink own index y).before a0 Z = true) (w2 : (Jvm.Cond.declares y).before a0 Z = true) (w3 : (Jvm.Cond.interfaceMethod y.cls y.cls y.name y.desc).before args s = true) (w4 : (Jvm.Cond.selects K y z).before a0 Z = true) (w5 : (Jvm.Cond.instanceMethod z).before a0 Z = true) (w6 : (Jvm.Cond.publicMethod z).before a0 Z = true) (w7 : (Jvm.Cond.unhidden K y.name y.desc).before a0 Z = true) (w8 : (Jvm.Cond.castable K y.cls).before a0 Z = true) (wz : (Jvm.Cond.initialized z.cls).before a0 Z = true) (wc : (Jvm.Cond.code z bytes maxL ret).before a0 Z = true) (Ex : Exa Z h a K) (hy : y.cls ≠ "java/lang/invoke/MethodHandle" ∧ y.cls ≠ "java/lang/invoke/VarHandle") (hM : OwnMeets l Z z bytes maxL ret [] rm (.ref a :: argsL).toArray h Qc) (eT : T.heap = h) (hf : rm.frames + 1 ≤ R.frames) (W : Nat) (hW : (rest.map fun v => v.category).sum = W) (hl : W + (maxL + 11) + rm.locals ≤ R.locals) (hcl : cells + rm.cells ≤ R.cells) (hsl : slots + rm.slots ≤ R.slots) (hsz : Ls.size = c.maxLocals) (hlen : ∀ sig, parseMethodDescriptor y.desc = some sig → argsL.length = sig.parameters.length) (hst : st = argsL.reverse ++ .ref a :: rest) (hd : decode c.code pc = .ok (.invokeinterface index count, 5)) (k : ∀ v T' L, Stand p l e R s m args below meth c T' (locs ++ L) (cells + rm.cells) (slots + rm.slots) → Qc v T'.heap L → OwnEnds p e below s C S Q T' m pc' Ls (v.toList ++ rest)) (hp : pc + 5 = pc' := by rfl) : OwnEnds p e below s C S Q T m pc Ls st := by
  subst hp hst
  obtain ⟨cq, kq, qa, qb, qc⟩ := isOf hZ eT Ex
  obtain ⟨v, vm', ⟨T', L', k', n'⟩, -, X', ⟨Lc, hQ, l1, l2, l3⟩, st'⟩ := X.interfaceBack hx (xi := y) (y := z) hown (mvT hZ w1) (mvT hZ w2) w3 (mvT hZ w4) (mvT hZ w5) (mvT hZ w6) (mvT hZ w7) (mvT hZ w8) hy (backOf (W := W) hM hZ wc wz hf hl) qa qb qc (g := mkF m pc Ls (argsL.reverse ++ .ref a :: rest)) rfl hsz (Steps.refl _) (argsL := argsL) (rest := rest) hlen rfl (by show 2 * 0 + _ ≤ _; rw [hW]; omega) hd (fun _ _ => ⟨rfl, eT, hcl, hsl⟩)
  dsimp only [Pt.U, Pt.locs, Pt.cells, Pt.slots] at X' l1 l2 l3 st' hQ
  subst l1 l2 l3
  exact OwnEnds.of (fun _ k => st'.trans k) (k v T' Lc X' hQ)
theorem self_private {y x1 y1 : MethodName} {K : String} (hp : s.PrivateAt y) (hinst : (Jvm.Cond.instanceMethod y).before args s = true) (hy : y.cls ≠ "java/lang/invoke/MethodHandle" ∧ y.cls ≠ "java/lang/invoke/VarHandle") (hsel : (Jvm.Cond.selects K x1 y1).before args s = true) (hc : y1.cls = y.cls) : (Jvm.Cond.selects y.cls y y).before args s = true := by
  obtain ⟨c, r, m, q1, q2, q3, q4, k, hk, hki⟩ := Cond.selects_spec hsel
  have q := findClass_of_methodNamed q3
  rw [hc] at q
  exact selects_self_of_private q hk hki hp hinst hy
theorem nf_by {y x1 y1 : MethodName} {K : String} (hsel : (Jvm.Cond.selects K x1 y1).before args s = true) (hc : y1.cls = y.cls) : NotFace s y := fun r0 h0 => by
  obtain ⟨c, r, m, q1, q2, q3, q4, k, hk, hki⟩ := Cond.selects_spec hsel
  have q := findClass_of_methodNamed q3
  rw [hc, findClass_of_methodNamed h0] at q
  exact ⟨k, by rw [Option.some.inj q]; exact hk, hki⟩
theorem en_callQ (X : Stand p l e R s m args below meth c T locs cells slots) (hx : p.tables.exec = Jvm.exec) (hZ : Z.Warmed39 s.vm) {y : MethodName} {bytes : ByteArray} {maxL : Nat} {ret : Option FieldType} {rm : Room} {Qc : Option Value → Heap → List Loc → Prop} {argsL : List Value} {a : Addr} {K C1 : String} {x1 y1 : MethodName} {own : String} {index : Nat} (hown : s.vm.findClass own = some m.cls) (w1 : (Jvm.Cond.methodLink own index y).before a0 Z = true) (w2 : (Jvm.Cond.instanceMethod y).before a0 Z = true) (w3 : (Jvm.Cond.privateMethod y).before a0 Z = true) (w4 : (Jvm.Cond.selects C1 x1 y1).before a0 Z = true) (hc1 : y1.cls = y.cls) (wz : (Jvm.Cond.initialized y.cls).before a0 Z = true) (wc : (Jvm.Cond.code y bytes maxL ret).before a0 Z = true) (Ex : Exa Z h a K) (hy : y.cls ≠ "java/lang/invoke/MethodHandle" ∧ y.cls ≠ "java/lang/invoke/VarHandle") (hM : OwnMeets l Z y bytes maxL ret [] rm (.ref a :: argsL).toArray h Qc) (eT : T.heap = h) (hf : rm.frames + 1 ≤ R.frames) (W : Nat) (hW : (rest.map fun v => v.category).sum = W) (hl : W + (maxL + 11) + rm.locals ≤ R.locals) (hcl : cells + rm.cells ≤ R.cells) (hsl : slots + rm.slots ≤ R.slots) (hsz : Ls.size = c.maxLocals) (hlen : ∀ sig, parseMethodDescriptor y.desc = some sig → argsL.length = sig.parameters.length) (hst : st = argsL.reverse ++ .ref a :: rest) (hd : decode c.code pc = .ok (.invokevirtual index, 3)) (k : ∀ v T' L, Stand p l e R s m args below meth c T' (locs ++ L) (cells + rm.cells) (slots + rm.slots) → Qc v T'.heap L → OwnEnds p e below s C S Q T' m pc' Ls (v.toList ++ rest)) (hp : pc + 3 = pc' := by rfl) : OwnEnds p e below s C S Q T m pc Ls st := by
  subst hp hst
  obtain ⟨cq, q1, q2⟩ := Ex.cell
  obtain ⟨v, vm', ⟨T', L', k', n'⟩, -, X', ⟨Lc, hQ, l1, l2, l3⟩, st'⟩ := X.privateBack hx (y := y) hown (mvT hZ w1) (mvT hZ w2) (self_private (Cond.privateMethod_at (mvP hZ w3 (args := #[]))) (mvT hZ w2) hy (mvT hZ w4) hc1) (Cond.privateMethod_at (mvP hZ w3 (args := #[]))) (mvT hZ wc) hy (backOf (W := W) hM hZ wc wz hf hl)  (g := mkF m pc Ls (argsL.reverse ++ .ref a :: rest)) rfl hsz (Steps.refl _) (a := a) (by rw [eT]; exact q1) q2 (argsL := argsL) (rest := rest) hlen rfl (by show 2 * 0 + _ ≤ _; rw [hW]; omega) hd (fun _ _ => ⟨rfl, eT, hcl, hsl⟩)
  dsimp only [Pt.U, Pt.locs, Pt.cells, Pt.slots] at X' l1 l2 l3 st' hQ
  subst l1 l2 l3
  exact OwnEnds.of (fun _ k => st'.trans k) (k v T' Lc X' hQ)
def PQ (w : Value) (h : Heap) : Option Value → Heap → List Loc → Prop := fun v h' L => v = some w ∧ h' = h ∧ L = []
theorem en_callP (X : Stand p l e R s m args below meth c T locs cells slots) (hx : p.tables.exec = Jvm.exec) (hZ : Z.Warmed39 s.vm) {y : MethodName} {bytes : ByteArray} {maxL : Nat} {ret : Option FieldType} {fr lo : Nat} {w : Value} {argsL : List Value} {own : String} {index : Nat} (hown : s.vm.findClass own = some m.cls) (w1 : (Jvm.Cond.methodLink own index y).before a0 Z = true) (w2 : (Jvm.Cond.static y).before a0 Z = true) (wz : (Jvm.Cond.initialized y.cls).before a0 Z = true) (wc : (Jvm.Cond.code y bytes maxL ret).before a0 Z = true) (hy : y.cls ≠ "java/lang/invoke/MethodHandle" ∧ y.cls ≠ "java/lang/invoke/VarHandle") (hM : OwnMeets l Z y bytes maxL ret [] ({ frames := fr, cells := 0, slots := 0, locals := lo } : Room) argsL.toArray h (PQ w h)) (eT : T.heap = h) (hf : fr + 1 ≤ R.frames) (W : Nat) (hW : (rest.map fun v => v.category).sum = W) (hl : W + (maxL + 11) + lo ≤ R.locals) (hcl : cells ≤ R.cells) (hsl : slots ≤ R.slots) (hsz : Ls.size = c.maxLocals) (hlen : ∀ sig, parseMethodDescriptor y.desc = some sig → argsL.length = sig.parameters.length) (hst : st = argsL.reverse ++ rest) (hd : decode c.code pc = .ok (.invokestatic index, 3)) (k : ∀ T', Stand p l e R s m args below meth c T' locs cells slots → T'.heap = h → OwnEnds p e below s C S Q T' m pc' Ls (w :: rest)) (hp : pc + 3 = pc' := by rfl) : OwnEnds p e below s C S Q T m pc Ls st := by
  refine en_callS X hx hZ hown w1 w2 wz wc hy hM eT hf W hW hl hcl hsl hsz hlen hst hd (fun v T' L X' q => ?_) hp
  obtain ⟨rfl, q2, rfl⟩ := q
  rw [List.append_nil] at X'
  exact k T' X' q2
theorem en_callVP (X : Stand p l e R s m args below meth c T locs cells slots) (hx : p.tables.exec = Jvm.exec) (hZ : Z.Warmed39 s.vm) {y z : MethodName} {K : String} {bytes : ByteArray} {maxL : Nat} {ret : Option FieldType} {fr lo : Nat} {w : Value} {a : Addr} {argsL : List Value} {own : String} {index : Nat} (hown : s.vm.findClass own = some m.cls) (w1 : (Jvm.Cond.methodLink own index y).before a0 Z = true) (w2 : (Jvm.Cond.declares y).before a0 Z = true) (nf : NotFace s y) (w3 : (Jvm.Cond.selects K y z).before a0 Z = true) (w4 : (Jvm.Cond.instanceMethod z).before a0 Z = true) (wz : (Jvm.Cond.initialized z.cls).before a0 Z = true) (wc : (Jvm.Cond.code z bytes maxL ret).before a0 Z = true) (Ex : Exa Z h a K) (hy : y.cls ≠ "java/lang/invoke/MethodHandle" ∧ y.cls ≠ "java/lang/invoke/VarHandle") (hM : OwnMeets l Z z bytes maxL ret [] ({ frames := fr, cells := 0, slots := 0, locals := lo } : Room) (.ref a :: argsL).toArray h (PQ w h)) (eT : T.heap = h) (hf : fr + 1 ≤ R.frames) (W : Nat) (hW : (rest.map fun v => v.category).sum = W) (hl : W + (maxL + 11) + lo ≤ R.locals) (hcl : cells ≤ R.cells) (hsl : slots ≤ R.slots) (hsz : Ls.size = c.maxLocals) (hlen : ∀ sig, parseMethodDescriptor y.desc = some sig → argsL.length = sig.parameters.length) (hst : st = argsL.reverse ++ .ref a :: rest) (hd : decode c.code pc = .ok (.invokevirtual index, 3)) (k : ∀ T', Stand p l e R s m args below meth c T' locs cells slots → T'.heap = h → OwnEnds p e below s C S Q T' m pc' Ls (w :: rest)) (hp : pc + 3 = pc' := by rfl) : OwnEnds p e below s C S Q T m pc Ls st := by
  refine en_callV X hx hZ hown w1 w2 nf w3 w4 wz wc Ex hy hM eT hf W hW hl hcl hsl hsz hlen hst hd (fun v T' L X' q => ?_) hp
  obtain ⟨rfl, q2, rfl⟩ := q
  rw [List.append_nil] at X'
  exact k T' X' q2
theorem en_newPE (X : Stand p l e R s m args below meth c T locs cells slots) (hx : p.tables.exec = Jvm.exec) (hZ : Z.Warmed39 s.vm) {aty : ArrayType} (w : (Jvm.Cond.arrayClass (newarray.typeOf aty)).before a0 Z = true) (eT : T.heap = h) (hd : decode c.code pc = .ok (.newarray aty, 2)) {n : Int32} (hn : ¬ n < 0) (cap : Nat) (hcap : n.toNatClampNeg ≤ cap) (hb : cap * 8 ≤ 536870912) (hc : cells + 1 ≤ R.cells) (hl : slots + cap ≤ R.slots) {ad : String} (had : "[" ++ (newarray.typeOf aty).toString = ad)
    (k : ∀ T' h' a kA, a = h.size → Stand p l e R s m args below meth c T' locs (cells + 1) (slots + cap) → T'.heap = h' → Ext h h' → Arv Z h' a kA (newarray.typeOf aty) n [] (defaultValue (newarray.typeOf aty)) → Exa Z h' a ad → OwnEnds p e below s C S Q T' m pc' Ls (.ref a :: st)) (hp : pc + 2 = pc' := by rfl) : OwnEnds p e below s C S Q T m pc Ls (.int n :: st) := by
  subst hp
  obtain ⟨T', h', kA, X', e', E', A', Ex', st'⟩ := newPE X hx hZ w eT (g := mkF m pc Ls (.int n :: st)) rfl hd rfl hn hcap hb hc hl had
  exact OwnEnds.of st' (k T' h' _ kA rfl X' e' E' (Arv.new A' hn) Ex')
theorem en_newR (X : Stand p l e R s m args below meth c T locs cells slots) (hx : p.tables.exec = Jvm.exec) (hZ : Z.Warmed39 s.vm) {own K : String} {index : Nat} (hown : s.vm.findClass own = some m.cls) (w1 : (Jvm.Cond.classLink own index K).before a0 Z = true) (w2 : (Jvm.Cond.arrayOver (.object K)).before a0 Z = true) (eT : T.heap = h) (hd : decode c.code pc = .ok (.anewarray index, 3)) {n : Int32} (hn : ¬ n < 0) (cap : Nat) (hcap : n.toNatClampNeg ≤ cap) (hb : cap * 8 ≤ 536870912) (hc : cells + 1 ≤ R.cells) (hl : slots + cap ≤ R.slots)
    (k : ∀ T' h' a kA, a = h.size → Stand p l e R s m args below meth c T' locs (cells + 1) (slots + cap) → T'.heap = h' → Ext h h' → Arv Z h' a kA (.object K) n [] (defaultValue (.object K)) → Ovr Z kA K → OwnEnds p e below s C S Q T' m pc' Ls (.ref a :: st)) (hp : pc + 3 = pc' := by rfl) : OwnEnds p e below s C S Q T m pc Ls (.int n :: st) := by
  subst hp
  obtain ⟨T', h', kA, X', e', E', A', O', st'⟩ := newR X hx hZ hown w1 w2 eT (g := mkF m pc Ls (.int n :: st)) rfl hd rfl hn hcap hb hc hl
  exact OwnEnds.of st' (k T' h' _ kA rfl X' e' E' (Arv.new A' hn) O')
theorem en_aastore (X : Stand p l e R s m args below meth c T locs cells slots) (hx : p.tables.exec = Jvm.exec) (hZ : Z.Warmed39 s.vm) (eT : T.heap = h) {a y : Addr} {kA : ClassId} {K : String} {n j : Int32} {vs : List Value} {dv : Value} (V : Arv Z h a kA (.object K) n vs dv) (O : Ovr Z kA K) (I : Ins Z h y K true) (hj : ¬ j < 0 ∧ j < n) (i : Nat) (hi : j.toNatClampNeg = i) (hil : i < vs.length) (hd : decode c.code pc = .ok (.aastore, 1))
    (k : ∀ T' h', Stand p l e R s m args below meth c T' (locs ++ [⟨a, j.toNatClampNeg⟩]) cells slots → T'.heap = h' → Wr h h' a j.toNatClampNeg (.ref y) → Arv Z h' a kA (.object K) n (vs.set i (.ref y)) dv → OwnEnds p e below s C S Q T' m pc' Ls st) (hp : pc + 1 = pc' := by rfl) : OwnEnds p e below s C S Q T m pc Ls (.ref y :: .int j :: .ref a :: st) := by
  subst hp
  obtain ⟨cl, Ar, q1, Sz, Nn, Hs, G⟩ := V
  have hin := inb_of Sz hj
  obtain ⟨T', h', X', e', W', st'⟩ := stR X hx hZ eT Ar hin rfl (Sto.ofV Ar q1 O I) (g := mkF m pc Ls (.ref y :: .int j :: .ref a :: st)) rfl rfl hd
  exact OwnEnds.of st' (k T' h' X' e' W' (Arv.set Ar q1 Sz Nn Hs G rfl W' i hi hil))
theorem en_acmpYes (X : Stand p l e R s m args below meth c T locs cells slots) (hx : p.tables.exec = Jvm.exec) {cd : ClassFile.ACond} {o : Int} {a b : Addr} (hd : decode c.code pc = .ok (.if_acmp cd o, 3)) (hc : if_acmp.holds cd (some a) (some b) = true) (k : OwnEnds p e below s C S Q T m pc' Ls st) (ho : 0 ≤ (pc : Int) + o := by decide) (hp : ((pc : Int) + o).toNat = pc' := by decide) : OwnEnds p e below s C S Q T m pc Ls (.ref b :: .ref a :: st) :=
  OwnEnds.of (fun _ k => XS.acmpYes X.here hx (g := mkF m pc Ls (.ref b :: .ref a :: st)) rfl rfl hd rfl hc ho hp k) k
theorem en_callIP (X : Stand p l e R s m args below meth c T locs cells slots) (hx : p.tables.exec = Jvm.exec) (hZ : Z.Warmed39 s.vm) {y z : MethodName} {K : String} {bytes : ByteArray} {maxL : Nat} {ret : Option FieldType} {fr lo : Nat} {w : Value} {a : Addr} {argsL : List Value} {own : String} {index count : Nat} (hown : s.vm.findClass own = some m.cls) (w1 : (Jvm.Cond.methodLink own index y).before a0 Z = true) (w2 : (Jvm.Cond.declares y).before a0 Z = true) (w3 : (Jvm.Cond.interfaceMethod y.cls y.cls y.name y.desc).before args s = true) (w4 : (Jvm.Cond.selects K y z).before a0 Z = true) (w5 : (Jvm.Cond.instanceMethod z).before a0 Z = true) (w6 : (Jvm.Cond.publicMethod z).before a0 Z = true) (w7 : (Jvm.Cond.unhidden K y.name y.desc).before a0 Z = true) (w8 : (Jvm.Cond.castable K y.cls).before a0 Z = true) (wz : (Jvm.Cond.initialized z.cls).before a0 Z = true) (wc : (Jvm.Cond.code z bytes maxL ret).before a0 Z = true) (Ex : Exa Z h a K) (hy : y.cls ≠ "java/lang/invoke/MethodHandle" ∧ y.cls ≠ "java/lang/invoke/VarHandle") (hM : OwnMeets l Z z bytes maxL ret [] ({ frames := fr, cells := 0, slots := 0, locals := lo } : Room) (.ref a :: argsL).toArray h (PQ w h)) (eT : T.heap = h) (hf : fr + 1 ≤ R.frames) (W : Nat) (hW : (rest.map fun v => v.category).sum = W) (hl : W + (maxL + 11) + lo ≤ R.locals) (hcl : cells ≤ R.cells) (hsl : slots ≤ R.slots) (hsz : Ls.size = c.maxLocals) (hlen : ∀ sig, parseMethodDescriptor y.desc = some sig → argsL.length = sig.parameters.length) (hst : st = argsL.reverse ++ .ref a :: rest) (hd : decode c.code pc = .ok (.invokeinterface index count, 5)) (k : ∀ T', Stand p l e R s m args below meth c T' locs cells slots → T'.heap = h → OwnEnds p e below s C S Q T' m pc' Ls (w :: rest)) (hp : pc + 5 = pc' := by rfl) : OwnEnds p e below s C S Q T m pc Ls st := by
  refine en_callI X hx hZ hown w1 w2 w3 w4 w5 w6 w7 w8 wz wc Ex hy hM eT hf W hW hl hcl hsl hsz hlen hst hd (fun v T' L X' q => ?_) hp
  obtain ⟨rfl, q2, rfl⟩ := q
  rw [List.append_nil] at X'
  exact k T' X' q2
end Kit
end Jvm.OwnKit
namespace Jvm.Pilot.@@N@@
open Jvm Jvm.ClassFile Sem Op Lib Jvm.Free Jvm.Stand Jvm.LawKit Jvm.RoadKit Bundle Jvm.OwnKit Jvm.Pilot.@@N@@.Jvm.D
theorem d1_0 : decode jdk_29_method_70_code 0 = .ok (.lload_n 0, 1) := by decide +kernel
theorem d1_1 : decode jdk_29_method_70_code 1 = .ok (.lload_n 2, 1) := by decide +kernel
theorem d1_2 : decode jdk_29_method_70_code 2 = .ok (.lcmp, 1) := by decide +kernel
theorem d1_3 : decode jdk_29_method_70_code 3 = .ok (.ifCond .gt 7, 3) := by decide +kernel
theorem d1_6 : decode jdk_29_method_70_code 6 = .ok (.lload_n 0, 1) := by decide +kernel
theorem d1_7 : decode jdk_29_method_70_code 7 = .ok (.goto 4, 3) := by decide +kernel
theorem d1_10 : decode jdk_29_method_70_code 10 = .ok (.lload_n 2, 1) := by decide +kernel
theorem d1_11 : decode jdk_29_method_70_code 11 = .ok (.lreturn, 1) := by decide +kernel
theorem ef_1 (m : MethodId) (x0 : Int64) (x2 : Int64) : entryFrame m #[(.long x0), (.long x2)] 4 = mkF m 0 #[.val (.long x0), .second, .val (.long x2), .second] [] := by first | (simp [entryFrame, mkF, argsToLocals, Value.category]; done) | rfl
def f1 (x0 : Int64) (x2 : Int64) : Int64 := (if x2 < x0 then x2 else x0)
theorem b1_0 {p : Program} {l : Launch} {e : Env} {s : State} {m : MethodId} {args : Array Value} {below : List Frame} {meth : Method} {c : Code} {T : State} {Z : State} {a0 : Array Value} {h : Heap} {C S : Nat} (hw : ∀ d ∈ tables_1, d.before a0 Z = true) (K : Cx p s m meth c Z (⟨"java/lang/Math", "min", "(JJ)J"⟩ : MethodName) jdk_29_method_70_code 4 (some .long)) (X : Stand p l e ({ frames := 0, cells := 0, slots := 0, locals := 0 } : Room) s m args below meth c T [] 0 0) (eT : T.heap = h) (x0 : Int64) (x2 : Int64)  : OwnEnds p e below s C S (PQ (.long (f1 x0 x2)) h) T m 0 #[.val (.long x0), .second, .val (.long x2), .second] [] := by
  obtain ⟨hx, hby, hml, hret, hlk, hnm, hown, hZ⟩ := id K
  unfold f1
  refine en_lloadN X hx (hb hby d1_0) (pc' := 1) rfl ?_
  refine en_lloadN X hx (hb hby d1_1) (pc' := 2) rfl ?_
  refine en_lcmp X hx (hb hby d1_2) (pc' := 3) ?_
  by_cases hc3_0 : x2 < x0
  · rw [if_pos hc3_0]
    refine en_ifYes X hx (hb hby d1_3) (wgt hc3_0).1 (pc' := 10) ?_
    refine en_lloadN X hx (hb hby d1_10) (pc' := 11) rfl ?_
    exact en_retL X hx hret hlk (hb hby d1_11) (Nat.zero_le _) (Nat.zero_le _) ⟨rfl, eT, rfl⟩
  · rw [if_neg hc3_0]
    refine en_ifNo X hx (hb hby d1_3) (nwgt hc3_0).1 (pc' := 6) ?_
    refine en_lloadN X hx (hb hby d1_6) (pc' := 7) rfl ?_
    refine en_goto X hx (hb hby d1_7) (pc' := 11) ?_
    exact en_retL X hx hret hlk (hb hby d1_11) (Nat.zero_le _) (Nat.zero_le _) ⟨rfl, eT, rfl⟩
theorem rm1 (l : Launch) (Z : State) (a0 : Array Value) (hw : ∀ d ∈ tables_1, d.before a0 Z = true) (ws : List Jvm.Cond) (x0 : Int64) (x2 : Int64) (h0 : Heap) : OwnMeets l Z (⟨"java/lang/Math", "min", "(JJ)J"⟩ : MethodName) jdk_29_method_70_code 4 (some .long) ws ({ frames := 0, cells := 0, slots := 0, locals := 0 } : Room) #[(.long x0), (.long x2)] h0 (PQ (.long (f1 x0 x2)) h0) :=
  OwnMeets.of_walk (Jvm.Free.JP.mathPlain rfl (by decide +kernel)) (fun m => ef_1 m x0 x2) (fun p e s m below meth c T X K eT => b1_0 hw K X eT x0 x2)
theorem d2_0 : decode jdk_29_method_66_code 0 = .ok (.lload_n 0, 1) := by decide +kernel
theorem d2_1 : decode jdk_29_method_66_code 1 = .ok (.lload_n 2, 1) := by decide +kernel
theorem d2_2 : decode jdk_29_method_66_code 2 = .ok (.lcmp, 1) := by decide +kernel
theorem d2_3 : decode jdk_29_method_66_code 3 = .ok (.ifCond .lt 7, 3) := by decide +kernel
theorem d2_6 : decode jdk_29_method_66_code 6 = .ok (.lload_n 0, 1) := by decide +kernel
theorem d2_7 : decode jdk_29_method_66_code 7 = .ok (.goto 4, 3) := by decide +kernel
theorem d2_10 : decode jdk_29_method_66_code 10 = .ok (.lload_n 2, 1) := by decide +kernel
theorem d2_11 : decode jdk_29_method_66_code 11 = .ok (.lreturn, 1) := by decide +kernel
theorem ef_2 (m : MethodId) (x0 : Int64) (x2 : Int64) : entryFrame m #[(.long x0), (.long x2)] 4 = mkF m 0 #[.val (.long x0), .second, .val (.long x2), .second] [] := by first | (simp [entryFrame, mkF, argsToLocals, Value.category]; done) | rfl
def f2 (x0 : Int64) (x2 : Int64) : Int64 := (if x0 < x2 then x2 else x0)
theorem b2_0 {p : Program} {l : Launch} {e : Env} {s : State} {m : MethodId} {args : Array Value} {below : List Frame} {meth : Method} {c : Code} {T : State} {Z : State} {a0 : Array Value} {h : Heap} {C S : Nat} (hw : ∀ d ∈ tables_1, d.before a0 Z = true) (K : Cx p s m meth c Z (⟨"java/lang/Math", "max", "(JJ)J"⟩ : MethodName) jdk_29_method_66_code 4 (some .long)) (X : Stand p l e ({ frames := 0, cells := 0, slots := 0, locals := 0 } : Room) s m args below meth c T [] 0 0) (eT : T.heap = h) (x0 : Int64) (x2 : Int64)  : OwnEnds p e below s C S (PQ (.long (f2 x0 x2)) h) T m 0 #[.val (.long x0), .second, .val (.long x2), .second] [] := by
  obtain ⟨hx, hby, hml, hret, hlk, hnm, hown, hZ⟩ := id K
  unfold f2
  refine en_lloadN X hx (hb hby d2_0) (pc' := 1) rfl ?_
  refine en_lloadN X hx (hb hby d2_1) (pc' := 2) rfl ?_
  refine en_lcmp X hx (hb hby d2_2) (pc' := 3) ?_
  by_cases hc3_0 : x0 < x2
  · rw [if_pos hc3_0]
    refine en_ifYes X hx (hb hby d2_3) (wlt hc3_0).1 (pc' := 10) ?_
    refine en_lloadN X hx (hb hby d2_10) (pc' := 11) rfl ?_
    exact en_retL X hx hret hlk (hb hby d2_11) (Nat.zero_le _) (Nat.zero_le _) ⟨rfl, eT, rfl⟩
  · rw [if_neg hc3_0]
    refine en_ifNo X hx (hb hby d2_3) (nwlt hc3_0).1 (pc' := 6) ?_
    refine en_lloadN X hx (hb hby d2_6) (pc' := 7) rfl ?_
    refine en_goto X hx (hb hby d2_7) (pc' := 11) ?_
    exact en_retL X hx hret hlk (hb hby d2_11) (Nat.zero_le _) (Nat.zero_le _) ⟨rfl, eT, rfl⟩
theorem rm2 (l : Launch) (Z : State) (a0 : Array Value) (hw : ∀ d ∈ tables_1, d.before a0 Z = true) (ws : List Jvm.Cond) (x0 : Int64) (x2 : Int64) (h0 : Heap) : OwnMeets l Z (⟨"java/lang/Math", "max", "(JJ)J"⟩ : MethodName) jdk_29_method_66_code 4 (some .long) ws ({ frames := 0, cells := 0, slots := 0, locals := 0 } : Room) #[(.long x0), (.long x2)] h0 (PQ (.long (f2 x0 x2)) h0) :=
  OwnMeets.of_walk (Jvm.Free.JP.mathPlain rfl (by decide +kernel)) (fun m => ef_2 m x0 x2) (fun p e s m below meth c T X K eT => b2_0 hw K X eT x0 x2)
theorem d4_0 : decode prog_7_method_1_code 0 = .ok (.aload_n 0, 1) := by decide +kernel
theorem d4_1 : decode prog_7_method_1_code 1 = .ok (.invokespecial 1, 3) := by decide +kernel
theorem d4_4 : decode prog_7_method_1_code 4 = .ok (.aload_n 0, 1) := by decide +kernel
theorem d4_5 : decode prog_7_method_1_code 5 = .ok (.lload_n 1, 1) := by decide +kernel
theorem d4_6 : decode prog_7_method_1_code 6 = .ok (.putfield 7, 3) := by decide +kernel
theorem d4_9 : decode prog_7_method_1_code 9 = .ok (.aload_n 0, 1) := by decide +kernel
theorem d4_10 : decode prog_7_method_1_code 10 = .ok (.lload_n 3, 1) := by decide +kernel
theorem d4_11 : decode prog_7_method_1_code 11 = .ok (.putfield 13, 3) := by decide +kernel
theorem d4_14 : decode prog_7_method_1_code 14 = .ok (.aload_n 0, 1) := by decide +kernel
theorem d4_15 : decode prog_7_method_1_code 15 = .ok (.iload 5, 2) := by decide +kernel
theorem d4_17 : decode prog_7_method_1_code 17 = .ok (.putfield 16, 3) := by decide +kernel
theorem d4_20 : decode prog_7_method_1_code 20 = .ok (.return_, 1) := by decide +kernel
theorem ef_4 (m : MethodId) (o0 : Addr) (x1 : Int64) (x3 : Int64) (x5 : Int32) : entryFrame m #[(.ref o0), (.long x1), (.long x3), (.int x5)] 6 = mkF m 0 #[.val (.ref o0), .val (.long x1), .second, .val (.long x3), .second, .val (.int x5)] [] := by first | (simp [entryFrame, mkF, argsToLocals, Value.category]; done) | rfl
theorem pn_0 : plainName "com/example/keen_policy/keenpolicy/Period" = true := by first | (simp [plainName, overriddenIn]; done) | decide +kernel
set_option maxRecDepth 65536 in
set_option maxHeartbeats 40000000 in
theorem rm4 (l : Launch) (Z : State) (a0 : Array Value) (hw : ∀ d ∈ tables_1, d.before a0 Z = true) (ws : List Jvm.Cond) (o0 : Addr) (x1 : Int64) (x3 : Int64) (x5 : Int32) (h0 : Heap) (n0 : Nat) (Z0 : n0 ≤ h0.size) (E0 : Exa Z h0 o0 "com/example/keen_policy/keenpolicy/Period") (F_start : Fld Z h0 o0 "com/example/keen_policy/keenpolicy/Period" "start" "J" (.long (0 : Int64))) (F_end : Fld Z h0 o0 "com/example/keen_policy/keenpolicy/Period" "end" "J" (.long (0 : Int64))) (F_ongoing : Fld Z h0 o0 "com/example/keen_policy/keenpolicy/Period" "ongoing" "Z" (.int (0 : Int32))) (g0 : n0 ≤ o0) (hn5 : narrow .boolean (.int x5) = .int x5) (hf5 : fits .boolean (.int x5) = true) : OwnMeets l Z (⟨"com/example/keen_policy/keenpolicy/Period", "<init>", "(JJZ)V"⟩ : MethodName) prog_7_method_1_code 6 none ws ({ frames := 1, cells := 0, slots := 0, locals := 12 } : Room) #[(.ref o0), (.long x1), (.long x3), (.int x5)] h0 (fun v h L => v = none ∧ Fr n0 L ∧ Keep h0 h [o0] ∧ Fld Z h o0 "com/example/keen_policy/keenpolicy/Period" "start" "J" (.long x1) ∧ Fld Z h o0 "com/example/keen_policy/keenpolicy/Period" "end" "J" (.long x3) ∧ Fld Z h o0 "com/example/keen_policy/keenpolicy/Period" "ongoing" "Z" (.int x5)) := by
  refine OwnMeets.of_walk (plainFor_of_name pn_0) (fun m => ef_4 m o0 x1 x3 x5) ?_
  intro p e s m below meth c T0 X0 K e0
  obtain ⟨hx, hby, hml, hret, hlk, hnm, hown, hZ⟩ := id K
  have N0 := Fr.nil n0
  refine en_aloadN X0 hx (hb hby d4_0) (pc' := 1) rfl rfl ?_
  refine en_initO X0 hx hZ hown (tw hw 16 rfl) (tw hw 17 rfl) (tw hw 18 rfl) e0 (by rw [hml]; rfl) (hb hby d4_1) (by decide) 0 rfl (by decide) (pc' := 4) (fun T1 X1 e1 => ?_)
  refine en_aloadN X1 hx (hb hby d4_4) (pc' := 5) rfl rfl ?_
  refine en_lloadN X1 hx (hb hby d4_5) (pc' := 6) rfl ?_
  refine en_putF X1 hx hZ hown (host := "") (Or.inl (tw hw 19 rfl)) Via.refl e1 F_start E0 (Or.inr ⟨(tw hw 20 rfl), rfl, hnm⟩) (tw hw 12 rfl) (ty := .long) (by decide) rfl rfl (hb hby d4_6) (pc' := 9) (fun T2 h2 X2 e2 W2 => ?_)
  have F2_o0_end := F_end.other W2 (Or.inr (slot_ne (Or.inr (tw hw 22 rfl)) (Or.inr (tw hw 20 rfl)) (by decide) (t := .long) (t' := .long) (by decide) (by decide)))
  have F2_o0_ongoing := F_ongoing.other W2 (Or.inr (slot_ne (Or.inr (tw hw 24 rfl)) (Or.inr (tw hw 20 rfl)) (by decide) (t := .boolean) (t' := .long) (by decide) (by decide)))
  have E2_o0 := E0.wr W2
  have K2 : Keep h0 h2 [o0] := (Keep.refl h0 [o0]).wr W2 (Or.inl (List.mem_of_getElem? (i := 0) rfl))
  have Z2 : n0 ≤ h2.size := Nat.le_trans Z0 (Keep.of_wr W2).1
  have N2 := Fr.snoc X2 N0 g0
  have F2_o0_start := F_start.same W2
  refine en_aloadN X2 hx (hb hby d4_9) (pc' := 10) rfl rfl ?_
  refine en_lloadN X2 hx (hb hby d4_10) (pc' := 11) rfl ?_
  refine en_putF X2 hx hZ hown (host := "") (Or.inl (tw hw 21 rfl)) Via.refl e2 F2_o0_end E2_o0 (Or.inr ⟨(tw hw 22 rfl), rfl, hnm⟩) (tw hw 12 rfl) (ty := .long) (by decide) rfl rfl (hb hby d4_11) (pc' := 14) (fun T3 h3 X3 e3 W3 => ?_)
  have F3_o0_start := F2_o0_start.other W3 (Or.inr (slot_ne (Or.inr (tw hw 20 rfl)) (Or.inr (tw hw 22 rfl)) (by decide) (t := .long) (t' := .long) (by decide) (by decide)))
  have F3_o0_ongoing := F2_o0_ongoing.other W3 (Or.inr (slot_ne (Or.inr (tw hw 24 rfl)) (Or.inr (tw hw 22 rfl)) (by decide) (t := .boolean) (t' := .long) (by decide) (by decide)))
  have E3_o0 := E2_o0.wr W3
  have K3 : Keep h0 h3 [o0] := K2.wr W3 (Or.inl (List.mem_of_getElem? (i := 0) rfl))
  have Z3 : n0 ≤ h3.size := Nat.le_trans Z2 (Keep.of_wr W3).1
  have N3 := Fr.snoc X3 N2 g0
  have F3_o0_end := F2_o0_end.same W3
  refine en_aloadN X3 hx (hb hby d4_14) (pc' := 15) rfl rfl ?_
  refine en_iload X3 hx (hb hby d4_15) (pc' := 17) rfl ?_
  refine en_putF X3 hx hZ hown (host := "") (Or.inl (tw hw 23 rfl)) Via.refl e3 F3_o0_ongoing E3_o0 (Or.inr ⟨(tw hw 24 rfl), rfl, hnm⟩) (tw hw 12 rfl) (ty := .boolean) (by decide) hn5 hf5 (hb hby d4_17) (pc' := 20) (fun T4 h4 X4 e4 W4 => ?_)
  have F4_o0_start := F3_o0_start.other W4 (Or.inr (slot_ne (Or.inr (tw hw 20 rfl)) (Or.inr (tw hw 24 rfl)) (by decide) (t := .long) (t' := .boolean) (by decide) (by decide)))
  have F4_o0_end := F3_o0_end.other W4 (Or.inr (slot_ne (Or.inr (tw hw 22 rfl)) (Or.inr (tw hw 24 rfl)) (by decide) (t := .long) (t' := .boolean) (by decide) (by decide)))
  have E4_o0 := E3_o0.wr W4
  have K4 : Keep h0 h4 [o0] := K3.wr W4 (Or.inl (List.mem_of_getElem? (i := 0) rfl))
  have Z4 : n0 ≤ h4.size := Nat.le_trans Z3 (Keep.of_wr W4).1
  have N4 := Fr.snoc X4 N3 g0
  have F4_o0_ongoing := F3_o0_ongoing.same W4
  exact en_ret0 X4 hx hret hlk (hb hby d4_20) (by decide) (by decide) (by first | (rw [e4]; exact ⟨rfl, N4, K4, F4_o0_start, F4_o0_end, F4_o0_ongoing⟩) | exact ⟨rfl, N4, K4, F4_o0_start, F4_o0_end, F4_o0_ongoing⟩)
theorem d6_0 : decode prog_7_method_4_code 0 = .ok (.aload_n 0, 1) := by decide +kernel
theorem d6_1 : decode prog_7_method_4_code 1 = .ok (.getfield 7, 3) := by decide +kernel
theorem d6_4 : decode prog_7_method_4_code 4 = .ok (.lreturn, 1) := by decide +kernel
theorem ef_6 (m : MethodId) (o0 : Addr) : entryFrame m #[(.ref o0)] 1 = mkF m 0 #[.val (.ref o0)] [] := by first | (simp [entryFrame, mkF, argsToLocals, Value.category]; done) | rfl
set_option maxRecDepth 65536 in
set_option maxHeartbeats 40000000 in
theorem rm6 (l : Launch) (Z : State) (a0 : Array Value) (hw : ∀ d ∈ tables_1, d.before a0 Z = true) (ws : List Jvm.Cond) (o0 : Addr) (w : Int64) (h0 : Heap) (n0 : Nat) (Z0 : n0 ≤ h0.size) (F0 : Fld Z h0 o0 "com/example/keen_policy/keenpolicy/Period" "start" "J" (.long w)) : OwnMeets l Z (⟨"com/example/keen_policy/keenpolicy/Period", "start", "()J"⟩ : MethodName) prog_7_method_4_code 1 (some .long) ws ({ frames := 0, cells := 0, slots := 0, locals := 0 } : Room) #[(.ref o0)] h0 (PQ (.long w) h0) := by
  refine OwnMeets.of_walk (plainFor_of_name pn_0) (fun m => ef_6 m o0) ?_
  intro p e s m below meth c T0 X0 K e0
  obtain ⟨hx, hby, hml, hret, hlk, hnm, hown, hZ⟩ := id K
  have N0 := Fr.nil n0
  refine en_aloadN X0 hx (hb hby d6_0) (pc' := 1) rfl rfl ?_
  refine en_getF X0 hx hZ hown (host := "") (Or.inl (tw hw 19 rfl)) Via.refl e0 F0 (hb hby d6_1) (pc' := 4) (fun T1 X1 e1 => ?_)
  exact en_retL X1 hx hret hlk (hb hby d6_4) (by decide) (by decide) ⟨rfl, e1, rfl⟩
theorem d8_0 : decode prog_7_method_5_code 0 = .ok (.aload_n 0, 1) := by decide +kernel
theorem d8_1 : decode prog_7_method_5_code 1 = .ok (.getfield 16, 3) := by decide +kernel
theorem d8_4 : decode prog_7_method_5_code 4 = .ok (.ireturn, 1) := by decide +kernel
theorem ef_8 (m : MethodId) (o0 : Addr) : entryFrame m #[(.ref o0)] 1 = mkF m 0 #[.val (.ref o0)] [] := by first | (simp [entryFrame, mkF, argsToLocals, Value.category]; done) | rfl
set_option maxRecDepth 65536 in
set_option maxHeartbeats 40000000 in
theorem rm8 (l : Launch) (Z : State) (a0 : Array Value) (hw : ∀ d ∈ tables_1, d.before a0 Z = true) (ws : List Jvm.Cond) (o0 : Addr) (w : Int32) (h0 : Heap) (n0 : Nat) (Z0 : n0 ≤ h0.size) (F0 : Fld Z h0 o0 "com/example/keen_policy/keenpolicy/Period" "ongoing" "Z" (.int w)) (hn : narrow .boolean (.int w) = .int w) : OwnMeets l Z (⟨"com/example/keen_policy/keenpolicy/Period", "isOngoing", "()Z"⟩ : MethodName) prog_7_method_5_code 1 (some .boolean) ws ({ frames := 0, cells := 0, slots := 0, locals := 0 } : Room) #[(.ref o0)] h0 (PQ (.int w) h0) := by
  refine OwnMeets.of_walk (plainFor_of_name pn_0) (fun m => ef_8 m o0) ?_
  intro p e s m below meth c T0 X0 K e0
  obtain ⟨hx, hby, hml, hret, hlk, hnm, hown, hZ⟩ := id K
  have N0 := Fr.nil n0
  refine en_aloadN X0 hx (hb hby d8_0) (pc' := 1) rfl rfl ?_
  refine en_getF X0 hx hZ hown (host := "") (Or.inl (tw hw 23 rfl)) Via.refl e0 F0 (hb hby d8_1) (pc' := 4) (fun T1 X1 e1 => ?_)
  exact en_retZ X1 hx hret hlk (hb hby d8_4) hn (by decide) (by decide) ⟨rfl, e1, rfl⟩
theorem d7_0 : decode prog_7_method_6_code 0 = .ok (.aload_n 0, 1) := by decide +kernel
theorem d7_1 : decode prog_7_method_6_code 1 = .ok (.getfield 16, 3) := by decide +kernel
theorem d7_4 : decode prog_7_method_6_code 4 = .ok (.ifCond .eq 20, 3) := by decide +kernel
theorem d7_7 : decode prog_7_method_6_code 7 = .ok (.new 32, 3) := by decide +kernel
theorem d7_10 : decode prog_7_method_6_code 10 = .ok (.dup, 1) := by decide +kernel
theorem d7_11 : decode prog_7_method_6_code 11 = .ok (.aload_n 0, 1) := by decide +kernel
theorem d7_12 : decode prog_7_method_6_code 12 = .ok (.invokestatic 34, 3) := by decide +kernel
theorem d7_15 : decode prog_7_method_6_code 15 = .ok (.invokedynamic 40, 5) := by decide +kernel
theorem d7_20 : decode prog_7_method_6_code 20 = .ok (.invokespecial 43, 3) := by decide +kernel
theorem d7_23 : decode prog_7_method_6_code 23 = .ok (.athrow, 1) := by decide +kernel
theorem d7_24 : decode prog_7_method_6_code 24 = .ok (.aload_n 0, 1) := by decide +kernel
theorem d7_25 : decode prog_7_method_6_code 25 = .ok (.getfield 13, 3) := by decide +kernel
theorem d7_28 : decode prog_7_method_6_code 28 = .ok (.lreturn, 1) := by decide +kernel
theorem ef_7 (m : MethodId) (o0 : Addr) : entryFrame m #[(.ref o0)] 1 = mkF m 0 #[.val (.ref o0)] [] := by first | (simp [entryFrame, mkF, argsToLocals, Value.category]; done) | rfl
set_option maxRecDepth 65536 in
set_option maxHeartbeats 40000000 in
theorem rm7 (l : Launch) (Z : State) (a0 : Array Value) (hw : ∀ d ∈ tables_1, d.before a0 Z = true) (ws : List Jvm.Cond) (o0 : Addr) (w : Int64) (h0 : Heap) (n0 : Nat) (Z0 : n0 ≤ h0.size) (F0 : Fld Z h0 o0 "com/example/keen_policy/keenpolicy/Period" "ongoing" "Z" (.int (0 : Int32))) (F1 : Fld Z h0 o0 "com/example/keen_policy/keenpolicy/Period" "end" "J" (.long w)) : OwnMeets l Z (⟨"com/example/keen_policy/keenpolicy/Period", "end", "()J"⟩ : MethodName) prog_7_method_6_code 1 (some .long) ws ({ frames := 0, cells := 0, slots := 0, locals := 0 } : Room) #[(.ref o0)] h0 (PQ (.long w) h0) := by
  refine OwnMeets.of_walk (plainFor_of_name pn_0) (fun m => ef_7 m o0) ?_
  intro p e s m below meth c T0 X0 K e0
  obtain ⟨hx, hby, hml, hret, hlk, hnm, hown, hZ⟩ := id K
  have N0 := Fr.nil n0
  refine en_aloadN X0 hx (hb hby d7_0) (pc' := 1) rfl rfl ?_
  refine en_getF X0 hx hZ hown (host := "") (Or.inl (tw hw 23 rfl)) Via.refl e0 F0 (hb hby d7_1) (pc' := 4) (fun T1 X1 e1 => ?_)
  refine en_ifYes X1 hx (hb hby d7_4) ((if0 _ _).trans (teq (rfl : (0 : Int32) = (0 : Int32))).1) (pc' := 24) ?_
  refine en_aloadN X1 hx (hb hby d7_24) (pc' := 25) rfl rfl ?_
  refine en_getF X1 hx hZ hown (host := "") (Or.inl (tw hw 21 rfl)) Via.refl e1 F1 (hb hby d7_25) (pc' := 28) (fun T2 X2 e2 => ?_)
  exact en_retL X2 hx hret hlk (hb hby d7_28) (by decide) (by decide) ⟨rfl, e2, rfl⟩
theorem d3_0 : decode prog_7_method_2_code 0 = .ok (.lload_n 0, 1) := by decide +kernel
theorem d3_1 : decode prog_7_method_2_code 1 = .ok (.lload_n 2, 1) := by decide +kernel
theorem d3_2 : decode prog_7_method_2_code 2 = .ok (.lcmp, 1) := by decide +kernel
theorem d3_3 : decode prog_7_method_2_code 3 = .ok (.ifCond .lt 18, 3) := by decide +kernel
theorem d3_6 : decode prog_7_method_2_code 6 = .ok (.new 20, 3) := by decide +kernel
theorem d3_9 : decode prog_7_method_2_code 9 = .ok (.dup, 1) := by decide +kernel
theorem d3_10 : decode prog_7_method_2_code 10 = .ok (.lload_n 0, 1) := by decide +kernel
theorem d3_11 : decode prog_7_method_2_code 11 = .ok (.lload_n 2, 1) := by decide +kernel
theorem d3_12 : decode prog_7_method_2_code 12 = .ok (.invokedynamic 22, 5) := by decide +kernel
theorem d3_17 : decode prog_7_method_2_code 17 = .ok (.invokespecial 26, 3) := by decide +kernel
theorem d3_20 : decode prog_7_method_2_code 20 = .ok (.athrow, 1) := by decide +kernel
theorem d3_21 : decode prog_7_method_2_code 21 = .ok (.new 8, 3) := by decide +kernel
theorem d3_24 : decode prog_7_method_2_code 24 = .ok (.dup, 1) := by decide +kernel
theorem d3_25 : decode prog_7_method_2_code 25 = .ok (.lload_n 0, 1) := by decide +kernel
theorem d3_26 : decode prog_7_method_2_code 26 = .ok (.lload_n 2, 1) := by decide +kernel
theorem d3_27 : decode prog_7_method_2_code 27 = .ok (.iconst 0, 1) := by decide +kernel
theorem d3_28 : decode prog_7_method_2_code 28 = .ok (.invokespecial 29, 3) := by decide +kernel
theorem d3_31 : decode prog_7_method_2_code 31 = .ok (.areturn, 1) := by decide +kernel
theorem ef_3 (m : MethodId) (x0 : Int64) (x2 : Int64) : entryFrame m #[(.long x0), (.long x2)] 4 = mkF m 0 #[.val (.long x0), .second, .val (.long x2), .second] [] := by first | (simp [entryFrame, mkF, argsToLocals, Value.category]; done) | rfl
theorem pd_0 : parseMethodDescriptor "(JJZ)V" = some ⟨[.long, .long, .boolean], none⟩ := by decide +kernel
set_option maxRecDepth 65536 in
set_option maxHeartbeats 40000000 in
theorem rm3 (l : Launch) (Z : State) (a0 : Array Value) (hw : ∀ d ∈ tables_1, d.before a0 Z = true) (ws : List Jvm.Cond) (x0 : Int64) (x2 : Int64) (h0 : Heap) (n0 : Nat) (Z0 : n0 ≤ h0.size) (hlt : x0 < x2) : OwnMeets l Z (⟨"com/example/keen_policy/keenpolicy/Period", "closed", "(JJ)Lcom/example/keen_policy/keenpolicy/Period;"⟩ : MethodName) prog_7_method_2_code 4 (some (.object "com/example/keen_policy/keenpolicy/Period")) ws ({ frames := 2, cells := 1, slots := 3, locals := 30 } : Room) #[(.long x0), (.long x2)] h0 (fun v h L => ∃ b, v = some (.ref b) ∧ Fr n0 L ∧ Keep h0 h [] ∧ n0 ≤ b ∧ h0.size ≤ b ∧ Exa Z h b "com/example/keen_policy/keenpolicy/Period" ∧ Fld Z h b "com/example/keen_policy/keenpolicy/Period" "start" "J" (.long x0) ∧ Fld Z h b "com/example/keen_policy/keenpolicy/Period" "end" "J" (.long x2) ∧ Fld Z h b "com/example/keen_policy/keenpolicy/Period" "ongoing" "Z" (.int (0 : Int32))) := by
  refine OwnMeets.of_walk (plainFor_of_name pn_0) (fun m => ef_3 m x0 x2) ?_
  intro p e s m below meth c T0 X0 K e0
  obtain ⟨hx, hby, hml, hret, hlk, hnm, hown, hZ⟩ := id K
  have N0 := Fr.nil n0
  refine en_lloadN X0 hx (hb hby d3_0) (pc' := 1) rfl ?_
  refine en_lloadN X0 hx (hb hby d3_1) (pc' := 2) rfl ?_
  refine en_lcmp X0 hx (hb hby d3_2) (pc' := 3) ?_
  refine en_ifYes X0 hx (hb hby d3_3) (wlt hlt).1 (pc' := 21) ?_
  refine en_newO X0 hx hZ hown (tw hw 11 rfl) (tw hw 12 rfl) (tw hw 9 rfl) e0 (hb hby d3_21) (by decide) (by decide) (pc' := 24) (fun T1 h1 b1 g1 X1 e1 E1 A1 D1 => ?_)
  have g_b1 : n0 ≤ b1 := by rw [g1]; exact Z0
  have sz_b1 : h0.size ≤ b1 := by rw [g1]; exact (Keep.refl h0 []).1
  have K1 : Keep h0 h1 [] := (Keep.refl h0 []).ext E1
  have Z1 : n0 ≤ h1.size := Nat.le_trans Z0 E1.1
  have F1_b1_start : Fld Z h1 b1 "com/example/keen_policy/keenpolicy/Period" "start" "J" (.long (0 : Int64)) := D1 (Or.inr (tw hw 20 rfl)) (ty := .long) (by decide)
  have F1_b1_end : Fld Z h1 b1 "com/example/keen_policy/keenpolicy/Period" "end" "J" (.long (0 : Int64)) := D1 (Or.inr (tw hw 22 rfl)) (ty := .long) (by decide)
  have F1_b1_ongoing : Fld Z h1 b1 "com/example/keen_policy/keenpolicy/Period" "ongoing" "Z" (.int (0 : Int32)) := D1 (Or.inr (tw hw 24 rfl)) (ty := .boolean) (by decide)
  refine en_dup X1 hx (hb hby d3_24) (pc' := 25) rfl ?_
  refine en_lloadN X1 hx (hb hby d3_25) (pc' := 26) rfl ?_
  refine en_lloadN X1 hx (hb hby d3_26) (pc' := 27) rfl ?_
  refine en_iconst X1 hx (0 : Int32) (hb hby d3_27) (pc' := 28) ?_
  refine en_callN X1 hx hZ (rm := ({ frames := 1, cells := 0, slots := 0, locals := 12 } : Room)) (y := (⟨"com/example/keen_policy/keenpolicy/Period", "<init>", "(JJZ)V"⟩ : MethodName)) hown rfl (tw hw 13 rfl) (tw hw 14 rfl) (tw hw 9 rfl) (tw hw 15 rfl) (by decide) (rm4 l Z a0 hw [] b1 x0 x2 (0 : Int32) h1 n0 Z1 A1 F1_b1_start F1_b1_end F1_b1_ongoing g_b1 rfl rfl) e1 (by decide) 1 rfl (by decide) (by decide) (by decide) (by rw [hml]; rfl) (argsL := [(.long x0), (.long x2), (.int (0 : Int32))]) (rest := [(.ref b1)]) (lenOf pd_0 rfl) rfl (hb hby d3_28) (pc' := 31) (fun v2 T2 Lq2 X2 hQ2 => ?_)
  obtain ⟨h2, e2⟩ : ∃ q, T2.heap = q := ⟨_, rfl⟩
  rw [e2] at hQ2
  obtain ⟨rfl, Nq2, Kq2, Fs, Fe, Fo⟩ := hQ2
  have N2 := Fr.app N0 Nq2
  show OwnEnds p e below s _ _ _ T2 m 31 #[.val (.long x0), .second, .val (.long x2), .second] [(.ref b1)]
  have E2_b1 := A1.keep Kq2
  have K2 : Keep h0 h2 [] := Keep.trans K1 Kq2 (allS (Or.inr sz_b1) all0)
  have Z2 : n0 ≤ h2.size := Nat.le_trans Z1 Kq2.1
  exact en_retA X2 hx hret rfl rfl hlk (hb hby d3_31) (by decide) (by decide) (by first | (rw [e2]; exact ⟨b1, rfl, N2, K2, g_b1, sz_b1, E2_b1, Fs, Fe, Fo⟩) | exact ⟨b1, rfl, N2, K2, g_b1, sz_b1, E2_b1, Fs, Fe, Fo⟩)
theorem own_lt (a b : Int64) (h : ¬ a = b) : f1 a b < f2 a b := by
  have h' : a.toInt ≠ b.toInt := fun q => h (Int64.toInt_inj.mp q)
  unfold f1 f2
  by_cases q : b < a
  · have q2 : ¬ a < b := by rw [Int64.lt_iff_toInt_lt] at q ⊢; omega
    rw [if_pos q, if_neg q2]; exact q
  · have q2 : a < b := by rw [Int64.lt_iff_toInt_lt] at q ⊢; omega
    rw [if_neg q, if_pos q2]; exact q2
theorem ef_0 (m : MethodId) (x0 : Int64) (x2 : Int64) : entryFrame m #[(.long x0), (.long x2)] maxLocals = mkF m 0 #[.val (.long x0), .second, .val (.long x2), .second, .unset, .unset, .unset, .unset, .unset] [] := by first | (simp [entryFrame, mkF, argsToLocals, Value.category, maxLocals]; done) | rfl
theorem pn_1 : plainName "com/example/keen_policy/keenpolicy/PeriodClosedPinLaw" = true := by first | (simp [plainName, overriddenIn]; done) | decide +kernel
theorem pd_1 : parseMethodDescriptor "(JJ)J" = some ⟨[.long, .long], some .long⟩ := by decide +kernel
theorem pd_2 : parseMethodDescriptor "(JJ)Lcom/example/keen_policy/keenpolicy/Period;" = some ⟨[.long, .long], some (.object "com/example/keen_policy/keenpolicy/Period")⟩ := by decide +kernel
theorem pd_3 : parseMethodDescriptor "()J" = some ⟨[], some .long⟩ := by decide +kernel
theorem pd_4 : parseMethodDescriptor "()Z" = some ⟨[], some .boolean⟩ := by decide +kernel
set_option maxRecDepth 65536 in
set_option maxHeartbeats 40000000 in
theorem rm0 (l : Launch) (Z : State) (a0 : Array Value) (hw : ∀ d ∈ tables_1, d.before a0 Z = true) (ws : List Jvm.Cond) (x0 : Int64) (x2 : Int64) (h0 : Heap) (n0 : Nat) (Z0 : n0 ≤ h0.size)  : OwnMeets l Z x code maxLocals ret ws room_1 #[(.long x0), (.long x2)] h0 (fun v h L => v = some (.int (1 : Int32)) ∧ Fr n0 L) := by
  refine OwnMeets.of_walk (plainFor_of_name pn_1) (fun m => ef_0 m x0 x2) ?_
  intro p e s m below meth c T0 X0 K e0
  obtain ⟨hx, hby, hml, hret, hlk, hnm, hown, hZ⟩ := id K
  have N0 := Fr.nil n0
  refine en_lloadN X0 hx (hb hby at_0) (pc' := 1) rfl ?_
  refine en_lloadN X0 hx (hb hby at_1) (pc' := 2) rfl ?_
  refine en_lcmp X0 hx (hb hby at_2) (pc' := 3) ?_
  by_cases hc3_1 : x0 = x2
  · refine en_ifNo X0 hx (hb hby at_3) (weq hc3_1).2 (pc' := 6) ?_
    refine en_iconst X0 hx (1 : Int32) (hb hby at_6) (pc' := 7) ?_
    exact en_retZ X0 hx hret hlk (hb hby at_7) rfl (by decide) (by decide) ⟨rfl, N0⟩
  · refine en_ifYes X0 hx (hb hby at_3) (nweq hc3_1).2 (pc' := 8) ?_
    refine en_lloadN X0 hx (hb hby at_8) (pc' := 9) rfl ?_
    refine en_lloadN X0 hx (hb hby at_9) (pc' := 10) rfl ?_
    refine en_callP X0 hx hZ hown (tw hw 0 rfl) (tw hw 1 rfl) (tw hw 2 rfl) (tw hw 3 rfl) (by decide) (rm1 l Z a0 hw [] x0 x2 _) e0 (by decide) 0 rfl (by decide) (by decide) (by decide) (by rw [hml]; rfl) (argsL := [(.long x0), (.long x2)]) (rest := []) (lenOf pd_1 rfl) rfl (hb hby at_10) (pc' := 13) (fun T2 X2 e2 => ?_)
    refine en_lstore X2 hx (hb hby at_13) (pc' := 15) (Ls' := #[.val (.long x0), .second, .val (.long x2), .second, .val (.long (f1 x0 x2)), .second, .unset, .unset, .unset]) rfl ?_
    refine en_lloadN X2 hx (hb hby at_15) (pc' := 16) rfl ?_
    refine en_lloadN X2 hx (hb hby at_16) (pc' := 17) rfl ?_
    refine en_callP X2 hx hZ hown (tw hw 4 rfl) (tw hw 5 rfl) (tw hw 2 rfl) (tw hw 6 rfl) (by decide) (rm2 l Z a0 hw [] x0 x2 _) e2 (by decide) 0 rfl (by decide) (by decide) (by decide) (by rw [hml]; rfl) (argsL := [(.long x0), (.long x2)]) (rest := []) (lenOf pd_1 rfl) rfl (hb hby at_17) (pc' := 20) (fun T3 X3 e3 => ?_)
    refine en_lstore X3 hx (hb hby at_20) (pc' := 22) (Ls' := #[.val (.long x0), .second, .val (.long x2), .second, .val (.long (f1 x0 x2)), .second, .val (.long (f2 x0 x2)), .second, .unset]) rfl ?_
    refine en_lload X3 hx (hb hby at_22) (pc' := 24) rfl ?_
    refine en_lload X3 hx (hb hby at_24) (pc' := 26) rfl ?_
    refine en_callS X3 hx hZ (rm := ({ frames := 2, cells := 1, slots := 3, locals := 30 } : Room)) hown (tw hw 7 rfl) (tw hw 8 rfl) (tw hw 9 rfl) (tw hw 10 rfl) (by decide) (rm3 l Z a0 hw [] (f1 x0 x2) (f2 x0 x2) h0 n0 Z0 (own_lt x0 x2 hc3_1)) e3 (by decide) 0 rfl (by decide) (by decide) (by decide) (by rw [hml]; rfl) (argsL := [(.long (f1 x0 x2)), (.long (f2 x0 x2))]) (rest := []) (lenOf pd_2 rfl) rfl (hb hby at_26) (pc' := 29) (fun v4 T4 Lq4 X4 hQ4 => ?_)
    obtain ⟨h4, e4⟩ : ∃ q, T4.heap = q := ⟨_, rfl⟩
    rw [e4] at hQ4
    obtain ⟨b, rfl, Nq4, Kq4, gb, szb, Eb, Fs, Fe, Fo⟩ := hQ4
    have N4 := Fr.app N0 Nq4
    show OwnEnds p e below s _ _ _ T4 m 29 #[.val (.long x0), .second, .val (.long x2), .second, .val (.long (f1 x0 x2)), .second, .val (.long (f2 x0 x2)), .second, .unset] [(.ref b)]
    have Z4 : n0 ≤ h4.size := Nat.le_trans Z0 Kq4.1
    refine en_astore X4 hx (hb hby at_29) (pc' := 31) (Ls' := #[.val (.long x0), .second, .val (.long x2), .second, .val (.long (f1 x0 x2)), .second, .val (.long (f2 x0 x2)), .second, .val (.ref b)]) rfl rfl ?_
    refine en_aload X4 hx (hb hby at_31) (pc' := 33) rfl rfl ?_
    refine en_callVP X4 hx hZ (y := (⟨"com/example/keen_policy/keenpolicy/Period", "start", "()J"⟩ : MethodName)) (z := (⟨"com/example/keen_policy/keenpolicy/Period", "start", "()J"⟩ : MethodName)) (K := "com/example/keen_policy/keenpolicy/Period") (fr := 0) (lo := 0) hown (tw hw 25 rfl) (tw hw 26 rfl) (notFace_of_selects (args := #[]) (mvT hZ (tw hw 28 rfl))) (tw hw 28 rfl) (tw hw 27 rfl) (tw hw 9 rfl) (tw hw 29 rfl) Eb (by decide) (rm6 l Z a0 hw [] b (f1 x0 x2) _ n0 Z4 Fs) e4 (by decide) 0 rfl (by decide) (by decide) (by decide) (by rw [hml]; rfl) (argsL := []) (rest := []) (lenOf pd_3 rfl) rfl (hb hby at_33) (pc' := 36) (fun T5 X5 e5 => ?_)
    refine en_lload X5 hx (hb hby at_36) (pc' := 38) rfl ?_
    refine en_lcmp X5 hx (hb hby at_38) (pc' := 39) ?_
    refine en_ifNo X5 hx (hb hby at_39) (weq (rfl : (f1 x0 x2) = (f1 x0 x2))).2 (pc' := 42) ?_
    refine en_aload X5 hx (hb hby at_42) (pc' := 44) rfl rfl ?_
    refine en_callVP X5 hx hZ (y := (⟨"com/example/keen_policy/keenpolicy/Period", "end", "()J"⟩ : MethodName)) (z := (⟨"com/example/keen_policy/keenpolicy/Period", "end", "()J"⟩ : MethodName)) (K := "com/example/keen_policy/keenpolicy/Period") (fr := 0) (lo := 0) hown (tw hw 30 rfl) (tw hw 31 rfl) (notFace_of_selects (args := #[]) (mvT hZ (tw hw 33 rfl))) (tw hw 33 rfl) (tw hw 32 rfl) (tw hw 9 rfl) (tw hw 34 rfl) Eb (by decide) (rm7 l Z a0 hw [] b (f2 x0 x2) _ n0 Z4 Fo Fe) e5 (by decide) 0 rfl (by decide) (by decide) (by decide) (by rw [hml]; rfl) (argsL := []) (rest := []) (lenOf pd_3 rfl) rfl (hb hby at_44) (pc' := 47) (fun T6 X6 e6 => ?_)
    refine en_lload X6 hx (hb hby at_47) (pc' := 49) rfl ?_
    refine en_lcmp X6 hx (hb hby at_49) (pc' := 50) ?_
    refine en_ifNo X6 hx (hb hby at_50) (weq (rfl : (f2 x0 x2) = (f2 x0 x2))).2 (pc' := 53) ?_
    refine en_aload X6 hx (hb hby at_53) (pc' := 55) rfl rfl ?_
    refine en_callVP X6 hx hZ (y := (⟨"com/example/keen_policy/keenpolicy/Period", "isOngoing", "()Z"⟩ : MethodName)) (z := (⟨"com/example/keen_policy/keenpolicy/Period", "isOngoing", "()Z"⟩ : MethodName)) (K := "com/example/keen_policy/keenpolicy/Period") (fr := 0) (lo := 0) hown (tw hw 35 rfl) (tw hw 36 rfl) (notFace_of_selects (args := #[]) (mvT hZ (tw hw 38 rfl))) (tw hw 38 rfl) (tw hw 37 rfl) (tw hw 9 rfl) (tw hw 39 rfl) Eb (by decide) (rm8 l Z a0 hw [] b (0 : Int32) _ n0 Z4 Fo rfl) e6 (by decide) 0 rfl (by decide) (by decide) (by decide) (by rw [hml]; rfl) (argsL := []) (rest := []) (lenOf pd_4 rfl) rfl (hb hby at_55) (pc' := 58) (fun T7 X7 e7 => ?_)
    refine en_ifNo X7 hx (hb hby at_58) ((if0 _ _).trans (teq (rfl : (0 : Int32) = (0 : Int32))).2) (pc' := 61) ?_
    refine en_iconst X7 hx (1 : Int32) (hb hby at_61) (pc' := 62) ?_
    refine en_goto X7 hx (hb hby at_62) (pc' := 66) ?_
    exact en_retZ X7 hx hret hlk (hb hby at_66) rfl (by decide) (by decide) ⟨rfl, N4⟩
set_option maxRecDepth 65536 in
set_option maxHeartbeats 40000000 in
theorem comes_1 {Post : Tables → Env → Array Value → State → Outcome → State → Prop} (hpost : ∀ tb e args s v u, (limb_1_1.after args s (.returned v) u = true ∧ limb_1_2.after args s (.returned v) u = true ∧ True) → FrameEnd s (.returned v) u (Jvm.fieldLocs frame_1_writes args s ++ Jvm.arrayLocs frame_1_arrays args s ++ Jvm.staticLocs frame_1_statics s) 16 128 → Post tb e args s (.returned v) u) :
    ArmFor flags0 classFile x code maxLocals ret World_1 tables_1 room_1 Calls_1 rest_1 Pre_1 Post := by
  intro l hfl _ _ p e ha hc hk s m args below hf hA hF happ hP
  obtain ⟨hcalls, hrest, hpre⟩ := hP
  obtain ⟨-, -, -, hnamed, -, -, -, hat⟩ := (Spec.applies_iff hf).mp happ
  obtain ⟨hg, hn⟩ := and_e (Cond.before_iff.mp (show (Jvm.Cond.and given_1 narrow_1).before args s = true from hpre))
  obtain ⟨g1, g2⟩ := and_e hg
  obtain ⟨g3, g4⟩ := and_e g2
  obtain ⟨w0, w1, rfl⟩ : ∃ w0 w1 : Value, args = #[w0, w1] := by
    have hs : args.size = 2 := by simpa [Cond.value, given_1] using g1
    obtain ⟨L⟩ := args
    match L, hs with
    | [w0, w1], _ => exact ⟨w0, w1, rfl⟩
  have hw := fun d (hd : d ∈ tables_1) => atoms_spec (ws := Jvm.Cond.code x code maxLocals ret :: tables_1) hat d (List.mem_cons_of_mem _ hd)
  obtain ⟨i0, ei0⟩ := isL_v g3
  obtain rfl : w0 = (.long i0) := Option.some.inj ei0
  obtain ⟨i1, ei1⟩ := isL_v g4
  obtain rfl : w1 = (.long i1) := Option.some.inj ei1
  obtain ⟨n, o, h1, h2, h3, _, L, rfl, ⟨rfl, N⟩, hq⟩ := rm0 l s _ hw tables_1 i0 i1 s.heap s.heap.size (Nat.le_refl _)  p e ha hc hk s m _ below hf ((Spec.applies_iff_loose hf).mp happ).1 ⟨rfl, State.Warmed39.refl s, rfl⟩ trivial
  refine ⟨n, _, h1, h2, h3, hpost _ _ _ _ _ _ ⟨Cond.after_iff.mpr rfl, Cond.after_iff.mpr (eq_i res_at (Term.int_eval (1)) rfl), trivial⟩ ⟨hq.1, hq.2.1, (hq.2.2.sift fun y hy => Or.inr (N y hy)).mono (by decide) (by decide)⟩⟩
theorem main_1_1 : Claimed_1_1 := comes_1 fun _ _ _ _ _ _ h hF => ⟨h.1, hF⟩
theorem main_1_2 : Claimed_1_2 := comes_1 fun _ _ _ _ _ _ h hF => ⟨h.2.1, hF⟩
end Jvm.Pilot.@@N@@
namespace Jvm.Pilot.@@N@@
open Jvm Jvm.ClassFile Sem Op Lib Jvm.Free Jvm.Stand Jvm.Pilot.@@N@@.Jvm.D
/-! MADE BY PROGRAM (witnessworld.py) out of the Statement's table words and the real class files: 11 classes; the members and pool entries that the words name. The judged class is class 1, her method 1. -/
namespace start1
open Jvm.ClassFile
def u (s : String) : CpInfo := .utf8 (stringToUtf16 s)
/-- a pool by its gaps: so many unusable entries, then the entry; so many at the end -/
def gap : Nat → List CpInfo → List CpInfo
  | 0, r => r
  | n + 1, r => .unusable :: gap n r
def poolList (es : List (Nat × CpInfo)) (last : Nat) : List CpInfo := es.foldr (fun e r => gap e.1 (e.2 :: r)) (gap last [])
def pool (es : List (Nat × CpInfo)) (last : Nat) : Array CpInfo := ⟨poolList es last⟩
def fileOf (pool : Array CpInfo) (this : Nat) (attrs : Array Attribute := #[]) (ms : Array MethodInfo := #[]) (fl : Nat := 33) (sup : Nat := 0) (ifs : Array Nat := #[]) (fds : Array FieldInfo := #[]) : ClassFile where
  minorVersion := 0
  majorVersion := 65
  constantPool := pool
  accessFlags := fl
  thisClass := this
  superClass := sup
  interfaces := ifs
  fields := fds
  methods := ms
  attributes := attrs
def plain (name : String) (sup : Option ClassId) : Class where
  name := name
  kind := .ordinary
  loader := none
  accessFlags := 33
  super := sup
  interfaces := #[]
  cf := none
  fields := #[]
  methods := #[]
  instanceTypes := #[]
  staticTypes := #[]
  resolved := #[]
  callSites := []
  init := .initialized
  statics := none
  mirror := none

def pool0 : Array CpInfo := pool [(5, u "<init>"), (0, u "()V"), (1, .class_ 10), (1, u "java/lang/Object")] 113

def k0c0 : Code := { maxStack := 0, maxLocals := 1, code := object_method_1_code, exceptionTable := #[], attributes := #[] }
def k0m0 : Method := { name := "<init>", desc := "()V", sig := { parameters := [], returnType := none }, accessFlags := 1, code := some k0c0 }
/-- java/lang/Object -/
def k0 : Class := { plain "java/lang/Object" none with
  accessFlags := 33
  interfaces := #[]
  cf := some (fileOf pool0 8 #[] #[{ accessFlags := 1, nameIndex := 5, descriptorIndex := 6, attributes := #[] }] 33 0 #[] #[])
  fields := #[]
  methods := #[k0m0]
  instanceTypes := #[]
  staticTypes := #[]
  resolved := Array.replicate 124 none
  statics := none }

def pool1 : Array CpInfo := pool [(2, .class_ 4), (1, u "java/lang/Object"), (0, u "<init>"), (0, u "()V"), (0, .methodref 8 9), (0, .class_ 10), (0, .nameAndType 11 12), (0, u "java/lang/Math"), (0, u "min"), (0, u "(JJ)J"), (0, .methodref 8 14), (0, .nameAndType 15 12), (0, u "max"), (0, .methodref 17 18), (0, .class_ 19), (0, .nameAndType 20 21), (0, u "com/example/keen_policy/keenpolicy/Period"), (0, u "closed"), (0, u "(JJ)Lcom/example/keen_policy/keenpolicy/Period;"), (0, .methodref 17 23), (0, .nameAndType 24 25), (0, u "start"), (0, u "()J"), (0, .methodref 17 27), (0, .nameAndType 28 25), (0, u "end"), (0, .methodref 17 30), (0, .nameAndType 31 32), (0, u "isOngoing"), (0, u "()Z"), (0, .class_ 34), (0, u "com/example/keen_policy/keenpolicy/PeriodClosedPinLaw"), (2, u "law"), (0, u "(JJ)Z")] 3

def k1m0 : Method := { name := "<init>", desc := "()V", sig := { parameters := [], returnType := none }, accessFlags := 1, code := none }
def k1c1 : Code := { maxStack := 4, maxLocals := 9, code := code, exceptionTable := #[], attributes := #[] }
def k1m1 : Method := { name := "law", desc := "(JJ)Z", sig := { parameters := [.long, .long], returnType := some .boolean }, accessFlags := 9, code := some k1c1 }
/-- com/example/keen_policy/keenpolicy/PeriodClosedPinLaw -/
def k1 : Class := { plain "com/example/keen_policy/keenpolicy/PeriodClosedPinLaw" (some 0) with
  accessFlags := 49
  interfaces := #[]
  cf := some (fileOf pool1 33 #[] #[{ accessFlags := 1, nameIndex := 5, descriptorIndex := 6, attributes := #[] }, { accessFlags := 9, nameIndex := 37, descriptorIndex := 38, attributes := #[] }] 49 2 #[] #[])
  fields := #[]
  methods := #[k1m0, k1m1]
  instanceTypes := #[]
  staticTypes := #[]
  resolved := Array.replicate 42 none
  statics := none }

def pool2 : Array CpInfo := pool [(1, .class_ 2), (0, u "java/lang/Math"), (1, .class_ 6), (1, u "java/lang/Object"), (0, u "<init>"), (0, u "()V"), (89, .class_ 100), (1, u "java/lang/Math$RandomNumberGeneratorHolder"), (20, u "(JJ)J"), (50, u "negativeZeroFloatBits"), (0, u "J"), (2, u "negativeZeroDoubleBits"), (21, u "max"), (2, u "min"), (43, u "$assertionsDisabled"), (0, u "Z"), (91, u "twoToTheDoubleScaleDown"), (0, u "D"), (4, u "twoToTheDoubleScaleUp"), (9, u "E"), (3, u "PI"), (2, u "TAU"), (2, u "DEGREES_TO_RADIANS"), (0, u "RADIANS_TO_DEGREES")] 94

def k2m0 : Method := { name := "<init>", desc := "()V", sig := { parameters := [], returnType := none }, accessFlags := 2, code := none }
def k2c1 : Code := { maxStack := 4, maxLocals := 4, code := jdk_29_method_66_code, exceptionTable := #[], attributes := #[] }
def k2m1 : Method := { name := "max", desc := "(JJ)J", sig := { parameters := [.long, .long], returnType := some .long }, accessFlags := 9, code := some k2c1 }
def k2c2 : Code := { maxStack := 4, maxLocals := 4, code := jdk_29_method_70_code, exceptionTable := #[], attributes := #[] }
def k2m2 : Method := { name := "min", desc := "(JJ)J", sig := { parameters := [.long, .long], returnType := some .long }, accessFlags := 9, code := some k2c2 }
/-- java/lang/Math -/
def k2 : Class := { plain "java/lang/Math" (some 0) with
  accessFlags := 49
  interfaces := #[]
  cf := some (fileOf pool2 1 #[.nestMembers #[98]] #[{ accessFlags := 2, nameIndex := 7, descriptorIndex := 8, attributes := #[] }, { accessFlags := 9, nameIndex := 198, descriptorIndex := 121, attributes := #[] }, { accessFlags := 9, nameIndex := 201, descriptorIndex := 121, attributes := #[] }] 49 4 #[] #[{ accessFlags := 25, nameIndex := 354, descriptorIndex := 339, attributes := #[] }, { accessFlags := 25, nameIndex := 358, descriptorIndex := 339, attributes := #[] }, { accessFlags := 25, nameIndex := 361, descriptorIndex := 339, attributes := #[] }, { accessFlags := 26, nameIndex := 364, descriptorIndex := 339, attributes := #[] }, { accessFlags := 26, nameIndex := 365, descriptorIndex := 339, attributes := #[] }, { accessFlags := 26, nameIndex := 172, descriptorIndex := 173, attributes := #[] }, { accessFlags := 26, nameIndex := 176, descriptorIndex := 173, attributes := #[] }, { accessFlags := 8, nameIndex := 344, descriptorIndex := 339, attributes := #[] }, { accessFlags := 8, nameIndex := 338, descriptorIndex := 339, attributes := #[] }, { accessFlags := 4120, nameIndex := 245, descriptorIndex := 246, attributes := #[] }])
  fields := #[{ name := "E", type := .double, accessFlags := 25, slot := 0, constantValue := 0 }, { name := "PI", type := .double, accessFlags := 25, slot := 1, constantValue := 0 }, { name := "TAU", type := .double, accessFlags := 25, slot := 2, constantValue := 0 }, { name := "DEGREES_TO_RADIANS", type := .double, accessFlags := 26, slot := 3, constantValue := 0 }, { name := "RADIANS_TO_DEGREES", type := .double, accessFlags := 26, slot := 4, constantValue := 0 }, { name := "negativeZeroFloatBits", type := .long, accessFlags := 26, slot := 5, constantValue := 0 }, { name := "negativeZeroDoubleBits", type := .long, accessFlags := 26, slot := 6, constantValue := 0 }, { name := "twoToTheDoubleScaleUp", type := .double, accessFlags := 8, slot := 7, constantValue := 0 }, { name := "twoToTheDoubleScaleDown", type := .double, accessFlags := 8, slot := 8, constantValue := 0 }, { name := "$assertionsDisabled", type := .boolean, accessFlags := 4120, slot := 9, constantValue := 0 }]
  methods := #[k2m0, k2m1, k2m2]
  instanceTypes := #[]
  staticTypes := #[.double, .double, .double, .double, .double, .long, .long, .double, .double, .boolean]
  resolved := Array.replicate 460 none
  statics := none }

def pool3 : Array CpInfo := pool [(1, .class_ 2), (0, u "java/lang/Comparable"), (0, .class_ 4), (0, u "java/lang/Object")] 7

/-- java/lang/Comparable -/
def k3 : Class := { plain "java/lang/Comparable" (some 0) with
  accessFlags := 1537
  interfaces := #[]
  cf := some (fileOf pool3 1 #[] #[] 1537 3 #[] #[])
  fields := #[]
  methods := #[]
  instanceTypes := #[]
  staticTypes := #[]
  resolved := Array.replicate 12 none
  statics := none }

def pool4 : Array CpInfo := pool [(1, .methodref 2 3), (0, .class_ 4), (0, .nameAndType 5 6), (0, u "java/lang/Object"), (0, u "<init>"), (0, u "()V"), (0, .fieldref 8 9), (0, .class_ 10), (0, .nameAndType 11 12), (0, u "com/example/keen_policy/keenpolicy/Period"), (0, u "start"), (0, u "J"), (0, .fieldref 8 14), (0, .nameAndType 15 12), (0, u "end"), (0, .fieldref 8 17), (0, .nameAndType 18 19), (0, u "ongoing"), (0, u "Z"), (9, .methodref 8 30), (0, .nameAndType 5 31), (0, u "(JJZ)V"), (82, .class_ 115), (0, u "java/lang/Comparable"), (2, u "closed"), (0, u "(JJ)Lcom/example/keen_policy/keenpolicy/Period;"), (1, u "()J"), (0, u "isOngoing"), (0, u "()Z")] 42

def k4c0 : Code := { maxStack := 3, maxLocals := 6, code := prog_7_method_1_code, exceptionTable := #[], attributes := #[] }
def k4m0 : Method := { name := "<init>", desc := "(JJZ)V", sig := { parameters := [.long, .long, .boolean], returnType := none }, accessFlags := 2, code := some k4c0 }
def k4c1 : Code := { maxStack := 7, maxLocals := 4, code := prog_7_method_2_code, exceptionTable := #[], attributes := #[] }
def k4m1 : Method := { name := "closed", desc := "(JJ)Lcom/example/keen_policy/keenpolicy/Period;", sig := { parameters := [.long, .long], returnType := some (.object "com/example/keen_policy/keenpolicy/Period") }, accessFlags := 9, code := some k4c1 }
def k4c2 : Code := { maxStack := 2, maxLocals := 1, code := prog_7_method_4_code, exceptionTable := #[], attributes := #[] }
def k4m2 : Method := { name := "start", desc := "()J", sig := { parameters := [], returnType := some .long }, accessFlags := 1, code := some k4c2 }
def k4c3 : Code := { maxStack := 1, maxLocals := 1, code := prog_7_method_5_code, exceptionTable := #[], attributes := #[] }
def k4m3 : Method := { name := "isOngoing", desc := "()Z", sig := { parameters := [], returnType := some .boolean }, accessFlags := 1, code := some k4c3 }
def k4c4 : Code := { maxStack := 3, maxLocals := 1, code := prog_7_method_6_code, exceptionTable := #[], attributes := #[] }
def k4m4 : Method := { name := "end", desc := "()J", sig := { parameters := [], returnType := some .long }, accessFlags := 1, code := some k4c4 }
/-- com/example/keen_policy/keenpolicy/Period -/
def k4 : Class := { plain "com/example/keen_policy/keenpolicy/Period" (some 0) with
  accessFlags := 33
  interfaces := #[3]
  cf := some (fileOf pool4 8 #[] #[{ accessFlags := 2, nameIndex := 5, descriptorIndex := 31, attributes := #[] }, { accessFlags := 9, nameIndex := 118, descriptorIndex := 119, attributes := #[] }, { accessFlags := 1, nameIndex := 11, descriptorIndex := 121, attributes := #[] }, { accessFlags := 1, nameIndex := 122, descriptorIndex := 123, attributes := #[] }, { accessFlags := 1, nameIndex := 15, descriptorIndex := 121, attributes := #[] }] 33 2 #[114] #[{ accessFlags := 18, nameIndex := 11, descriptorIndex := 12, attributes := #[] }, { accessFlags := 18, nameIndex := 15, descriptorIndex := 12, attributes := #[] }, { accessFlags := 18, nameIndex := 18, descriptorIndex := 19, attributes := #[] }])
  fields := #[{ name := "start", type := .long, accessFlags := 18, slot := 0, constantValue := 0 }, { name := "end", type := .long, accessFlags := 18, slot := 1, constantValue := 0 }, { name := "ongoing", type := .boolean, accessFlags := 18, slot := 2, constantValue := 0 }]
  methods := #[k4m0, k4m1, k4m2, k4m3, k4m4]
  instanceTypes := #[.long, .long, .boolean]
  staticTypes := #[]
  resolved := Array.replicate 166 none
  statics := none }

def pool5 : Array CpInfo := pool [(1, u "java/lang/Cloneable"), (0, .class_ 1), (0, u "java/lang/Object"), (0, .class_ 3)] 3

/-- java/lang/Cloneable -/
def k5 : Class := { plain "java/lang/Cloneable" (some 0) with
  accessFlags := 1537
  interfaces := #[]
  cf := some (fileOf pool5 2 #[] #[] 1537 4 #[] #[])
  fields := #[]
  methods := #[]
  instanceTypes := #[]
  staticTypes := #[]
  resolved := Array.replicate 8 none
  statics := none }

def pool6 : Array CpInfo := pool [(1, u "java/io/Serializable"), (0, .class_ 1), (0, u "java/lang/Object"), (0, .class_ 3)] 3

/-- java/io/Serializable -/
def k6 : Class := { plain "java/io/Serializable" (some 0) with
  accessFlags := 1537
  interfaces := #[]
  cf := some (fileOf pool6 2 #[] #[] 1537 4 #[] #[])
  fields := #[]
  methods := #[]
  instanceTypes := #[]
  staticTypes := #[]
  resolved := Array.replicate 8 none
  statics := none }

/-- the primitive byte -/
def k7 : Class := { plain "byte" none with kind := .primitive 'B', accessFlags := 0x411 }
/-- [B -/
def k8 : Class := { plain "[B" (some 0) with kind := .array 7 .byte, interfaces := #[5, 6], accessFlags := 1041 }

/-- the primitive int -/
def k9 : Class := { plain "int" none with kind := .primitive 'I', accessFlags := 0x411 }
/-- [I -/
def k10 : Class := { plain "[I" (some 0) with kind := .array 9 .int, interfaces := #[5, 6], accessFlags := 1041 }

def heap : Heap := #[]
def classes : Array Class := #[k0, k1, k2, k3, k4, k5, k6, k7, k8, k9, k10]
def interned : List (Array UInt16 × Addr) := []
def slotsUsed : Nat := 0
def theMethod : MethodId := ⟨1, 1⟩
def args0 : Array Value := #[.long 5, .long 7]
def aboutOver (below : List Frame) : State where
  vm := { classes := classes, interned := interned.toArray }
  heap := heap
  slotsUsed := slotsUsed
  threads := #[{ frames := .invoking theMethod args0 :: below }]
def below0 : List Frame := [.native { method := ⟨0, 0⟩, args := #[] }]
def about1 : State := aboutOver below0
def p0 : Program := .bare "" "" ""
def e0 : Env := launch0.env 0 0 0
theorem w_frames : about1.frames = Frame.invoking theMethod args0 :: below0 := rfl
set_option maxRecDepth 65536 in
theorem w_args : argsFit about1.vm theMethod args0 = true := by decide +kernel
set_option maxRecDepth 65536 in
theorem w_heap : heapFits about1 = true := by decide +kernel
set_option maxRecDepth 65536 in
theorem w_runnable : about1.curStatus? = some .runnable := by decide +kernel
set_option maxRecDepth 65536 in
theorem w_alone : about1.alone = true := by decide +kernel
set_option maxRecDepth 65536 in
theorem w_named : about1.methodNamed? x = some theMethod := by decide +kernel
set_option maxRecDepth 65536 in
theorem w_hears : about1.hears theMethod below0 = true := by decide +kernel
set_option maxRecDepth 65536 in
theorem w_ripe : about1.ripe theMethod args0 below0 = true := by decide +kernel
theorem w_running : about1.status = .running := rfl
set_option maxRecDepth 65536 in
theorem w_room : about1.hasRoom e0.platform room_1 = true :=
  launch0.hasRoom_least _ room_1 (by decide +kernel) (by decide +kernel) (by decide +kernel) (by decide +kernel) (by decide +kernel) (by decide +kernel)
theorem allAtoms_all (ts : List Jvm.Cond) (a : Array Jvm.Value) (st : Jvm.State) : (allAtoms ts).before a st = ts.all (fun c => c.before a st) := by
  induction ts with
  | nil => rfl
  | cons c t ih =>
    show (Jvm.Cond.and c (allAtoms t)).before a st = _
    rw [Jvm.Cond.before_and, ih, List.all_cons]
def words1 : List Jvm.Cond := Jvm.Cond.code x code maxLocals ret :: tables_1
/-- a 'code' word, met by the world's own term for the bytes: nothing is compared byte by byte -/
theorem code_word {y : MethodName} {bytes : ByteArray} {mx : Nat} {rt : Option FieldType} {a : Array Value} {s : State} {m : MethodId} {meth : Method} {c : Code} (h1 : s.methodNamed? y = some m) (h2 : s.vm.method? m = some meth) (h3 : meth.code = some c) (h4 : c.code = bytes)
    (h5 : (c.maxLocals == mx && c.exceptionTable.isEmpty && decide (c.maxStack ≤ mostOperands) && decide (meth.sig.returnType = rt) && !meth.locks && decide (parseMethodDescriptor y.desc = some meth.sig)) = true) : (Jvm.Cond.code y bytes mx rt).before a s = true := by
  simp only [Bool.and_eq_true, beq_iff_eq, Bool.not_eq_true', decide_eq_true_eq] at h5
  obtain ⟨⟨⟨⟨⟨g1, g2⟩, g3⟩, g4⟩, g5⟩, g6⟩ := h5
  simp [Cond.before, Cond.holds, Cond.value, h1, h2, h3, h4, g1, g2, g3, g4, g5, g6]
def isCode : Jvm.Cond → Bool
  | .code _ _ _ _ => true
  | _ => false
theorem all_split {L : List Jvm.Cond} {P : Jvm.Cond → Bool} (h1 : L.all (fun c => isCode c || P c) = true) (h2 : ∀ c ∈ L.filter isCode, P c = true) : L.all P = true := by
  refine List.all_eq_true.mpr fun c hc => ?_
  have h := List.all_eq_true.mp h1 c hc
  rcases Bool.eq_false_or_eq_true (isCode c) with hi | hi
  · exact h2 c (List.mem_filter.mpr ⟨hc, hi⟩)
  · simpa [hi] using h
set_option maxRecDepth 65536 in
theorem w_c0 : (Jvm.Cond.code x code maxLocals ret).before args0 about1 = true := code_word (m := ⟨1, 1⟩) (meth := k1m1) (c := k1c1) (by decide +kernel) rfl rfl rfl (by decide +kernel)
set_option maxRecDepth 65536 in
theorem w_c1 : (Jvm.Cond.code ({ cls := "java/lang/Math", name := "min", desc := "(JJ)J" } : Jvm.MethodName) jdk_29_method_70_code (4 : Nat) (Option.some Jvm.ClassFile.FieldType.long)).before args0 about1 = true := code_word (m := ⟨2, 2⟩) (meth := k2m2) (c := k2c2) (by decide +kernel) rfl rfl rfl (by decide +kernel)
set_option maxRecDepth 65536 in
theorem w_c2 : (Jvm.Cond.code ({ cls := "java/lang/Math", name := "max", desc := "(JJ)J" } : Jvm.MethodName) jdk_29_method_66_code (4 : Nat) (Option.some Jvm.ClassFile.FieldType.long)).before args0 about1 = true := code_word (m := ⟨2, 1⟩) (meth := k2m1) (c := k2c1) (by decide +kernel) rfl rfl rfl (by decide +kernel)
set_option maxRecDepth 65536 in
theorem w_c3 : (Jvm.Cond.code ({ cls := "com/example/keen_policy/keenpolicy/Period", name := "closed", desc := "(JJ)Lcom/example/keen_policy/keenpolicy/Period;" } : Jvm.MethodName) prog_7_method_2_code (4 : Nat) (Option.some (Jvm.ClassFile.FieldType.object "com/example/keen_policy/keenpolicy/Period"))).before args0 about1 = true := code_word (m := ⟨4, 1⟩) (meth := k4m1) (c := k4c1) (by decide +kernel) rfl rfl rfl (by decide +kernel)
set_option maxRecDepth 65536 in
theorem w_c4 : (Jvm.Cond.code ({ cls := "com/example/keen_policy/keenpolicy/Period", name := "<init>", desc := "(JJZ)V" } : Jvm.MethodName) prog_7_method_1_code (6 : Nat) (Option.none : Option Jvm.ClassFile.FieldType)).before args0 about1 = true := code_word (m := ⟨4, 0⟩) (meth := k4m0) (c := k4c0) (by decide +kernel) rfl rfl rfl (by decide +kernel)
set_option maxRecDepth 65536 in
theorem w_c5 : (Jvm.Cond.code ({ cls := "java/lang/Object", name := "<init>", desc := "()V" } : Jvm.MethodName) object_method_1_code (1 : Nat) (Option.none : Option Jvm.ClassFile.FieldType)).before args0 about1 = true := code_word (m := ⟨0, 0⟩) (meth := k0m0) (c := k0c0) (by decide +kernel) rfl rfl rfl (by decide +kernel)
set_option maxRecDepth 65536 in
theorem w_c6 : (Jvm.Cond.code ({ cls := "com/example/keen_policy/keenpolicy/Period", name := "start", desc := "()J" } : Jvm.MethodName) prog_7_method_4_code (1 : Nat) (Option.some Jvm.ClassFile.FieldType.long)).before args0 about1 = true := code_word (m := ⟨4, 2⟩) (meth := k4m2) (c := k4c2) (by decide +kernel) rfl rfl rfl (by decide +kernel)
set_option maxRecDepth 65536 in
theorem w_c7 : (Jvm.Cond.code ({ cls := "com/example/keen_policy/keenpolicy/Period", name := "end", desc := "()J" } : Jvm.MethodName) prog_7_method_6_code (1 : Nat) (Option.some Jvm.ClassFile.FieldType.long)).before args0 about1 = true := code_word (m := ⟨4, 4⟩) (meth := k4m4) (c := k4c4) (by decide +kernel) rfl rfl rfl (by decide +kernel)
set_option maxRecDepth 65536 in
theorem w_c8 : (Jvm.Cond.code ({ cls := "com/example/keen_policy/keenpolicy/Period", name := "isOngoing", desc := "()Z" } : Jvm.MethodName) prog_7_method_5_code (1 : Nat) (Option.some Jvm.ClassFile.FieldType.boolean)).before args0 about1 = true := code_word (m := ⟨4, 3⟩) (meth := k4m3) (c := k4c3) (by decide +kernel) rfl rfl rfl (by decide +kernel)
def codes1 : List Jvm.Cond := [Jvm.Cond.code x code maxLocals ret, Jvm.Cond.code ({ cls := "java/lang/Math", name := "min", desc := "(JJ)J" } : Jvm.MethodName) jdk_29_method_70_code (4 : Nat) (Option.some Jvm.ClassFile.FieldType.long), Jvm.Cond.code ({ cls := "java/lang/Math", name := "max", desc := "(JJ)J" } : Jvm.MethodName) jdk_29_method_66_code (4 : Nat) (Option.some Jvm.ClassFile.FieldType.long), Jvm.Cond.code ({ cls := "com/example/keen_policy/keenpolicy/Period", name := "closed", desc := "(JJ)Lcom/example/keen_policy/keenpolicy/Period;" } : Jvm.MethodName) prog_7_method_2_code (4 : Nat) (Option.some (Jvm.ClassFile.FieldType.object "com/example/keen_policy/keenpolicy/Period")), Jvm.Cond.code ({ cls := "com/example/keen_policy/keenpolicy/Period", name := "<init>", desc := "(JJZ)V" } : Jvm.MethodName) prog_7_method_1_code (6 : Nat) (Option.none : Option Jvm.ClassFile.FieldType), Jvm.Cond.code ({ cls := "java/lang/Object", name := "<init>", desc := "()V" } : Jvm.MethodName) object_method_1_code (1 : Nat) (Option.none : Option Jvm.ClassFile.FieldType), Jvm.Cond.code ({ cls := "com/example/keen_policy/keenpolicy/Period", name := "start", desc := "()J" } : Jvm.MethodName) prog_7_method_4_code (1 : Nat) (Option.some Jvm.ClassFile.FieldType.long), Jvm.Cond.code ({ cls := "com/example/keen_policy/keenpolicy/Period", name := "end", desc := "()J" } : Jvm.MethodName) prog_7_method_6_code (1 : Nat) (Option.some Jvm.ClassFile.FieldType.long), Jvm.Cond.code ({ cls := "com/example/keen_policy/keenpolicy/Period", name := "isOngoing", desc := "()Z" } : Jvm.MethodName) prog_7_method_5_code (1 : Nat) (Option.some Jvm.ClassFile.FieldType.boolean)]
set_option maxRecDepth 65536 in
theorem codes_eq : words1.filter isCode = codes1 := rfl
theorem w_codes : ∀ c ∈ words1.filter isCode, c.before args0 about1 = true := by
  rw [codes_eq]
  intro c hc
  simp only [codes1, List.mem_cons, List.not_mem_nil, or_false] at hc
  rcases hc with rfl | rfl | rfl | rfl | rfl | rfl | rfl | rfl | rfl
  · exact w_c0
  · exact w_c1
  · exact w_c2
  · exact w_c3
  · exact w_c4
  · exact w_c5
  · exact w_c6
  · exact w_c7
  · exact w_c8
set_option maxRecDepth 65536 in
theorem w_t1 : (words1.take 24).all (fun c => isCode c || c.before args0 about1) = true := by decide +kernel
set_option maxRecDepth 65536 in
theorem w_t2 : (words1.drop 24).all (fun c => isCode c || c.before args0 about1) = true := by decide +kernel
theorem w_tables : (allAtoms (Jvm.Cond.code x code maxLocals ret :: tables_1)).before args0 about1 = true := by
  rw [allAtoms_all]
  show words1.all (fun c => c.before args0 about1) = true
  refine all_split ?_ w_codes
  rw [← List.take_append_drop 24 words1, List.all_append, w_t1, w_t2]
  rfl
set_option maxRecDepth 65536 in
theorem w_case : (Jvm.Cond.and given_1 narrow_1).before args0 about1 = true := by decide +kernel
theorem w_applies : (headSpec (Jvm.Cond.code x code maxLocals ret :: tables_1) room_1).applies x e0.platform about1 = true :=
  (Spec.applies_iff w_frames).mpr ⟨w_running, w_runnable, w_alone, w_named, w_hears, w_ripe, w_room, w_tables⟩
theorem atStart : AtStart classFile x code maxLocals ret World_1 tables_1 room_1 Calls_1 rest_1 Pre_1 launch0 p0 e0 about1 theMethod args0 below0 :=
  ⟨lists_1, trivial, launch0.admits_env _ _ _, launch0.least_env, fairChoices_fair.cas, fairChoices_fair.clock, w_frames, w_args, w_heap, w_applies, trivial, trivial, w_case⟩
end start1
theorem witness_1 : WitnessClaimed_1 := ⟨start1.p0, start1.e0, start1.about1, start1.theMethod, start1.args0, start1.below0, start1.atStart⟩
end Jvm.Pilot.@@N@@
