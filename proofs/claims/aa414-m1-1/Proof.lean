import JvmDerived
import JvmDerived.Pilot.@@N@@Statement
import JvmDerived.Pilot.@@N@@Code
set_option linter.unusedVariables false
set_option linter.unusedSimpArgs false
namespace Jvm.OwnKit
open Sem ClassFile Op Lib Jvm.Stand Jvm.Free Jvm.LawKit Jvm.RoadKit
section Kit
variable {p : Program} {l : Launch} {e : Env} {R : Room} {s : State} {m : MethodId} {args : Array Value} {below : List Frame} {meth : Method} {c : Code} {T : State} {locs : List Loc} {cells slots : Nat} {Z : State} {a0 : Array Value} {h : Heap} {C S : Nat} {Q : Option Value → Heap → List Loc → Prop} {Ls Ls' : Array Slot} {st st' rest : List Value} {pc pc' : Nat}
/-- from here the invocation ends by a return, with Q -/
def OwnEnds (p : Program) (e : Env) (below : List Frame) (s : State) (C S : Nat) (Q : Option Value → Heap → List Loc → Prop) (T : State) (m : MethodId) (pc : Nat) (Ls : Array Slot) (st : List Value) : Prop :=
  ∃ t o, Steps p.tables e below (T.setTop (mkF m pc Ls st)) t ∧ t.status = .running ∧ Ended t below o ∧ ∃ v L, o = .returned v ∧ Q v t.heap L ∧ FrameEnd s o t L C S
theorem OwnEnds.of {T' : State} (k : ∀ t, Steps p.tables e below (T'.setTop (mkF m pc' Ls' st')) t → Steps p.tables e below (T.setTop (mkF m pc Ls st)) t) (h : OwnEnds p e below s C S Q T' m pc' Ls' st') : OwnEnds p e below s C S Q T m pc Ls st := by
  obtain ⟨t, o, h1, h2⟩ := h
  exact ⟨t, o, k t h1, h2⟩
theorem OwnEnds.mono {Q' : Option Value → Heap → List Loc → Prop} (h : OwnEnds p e below s C S Q T m pc Ls st) (q : ∀ v h L, Q v h L → Q' v h L) : OwnEnds p e below s C S Q' T m pc Ls st := by
  obtain ⟨t, o, h1, h2, h3, v, L, h4, h5, h6⟩ := h
  exact ⟨t, o, h1, h2, h3, v, L, h4, q _ _ _ h5, h6⟩
/-- what a walk knows of its method -/
def Cx (p : Program) (s : State) (m : MethodId) (meth : Method) (c : Code) (Z : State) (y : MethodName) (bytes : ByteArray) (maxL : Nat) (ret : Option FieldType) : Prop :=
  p.tables.exec = Jvm.exec ∧ c.code = bytes ∧ c.maxLocals = maxL ∧ meth.sig.returnType = ret ∧ meth.locks = false ∧ meth.name = y.name ∧ s.vm.findClass y.cls = some m.cls ∧ Z.Warmed39 s.vm
/-- a contract: called with these arguments at the heap h0, the method returns with Q -/
def OwnMeets (l : Launch) (Z : State) (y : MethodName) (bytes : ByteArray) (maxL : Nat) (ret : Option FieldType) (ws : List Jvm.Cond) (rm : Room) (as' : Array Value) (h0 : Heap) (Q : Option Value → Heap → List Loc → Prop) : Prop :=
  MetFree l y (head1 (Jvm.Cond.code y bytes maxL ret :: ws) rm) (fun a U => a = as' ∧ Z.Warmed39 U.vm ∧ U.heap = h0) (fun _ _ _ _ _ => True) (fun _ U o U' => ∃ v L, o = .returned v ∧ Q v U'.heap L ∧ FrameEnd U o U' L rm.cells rm.slots)
theorem OwnMeets.of_walk {y : MethodName} {bytes : ByteArray} {maxL : Nat} {ret : Option FieldType} {ws : List Jvm.Cond} {rm : Room} {as' : Array Value} {h0 : Heap} (hpl : plainFor y = true) (hent : ∀ m, entryFrame m as' maxL = mkF m 0 Ls [])
    (body : ∀ (p : Program) (e : Env) (s : State) (m : MethodId) (below : List Frame) (meth : Method) (c : Code) (T : State), Stand p l e rm s m as' below meth c T [] 0 0 → Cx p s m meth c Z y bytes maxL ret → T.heap = h0 → OwnEnds p e below s rm.cells rm.slots Q T m 0 Ls []) :
    OwnMeets l Z y bytes maxL ret ws rm as' h0 Q := by
  refine MetFree.of_bodySF hpl hisR ?_
  intro p e s m args below meth c s₁ Bd hml0 hP hK
  obtain ⟨rfl, hZ, hh⟩ := hP
  have X0 : Stand p l e rm s m _ below meth c s₁ [] 0 0 := Stand.of_body Bd
  have e0 : s₁.heap = h0 := by rw [← hh, Bd.state]; rfl
  obtain ⟨t, o, h1, h2, h3, v, L, h4, h5, h6⟩ := body p e s m below meth c s₁ X0 ⟨Bd.exec, Bd.bytes, hml0, Bd.returns, BodyLoose.notSynchronized Bd, (name_of_methodNamed Bd.named Bd.method).1, findClass_of_methodNamed Bd.named, hZ⟩ e0
  exact ⟨t, o, castTop (hent m) h1, h2, h3, v, L, h4, h5, h6⟩
theorem tw {W : List Jvm.Cond} (hw : ∀ d ∈ W, d.before a0 Z = true) (i : Nat) {d : Jvm.Cond} (q : W[i]? = some d) : d.before a0 Z = true := hw d (List.mem_of_getElem? q)
theorem pick {P : Prop} [Decidable P] {α : Type} {A B : α} {F : α → Prop} {G : Prop} (k : F (if P then A else B)) (k1 : P → F A → G) (k2 : ¬ P → F B → G) : G := by
  by_cases q : P
  · exact k1 q (by rwa [if_pos q] at k)
  · exact k2 q (by rwa [if_neg q] at k)
theorem pickR {P : Prop} [Decidable P] {α : Type} {A B : α} {F : α → Prop} (k1 : P → F A) (k2 : ¬ P → F B) : F (if P then A else B) := by
  by_cases q : P
  · rw [if_pos q]; exact k1 q
  · rw [if_neg q]; exact k2 q
theorem en_iloadN (X : Stand p l e R s m args below meth c T locs cells slots) (hx : p.tables.exec = Jvm.exec) {k : Fin 4} {v : Int32} (hd : decode c.code pc = .ok (.iload_n k, 1)) (hl : Ls[k.val]? = some (.val (.int v))) (k : OwnEnds p e below s C S Q T m pc' Ls (.int v :: st)) (hp : pc + 1 = pc' := by rfl) : OwnEnds p e below s C S Q T m pc Ls st := by
  subst hp
  exact OwnEnds.of (fun _ k => XS.iloadN X.here hx (g := mkF m pc Ls st) rfl hd hl k) k
theorem en_iload (X : Stand p l e R s m args below meth c T locs cells slots) (hx : p.tables.exec = Jvm.exec) {k : Nat} {v : Int32} (hd : decode c.code pc = .ok (.iload k, 2)) (hl : Ls[k]? = some (.val (.int v))) (k : OwnEnds p e below s C S Q T m pc' Ls (.int v :: st)) (hp : pc + 2 = pc' := by rfl) : OwnEnds p e below s C S Q T m pc Ls st := by
  subst hp
  exact OwnEnds.of (fun _ k => XS.iload X.here hx (g := mkF m pc Ls st) rfl hd hl k) k
theorem en_istoreN (X : Stand p l e R s m args below meth c T locs cells slots) (hx : p.tables.exec = Jvm.exec) {k : Fin 4} {v : Int32} (hd : decode c.code pc = .ok (.istore_n k, 1)) (hl : storeLocals Ls k.val (.int v) = some Ls') (k : OwnEnds p e below s C S Q T m pc' Ls' st) (hp : pc + 1 = pc' := by rfl) : OwnEnds p e below s C S Q T m pc Ls (.int v :: st) := by
  subst hp
  exact OwnEnds.of (fun _ k => XS.istoreN X.here hx (g := mkF m pc Ls (.int v :: st)) rfl hd rfl hl k) k
theorem en_istore (X : Stand p l e R s m args below meth c T locs cells slots) (hx : p.tables.exec = Jvm.exec) {k : Nat} {v : Int32} (hd : decode c.code pc = .ok (.istore k, 2)) (hl : storeLocals Ls k (.int v) = some Ls') (k : OwnEnds p e below s C S Q T m pc' Ls' st) (hp : pc + 2 = pc' := by rfl) : OwnEnds p e below s C S Q T m pc Ls (.int v :: st) := by
  subst hp
  exact OwnEnds.of (fun _ k => XS.istore X.here hx (g := mkF m pc Ls (.int v :: st)) rfl hd rfl hl k) k
theorem en_lloadN (X : Stand p l e R s m args below meth c T locs cells slots) (hx : p.tables.exec = Jvm.exec) {k : Fin 4} {v : Int64} (hd : decode c.code pc = .ok (.lload_n k, 1)) (hl : Ls[k.val]? = some (.val (.long v))) (k : OwnEnds p e below s C S Q T m pc' Ls (.long v :: st)) (hp : pc + 1 = pc' := by rfl) : OwnEnds p e below s C S Q T m pc Ls st := by
  subst hp
  exact OwnEnds.of (fun _ k => XS.lloadN X.here hx (g := mkF m pc Ls st) rfl hd hl k) k
theorem en_lload (X : Stand p l e R s m args below meth c T locs cells slots) (hx : p.tables.exec = Jvm.exec) {k : Nat} {v : Int64} (hd : decode c.code pc = .ok (.lload k, 2)) (hl : Ls[k]? = some (.val (.long v))) (k : OwnEnds p e below s C S Q T m pc' Ls (.long v :: st)) (hp : pc + 2 = pc' := by rfl) : OwnEnds p e below s C S Q T m pc Ls st := by
  subst hp
  exact OwnEnds.of (fun _ k => XS.lload X.here hx (g := mkF m pc Ls st) rfl hd hl k) k
theorem en_lstoreN (X : Stand p l e R s m args below meth c T locs cells slots) (hx : p.tables.exec = Jvm.exec) {k : Fin 4} {v : Int64} (hd : decode c.code pc = .ok (.lstore_n k, 1)) (hl : storeLocals Ls k.val (.long v) = some Ls') (k : OwnEnds p e below s C S Q T m pc' Ls' st) (hp : pc + 1 = pc' := by rfl) : OwnEnds p e below s C S Q T m pc Ls (.long v :: st) := by
  subst hp
  exact OwnEnds.of (fun _ k => XS.lstoreN X.here hx (g := mkF m pc Ls (.long v :: st)) rfl hd rfl hl k) k
theorem en_lstore (X : Stand p l e R s m args below meth c T locs cells slots) (hx : p.tables.exec = Jvm.exec) {k : Nat} {v : Int64} (hd : decode c.code pc = .ok (.lstore k, 2)) (hl : storeLocals Ls k (.long v) = some Ls') (k : OwnEnds p e below s C S Q T m pc' Ls' st) (hp : pc + 2 = pc' := by rfl) : OwnEnds p e below s C S Q T m pc Ls (.long v :: st) := by
  subst hp
  exact OwnEnds.of (fun _ k => XS.lstore X.here hx (g := mkF m pc Ls (.long v :: st)) rfl hd rfl hl k) k
theorem en_aloadN (X : Stand p l e R s m args below meth c T locs cells slots) (hx : p.tables.exec = Jvm.exec) {k : Fin 4} {v : Value} (hd : decode c.code pc = .ok (.aload_n k, 1)) (hl : Ls[k.val]? = some (.val v)) (hv : v.isRef = true) (k : OwnEnds p e below s C S Q T m pc' Ls (v :: st)) (hp : pc + 1 = pc' := by rfl) : OwnEnds p e below s C S Q T m pc Ls st := by
  subst hp
  exact OwnEnds.of (fun _ k => XS.aloadN X.here hx (g := mkF m pc Ls st) rfl hd hl hv k) k
theorem en_aload (X : Stand p l e R s m args below meth c T locs cells slots) (hx : p.tables.exec = Jvm.exec) {k : Nat} {v : Value} (hd : decode c.code pc = .ok (.aload k, 2)) (hl : Ls[k]? = some (.val v)) (hv : v.isRef = true) (k : OwnEnds p e below s C S Q T m pc' Ls (v :: st)) (hp : pc + 2 = pc' := by rfl) : OwnEnds p e below s C S Q T m pc Ls st := by
  subst hp
  exact OwnEnds.of (fun _ k => XS.aload X.here hx (g := mkF m pc Ls st) rfl hd hl hv k) k
theorem en_astoreN (X : Stand p l e R s m args below meth c T locs cells slots) (hx : p.tables.exec = Jvm.exec) {k : Fin 4} {v : Value} (hd : decode c.code pc = .ok (.astore_n k, 1)) (hv : v.isRef = true) (hl : storeLocals Ls k.val v = some Ls') (k : OwnEnds p e below s C S Q T m pc' Ls' st) (hp : pc + 1 = pc' := by rfl) : OwnEnds p e below s C S Q T m pc Ls (v :: st) := by
  subst hp
  exact OwnEnds.of (fun _ k => XS.astoreN X.here hx (g := mkF m pc Ls (v :: st)) rfl hd rfl hv hl k) k
theorem en_astore (X : Stand p l e R s m args below meth c T locs cells slots) (hx : p.tables.exec = Jvm.exec) {k : Nat} {v : Value} (hd : decode c.code pc = .ok (.astore k, 2)) (hv : v.isRef = true) (hl : storeLocals Ls k v = some Ls') (k : OwnEnds p e below s C S Q T m pc' Ls' st) (hp : pc + 2 = pc' := by rfl) : OwnEnds p e below s C S Q T m pc Ls (v :: st) := by
  subst hp
  exact OwnEnds.of (fun _ k => XS.astore X.here hx (g := mkF m pc Ls (v :: st)) rfl hd rfl hv hl k) k
theorem en_dload (X : Stand p l e R s m args below meth c T locs cells slots) (hx : p.tables.exec = Jvm.exec) {k : Nat} {v : UInt64} (hd : decode c.code pc = .ok (.dload k, 2)) (hl : Ls[k]? = some (.val (.double v))) (k : OwnEnds p e below s C S Q T m pc' Ls (.double v :: st)) (hp : pc + 2 = pc' := by rfl) : OwnEnds p e below s C S Q T m pc Ls st := by
  subst hp
  exact OwnEnds.of (fun _ k => XS.dload X.here hx (g := mkF m pc Ls st) rfl hd hl k) k
theorem en_iconst (X : Stand p l e R s m args below meth c T locs cells slots) (hx : p.tables.exec = Jvm.exec) {i : Int} (v : Int32) (hd : decode c.code pc = .ok (.iconst i, 1)) (k : OwnEnds p e below s C S Q T m pc' Ls (.int v :: st)) (hv : Int32.ofInt i = v := by rfl) (hp : pc + 1 = pc' := by rfl) : OwnEnds p e below s C S Q T m pc Ls st := by
  subst hp hv
  exact OwnEnds.of (fun _ k => XS.iconst X.here hx (g := mkF m pc Ls st) rfl hd k) k
theorem en_bipush (X : Stand p l e R s m args below meth c T locs cells slots) (hx : p.tables.exec = Jvm.exec) {i : Int} (v : Int32) (hd : decode c.code pc = .ok (.bipush i, 2)) (k : OwnEnds p e below s C S Q T m pc' Ls (.int v :: st)) (hv : (Int8.ofInt i).toInt32 = v := by rfl) (hp : pc + 2 = pc' := by rfl) : OwnEnds p e below s C S Q T m pc Ls st := by
  subst hp hv
  exact OwnEnds.of (fun _ k => XS.bipush X.here hx (g := mkF m pc Ls st) rfl hd k) k
theorem en_sipush (X : Stand p l e R s m args below meth c T locs cells slots) (hx : p.tables.exec = Jvm.exec) {i : Int} (v : Int32) (hd : decode c.code pc = .ok (.sipush i, 3)) (k : OwnEnds p e below s C S Q T m pc' Ls (.int v :: st)) (hv : (Int16.ofInt i).toInt32 = v := by rfl) (hp : pc + 3 = pc' := by rfl) : OwnEnds p e below s C S Q T m pc Ls st := by
  subst hp hv
  exact OwnEnds.of (fun _ k => XS.sipush X.here hx (g := mkF m pc Ls st) rfl hd k) k
theorem en_lconst (X : Stand p l e R s m args below meth c T locs cells slots) (hx : p.tables.exec = Jvm.exec) {i : Fin 2} (v : Int64) (hd : decode c.code pc = .ok (.lconst i, 1)) (k : OwnEnds p e below s C S Q T m pc' Ls (.long v :: st)) (hv : Int64.ofNat i = v := by rfl) (hp : pc + 1 = pc' := by rfl) : OwnEnds p e below s C S Q T m pc Ls st := by
  subst hp hv
  exact OwnEnds.of (fun _ k => XS.lconst X.here hx (g := mkF m pc Ls st) rfl hd k) k
theorem en_dconst0 (X : Stand p l e R s m args below meth c T locs cells slots) (hx : p.tables.exec = Jvm.exec) (hd : decode c.code pc = .ok (.dconst 0, 1)) (k : OwnEnds p e below s C S Q T m pc' Ls (.double FP.dconst0 :: st)) (hp : pc + 1 = pc' := by rfl) : OwnEnds p e below s C S Q T m pc Ls st := by
  subst hp
  exact OwnEnds.of (fun _ k => XS.dconst0 X.here hx (g := mkF m pc Ls st) rfl hd rfl k) k
theorem en_ldc (X : Stand p l e R s m args below meth c T locs cells slots) (hx : p.tables.exec = Jvm.exec) (hZ : Z.Warmed39 s.vm) {own : String} {index : Nat} {v : Int32} (hown : s.vm.findClass own = some m.cls) (w : (Jvm.Cond.constant own index v).before a0 Z = true) (hd : decode c.code pc = .ok (.ldc index, 2)) (k : OwnEnds p e below s C S Q T m pc' Ls (.int v :: st)) (hp : pc + 2 = pc' := by rfl) : OwnEnds p e below s C S Q T m pc Ls st := by
  subst hp
  exact OwnEnds.of (X.ldcInt hx hown (mvT hZ w) (g := mkF m pc Ls st) rfl hd) k
theorem en_ldc2 (X : Stand p l e R s m args below meth c T locs cells slots) (hx : p.tables.exec = Jvm.exec) (hZ : Z.Warmed39 s.vm) {own : String} {index : Nat} {v : Int64} (hown : s.vm.findClass own = some m.cls) (w : (Jvm.Cond.constantLong own index v).before a0 Z = true) (hd : decode c.code pc = .ok (.ldc2_w index, 3)) (k : OwnEnds p e below s C S Q T m pc' Ls (.long v :: st)) (hp : pc + 3 = pc' := by rfl) : OwnEnds p e below s C S Q T m pc Ls st := by
  subst hp
  exact OwnEnds.of (X.ldc2Long hx hown (mvT hZ w) (g := mkF m pc Ls st) rfl hd) k
theorem en_iadd (X : Stand p l e R s m args below meth c T locs cells slots) (hx : p.tables.exec = Jvm.exec) {x y : Int32} (hd : decode c.code pc = .ok (.iadd, 1))  (k : OwnEnds p e below s C S Q T m pc' Ls (.int (x + y) :: st)) (hp : pc + 1 = pc' := by rfl) : OwnEnds p e below s C S Q T m pc Ls (.int y :: .int x :: st) := by
  subst hp
  exact OwnEnds.of (fun _ k => XS.iadd X.here hx (g := mkF m pc Ls (.int y :: .int x :: st)) rfl hd rfl k) k
theorem en_isub (X : Stand p l e R s m args below meth c T locs cells slots) (hx : p.tables.exec = Jvm.exec) {x y : Int32} (hd : decode c.code pc = .ok (.isub, 1))  (k : OwnEnds p e below s C S Q T m pc' Ls (.int (x - y) :: st)) (hp : pc + 1 = pc' := by rfl) : OwnEnds p e below s C S Q T m pc Ls (.int y :: .int x :: st) := by
  subst hp
  exact OwnEnds.of (fun _ k => XS.isub X.here hx (g := mkF m pc Ls (.int y :: .int x :: st)) rfl hd rfl k) k
theorem en_imul (X : Stand p l e R s m args below meth c T locs cells slots) (hx : p.tables.exec = Jvm.exec) {x y : Int32} (hd : decode c.code pc = .ok (.imul, 1))  (k : OwnEnds p e below s C S Q T m pc' Ls (.int (x * y) :: st)) (hp : pc + 1 = pc' := by rfl) : OwnEnds p e below s C S Q T m pc Ls (.int y :: .int x :: st) := by
  subst hp
  exact OwnEnds.of (fun _ k => XS.imul X.here hx (g := mkF m pc Ls (.int y :: .int x :: st)) rfl hd rfl k) k
theorem en_iand (X : Stand p l e R s m args below meth c T locs cells slots) (hx : p.tables.exec = Jvm.exec) {x y : Int32} (hd : decode c.code pc = .ok (.iand, 1))  (k : OwnEnds p e below s C S Q T m pc' Ls (.int (x &&& y) :: st)) (hp : pc + 1 = pc' := by rfl) : OwnEnds p e below s C S Q T m pc Ls (.int y :: .int x :: st) := by
  subst hp
  exact OwnEnds.of (fun _ k => XS.iand X.here hx (g := mkF m pc Ls (.int y :: .int x :: st)) rfl hd rfl k) k
theorem en_ior (X : Stand p l e R s m args below meth c T locs cells slots) (hx : p.tables.exec = Jvm.exec) {x y : Int32} (hd : decode c.code pc = .ok (.ior, 1))  (k : OwnEnds p e below s C S Q T m pc' Ls (.int (x ||| y) :: st)) (hp : pc + 1 = pc' := by rfl) : OwnEnds p e below s C S Q T m pc Ls (.int y :: .int x :: st) := by
  subst hp
  exact OwnEnds.of (fun _ k => XS.ior X.here hx (g := mkF m pc Ls (.int y :: .int x :: st)) rfl hd rfl k) k
theorem en_ixor (X : Stand p l e R s m args below meth c T locs cells slots) (hx : p.tables.exec = Jvm.exec) {x y : Int32} (hd : decode c.code pc = .ok (.ixor, 1))  (k : OwnEnds p e below s C S Q T m pc' Ls (.int (x ^^^ y) :: st)) (hp : pc + 1 = pc' := by rfl) : OwnEnds p e below s C S Q T m pc Ls (.int y :: .int x :: st) := by
  subst hp
  exact OwnEnds.of (fun _ k => XS.ixor X.here hx (g := mkF m pc Ls (.int y :: .int x :: st)) rfl hd rfl k) k
theorem en_ishl (X : Stand p l e R s m args below meth c T locs cells slots) (hx : p.tables.exec = Jvm.exec) {x y : Int32} (hd : decode c.code pc = .ok (.ishl, 1))  (k : OwnEnds p e below s C S Q T m pc' Ls (.int (x <<< (y &&& 31)) :: st)) (hp : pc + 1 = pc' := by rfl) : OwnEnds p e below s C S Q T m pc Ls (.int y :: .int x :: st) := by
  subst hp
  exact OwnEnds.of (fun _ k => XS.ishl X.here hx (g := mkF m pc Ls (.int y :: .int x :: st)) rfl hd rfl k) k
theorem en_ishr (X : Stand p l e R s m args below meth c T locs cells slots) (hx : p.tables.exec = Jvm.exec) {x y : Int32} (hd : decode c.code pc = .ok (.ishr, 1))  (k : OwnEnds p e below s C S Q T m pc' Ls (.int (x >>> (y &&& 31)) :: st)) (hp : pc + 1 = pc' := by rfl) : OwnEnds p e below s C S Q T m pc Ls (.int y :: .int x :: st) := by
  subst hp
  exact OwnEnds.of (fun _ k => XS.ishr X.here hx (g := mkF m pc Ls (.int y :: .int x :: st)) rfl hd rfl k) k
theorem en_iushr (X : Stand p l e R s m args below meth c T locs cells slots) (hx : p.tables.exec = Jvm.exec) {x y : Int32} (hd : decode c.code pc = .ok (.iushr, 1))  (k : OwnEnds p e below s C S Q T m pc' Ls (.int ((x.toUInt32 >>> (y &&& 31).toUInt32).toInt32) :: st)) (hp : pc + 1 = pc' := by rfl) : OwnEnds p e below s C S Q T m pc Ls (.int y :: .int x :: st) := by
  subst hp
  exact OwnEnds.of (fun _ k => XS.iushr X.here hx (g := mkF m pc Ls (.int y :: .int x :: st)) rfl hd rfl k) k
theorem en_ladd (X : Stand p l e R s m args below meth c T locs cells slots) (hx : p.tables.exec = Jvm.exec) {x y : Int64} (hd : decode c.code pc = .ok (.ladd, 1))  (k : OwnEnds p e below s C S Q T m pc' Ls (.long (x + y) :: st)) (hp : pc + 1 = pc' := by rfl) : OwnEnds p e below s C S Q T m pc Ls (.long y :: .long x :: st) := by
  subst hp
  exact OwnEnds.of (fun _ k => XS.ladd X.here hx (g := mkF m pc Ls (.long y :: .long x :: st)) rfl hd rfl k) k
theorem en_lsub (X : Stand p l e R s m args below meth c T locs cells slots) (hx : p.tables.exec = Jvm.exec) {x y : Int64} (hd : decode c.code pc = .ok (.lsub, 1))  (k : OwnEnds p e below s C S Q T m pc' Ls (.long (x - y) :: st)) (hp : pc + 1 = pc' := by rfl) : OwnEnds p e below s C S Q T m pc Ls (.long y :: .long x :: st) := by
  subst hp
  exact OwnEnds.of (fun _ k => XS.lsub X.here hx (g := mkF m pc Ls (.long y :: .long x :: st)) rfl hd rfl k) k
theorem en_lmul (X : Stand p l e R s m args below meth c T locs cells slots) (hx : p.tables.exec = Jvm.exec) {x y : Int64} (hd : decode c.code pc = .ok (.lmul, 1))  (k : OwnEnds p e below s C S Q T m pc' Ls (.long (x * y) :: st)) (hp : pc + 1 = pc' := by rfl) : OwnEnds p e below s C S Q T m pc Ls (.long y :: .long x :: st) := by
  subst hp
  exact OwnEnds.of (fun _ k => XS.lmul X.here hx (g := mkF m pc Ls (.long y :: .long x :: st)) rfl hd rfl k) k
theorem en_land (X : Stand p l e R s m args below meth c T locs cells slots) (hx : p.tables.exec = Jvm.exec) {x y : Int64} (hd : decode c.code pc = .ok (.land, 1))  (k : OwnEnds p e below s C S Q T m pc' Ls (.long (x &&& y) :: st)) (hp : pc + 1 = pc' := by rfl) : OwnEnds p e below s C S Q T m pc Ls (.long y :: .long x :: st) := by
  subst hp
  exact OwnEnds.of (fun _ k => XS.land X.here hx (g := mkF m pc Ls (.long y :: .long x :: st)) rfl hd rfl k) k
theorem en_lor (X : Stand p l e R s m args below meth c T locs cells slots) (hx : p.tables.exec = Jvm.exec) {x y : Int64} (hd : decode c.code pc = .ok (.lor, 1))  (k : OwnEnds p e below s C S Q T m pc' Ls (.long (x ||| y) :: st)) (hp : pc + 1 = pc' := by rfl) : OwnEnds p e below s C S Q T m pc Ls (.long y :: .long x :: st) := by
  subst hp
  exact OwnEnds.of (fun _ k => XS.lor X.here hx (g := mkF m pc Ls (.long y :: .long x :: st)) rfl hd rfl k) k
theorem en_lxor (X : Stand p l e R s m args below meth c T locs cells slots) (hx : p.tables.exec = Jvm.exec) {x y : Int64} (hd : decode c.code pc = .ok (.lxor, 1))  (k : OwnEnds p e below s C S Q T m pc' Ls (.long (x ^^^ y) :: st)) (hp : pc + 1 = pc' := by rfl) : OwnEnds p e below s C S Q T m pc Ls (.long y :: .long x :: st) := by
  subst hp
  exact OwnEnds.of (fun _ k => XS.lxor X.here hx (g := mkF m pc Ls (.long y :: .long x :: st)) rfl hd rfl k) k
theorem en_lshl (X : Stand p l e R s m args below meth c T locs cells slots) (hx : p.tables.exec = Jvm.exec) {x : Int64} {y : Int32} (hd : decode c.code pc = .ok (.lshl, 1))  (k : OwnEnds p e below s C S Q T m pc' Ls (.long (x <<< (y &&& 0x3f).toInt64) :: st)) (hp : pc + 1 = pc' := by rfl) : OwnEnds p e below s C S Q T m pc Ls (.int y :: .long x :: st) := by
  subst hp
  exact OwnEnds.of (fun _ k => XS.lshl X.here hx (g := mkF m pc Ls (.int y :: .long x :: st)) rfl hd rfl k) k
theorem en_lshr (X : Stand p l e R s m args below meth c T locs cells slots) (hx : p.tables.exec = Jvm.exec) {x : Int64} {y : Int32} (hd : decode c.code pc = .ok (.lshr, 1))  (k : OwnEnds p e below s C S Q T m pc' Ls (.long (x >>> (y &&& 0x3f).toInt64) :: st)) (hp : pc + 1 = pc' := by rfl) : OwnEnds p e below s C S Q T m pc Ls (.int y :: .long x :: st) := by
  subst hp
  exact OwnEnds.of (fun _ k => XS.lshr X.here hx (g := mkF m pc Ls (.int y :: .long x :: st)) rfl hd rfl k) k
theorem en_lushr (X : Stand p l e R s m args below meth c T locs cells slots) (hx : p.tables.exec = Jvm.exec) {x : Int64} {y : Int32} (hd : decode c.code pc = .ok (.lushr, 1))  (k : OwnEnds p e below s C S Q T m pc' Ls (.long ((x.toUInt64 >>> (y &&& 0x3f).toInt64.toUInt64).toInt64) :: st)) (hp : pc + 1 = pc' := by rfl) : OwnEnds p e below s C S Q T m pc Ls (.int y :: .long x :: st) := by
  subst hp
  exact OwnEnds.of (fun _ k => XS.lushr X.here hx (g := mkF m pc Ls (.int y :: .long x :: st)) rfl hd rfl k) k
theorem en_lcmp (X : Stand p l e R s m args below meth c T locs cells slots) (hx : p.tables.exec = Jvm.exec) {x y : Int64} (hd : decode c.code pc = .ok (.lcmp, 1))  (k : OwnEnds p e below s C S Q T m pc' Ls (.int (lcmpW x y) :: st)) (hp : pc + 1 = pc' := by rfl) : OwnEnds p e below s C S Q T m pc Ls (.long y :: .long x :: st) := by
  subst hp
  exact OwnEnds.of (fun _ k => XS.lcmp X.here hx (g := mkF m pc Ls (.long y :: .long x :: st)) rfl hd rfl k) k
theorem en_i2l (X : Stand p l e R s m args below meth c T locs cells slots) (hx : p.tables.exec = Jvm.exec) {x : Int32} (hd : decode c.code pc = .ok (.i2l, 1))  (k : OwnEnds p e below s C S Q T m pc' Ls (.long (x.toInt64) :: st)) (hp : pc + 1 = pc' := by rfl) : OwnEnds p e below s C S Q T m pc Ls (.int x :: st) := by
  subst hp
  exact OwnEnds.of (fun _ k => XS.i2l X.here hx (g := mkF m pc Ls (.int x :: st)) rfl hd rfl k) k
theorem en_l2i (X : Stand p l e R s m args below meth c T locs cells slots) (hx : p.tables.exec = Jvm.exec) {x : Int64} (hd : decode c.code pc = .ok (.l2i, 1))  (k : OwnEnds p e below s C S Q T m pc' Ls (.int (x.toInt32) :: st)) (hp : pc + 1 = pc' := by rfl) : OwnEnds p e below s C S Q T m pc Ls (.long x :: st) := by
  subst hp
  exact OwnEnds.of (fun _ k => XS.l2i X.here hx (g := mkF m pc Ls (.long x :: st)) rfl hd rfl k) k
theorem en_i2b (X : Stand p l e R s m args below meth c T locs cells slots) (hx : p.tables.exec = Jvm.exec) {x : Int32} (hd : decode c.code pc = .ok (.i2b, 1))  (k : OwnEnds p e below s C S Q T m pc' Ls (.int (x.toInt8.toInt32) :: st)) (hp : pc + 1 = pc' := by rfl) : OwnEnds p e below s C S Q T m pc Ls (.int x :: st) := by
  subst hp
  exact OwnEnds.of (fun _ k => XS.i2b X.here hx (g := mkF m pc Ls (.int x :: st)) rfl hd rfl k) k
theorem en_i2c (X : Stand p l e R s m args below meth c T locs cells slots) (hx : p.tables.exec = Jvm.exec) {x : Int32} (hd : decode c.code pc = .ok (.i2c, 1))  (k : OwnEnds p e below s C S Q T m pc' Ls (.int (x.toUInt32.toUInt16.toUInt32.toInt32) :: st)) (hp : pc + 1 = pc' := by rfl) : OwnEnds p e below s C S Q T m pc Ls (.int x :: st) := by
  subst hp
  exact OwnEnds.of (fun _ k => XS.i2c X.here hx (g := mkF m pc Ls (.int x :: st)) rfl hd rfl k) k
theorem en_i2s (X : Stand p l e R s m args below meth c T locs cells slots) (hx : p.tables.exec = Jvm.exec) {x : Int32} (hd : decode c.code pc = .ok (.i2s, 1))  (k : OwnEnds p e below s C S Q T m pc' Ls (.int (x.toInt16.toInt32) :: st)) (hp : pc + 1 = pc' := by rfl) : OwnEnds p e below s C S Q T m pc Ls (.int x :: st) := by
  subst hp
  exact OwnEnds.of (fun _ k => XS.i2s X.here hx (g := mkF m pc Ls (.int x :: st)) rfl hd rfl k) k
theorem en_ineg (X : Stand p l e R s m args below meth c T locs cells slots) (hx : p.tables.exec = Jvm.exec) {x : Int32} (hd : decode c.code pc = .ok (.ineg, 1))  (k : OwnEnds p e below s C S Q T m pc' Ls (.int (-x) :: st)) (hp : pc + 1 = pc' := by rfl) : OwnEnds p e below s C S Q T m pc Ls (.int x :: st) := by
  subst hp
  exact OwnEnds.of (fun _ k => XS.ineg X.here hx (g := mkF m pc Ls (.int x :: st)) rfl hd rfl k) k
theorem en_lneg (X : Stand p l e R s m args below meth c T locs cells slots) (hx : p.tables.exec = Jvm.exec) {x : Int64} (hd : decode c.code pc = .ok (.lneg, 1))  (k : OwnEnds p e below s C S Q T m pc' Ls (.long (-x) :: st)) (hp : pc + 1 = pc' := by rfl) : OwnEnds p e below s C S Q T m pc Ls (.long x :: st) := by
  subst hp
  exact OwnEnds.of (fun _ k => XS.lneg X.here hx (g := mkF m pc Ls (.long x :: st)) rfl hd rfl k) k
theorem en_idiv (X : Stand p l e R s m args below meth c T locs cells slots) (hx : p.tables.exec = Jvm.exec) {x y : Int32} (hd : decode c.code pc = .ok (.idiv, 1)) (hy : y ≠ 0) (k : OwnEnds p e below s C S Q T m pc' Ls (.int (x / y) :: st)) (hp : pc + 1 = pc' := by rfl) : OwnEnds p e below s C S Q T m pc Ls (.int y :: .int x :: st) := by
  subst hp
  exact OwnEnds.of (fun _ k => XS.idiv X.here hx (g := mkF m pc Ls (.int y :: .int x :: st)) rfl hd rfl hy k) k
theorem en_irem (X : Stand p l e R s m args below meth c T locs cells slots) (hx : p.tables.exec = Jvm.exec) {x y : Int32} (hd : decode c.code pc = .ok (.irem, 1)) (hy : y ≠ 0) (k : OwnEnds p e below s C S Q T m pc' Ls (.int (x % y) :: st)) (hp : pc + 1 = pc' := by rfl) : OwnEnds p e below s C S Q T m pc Ls (.int y :: .int x :: st) := by
  subst hp
  exact OwnEnds.of (fun _ k => iremM (g := mkF m pc Ls (.int y :: .int x :: st)) X hx rfl hd rfl hy k) k
theorem en_lrem (X : Stand p l e R s m args below meth c T locs cells slots) (hx : p.tables.exec = Jvm.exec) {x y : Int64} (hd : decode c.code pc = .ok (.lrem, 1)) (hy : y ≠ 0) (k : OwnEnds p e below s C S Q T m pc' Ls (.long (x % y) :: st)) (hp : pc + 1 = pc' := by rfl) : OwnEnds p e below s C S Q T m pc Ls (.long y :: .long x :: st) := by
  subst hp
  rw [← lrem_mod x y] at k
  exact OwnEnds.of (fun _ k => XS.lrem X.here hx (g := mkF m pc Ls (.long y :: .long x :: st)) rfl hd rfl hy k) k
theorem en_dup (X : Stand p l e R s m args below meth c T locs cells slots) (hx : p.tables.exec = Jvm.exec) {v : Value} (hd : decode c.code pc = .ok (.dup, 1)) (hc : v.category = 1) (k : OwnEnds p e below s C S Q T m pc' Ls (v :: v :: st)) (hp : pc + 1 = pc' := by rfl) : OwnEnds p e below s C S Q T m pc Ls (v :: st) := by
  subst hp
  exact OwnEnds.of (fun _ k => XS.dup X.here hx (g := mkF m pc Ls (v :: st)) rfl hd rfl hc k) k
theorem en_pop (X : Stand p l e R s m args below meth c T locs cells slots) (hx : p.tables.exec = Jvm.exec) {v : Value} (hd : decode c.code pc = .ok (.pop, 1)) (hc : v.category = 1) (k : OwnEnds p e below s C S Q T m pc' Ls st) (hp : pc + 1 = pc' := by rfl) : OwnEnds p e below s C S Q T m pc Ls (v :: st) := by
  subst hp
  exact OwnEnds.of (fun _ k => XS.pop X.here hx (g := mkF m pc Ls (v :: st)) rfl hd rfl hc k) k
theorem en_dupX1 (X : Stand p l e R s m args below meth c T locs cells slots) (hx : p.tables.exec = Jvm.exec) {v w : Value} (hd : decode c.code pc = .ok (.dup_x1, 1)) (hc : v.category = 1) (hc2 : w.category = 1) (k : OwnEnds p e below s C S Q T m pc' Ls (v :: w :: v :: st)) (hp : pc + 1 = pc' := by rfl) : OwnEnds p e below s C S Q T m pc Ls (v :: w :: st) := by
  subst hp
  exact OwnEnds.of (fun _ k => XS.dupX1 X.here hx (g := mkF m pc Ls (v :: w :: st)) rfl hd rfl hc hc2 k) k
theorem en_iinc (X : Stand p l e R s m args below meth c T locs cells slots) (hx : p.tables.exec = Jvm.exec) {k : Nat} {q : Int} {x : Int32} (hd : decode c.code pc = .ok (.iinc k q, 3)) (hl : Ls[k]? = some (.val (.int x))) (hl' : storeLocals Ls k (.int (x + Int32.ofInt q)) = some Ls') (k : OwnEnds p e below s C S Q T m pc' Ls' st) (hp : pc + 3 = pc' := by rfl) : OwnEnds p e below s C S Q T m pc Ls st := by
  subst hp
  exact OwnEnds.of (fun _ k => XS.iinc X.here hx (g := mkF m pc Ls st) rfl hd hl hl' k) k
theorem en_goto (X : Stand p l e R s m args below meth c T locs cells slots) (hx : p.tables.exec = Jvm.exec) {o : Int} (hd : decode c.code pc = .ok (.goto o, 3)) (k : OwnEnds p e below s C S Q T m pc' Ls st) (ho : 0 ≤ (pc : Int) + o := by decide) (hp : ((pc : Int) + o).toNat = pc' := by decide) : OwnEnds p e below s C S Q T m pc Ls st := by
  exact OwnEnds.of (fun _ k => XS.goto X.here hx (g := mkF m pc Ls st) rfl rfl hd ho hp k) k
theorem en_ifYes (X : Stand p l e R s m args below meth c T locs cells slots) (hx : p.tables.exec = Jvm.exec) {cd : ClassFile.Cond} {o : Int} {x : Int32} (hd : decode c.code pc = .ok (.ifCond cd o, 3)) (hc : ifCond.holds cd x = true) (k : OwnEnds p e below s C S Q T m pc' Ls st) (ho : 0 ≤ (pc : Int) + o := by decide) (hp : ((pc : Int) + o).toNat = pc' := by decide) : OwnEnds p e below s C S Q T m pc Ls (.int x :: st) := by
  exact OwnEnds.of (fun _ k => XS.ifYes X.here hx (g := mkF m pc Ls (.int x :: st)) rfl rfl hd rfl hc ho hp k) k
theorem en_ifNo (X : Stand p l e R s m args below meth c T locs cells slots) (hx : p.tables.exec = Jvm.exec) {cd : ClassFile.Cond} {o : Int} {x : Int32} (hd : decode c.code pc = .ok (.ifCond cd o, 3)) (hc : ifCond.holds cd x = false) (k : OwnEnds p e below s C S Q T m pc' Ls st) (hp : pc + 3 = pc' := by rfl) : OwnEnds p e below s C S Q T m pc Ls (.int x :: st) := by
  subst hp
  exact OwnEnds.of (fun _ k => XS.ifNo X.here hx (g := mkF m pc Ls (.int x :: st)) rfl hd rfl hc k) k
theorem en_icmpYes (X : Stand p l e R s m args below meth c T locs cells slots) (hx : p.tables.exec = Jvm.exec) {cd : ClassFile.Cond} {o : Int} {x y : Int32} (hd : decode c.code pc = .ok (.if_icmp cd o, 3)) (hc : if_icmp.holds cd x y = true) (k : OwnEnds p e below s C S Q T m pc' Ls st) (ho : 0 ≤ (pc : Int) + o := by decide) (hp : ((pc : Int) + o).toNat = pc' := by decide) : OwnEnds p e below s C S Q T m pc Ls (.int y :: .int x :: st) := by
  exact OwnEnds.of (fun _ k => XS.icmpYes X.here hx (g := mkF m pc Ls (.int y :: .int x :: st)) rfl rfl hd rfl hc ho hp k) k
theorem en_icmpNo (X : Stand p l e R s m args below meth c T locs cells slots) (hx : p.tables.exec = Jvm.exec) {cd : ClassFile.Cond} {o : Int} {x y : Int32} (hd : decode c.code pc = .ok (.if_icmp cd o, 3)) (hc : if_icmp.holds cd x y = false) (k : OwnEnds p e below s C S Q T m pc' Ls st) (hp : pc + 3 = pc' := by rfl) : OwnEnds p e below s C S Q T m pc Ls (.int y :: .int x :: st) := by
  subst hp
  exact OwnEnds.of (fun _ k => XS.icmpNo X.here hx (g := mkF m pc Ls (.int y :: .int x :: st)) rfl hd rfl hc k) k
theorem wlt {x y : Int64} (h : x < y) : ifCond.holds .lt (lcmpW x y) = true ∧ ifCond.holds .ge (lcmpW x y) = false := by
  have q := (lw_lt x y).mpr h
  exact ⟨(if0 _ _).trans (tlt q).1, (if0 _ _).trans (tlt q).2.1⟩
theorem nwlt {x y : Int64} (h : ¬ x < y) : ifCond.holds .lt (lcmpW x y) = false ∧ ifCond.holds .ge (lcmpW x y) = true := by
  have q : ¬ lcmpW x y < 0 := fun z => h ((lw_lt x y).mp z)
  exact ⟨(if0 _ _).trans (flt q).1, (if0 _ _).trans (flt q).2.1⟩
theorem wgt {x y : Int64} (h : y < x) : ifCond.holds .gt (lcmpW x y) = true ∧ ifCond.holds .le (lcmpW x y) = false := by
  have q := (lw_gt x y).mpr h
  exact ⟨(if0 _ _).trans (tlt q).2.2.1, (if0 _ _).trans (tlt q).2.2.2⟩
theorem nwgt {x y : Int64} (h : ¬ y < x) : ifCond.holds .gt (lcmpW x y) = false ∧ ifCond.holds .le (lcmpW x y) = true := by
  have q : ¬ 0 < lcmpW x y := fun z => h ((lw_gt x y).mp z)
  exact ⟨(if0 _ _).trans (flt q).2.2.1, (if0 _ _).trans (flt q).2.2.2⟩
theorem weq {x y : Int64} (h : x = y) : ifCond.holds .eq (lcmpW x y) = true ∧ ifCond.holds .ne (lcmpW x y) = false := by
  have q := (lw_eq x y).mpr h
  exact ⟨(if0 _ _).trans (teq q).1, (if0 _ _).trans (teq q).2⟩
theorem nweq {x y : Int64} (h : ¬ x = y) : ifCond.holds .eq (lcmpW x y) = false ∧ ifCond.holds .ne (lcmpW x y) = true := by
  have q : ¬ lcmpW x y = 0 := fun z => h ((lw_eq x y).mp z)
  exact ⟨(if0 _ _).trans (feq q).1, (if0 _ _).trans (feq q).2⟩
theorem en_ret {t : FieldType} {w : Value} {i : Instr} (X : Stand p l e R s m args below meth c T locs cells slots) (hx : p.tables.exec = Jvm.exec) (hret : meth.sig.returnType = some t) (hlk : meth.locks = false) (hd : decode c.code pc = .ok (i, 1)) (hn : narrow t w = w)
    (hi : (i = .ireturn ∧ (t = .int ∨ t = .boolean ∨ t = .byte ∨ t = .char ∨ t = .short) ∧ ∃ z, w = .int z) ∨ (i = .lreturn ∧ t = .long ∧ ∃ z, w = .long z) ∨ (i = .dreturn ∧ t = .double ∧ ∃ z, w = .double z) ∨ (i = .freturn ∧ t = .float ∧ ∃ z, w = .float z) ∨ (i = .areturn ∧ t.isReference = true ∧ w.isRef = true))
    (hc : cells ≤ C) (hs : slots ≤ S) (hq : Q (some w) T.heap locs) : OwnEnds p e below s C S Q T m pc Ls (w :: st) := by
  obtain ⟨fs, hr, hrun, hended, hW, hsame⟩ := X.leave (v := some w) (fun q => by rw [hret] at q; cases q) hlk
  exact ⟨_, _, retOut X hx hret hn hi hd hr, hrun, hended, _, _, rfl, hq, ⟨_, rfl⟩, hW, hsame.mono hc hs⟩
theorem en_retI {z : Int32} (X : Stand p l e R s m args below meth c T locs cells slots) (hx : p.tables.exec = Jvm.exec) (hret : meth.sig.returnType = some .int) (hlk : meth.locks = false) (hd : decode c.code pc = .ok (.ireturn, 1)) (hc : cells ≤ C) (hs : slots ≤ S) (hq : Q (some (.int z)) T.heap locs) : OwnEnds p e below s C S Q T m pc Ls (.int z :: st) :=
  en_ret X hx hret hlk hd rfl (Or.inl ⟨rfl, Or.inl rfl, _, rfl⟩) hc hs hq
theorem en_retZ {z : Int32} (X : Stand p l e R s m args below meth c T locs cells slots) (hx : p.tables.exec = Jvm.exec) (hret : meth.sig.returnType = some .boolean) (hlk : meth.locks = false) (hd : decode c.code pc = .ok (.ireturn, 1)) (hn : narrow .boolean (.int z) = .int z) (hc : cells ≤ C) (hs : slots ≤ S) (hq : Q (some (.int z)) T.heap locs) : OwnEnds p e below s C S Q T m pc Ls (.int z :: st) :=
  en_ret X hx hret hlk hd hn (Or.inl ⟨rfl, Or.inr (Or.inl rfl), _, rfl⟩) hc hs hq
theorem en_retL {z : Int64} (X : Stand p l e R s m args below meth c T locs cells slots) (hx : p.tables.exec = Jvm.exec) (hret : meth.sig.returnType = some .long) (hlk : meth.locks = false) (hd : decode c.code pc = .ok (.lreturn, 1)) (hc : cells ≤ C) (hs : slots ≤ S) (hq : Q (some (.long z)) T.heap locs) : OwnEnds p e below s C S Q T m pc Ls (.long z :: st) :=
  en_ret X hx hret hlk hd rfl (Or.inr (Or.inl ⟨rfl, rfl, _, rfl⟩)) hc hs hq
theorem en_retA {a : Addr} {t : FieldType} (X : Stand p l e R s m args below meth c T locs cells slots) (hx : p.tables.exec = Jvm.exec) (hret : meth.sig.returnType = some t) (ht : t.isReference = true) (hn : narrow t (.ref a) = .ref a) (hlk : meth.locks = false) (hd : decode c.code pc = .ok (.areturn, 1)) (hc : cells ≤ C) (hs : slots ≤ S) (hq : Q (some (.ref a)) T.heap locs) : OwnEnds p e below s C S Q T m pc Ls (.ref a :: st) :=
  en_ret X hx hret hlk hd hn (Or.inr (Or.inr (Or.inr (Or.inr ⟨rfl, ht, rfl⟩)))) hc hs hq
theorem en_ret0 (X : Stand p l e R s m args below meth c T locs cells slots) (hx : p.tables.exec = Jvm.exec) (hret : meth.sig.returnType = none) (hlk : meth.locks = false) (hd : decode c.code pc = .ok (.return_, 1)) (hc : cells ≤ C) (hs : slots ≤ S) (hq : Q none T.heap locs) : OwnEnds p e below s C S Q T m pc Ls [] := by
  obtain ⟨fs, hr, hrun, hended, hW, hsame⟩ := X.leave (v := none) (fun _ => rfl) hlk
  exact ⟨_, _, X.returnOut hx hret hd hr, hrun, hended, _, _, rfl, hq, ⟨_, rfl⟩, hW, hsame.mono hc hs⟩
theorem en_getF (X : Stand p l e R s m args below meth c T locs cells slots) (hx : p.tables.exec = Jvm.exec) (hZ : Z.Warmed39 s.vm) {own R0 O n d host : String} {index : Nat} (hown : s.vm.findClass own = some m.cls) (w : (Jvm.Cond.fieldLink own index R0 n d).before a0 Z = true ∨ (Jvm.Cond.fieldLinkNest own index R0 n d host).before a0 Z = true) (via : Via Z R0 O n d) (eT : T.heap = h) {a : Addr} {v : Value} (F : Fld Z h a O n d v) (hd : decode c.code pc = .ok (.getfield index, 3)) (k : ∀ T', Stand p l e R s m args below meth c T' locs cells slots → T'.heap = h → OwnEnds p e below s C S Q T' m pc' Ls (v :: st)) (hp : pc + 3 = pc' := by rfl) : OwnEnds p e below s C S Q T m pc Ls (.ref a :: st) := by
  subst hp
  obtain ⟨T', X', e', st'⟩ := getF X hx hZ hown w via eT F (g := mkF m pc Ls (.ref a :: st)) rfl rfl hd
  exact OwnEnds.of st' (k T' X' e')
theorem en_getS (X : Stand p l e R s m args below meth c T locs cells slots) (hx : p.tables.exec = Jvm.exec) (hZ : Z.Warmed39 s.vm) {own R0 O n d host : String} {index : Nat} (hown : s.vm.findClass own = some m.cls) (w : (Jvm.Cond.fieldLink own index R0 n d).before a0 Z = true ∨ (Jvm.Cond.fieldLinkNest own index R0 n d host).before a0 Z = true) (via : Via Z R0 O n d) (eT : T.heap = h) {v : Value} (F : Sta Z h O n d v) (hd : decode c.code pc = .ok (.getstatic index, 3)) (k : ∀ T', Stand p l e R s m args below meth c T' locs cells slots → T'.heap = h → OwnEnds p e below s C S Q T' m pc' Ls (v :: st)) (hp : pc + 3 = pc' := by rfl) : OwnEnds p e below s C S Q T m pc Ls st := by
  subst hp
  obtain ⟨T', X', e', st'⟩ := getS2 X hx hZ hown w via eT F (g := mkF m pc Ls st) rfl hd
  exact OwnEnds.of st' (k T' X' e')
theorem en_putF (X : Stand p l e R s m args below meth c T locs cells slots) (hx : p.tables.exec = Jvm.exec) (hZ : Z.Warmed39 s.vm) {own R0 O n d host K : String} {index kk : Nat} {ty : FieldType} (hown : s.vm.findClass own = some m.cls) (w : (Jvm.Cond.fieldLink own index R0 n d).before a0 Z = true ∨ (Jvm.Cond.fieldLinkNest own index R0 n d host).before a0 Z = true) (via : Via Z R0 O n d) (eT : T.heap = h) {a : Addr} {v old : Value} (F : Fld Z h a O n d old) (E : Exa Z h a K) (L : (Jvm.Cond.lays K O n d).before a0 Z = true ∨ ((Jvm.Cond.laysFinal K O n d).before a0 Z = true ∧ own = O ∧ meth.name = "<init>")) (wi : (Jvm.Cond.instantiable K kk).before a0 Z = true) (hty : parseFieldDescriptor d = some ty) (hn : narrow ty v = v) (hf : fits ty v = true) (hd : decode c.code pc = .ok (.putfield index, 3))
    (k : ∀ T' h', Stand p l e R s m args below meth c T' (locs ++ [⟨a, Jvm.RoadKit.slotOf Z O n d⟩]) cells slots → T'.heap = h' → Wr h h' a (Jvm.RoadKit.slotOf Z O n d) v → OwnEnds p e below s C S Q T' m pc' Ls st) (hp : pc + 3 = pc' := by rfl) : OwnEnds p e below s C S Q T m pc Ls (v :: .ref a :: st) := by
  subst hp
  obtain ⟨T', h', X', e', W', st'⟩ := putF X hx hZ hown w via eT F E L wi hty hn hf (g := mkF m pc Ls (v :: .ref a :: st)) rfl rfl hd
  exact OwnEnds.of st' (k T' h' X' e' W')
theorem en_newO (X : Stand p l e R s m args below meth c T locs cells slots) (hx : p.tables.exec = Jvm.exec) (hZ : Z.Warmed39 s.vm) {own K : String} {index n : Nat} (hown : s.vm.findClass own = some m.cls) (w : (Jvm.Cond.classLink own index K).before a0 Z = true) (wi : (Jvm.Cond.instantiable K n).before a0 Z = true) (wz : (Jvm.Cond.initialized K).before a0 Z = true) (eT : T.heap = h) (hd : decode c.code pc = .ok (.new index, 3)) (hc : cells + 1 ≤ R.cells) (hl : slots + n ≤ R.slots)
    (k : ∀ T' h' a, a = h.size → Stand p l e R s m args below meth c T' locs (cells + 1) (slots + n) → T'.heap = h' → Ext h h' → Exa Z h' a K → (∀ {O nm d : String} {ty : FieldType}, Laid Z a0 K O nm d → parseFieldDescriptor d = some ty → Fld Z h' a O nm d (defaultValue ty)) → OwnEnds p e below s C S Q T' m pc' Ls (.ref a :: st)) (hp : pc + 3 = pc' := by rfl) : OwnEnds p e below s C S Q T m pc Ls st := by
  subst hp
  obtain ⟨T', h', X', e', E', A', D', -, st'⟩ := newO X hx hZ hown w wi wz eT (g := mkF m pc Ls st) rfl hd hc hl
  exact OwnEnds.of st' (k T' h' _ rfl X' e' E' A' D')
theorem en_newP (X : Stand p l e R s m args below meth c T locs cells slots) (hx : p.tables.exec = Jvm.exec) (hZ : Z.Warmed39 s.vm) {aty : ArrayType} (w : (Jvm.Cond.arrayClass (newarray.typeOf aty)).before a0 Z = true) (eT : T.heap = h) (hd : decode c.code pc = .ok (.newarray aty, 2)) {n : Int32} (hn : ¬ n < 0) (cap : Nat) (hcap : n.toNatClampNeg ≤ cap) (hb : cap * 8 ≤ 536870912) (hc : cells + 1 ≤ R.cells) (hl : slots + cap ≤ R.slots)
    (k : ∀ T' h' a kA, a = h.size → Stand p l e R s m args below meth c T' locs (cells + 1) (slots + cap) → T'.heap = h' → Ext h h' → Arv Z h' a kA (newarray.typeOf aty) n [] (defaultValue (newarray.typeOf aty)) → OwnEnds p e below s C S Q T' m pc' Ls (.ref a :: st)) (hp : pc + 2 = pc' := by rfl) : OwnEnds p e below s C S Q T m pc Ls (.int n :: st) := by
  subst hp
  obtain ⟨T', h', kA, X', e', E', A', st'⟩ := newP X hx hZ w eT (g := mkF m pc Ls (.int n :: st)) rfl hd rfl hn hcap hb hc hl
  exact OwnEnds.of st' (k T' h' _ kA rfl X' e' E' (Arv.new A' hn))
theorem en_initO (X : Stand p l e R s m args below meth c T locs cells slots) (hx : p.tables.exec = Jvm.exec) (hZ : Z.Warmed39 s.vm) {own : String} {idx : Nat} (hown : s.vm.findClass own = some m.cls) (w1 : (Jvm.Cond.methodLink own idx Lib.objectInit).before a0 Z = true) (w2 : (Jvm.Cond.instanceMethod Lib.objectInit).before a0 Z = true) (w3 : (Jvm.Cond.code Lib.objectInit Lib.objCode 1 none).before a0 Z = true) (eT : T.heap = h) (hsize : Ls.size = c.maxLocals) {a : Addr} (hd : decode c.code pc = .ok (.invokespecial idx, 3)) (hf : 1 ≤ R.frames) (W : Nat) (hW : (st.map fun v => v.category).sum = W) (hl : W + 12 ≤ R.locals) (k : ∀ T', Stand p l e R s m args below meth c T' locs cells slots → T'.heap = h → OwnEnds p e below s C S Q T' m pc' Ls st) (hp : pc + 3 = pc' := by rfl) : OwnEnds p e below s C S Q T m pc Ls (.ref a :: st) := by
  subst hp
  obtain ⟨T', X', e', st'⟩ := initO X hx hZ hown w1 w2 w3 eT (g := mkF m pc Ls (.ref a :: st)) rfl hsize rfl hd hf (W := W) (by show 2 * 0 + _ ≤ _; rw [hW]; omega) hl
  exact OwnEnds.of st' (k T' X' e')
theorem en_iaload (X : Stand p l e R s m args below meth c T locs cells slots) (hx : p.tables.exec = Jvm.exec) (hZ : Z.Warmed39 s.vm) (eT : T.heap = h) {a : Addr} {kA : ClassId} {n j : Int32} {vs : List Value} {dv : Value} (V : Arv Z h a kA .int n vs dv) (hj : ¬ j < 0 ∧ j < n) {x : Int32} (hv : vs.getD j.toNatClampNeg dv = .int x) (hd : decode c.code pc = .ok (.iaload, 1)) (k : OwnEnds p e below s C S Q T m pc' Ls (.int x :: st)) (hp : pc + 1 = pc' := by rfl) : OwnEnds p e below s C S Q T m pc Ls (.int j :: .ref a :: st) := by
  subst hp
  obtain ⟨cl, Ar, -, Sz, -, Hs, -⟩ := V
  have hin := inb_of Sz hj
  exact OwnEnds.of (X.iaload hx (by rw [eT]; exact Ar.1) (State.isArrayOf_alike hZ.alike Ar.2.1) Ar.2.2 hin (Hs.at hin hv) (g := mkF m pc Ls (.int j :: .ref a :: st)) rfl rfl hd) k
theorem en_laload (X : Stand p l e R s m args below meth c T locs cells slots) (hx : p.tables.exec = Jvm.exec) (hZ : Z.Warmed39 s.vm) (eT : T.heap = h) {a : Addr} {kA : ClassId} {n j : Int32} {vs : List Value} {dv : Value} (V : Arv Z h a kA .long n vs dv) (hj : ¬ j < 0 ∧ j < n) {x : Int64} (hv : vs.getD j.toNatClampNeg dv = .long x) (hd : decode c.code pc = .ok (.laload, 1)) (k : OwnEnds p e below s C S Q T m pc' Ls (.long x :: st)) (hp : pc + 1 = pc' := by rfl) : OwnEnds p e below s C S Q T m pc Ls (.int j :: .ref a :: st) := by
  subst hp
  obtain ⟨cl, Ar, -, Sz, -, Hs, -⟩ := V
  have hin := inb_of Sz hj
  exact OwnEnds.of (X.laload hx (by rw [eT]; exact Ar.1) (State.isArrayOf_alike hZ.alike Ar.2.1) Ar.2.2 hin (Hs.at hin hv) (g := mkF m pc Ls (.int j :: .ref a :: st)) rfl rfl hd) k
theorem en_len (X : Stand p l e R s m args below meth c T locs cells slots) (hx : p.tables.exec = Jvm.exec) (hZ : Z.Warmed39 s.vm) (eT : T.heap = h) {a : Addr} {kA : ClassId} {ty : FieldType} {n : Int32} {vs : List Value} {dv : Value} (V : Arv Z h a kA ty n vs dv) (hd : decode c.code pc = .ok (.arraylength, 1)) (k : OwnEnds p e below s C S Q T m pc' Ls (.int n :: st)) (hp : pc + 1 = pc' := by rfl) : OwnEnds p e below s C S Q T m pc Ls (.ref a :: st) := by
  subst hp
  obtain ⟨cl, Ar, -, Sz, Nn, -⟩ := V
  rw [← len_of Sz Nn] at k
  exact OwnEnds.of (X.arraylength hx (by rw [eT]; exact Ar.1) (State.isArrayOf_alike hZ.alike Ar.2.1) (g := mkF m pc Ls (.ref a :: st)) rfl rfl hd) k
theorem en_iastore (X : Stand p l e R s m args below meth c T locs cells slots) (hx : p.tables.exec = Jvm.exec) (hZ : Z.Warmed39 s.vm) (eT : T.heap = h) {a : Addr} {kA : ClassId} {n j : Int32} {x : Int32} {vs : List Value} {dv : Value} (V : Arv Z h a kA .int n vs dv) (hj : ¬ j < 0 ∧ j < n) (i : Nat) (hi : j.toNatClampNeg = i) (hil : i < vs.length) (hd : decode c.code pc = .ok (.iastore, 1))
    (k : ∀ T' h', Stand p l e R s m args below meth c T' (locs ++ [⟨a, j.toNatClampNeg⟩]) cells slots → T'.heap = h' → Wr h h' a j.toNatClampNeg (.int x) → Arv Z h' a kA .int n (vs.set i (.int x)) dv → OwnEnds p e below s C S Q T' m pc' Ls st) (hp : pc + 1 = pc' := by rfl) : OwnEnds p e below s C S Q T m pc Ls (.int x :: .int j :: .ref a :: st) := by
  subst hp
  obtain ⟨cl, Ar, q1, Sz, Nn, Hs, G⟩ := V
  have hin := inb_of Sz hj
  obtain ⟨T', h', X', e', W', st'⟩ := stI X hx hZ eT Ar hin (g := mkF m pc Ls (.int x :: .int j :: .ref a :: st)) rfl rfl hd
  exact OwnEnds.of st' (k T' h' X' e' W' (Arv.set Ar q1 Sz Nn Hs G rfl W' i hi hil))
theorem en_lastore (X : Stand p l e R s m args below meth c T locs cells slots) (hx : p.tables.exec = Jvm.exec) (hZ : Z.Warmed39 s.vm) (eT : T.heap = h) {a : Addr} {kA : ClassId} {n j : Int32} {x : Int64} {vs : List Value} {dv : Value} (V : Arv Z h a kA .long n vs dv) (hj : ¬ j < 0 ∧ j < n) (i : Nat) (hi : j.toNatClampNeg = i) (hil : i < vs.length) (hd : decode c.code pc = .ok (.lastore, 1))
    (k : ∀ T' h', Stand p l e R s m args below meth c T' (locs ++ [⟨a, j.toNatClampNeg⟩]) cells slots → T'.heap = h' → Wr h h' a j.toNatClampNeg (.long x) → Arv Z h' a kA .long n (vs.set i (.long x)) dv → OwnEnds p e below s C S Q T' m pc' Ls st) (hp : pc + 1 = pc' := by rfl) : OwnEnds p e below s C S Q T m pc Ls (.long x :: .int j :: .ref a :: st) := by
  subst hp
  obtain ⟨cl, Ar, q1, Sz, Nn, Hs, G⟩ := V
  have hin := inb_of Sz hj
  obtain ⟨T', h', X', e', W', st'⟩ := stJ X hx hZ eT Ar hin (g := mkF m pc Ls (.long x :: .int j :: .ref a :: st)) rfl rfl hd
  exact OwnEnds.of st' (k T' h' X' e' W' (Arv.set Ar q1 Sz Nn Hs G rfl W' i hi hil))
theorem en_callS (X : Stand p l e R s m args below meth c T locs cells slots) (hx : p.tables.exec = Jvm.exec) (hZ : Z.Warmed39 s.vm) {y : MethodName} {bytes : ByteArray} {maxL : Nat} {ret : Option FieldType} {rm : Room} {Qc : Option Value → Heap → List Loc → Prop} {argsL : List Value}  {own : String} {index : Nat} (hown : s.vm.findClass own = some m.cls) (w1 : (Jvm.Cond.methodLink own index y).before a0 Z = true) (w2 : (Jvm.Cond.static y).before a0 Z = true) (wz : (Jvm.Cond.initialized y.cls).before a0 Z = true) (wc : (Jvm.Cond.code y bytes maxL ret).before a0 Z = true) (hy : y.cls ≠ "java/lang/invoke/MethodHandle" ∧ y.cls ≠ "java/lang/invoke/VarHandle") (hM : OwnMeets l Z y bytes maxL ret [] rm argsL.toArray h Qc) (eT : T.heap = h) (hf : rm.frames + 1 ≤ R.frames) (W : Nat) (hW : (rest.map fun v => v.category).sum = W) (hl : W + (maxL + 11) + rm.locals ≤ R.locals) (hcl : cells + rm.cells ≤ R.cells) (hsl : slots + rm.slots ≤ R.slots) (hsz : Ls.size = c.maxLocals) (hlen : ∀ sig, parseMethodDescriptor y.desc = some sig → argsL.length = sig.parameters.length) (hst : st = argsL.reverse ++ rest) (hd : decode c.code pc = .ok (.invokestatic index, 3)) (k : ∀ v T' L, Stand p l e R s m args below meth c T' (locs ++ L) (cells + rm.cells) (slots + rm.slots) → Qc v T'.heap L → OwnEnds p e below s C S Q T' m pc' Ls (v.toList ++ rest)) (hp : pc + 3 = pc' := by rfl) : OwnEnds p e below s C S Q T m pc Ls st := by
  subst hp hst
  obtain ⟨v, vm', ⟨T', L', k', n'⟩, -, X', ⟨Lc, hQ, l1, l2, l3⟩, st'⟩ := Jvm.LawKit.callS X hx (y := y) hown (mvT hZ w1) (mvT hZ w2) (mvT hZ wz) (mvT hZ wc) hy (backOf (W := W) hM hZ wc wz hf hl)  (g := mkF m pc Ls (argsL.reverse ++ rest)) rfl hsz  (argsL := argsL) (rest := rest) hlen rfl (by show 2 * 0 + _ ≤ _; rw [hW]; omega) hd (fun _ _ => ⟨rfl, eT, hcl, hsl⟩)
  dsimp only [Pt.U, Pt.locs, Pt.cells, Pt.slots] at X' l1 l2 l3 st' hQ
  subst l1 l2 l3
  exact OwnEnds.of st' (k v T' Lc X' hQ)
theorem en_callN (X : Stand p l e R s m args below meth c T locs cells slots) (hx : p.tables.exec = Jvm.exec) (hZ : Z.Warmed39 s.vm) {y : MethodName} {bytes : ByteArray} {maxL : Nat} {rm : Room} {Qc : Option Value → Heap → List Loc → Prop} {argsL : List Value} {a : Addr}  {own : String} {index : Nat} (hown : s.vm.findClass own = some m.cls) (hin : y.name = "<init>") (w1 : (Jvm.Cond.methodLink own index y).before a0 Z = true) (w2 : (Jvm.Cond.instanceMethod y).before a0 Z = true) (wz : (Jvm.Cond.initialized y.cls).before a0 Z = true) (wc : (Jvm.Cond.code y bytes maxL none).before a0 Z = true) (hy : y.cls ≠ "java/lang/invoke/MethodHandle" ∧ y.cls ≠ "java/lang/invoke/VarHandle") (hM : OwnMeets l Z y bytes maxL none [] rm (.ref a :: argsL).toArray h Qc) (eT : T.heap = h) (hf : rm.frames + 1 ≤ R.frames) (W : Nat) (hW : (rest.map fun v => v.category).sum = W) (hl : W + (maxL + 11) + rm.locals ≤ R.locals) (hcl : cells + rm.cells ≤ R.cells) (hsl : slots + rm.slots ≤ R.slots) (hsz : Ls.size = c.maxLocals) (hlen : ∀ sig, parseMethodDescriptor y.desc = some sig → argsL.length = sig.parameters.length) (hst : st = argsL.reverse ++ .ref a :: rest) (hd : decode c.code pc = .ok (.invokespecial index, 3)) (k : ∀ v T' L, Stand p l e R s m args below meth c T' (locs ++ L) (cells + rm.cells) (slots + rm.slots) → Qc v T'.heap L → OwnEnds p e below s C S Q T' m pc' Ls (v.toList ++ rest)) (hp : pc + 3 = pc' := by rfl) : OwnEnds p e below s C S Q T m pc Ls st := by
  subst hp hst
  obtain ⟨v, vm', ⟨T', L', k', n'⟩, -, X', ⟨Lc, hQ, l1, l2, l3⟩, st'⟩ := X.specialBack hx (y := y) hin hown (mvT hZ w1) (mvT hZ w2) (mvT hZ wc) hy (backOf (W := W) hM hZ wc wz hf hl)  (g := mkF m pc Ls (argsL.reverse ++ .ref a :: rest)) rfl hsz (Steps.refl _) (a := a) (argsL := argsL) (rest := rest) hlen rfl (by show 2 * 0 + _ ≤ _; rw [hW]; omega) hd (fun _ _ => ⟨rfl, eT, hcl, hsl⟩)
  dsimp only [Pt.U, Pt.locs, Pt.cells, Pt.slots] at X' l1 l2 l3 st' hQ
  subst l1 l2 l3
  exact OwnEnds.of (fun _ k => st'.trans k) (k v T' Lc X' hQ)
theorem en_callV (X : Stand p l e R s m args below meth c T locs cells slots) (hx : p.tables.exec = Jvm.exec) (hZ : Z.Warmed39 s.vm) {y : MethodName} {bytes : ByteArray} {maxL : Nat} {ret : Option FieldType} {rm : Room} {Qc : Option Value → Heap → List Loc → Prop} {argsL : List Value} {a : Addr} {z : MethodName} {K : String} {own : String} {index : Nat} (hown : s.vm.findClass own = some m.cls) (w1 : (Jvm.Cond.methodLink own index y).before a0 Z = true) (w2 : (Jvm.Cond.declares y).before a0 Z = true) (nf : NotFace s y) (w3 : (Jvm.Cond.selects K y z).before a0 Z = true) (w4 : (Jvm.Cond.instanceMethod z).before a0 Z = true) (wz : (Jvm.Cond.initialized z.cls).before a0 Z = true) (wc : (Jvm.Cond.code z bytes maxL ret).before a0 Z = true) (Ex : Exa Z h a K) (hy : y.cls ≠ "java/lang/invoke/MethodHandle" ∧ y.cls ≠ "java/lang/invoke/VarHandle") (hM : OwnMeets l Z z bytes maxL ret [] rm (.ref a :: argsL).toArray h Qc) (eT : T.heap = h) (hf : rm.frames + 1 ≤ R.frames) (W : Nat) (hW : (rest.map fun v => v.category).sum = W) (hl : W + (maxL + 11) + rm.locals ≤ R.locals) (hcl : cells + rm.cells ≤ R.cells) (hsl : slots + rm.slots ≤ R.slots) (hsz : Ls.size = c.maxLocals) (hlen : ∀ sig, parseMethodDescriptor y.desc = some sig → argsL.length = sig.parameters.length) (hst : st = argsL.reverse ++ .ref a :: rest) (hd : decode c.code pc = .ok (.invokevirtual index, 3)) (k : ∀ v T' L, Stand p l e R s m args below meth c T' (locs ++ L) (cells + rm.cells) (slots + rm.slots) → Qc v T'.heap L → OwnEnds p e below s C S Q T' m pc' Ls (v.toList ++ rest)) (hp : pc + 3 = pc' := by rfl) : OwnEnds p e below s C S Q T m pc Ls st := by
  subst hp hst
  obtain ⟨cq, kq, qa, qb, qc⟩ := isOf hZ eT Ex
  obtain ⟨v, vm', ⟨T', L', k', n'⟩, -, X', ⟨Lc, hQ, l1, l2, l3⟩, st'⟩ := X.virtualBack hx (y := y) (z := z) hown (mvT hZ w1) (mvT hZ w2) nf (mvT hZ w3) (mvT hZ w4) hy (backOf (W := W) hM hZ wc wz hf hl) qa qc (g := mkF m pc Ls (argsL.reverse ++ .ref a :: rest)) rfl hsz (Steps.refl _) (argsL := argsL) (rest := rest) hlen rfl (by show 2 * 0 + _ ≤ _; rw [hW]; omega) hd (fun _ _ => ⟨rfl, eT, hcl, hsl⟩)
  dsimp only [Pt.U, Pt.locs, Pt.cells, Pt.slots] at X' l1 l2 l3 st' hQ
  subst l1 l2 l3
  exact OwnEnds.of (fun _ k => st'.trans k) (k v T' Lc X' hQ)
theorem en_callU (X : Stand p l e R s m args below meth c T locs cells slots) (hx : p.tables.exec = Jvm.exec) (hZ : Z.Warmed39 s.vm) {y : MethodName} {bytes : ByteArray} {maxL : Nat} {ret : Option FieldType} {rm : Room} {Qc : Option Value → Heap → List Loc → Prop} {argsL : List Value} {a : Addr} {z : MethodName} {K owner : String} {own : String} {index : Nat} (hown : s.vm.findClass own = some m.cls) (w1 : (Jvm.Cond.methodLink own index y).before a0 Z = true) (w2 : (Jvm.Cond.sameMethod y.cls owner y.name y.desc).before a0 Z = true) (w2' : (Jvm.Cond.declares ⟨owner, y.name, y.desc⟩).before a0 Z = true) (w3 : (Jvm.Cond.selects K y z).before a0 Z = true) (w4 : (Jvm.Cond.instanceMethod z).before a0 Z = true) (wz : (Jvm.Cond.initialized z.cls).before a0 Z = true) (wc : (Jvm.Cond.code z bytes maxL ret).before a0 Z = true) (Ex : Exa Z h a K) (hy : owner ≠ "java/lang/invoke/MethodHandle" ∧ owner ≠ "java/lang/invoke/VarHandle") (hM : OwnMeets l Z z bytes maxL ret [] rm (.ref a :: argsL).toArray h Qc) (eT : T.heap = h) (hf : rm.frames + 1 ≤ R.frames) (W : Nat) (hW : (rest.map fun v => v.category).sum = W) (hl : W + (maxL + 11) + rm.locals ≤ R.locals) (hcl : cells + rm.cells ≤ R.cells) (hsl : slots + rm.slots ≤ R.slots) (hsz : Ls.size = c.maxLocals) (hlen : ∀ sig, parseMethodDescriptor y.desc = some sig → argsL.length = sig.parameters.length) (hst : st = argsL.reverse ++ .ref a :: rest) (hd : decode c.code pc = .ok (.invokevirtual index, 3)) (k : ∀ v T' L, Stand p l e R s m args below meth c T' (locs ++ L) (cells + rm.cells) (slots + rm.slots) → Qc v T'.heap L → OwnEnds p e below s C S Q T' m pc' Ls (v.toList ++ rest)) (hp : pc + 3 = pc' := by rfl) : OwnEnds p e below s C S Q T m pc Ls st := by
  subst hp hst
  obtain ⟨cq, kq, qa, qb, qc⟩ := isOf hZ eT Ex
  obtain ⟨v, vm', ⟨T', L', k', n'⟩, -, X', ⟨Lc, hQ, l1, l2, l3⟩, st'⟩ := X.virtualBackUp hx (owner := owner) (x := y) (y := z) hown (mvT hZ w1) (mvT hZ w2) (mvT hZ w2') hy (mvT hZ w3) (mvT hZ w4) (backOf (W := W) hM hZ wc wz hf hl) qa qc (g := mkF m pc Ls (argsL.reverse ++ .ref a :: rest)) rfl hsz (Steps.refl _) (argsL := argsL) (rest := rest) hlen rfl (by show 2 * 0 + _ ≤ _; rw [hW]; omega) hd (fun _ _ => ⟨rfl, eT, hcl, hsl⟩)
  dsimp only [Pt.U, Pt.locs, Pt.cells, Pt.slots] at X' l1 l2 l3 st' hQ
  subst l1 l2 l3
  exact OwnEnds.of (fun _ k => st'.trans k) (k v T' Lc X' hQ)
theorem en_callI (X : Stand p l e R s m args below meth c T locs cells slots) (hx : p.tables.exec = Jvm.exec) (hZ : Z.Warmed39 s.vm) {y : MethodName} {bytes : ByteArray} {maxL : Nat} {ret : Option FieldType} {rm : Room} {Qc : Option Value → Heap → List Loc → Prop} {argsL : List Value} {a : Addr} {z : MethodName} {K : String} {own : String} {index count : Nat} (hown : s.vm.findClass own = some m.cls) (w1 : (Jvm.Cond.methodLink own index y).before a0 Z = true) (w2 : (Jvm.Cond.declares y).before a0 Z = true) (w3 : (Jvm.Cond.interfaceMethod y.cls y.cls y.name y.desc).before args s = true) (w4 : (Jvm.Cond.selects K y z).before a0 Z = true) (w5 : (Jvm.Cond.instanceMethod z).before a0 Z = true) (w6 : (Jvm.Cond.publicMethod z).before a0 Z = true) (w7 : (Jvm.Cond.unhidden K y.name y.desc).before a0 Z = true) (w8 : (Jvm.Cond.castable K y.cls).before a0 Z = true) (wz : (Jvm.Cond.initialized z.cls).before a0 Z = true) (wc : (Jvm.Cond.code z bytes maxL ret).before a0 Z = true) (Ex : Exa Z h a K) (hy : y.cls ≠ "java/lang/invoke/MethodHandle" ∧ y.cls ≠ "java/lang/invoke/VarHandle") (hM : OwnMeets l Z z bytes maxL ret [] rm (.ref a :: argsL).toArray h Qc) (eT : T.heap = h) (hf : rm.frames + 1 ≤ R.frames) (W : Nat) (hW : (rest.map fun v => v.category).sum = W) (hl : W + (maxL + 11) + rm.locals ≤ R.locals) (hcl : cells + rm.cells ≤ R.cells) (hsl : slots + rm.slots ≤ R.slots) (hsz : Ls.size = c.maxLocals) (hlen : ∀ sig, parseMethodDescriptor y.desc = some sig → argsL.length = sig.parameters.length) (hst : st = argsL.reverse ++ .ref a :: rest) (hd : decode c.code pc = .ok (.invokeinterface index count, 5)) (k : ∀ v T' L, Stand p l e R s m args below meth c T' (locs ++ L) (cells + rm.cells) (slots + rm.slots) → Qc v T'.heap L → OwnEnds p e below s C S Q T' m pc' Ls (v.toList ++ rest)) (hp : pc + 5 = pc' := by rfl) : OwnEnds p e below s C S Q T m pc Ls st := by
  subst hp hst
  obtain ⟨cq, kq, qa, qb, qc⟩ := isOf hZ eT Ex
  obtain ⟨v, vm', ⟨T', L', k', n'⟩, -, X', ⟨Lc, hQ, l1, l2, l3⟩, st'⟩ := X.interfaceBack hx (xi := y) (y := z) hown (mvT hZ w1) (mvT hZ w2) w3 (mvT hZ w4) (mvT hZ w5) (mvT hZ w6) (mvT hZ w7) (mvT hZ w8) hy (backOf (W := W) hM hZ wc wz hf hl) qa qb qc (g := mkF m pc Ls (argsL.reverse ++ .ref a :: rest)) rfl hsz (Steps.refl _) (argsL := argsL) (rest := rest) hlen rfl (by show 2 * 0 + _ ≤ _; rw [hW]; omega) hd (fun _ _ => ⟨rfl, eT, hcl, hsl⟩)
  dsimp only [Pt.U, Pt.locs, Pt.cells, Pt.slots] at X' l1 l2 l3 st' hQ
  subst l1 l2 l3
  exact OwnEnds.of (fun _ k => st'.trans k) (k v T' Lc X' hQ)
theorem self_private {y x1 y1 : MethodName} {K : String} (hp : s.PrivateAt y) (hinst : (Jvm.Cond.instanceMethod y).before args s = true) (hy : y.cls ≠ "java/lang/invoke/MethodHandle" ∧ y.cls ≠ "java/lang/invoke/VarHandle") (hsel : (Jvm.Cond.selects K x1 y1).before args s = true) (hc : y1.cls = y.cls) : (Jvm.Cond.selects y.cls y y).before args s = true := by
  obtain ⟨c, r, m, q1, q2, q3, q4, k, hk, hki⟩ := Cond.selects_spec hsel
  have q := findClass_of_methodNamed q3
  rw [hc] at q
  exact selects_self_of_private q hk hki hp hinst hy
theorem nf_by {y x1 y1 : MethodName} {K : String} (hsel : (Jvm.Cond.selects K x1 y1).before args s = true) (hc : y1.cls = y.cls) : NotFace s y := fun r0 h0 => by
  obtain ⟨c, r, m, q1, q2, q3, q4, k, hk, hki⟩ := Cond.selects_spec hsel
  have q := findClass_of_methodNamed q3
  rw [hc, findClass_of_methodNamed h0] at q
  exact ⟨k, by rw [Option.some.inj q]; exact hk, hki⟩
theorem en_callQ (X : Stand p l e R s m args below meth c T locs cells slots) (hx : p.tables.exec = Jvm.exec) (hZ : Z.Warmed39 s.vm) {y : MethodName} {bytes : ByteArray} {maxL : Nat} {ret : Option FieldType} {rm : Room} {Qc : Option Value → Heap → List Loc → Prop} {argsL : List Value} {a : Addr} {K C1 : String} {x1 y1 : MethodName} {own : String} {index : Nat} (hown : s.vm.findClass own = some m.cls) (w1 : (Jvm.Cond.methodLink own index y).before a0 Z = true) (w2 : (Jvm.Cond.instanceMethod y).before a0 Z = true) (w3 : (Jvm.Cond.privateMethod y).before a0 Z = true) (w4 : (Jvm.Cond.selects C1 x1 y1).before a0 Z = true) (hc1 : y1.cls = y.cls) (wz : (Jvm.Cond.initialized y.cls).before a0 Z = true) (wc : (Jvm.Cond.code y bytes maxL ret).before a0 Z = true) (Ex : Exa Z h a K) (hy : y.cls ≠ "java/lang/invoke/MethodHandle" ∧ y.cls ≠ "java/lang/invoke/VarHandle") (hM : OwnMeets l Z y bytes maxL ret [] rm (.ref a :: argsL).toArray h Qc) (eT : T.heap = h) (hf : rm.frames + 1 ≤ R.frames) (W : Nat) (hW : (rest.map fun v => v.category).sum = W) (hl : W + (maxL + 11) + rm.locals ≤ R.locals) (hcl : cells + rm.cells ≤ R.cells) (hsl : slots + rm.slots ≤ R.slots) (hsz : Ls.size = c.maxLocals) (hlen : ∀ sig, parseMethodDescriptor y.desc = some sig → argsL.length = sig.parameters.length) (hst : st = argsL.reverse ++ .ref a :: rest) (hd : decode c.code pc = .ok (.invokevirtual index, 3)) (k : ∀ v T' L, Stand p l e R s m args below meth c T' (locs ++ L) (cells + rm.cells) (slots + rm.slots) → Qc v T'.heap L → OwnEnds p e below s C S Q T' m pc' Ls (v.toList ++ rest)) (hp : pc + 3 = pc' := by rfl) : OwnEnds p e below s C S Q T m pc Ls st := by
  subst hp hst
  obtain ⟨cq, q1, q2⟩ := Ex.cell
  obtain ⟨v, vm', ⟨T', L', k', n'⟩, -, X', ⟨Lc, hQ, l1, l2, l3⟩, st'⟩ := X.privateBack hx (y := y) hown (mvT hZ w1) (mvT hZ w2) (self_private (Cond.privateMethod_at (mvP hZ w3 (args := #[]))) (mvT hZ w2) hy (mvT hZ w4) hc1) (Cond.privateMethod_at (mvP hZ w3 (args := #[]))) (mvT hZ wc) hy (backOf (W := W) hM hZ wc wz hf hl)  (g := mkF m pc Ls (argsL.reverse ++ .ref a :: rest)) rfl hsz (Steps.refl _) (a := a) (by rw [eT]; exact q1) q2 (argsL := argsL) (rest := rest) hlen rfl (by show 2 * 0 + _ ≤ _; rw [hW]; omega) hd (fun _ _ => ⟨rfl, eT, hcl, hsl⟩)
  dsimp only [Pt.U, Pt.locs, Pt.cells, Pt.slots] at X' l1 l2 l3 st' hQ
  subst l1 l2 l3
  exact OwnEnds.of (fun _ k => st'.trans k) (k v T' Lc X' hQ)
def PQ (w : Value) (h : Heap) : Option Value → Heap → List Loc → Prop := fun v h' L => v = some w ∧ h' = h ∧ L = []
theorem en_callP (X : Stand p l e R s m args below meth c T locs cells slots) (hx : p.tables.exec = Jvm.exec) (hZ : Z.Warmed39 s.vm) {y : MethodName} {bytes : ByteArray} {maxL : Nat} {ret : Option FieldType} {fr lo : Nat} {w : Value} {argsL : List Value} {own : String} {index : Nat} (hown : s.vm.findClass own = some m.cls) (w1 : (Jvm.Cond.methodLink own index y).before a0 Z = true) (w2 : (Jvm.Cond.static y).before a0 Z = true) (wz : (Jvm.Cond.initialized y.cls).before a0 Z = true) (wc : (Jvm.Cond.code y bytes maxL ret).before a0 Z = true) (hy : y.cls ≠ "java/lang/invoke/MethodHandle" ∧ y.cls ≠ "java/lang/invoke/VarHandle") (hM : OwnMeets l Z y bytes maxL ret [] ({ frames := fr, cells := 0, slots := 0, locals := lo } : Room) argsL.toArray h (PQ w h)) (eT : T.heap = h) (hf : fr + 1 ≤ R.frames) (W : Nat) (hW : (rest.map fun v => v.category).sum = W) (hl : W + (maxL + 11) + lo ≤ R.locals) (hcl : cells ≤ R.cells) (hsl : slots ≤ R.slots) (hsz : Ls.size = c.maxLocals) (hlen : ∀ sig, parseMethodDescriptor y.desc = some sig → argsL.length = sig.parameters.length) (hst : st = argsL.reverse ++ rest) (hd : decode c.code pc = .ok (.invokestatic index, 3)) (k : ∀ T', Stand p l e R s m args below meth c T' locs cells slots → T'.heap = h → OwnEnds p e below s C S Q T' m pc' Ls (w :: rest)) (hp : pc + 3 = pc' := by rfl) : OwnEnds p e below s C S Q T m pc Ls st := by
  refine en_callS X hx hZ hown w1 w2 wz wc hy hM eT hf W hW hl hcl hsl hsz hlen hst hd (fun v T' L X' q => ?_) hp
  obtain ⟨rfl, q2, rfl⟩ := q
  rw [List.append_nil] at X'
  exact k T' X' q2
theorem en_callVP (X : Stand p l e R s m args below meth c T locs cells slots) (hx : p.tables.exec = Jvm.exec) (hZ : Z.Warmed39 s.vm) {y z : MethodName} {K : String} {bytes : ByteArray} {maxL : Nat} {ret : Option FieldType} {fr lo : Nat} {w : Value} {a : Addr} {argsL : List Value} {own : String} {index : Nat} (hown : s.vm.findClass own = some m.cls) (w1 : (Jvm.Cond.methodLink own index y).before a0 Z = true) (w2 : (Jvm.Cond.declares y).before a0 Z = true) (nf : NotFace s y) (w3 : (Jvm.Cond.selects K y z).before a0 Z = true) (w4 : (Jvm.Cond.instanceMethod z).before a0 Z = true) (wz : (Jvm.Cond.initialized z.cls).before a0 Z = true) (wc : (Jvm.Cond.code z bytes maxL ret).before a0 Z = true) (Ex : Exa Z h a K) (hy : y.cls ≠ "java/lang/invoke/MethodHandle" ∧ y.cls ≠ "java/lang/invoke/VarHandle") (hM : OwnMeets l Z z bytes maxL ret [] ({ frames := fr, cells := 0, slots := 0, locals := lo } : Room) (.ref a :: argsL).toArray h (PQ w h)) (eT : T.heap = h) (hf : fr + 1 ≤ R.frames) (W : Nat) (hW : (rest.map fun v => v.category).sum = W) (hl : W + (maxL + 11) + lo ≤ R.locals) (hcl : cells ≤ R.cells) (hsl : slots ≤ R.slots) (hsz : Ls.size = c.maxLocals) (hlen : ∀ sig, parseMethodDescriptor y.desc = some sig → argsL.length = sig.parameters.length) (hst : st = argsL.reverse ++ .ref a :: rest) (hd : decode c.code pc = .ok (.invokevirtual index, 3)) (k : ∀ T', Stand p l e R s m args below meth c T' locs cells slots → T'.heap = h → OwnEnds p e below s C S Q T' m pc' Ls (w :: rest)) (hp : pc + 3 = pc' := by rfl) : OwnEnds p e below s C S Q T m pc Ls st := by
  refine en_callV X hx hZ hown w1 w2 nf w3 w4 wz wc Ex hy hM eT hf W hW hl hcl hsl hsz hlen hst hd (fun v T' L X' q => ?_) hp
  obtain ⟨rfl, q2, rfl⟩ := q
  rw [List.append_nil] at X'
  exact k T' X' q2
theorem en_newPE (X : Stand p l e R s m args below meth c T locs cells slots) (hx : p.tables.exec = Jvm.exec) (hZ : Z.Warmed39 s.vm) {aty : ArrayType} (w : (Jvm.Cond.arrayClass (newarray.typeOf aty)).before a0 Z = true) (eT : T.heap = h) (hd : decode c.code pc = .ok (.newarray aty, 2)) {n : Int32} (hn : ¬ n < 0) (cap : Nat) (hcap : n.toNatClampNeg ≤ cap) (hb : cap * 8 ≤ 536870912) (hc : cells + 1 ≤ R.cells) (hl : slots + cap ≤ R.slots) {ad : String} (had : "[" ++ (newarray.typeOf aty).toString = ad)
    (k : ∀ T' h' a kA, a = h.size → Stand p l e R s m args below meth c T' locs (cells + 1) (slots + cap) → T'.heap = h' → Ext h h' → Arv Z h' a kA (newarray.typeOf aty) n [] (defaultValue (newarray.typeOf aty)) → Exa Z h' a ad → OwnEnds p e below s C S Q T' m pc' Ls (.ref a :: st)) (hp : pc + 2 = pc' := by rfl) : OwnEnds p e below s C S Q T m pc Ls (.int n :: st) := by
  subst hp
  obtain ⟨T', h', kA, X', e', E', A', Ex', st'⟩ := newPE X hx hZ w eT (g := mkF m pc Ls (.int n :: st)) rfl hd rfl hn hcap hb hc hl had
  exact OwnEnds.of st' (k T' h' _ kA rfl X' e' E' (Arv.new A' hn) Ex')
theorem en_newR (X : Stand p l e R s m args below meth c T locs cells slots) (hx : p.tables.exec = Jvm.exec) (hZ : Z.Warmed39 s.vm) {own K : String} {index : Nat} (hown : s.vm.findClass own = some m.cls) (w1 : (Jvm.Cond.classLink own index K).before a0 Z = true) (w2 : (Jvm.Cond.arrayOver (.object K)).before a0 Z = true) (eT : T.heap = h) (hd : decode c.code pc = .ok (.anewarray index, 3)) {n : Int32} (hn : ¬ n < 0) (cap : Nat) (hcap : n.toNatClampNeg ≤ cap) (hb : cap * 8 ≤ 536870912) (hc : cells + 1 ≤ R.cells) (hl : slots + cap ≤ R.slots)
    (k : ∀ T' h' a kA, a = h.size → Stand p l e R s m args below meth c T' locs (cells + 1) (slots + cap) → T'.heap = h' → Ext h h' → Arv Z h' a kA (.object K) n [] (defaultValue (.object K)) → Ovr Z kA K → OwnEnds p e below s C S Q T' m pc' Ls (.ref a :: st)) (hp : pc + 3 = pc' := by rfl) : OwnEnds p e below s C S Q T m pc Ls (.int n :: st) := by
  subst hp
  obtain ⟨T', h', kA, X', e', E', A', O', st'⟩ := newR X hx hZ hown w1 w2 eT (g := mkF m pc Ls (.int n :: st)) rfl hd rfl hn hcap hb hc hl
  exact OwnEnds.of st' (k T' h' _ kA rfl X' e' E' (Arv.new A' hn) O')
theorem en_aastore (X : Stand p l e R s m args below meth c T locs cells slots) (hx : p.tables.exec = Jvm.exec) (hZ : Z.Warmed39 s.vm) (eT : T.heap = h) {a y : Addr} {kA : ClassId} {K : String} {n j : Int32} {vs : List Value} {dv : Value} (V : Arv Z h a kA (.object K) n vs dv) (O : Ovr Z kA K) (I : Ins Z h y K true) (hj : ¬ j < 0 ∧ j < n) (i : Nat) (hi : j.toNatClampNeg = i) (hil : i < vs.length) (hd : decode c.code pc = .ok (.aastore, 1))
    (k : ∀ T' h', Stand p l e R s m args below meth c T' (locs ++ [⟨a, j.toNatClampNeg⟩]) cells slots → T'.heap = h' → Wr h h' a j.toNatClampNeg (.ref y) → Arv Z h' a kA (.object K) n (vs.set i (.ref y)) dv → OwnEnds p e below s C S Q T' m pc' Ls st) (hp : pc + 1 = pc' := by rfl) : OwnEnds p e below s C S Q T m pc Ls (.ref y :: .int j :: .ref a :: st) := by
  subst hp
  obtain ⟨cl, Ar, q1, Sz, Nn, Hs, G⟩ := V
  have hin := inb_of Sz hj
  obtain ⟨T', h', X', e', W', st'⟩ := stR X hx hZ eT Ar hin rfl (Sto.ofV Ar q1 O I) (g := mkF m pc Ls (.ref y :: .int j :: .ref a :: st)) rfl rfl hd
  exact OwnEnds.of st' (k T' h' X' e' W' (Arv.set Ar q1 Sz Nn Hs G rfl W' i hi hil))
theorem en_acmpYes (X : Stand p l e R s m args below meth c T locs cells slots) (hx : p.tables.exec = Jvm.exec) {cd : ClassFile.ACond} {o : Int} {a b : Addr} (hd : decode c.code pc = .ok (.if_acmp cd o, 3)) (hc : if_acmp.holds cd (some a) (some b) = true) (k : OwnEnds p e below s C S Q T m pc' Ls st) (ho : 0 ≤ (pc : Int) + o := by decide) (hp : ((pc : Int) + o).toNat = pc' := by decide) : OwnEnds p e below s C S Q T m pc Ls (.ref b :: .ref a :: st) :=
  OwnEnds.of (fun _ k => XS.acmpYes X.here hx (g := mkF m pc Ls (.ref b :: .ref a :: st)) rfl rfl hd rfl hc ho hp k) k
theorem en_callIP (X : Stand p l e R s m args below meth c T locs cells slots) (hx : p.tables.exec = Jvm.exec) (hZ : Z.Warmed39 s.vm) {y z : MethodName} {K : String} {bytes : ByteArray} {maxL : Nat} {ret : Option FieldType} {fr lo : Nat} {w : Value} {a : Addr} {argsL : List Value} {own : String} {index count : Nat} (hown : s.vm.findClass own = some m.cls) (w1 : (Jvm.Cond.methodLink own index y).before a0 Z = true) (w2 : (Jvm.Cond.declares y).before a0 Z = true) (w3 : (Jvm.Cond.interfaceMethod y.cls y.cls y.name y.desc).before args s = true) (w4 : (Jvm.Cond.selects K y z).before a0 Z = true) (w5 : (Jvm.Cond.instanceMethod z).before a0 Z = true) (w6 : (Jvm.Cond.publicMethod z).before a0 Z = true) (w7 : (Jvm.Cond.unhidden K y.name y.desc).before a0 Z = true) (w8 : (Jvm.Cond.castable K y.cls).before a0 Z = true) (wz : (Jvm.Cond.initialized z.cls).before a0 Z = true) (wc : (Jvm.Cond.code z bytes maxL ret).before a0 Z = true) (Ex : Exa Z h a K) (hy : y.cls ≠ "java/lang/invoke/MethodHandle" ∧ y.cls ≠ "java/lang/invoke/VarHandle") (hM : OwnMeets l Z z bytes maxL ret [] ({ frames := fr, cells := 0, slots := 0, locals := lo } : Room) (.ref a :: argsL).toArray h (PQ w h)) (eT : T.heap = h) (hf : fr + 1 ≤ R.frames) (W : Nat) (hW : (rest.map fun v => v.category).sum = W) (hl : W + (maxL + 11) + lo ≤ R.locals) (hcl : cells ≤ R.cells) (hsl : slots ≤ R.slots) (hsz : Ls.size = c.maxLocals) (hlen : ∀ sig, parseMethodDescriptor y.desc = some sig → argsL.length = sig.parameters.length) (hst : st = argsL.reverse ++ .ref a :: rest) (hd : decode c.code pc = .ok (.invokeinterface index count, 5)) (k : ∀ T', Stand p l e R s m args below meth c T' locs cells slots → T'.heap = h → OwnEnds p e below s C S Q T' m pc' Ls (w :: rest)) (hp : pc + 5 = pc' := by rfl) : OwnEnds p e below s C S Q T m pc Ls st := by
  refine en_callI X hx hZ hown w1 w2 w3 w4 w5 w6 w7 w8 wz wc Ex hy hM eT hf W hW hl hcl hsl hsz hlen hst hd (fun v T' L X' q => ?_) hp
  obtain ⟨rfl, q2, rfl⟩ := q
  rw [List.append_nil] at X'
  exact k T' X' q2
end Kit
end Jvm.OwnKit
namespace Jvm.Pilot.@@N@@
open Jvm Jvm.ClassFile Sem Op Lib Jvm.Free Jvm.Stand Jvm.LawKit Jvm.RoadKit Bundle Jvm.OwnKit Jvm.Pilot.@@N@@.Jvm.D
def own_ST (Z : State) (D : Addr) : Prop := D < Z.heap.size ∧ Sta Z Z.heap "java/util/ArrayList" "DEFAULTCAPACITY_EMPTY_ELEMENTDATA" "[Ljava/lang/Object;" (.ref D) ∧ ∃ kD, Arv Z Z.heap D kD (.object "java/lang/Object") (0 : Int32) [] .null
def own_AL (Z : State) (n0 : Nat) (D r : Addr) (ln : Nat) (ea : Addr) (h : Heap) : Prop := Exa Z h r "java/util/ArrayList" ∧ n0 ≤ r ∧ ∃ mc sz : Int32, Fld Z h r "java/util/AbstractList" "modCount" "I" (.int mc) ∧ Fld Z h r "java/util/ArrayList" "size" "I" (.int sz) ∧ sz.toInt = ln ∧ Fld Z h r "java/util/ArrayList" "elementData" "[Ljava/lang/Object;" (.ref ea) ∧ ((ln = 0 ∧ ea = D) ∨ (0 < ln ∧ n0 ≤ ea ∧ r ≠ ea ∧ ∃ (ke : ClassId) (es : List Value), es.length = 10 ∧ Ovr Z ke "java/lang/Object" ∧ Arv Z h ea ke (.object "java/lang/Object") (10 : Int32) es .null))
theorem own_AL.keep {Z : State} {n0 : Nat} {D r : Addr} {ln : Nat} {ea : Addr} {h h' : Heap} {ws : List Addr} (H : own_AL Z n0 D r ln ea h) (K : Keep h h' ws) (hr : r ∉ ws) (he : ea ∉ ws) : own_AL Z n0 D r ln ea h' := by
  obtain ⟨q1, q2, mc, sz, q3, q4, q5, q6, q7⟩ := H
  refine ⟨q1.keep K, q2, mc, sz, q3.keep K hr, q4.keep K hr, q5, q6.keep K hr, q7.imp id fun ⟨c1, c2, c3, ke, es, c4, c5, c6⟩ => ⟨c1, c2, c3, ke, es, c4, c5, c6.keep K he⟩⟩
def own_BD (Z : State) (n0 : Nat) (D a r b : Addr) (kb : ClassId) (st : Int64) (sz : Int32) (vs : List Int32) (ln : Nat) (ea : Addr) (h : Heap) : Prop :=
  Exa Z h a "com/example/querent/querent/match/Automaton$Builder" ∧ Fld Z h a "com/example/querent/querent/match/Automaton$Postfix" "maxStates" "J" (.long (9223372036854775807 : Int64)) ∧ Fld Z h a "com/example/querent/querent/match/Automaton$Postfix" "states" "J" (.long st) ∧ Fld Z h a "com/example/querent/querent/match/Automaton$Builder" "sets" "Ljava/util/List;" (.ref r) ∧ Fld Z h a "com/example/querent/querent/match/Automaton$Builder" "postfix" "[I" (.ref b) ∧ Fld Z h a "com/example/querent/querent/match/Automaton$Builder" "size" "I" (.int sz) ∧ Arv Z h b kb .int (16 : Int32) (vs.map Value.int) (.int (0 : Int32)) ∧ vs.length = 16 ∧ n0 ≤ a ∧ n0 ≤ b ∧ a ≠ b ∧ r ≠ a ∧ r ≠ b ∧ ea ≠ a ∧ ea ≠ b ∧ Old Z n0 h ∧ own_AL Z n0 D r ln ea h
theorem own_get (vs : List Int32) (i : Nat) : (vs.map Value.int).getD i (.int (0 : Int32)) = .int (vs.getD i 0) := by
  simp only [List.getD_eq_getElem?_getD, List.getElem?_map]
  cases vs[i]? <;> rfl
theorem own_nn {q : Int32} (h : 0 ≤ q.toInt) : ¬ q < 0 := by
  rw [Int32.lt_iff_toInt_lt]; show ¬ q.toInt < 0; omega
theorem own_e1 : (1 : Int32).toInt = 1 := rfl
theorem own_e10 : (10 : Int32).toInt = 10 := rfl
theorem own_e16 : (16 : Int32).toInt = 16 := rfl
theorem own_em : (-1 : Int32).toInt = -1 := rfl
theorem own_clamp {q : Int32} {k : Nat} (h : q.toInt = k) : q.toNatClampNeg = k := by
  have := nat_of (own_nn (show 0 ≤ q.toInt by omega)); omega
theorem own_in {q : Int32} {k : Nat} (h : q.toInt = k) (h4 : k < 16) : ¬ q < 0 ∧ q < 16 := ⟨own_nn (by omega), by rw [Int32.lt_iff_toInt_lt, own_e16]; omega⟩
theorem own_in10 {q : Int32} {k : Nat} (h : q.toInt = k) (h4 : k < 10) : ¬ q < 0 ∧ q < 10 := ⟨own_nn (by omega), by rw [Int32.lt_iff_toInt_lt, own_e10]; omega⟩
theorem own_inc {q : Int32} {k : Nat} (h : q.toInt = k) (h4 : k < 16) : (q + (1 : Int32)).toInt = ((k + 1 : Nat) : Int) := by
  have h1 := c_iadd q 1
  have h2 := rng32 (q + 1)
  rw [own_e1] at h1
  omega
theorem own_dec {q : Int32} {k : Nat} (h : q.toInt = ((k + 1 : Nat) : Int)) : ¬ (q - (1 : Int32)) = (-1 : Int32) := fun ea => by
  have h1 := c_isub q 1
  have h2 := rng32 q
  rw [own_e1, ea, own_em] at h1
  omega
theorem own_ne16 {q : Int32} {k : Nat} (h : q.toInt = k) (h4 : k < 16) : ¬ q = 16 := fun ea => by rw [ea, own_e16] at h; omega
theorem own_ne10 {q : Int32} {k : Nat} (h : q.toInt = k) (h4 : k < 10) : ¬ q = 10 := fun ea => by rw [ea, own_e10] at h; omega
theorem own_zero {q : Int32} (h : q.toInt = ((0 : Nat) : Int)) : q = 0 := Int32.toInt_inj.mp h
theorem own_top (x : Int64) : ¬ (9223372036854775807 : Int64) < x := by
  have := rng64 x
  have ea : (9223372036854775807 : Int64).toInt = 9223372036854775807 := rfl
  rw [Int64.lt_iff_toInt_lt]; omega
theorem own_len10 (es : List Value) (i : Nat) (v : Value) (h : es.length = 10) : (es.set i v).length = 10 := by rw [List.length_set]; exact h
def own_nil : List Value := [.null, .null, .null, .null, .null, .null, .null, .null, .null, .null]
def own_cnt (acc : Int64) (vs : List Int32) (i : Nat) : Nat → Int64
  | 0 => acc
  | k + 1 => own_cnt (if vs.getD i 0 = (-1 : Int32) then acc else acc + 1) vs (i + 1) k
theorem d19_0 : decode jdk_29_method_65_code 0 = .ok (.iload_n 0, 1) := by decide +kernel
theorem d19_1 : decode jdk_29_method_65_code 1 = .ok (.iload_n 1, 1) := by decide +kernel
theorem d19_2 : decode jdk_29_method_65_code 2 = .ok (.if_icmp .lt 7, 3) := by decide +kernel
theorem d19_5 : decode jdk_29_method_65_code 5 = .ok (.iload_n 0, 1) := by decide +kernel
theorem d19_6 : decode jdk_29_method_65_code 6 = .ok (.goto 4, 3) := by decide +kernel
theorem d19_9 : decode jdk_29_method_65_code 9 = .ok (.iload_n 1, 1) := by decide +kernel
theorem d19_10 : decode jdk_29_method_65_code 10 = .ok (.ireturn, 1) := by decide +kernel
theorem ef_19 (m : MethodId) (x0 : Int32) (x1 : Int32) : entryFrame m #[(.int x0), (.int x1)] 2 = mkF m 0 #[.val (.int x0), .val (.int x1)] [] := by first | (simp [entryFrame, mkF, argsToLocals, Value.category]; done) | rfl
def f19 (x0 : Int32) (x1 : Int32) : Int32 := (if x0 < x1 then x1 else x0)
theorem b19_0 {p : Program} {l : Launch} {e : Env} {s : State} {m : MethodId} {args : Array Value} {below : List Frame} {meth : Method} {c : Code} {T : State} {Z : State} {a0 : Array Value} {h : Heap} {C S : Nat} (hw : ∀ d ∈ tables_1, d.before a0 Z = true) (K : Cx p s m meth c Z (⟨"java/lang/Math", "max", "(II)I"⟩ : MethodName) jdk_29_method_65_code 2 (some .int)) (X : Stand p l e ({ frames := 0, cells := 0, slots := 0, locals := 0 } : Room) s m args below meth c T [] 0 0) (eT : T.heap = h) (x0 : Int32) (x1 : Int32)  : OwnEnds p e below s C S (PQ (.int (f19 x0 x1)) h) T m 0 #[.val (.int x0), .val (.int x1)] [] := by
  obtain ⟨hx, hby, hml, hret, hlk, hnm, hown, hZ⟩ := id K
  unfold f19
  refine en_iloadN X hx (hb hby d19_0) (pc' := 1) rfl ?_
  refine en_iloadN X hx (hb hby d19_1) (pc' := 2) rfl ?_
  by_cases hc2_0 : x0 < x1
  · rw [if_pos hc2_0]
    refine en_icmpYes X hx (hb hby d19_2) (tlt hc2_0).1 (pc' := 9) ?_
    refine en_iloadN X hx (hb hby d19_9) (pc' := 10) rfl ?_
    exact en_retI X hx hret hlk (hb hby d19_10) (Nat.zero_le _) (Nat.zero_le _) ⟨rfl, eT, rfl⟩
  · rw [if_neg hc2_0]
    refine en_icmpNo X hx (hb hby d19_2) (flt hc2_0).1 (pc' := 5) ?_
    refine en_iloadN X hx (hb hby d19_5) (pc' := 6) rfl ?_
    refine en_goto X hx (hb hby d19_6) (pc' := 10) ?_
    exact en_retI X hx hret hlk (hb hby d19_10) (Nat.zero_le _) (Nat.zero_le _) ⟨rfl, eT, rfl⟩
theorem rm19 (l : Launch) (Z : State) (a0 : Array Value) (hw : ∀ d ∈ tables_1, d.before a0 Z = true) (ws : List Jvm.Cond) (x0 : Int32) (x1 : Int32) (h0 : Heap) : OwnMeets l Z (⟨"java/lang/Math", "max", "(II)I"⟩ : MethodName) jdk_29_method_65_code 2 (some .int) ws ({ frames := 0, cells := 0, slots := 0, locals := 0 } : Room) #[(.int x0), (.int x1)] h0 (PQ (.int (f19 x0 x1)) h0) :=
  OwnMeets.of_walk (Jvm.Free.JP.mathPlain rfl (by decide +kernel)) (fun m => ef_19 m x0 x1) (fun p e s m below meth c T X K eT => b19_0 hw K X eT x0 x1)
theorem d8_0 : decode method_4_code 0 = .ok (.iload_n 0, 1) := by decide +kernel
theorem d8_1 : decode method_4_code 1 = .ok (.iload_n 1, 1) := by decide +kernel
theorem d8_2 : decode method_4_code 2 = .ok (.if_icmp .lt 15, 3) := by decide +kernel
theorem d8_5 : decode method_4_code 5 = .ok (.iload_n 0, 1) := by decide +kernel
theorem d8_6 : decode method_4_code 6 = .ok (.iload_n 2, 1) := by decide +kernel
theorem d8_7 : decode method_4_code 7 = .ok (.if_icmp .ge 10, 3) := by decide +kernel
theorem d8_10 : decode method_4_code 10 = .ok (.iload_n 3, 1) := by decide +kernel
theorem d8_11 : decode method_4_code 11 = .ok (.iconst 1, 1) := by decide +kernel
theorem d8_12 : decode method_4_code 12 = .ok (.if_icmp .eq 5, 3) := by decide +kernel
theorem d8_15 : decode method_4_code 15 = .ok (.lconst 1, 1) := by decide +kernel
theorem d8_16 : decode method_4_code 16 = .ok (.lreturn, 1) := by decide +kernel
theorem d8_17 : decode method_4_code 17 = .ok (.lconst 0, 1) := by decide +kernel
theorem d8_18 : decode method_4_code 18 = .ok (.lreturn, 1) := by decide +kernel
theorem ef_8 (m : MethodId) (x0 : Int32) (x1 : Int32) (x2 : Int32) (x3 : Int32) : entryFrame m #[(.int x0), (.int x1), (.int x2), (.int x3)] 4 = mkF m 0 #[.val (.int x0), .val (.int x1), .val (.int x2), .val (.int x3)] [] := by first | (simp [entryFrame, mkF, argsToLocals, Value.category]; done) | rfl
def f8 (x0 : Int32) (x1 : Int32) (x2 : Int32) (x3 : Int32) : Int64 := (if x0 < x1 then (0 : Int64) else (if x0 < x2 then (if x3 = (1 : Int32) then (0 : Int64) else (1 : Int64)) else (0 : Int64)))
theorem b8_0 {p : Program} {l : Launch} {e : Env} {s : State} {m : MethodId} {args : Array Value} {below : List Frame} {meth : Method} {c : Code} {T : State} {Z : State} {a0 : Array Value} {h : Heap} {C S : Nat} (hw : ∀ d ∈ tables_1, d.before a0 Z = true) (K : Cx p s m meth c Z (⟨"com/example/querent/querent/match/BuilderStatesFromPinLaw", "term", "(IIII)J"⟩ : MethodName) method_4_code 4 (some .long)) (X : Stand p l e ({ frames := 0, cells := 0, slots := 0, locals := 0 } : Room) s m args below meth c T [] 0 0) (eT : T.heap = h) (x0 : Int32) (x1 : Int32) (x2 : Int32) (x3 : Int32)  : OwnEnds p e below s C S (PQ (.long (f8 x0 x1 x2 x3)) h) T m 0 #[.val (.int x0), .val (.int x1), .val (.int x2), .val (.int x3)] [] := by
  obtain ⟨hx, hby, hml, hret, hlk, hnm, hown, hZ⟩ := id K
  unfold f8
  refine en_iloadN X hx (hb hby d8_0) (pc' := 1) rfl ?_
  refine en_iloadN X hx (hb hby d8_1) (pc' := 2) rfl ?_
  by_cases hc2_0 : x0 < x1
  · rw [if_pos hc2_0]
    refine en_icmpYes X hx (hb hby d8_2) (tlt hc2_0).1 (pc' := 17) ?_
    refine en_lconst X hx (0 : Int64) (hb hby d8_17) (pc' := 18) ?_
    exact en_retL X hx hret hlk (hb hby d8_18) (Nat.zero_le _) (Nat.zero_le _) ⟨rfl, eT, rfl⟩
  · rw [if_neg hc2_0]
    refine en_icmpNo X hx (hb hby d8_2) (flt hc2_0).1 (pc' := 5) ?_
    refine en_iloadN X hx (hb hby d8_5) (pc' := 6) rfl ?_
    refine en_iloadN X hx (hb hby d8_6) (pc' := 7) rfl ?_
    by_cases hc7_1 : x0 < x2
    · rw [if_pos hc7_1]
      refine en_icmpNo X hx (hb hby d8_7) (tlt hc7_1).2.1 (pc' := 10) ?_
      refine en_iloadN X hx (hb hby d8_10) (pc' := 11) rfl ?_
      refine en_iconst X hx (1 : Int32) (hb hby d8_11) (pc' := 12) ?_
      by_cases hc12_2 : x3 = (1 : Int32)
      · rw [if_pos hc12_2]
        refine en_icmpYes X hx (hb hby d8_12) (teq hc12_2).1 (pc' := 17) ?_
        refine en_lconst X hx (0 : Int64) (hb hby d8_17) (pc' := 18) ?_
        exact en_retL X hx hret hlk (hb hby d8_18) (Nat.zero_le _) (Nat.zero_le _) ⟨rfl, eT, rfl⟩
      · rw [if_neg hc12_2]
        refine en_icmpNo X hx (hb hby d8_12) (feq hc12_2).1 (pc' := 15) ?_
        refine en_lconst X hx (1 : Int64) (hb hby d8_15) (pc' := 16) ?_
        exact en_retL X hx hret hlk (hb hby d8_16) (Nat.zero_le _) (Nat.zero_le _) ⟨rfl, eT, rfl⟩
    · rw [if_neg hc7_1]
      refine en_icmpYes X hx (hb hby d8_7) (flt hc7_1).2.1 (pc' := 17) ?_
      refine en_lconst X hx (0 : Int64) (hb hby d8_17) (pc' := 18) ?_
      exact en_retL X hx hret hlk (hb hby d8_18) (Nat.zero_le _) (Nat.zero_le _) ⟨rfl, eT, rfl⟩
theorem pn_0 : plainName "com/example/querent/querent/match/BuilderStatesFromPinLaw" = true := by first | (simp [plainName, overriddenIn]; done) | decide +kernel
theorem rm8 (l : Launch) (Z : State) (a0 : Array Value) (hw : ∀ d ∈ tables_1, d.before a0 Z = true) (ws : List Jvm.Cond) (x0 : Int32) (x1 : Int32) (x2 : Int32) (x3 : Int32) (h0 : Heap) : OwnMeets l Z (⟨"com/example/querent/querent/match/BuilderStatesFromPinLaw", "term", "(IIII)J"⟩ : MethodName) method_4_code 4 (some .long) ws ({ frames := 0, cells := 0, slots := 0, locals := 0 } : Room) #[(.int x0), (.int x1), (.int x2), (.int x3)] h0 (PQ (.long (f8 x0 x1 x2 x3)) h0) :=
  OwnMeets.of_walk (plainFor_of_name pn_0) (fun m => ef_8 m x0 x1 x2 x3) (fun p e s m below meth c T X K eT => b8_0 hw K X eT x0 x1 x2 x3)
theorem d6_0 : decode jdk_22_method_1_code 0 = .ok (.aload_n 0, 1) := by decide +kernel
theorem d6_1 : decode jdk_22_method_1_code 1 = .ok (.invokespecial 1, 3) := by decide +kernel
theorem d6_4 : decode jdk_22_method_1_code 4 = .ok (.return_, 1) := by decide +kernel
theorem ef_6 (m : MethodId) (o0 : Addr) : entryFrame m #[(.ref o0)] 1 = mkF m 0 #[.val (.ref o0)] [] := by first | (simp [entryFrame, mkF, argsToLocals, Value.category]; done) | rfl
theorem pn_1 : plainName "java/util/AbstractCollection" = true := by first | (simp [plainName, overriddenIn]; done) | decide +kernel
set_option maxRecDepth 65536 in
set_option maxHeartbeats 40000000 in
theorem rm6 (l : Launch) (Z : State) (a0 : Array Value) (hw : ∀ d ∈ tables_1, d.before a0 Z = true) (ws : List Jvm.Cond) (o0 : Addr) (h0 : Heap) (n0 : Nat) (Z0 : n0 ≤ h0.size)  : OwnMeets l Z (⟨"java/util/AbstractCollection", "<init>", "()V"⟩ : MethodName) jdk_22_method_1_code 1 none ws ({ frames := 1, cells := 0, slots := 0, locals := 12 } : Room) #[(.ref o0)] h0 (fun v h L => v = none ∧ Fr n0 L ∧ h = h0) := by
  refine OwnMeets.of_walk (plainFor_of_name pn_1) (fun m => ef_6 m o0) ?_
  intro p e s m below meth c T0 X0 K e0
  obtain ⟨hx, hby, hml, hret, hlk, hnm, hown, hZ⟩ := id K
  have N0 := Fr.nil n0
  refine en_aloadN X0 hx (hb hby d6_0) (pc' := 1) rfl rfl ?_
  refine en_initO X0 hx hZ hown (tw hw 36 rfl) (tw hw 14 rfl) (tw hw 15 rfl) e0 (by rw [hml]; rfl) (hb hby d6_1) (by decide) 0 rfl (by decide) (pc' := 4) (fun T1 X1 e1 => ?_)
  exact en_ret0 X1 hx hret hlk (hb hby d6_4) (by decide) (by decide) (by first | (rw [e1]; exact ⟨rfl, N0, rfl⟩) | exact ⟨rfl, N0, rfl⟩)
theorem d5_0 : decode jdk_39_method_1_code 0 = .ok (.aload_n 0, 1) := by decide +kernel
theorem d5_1 : decode jdk_39_method_1_code 1 = .ok (.invokespecial 1, 3) := by decide +kernel
theorem d5_4 : decode jdk_39_method_1_code 4 = .ok (.aload_n 0, 1) := by decide +kernel
theorem d5_5 : decode jdk_39_method_1_code 5 = .ok (.iconst 0, 1) := by decide +kernel
theorem d5_6 : decode jdk_39_method_1_code 6 = .ok (.putfield 7, 3) := by decide +kernel
theorem d5_9 : decode jdk_39_method_1_code 9 = .ok (.return_, 1) := by decide +kernel
theorem ef_5 (m : MethodId) (o0 : Addr) : entryFrame m #[(.ref o0)] 1 = mkF m 0 #[.val (.ref o0)] [] := by first | (simp [entryFrame, mkF, argsToLocals, Value.category]; done) | rfl
theorem pn_2 : plainName "java/util/AbstractList" = true := by first | (simp [plainName, overriddenIn]; done) | decide +kernel
theorem pd_0 : parseMethodDescriptor "()V" = some ⟨[], none⟩ := by decide +kernel
set_option maxRecDepth 65536 in
set_option maxHeartbeats 40000000 in
theorem rm5 (l : Launch) (Z : State) (a0 : Array Value) (hw : ∀ d ∈ tables_1, d.before a0 Z = true) (ws : List Jvm.Cond) (o0 : Addr) (h0 : Heap) (n0 : Nat) (Z0 : n0 ≤ h0.size) (E0 : Exa Z h0 o0 "java/util/ArrayList") (F0 : Fld Z h0 o0 "java/util/AbstractList" "modCount" "I" (.int (0 : Int32))) (F1 : Fld Z h0 o0 "java/util/ArrayList" "size" "I" (.int (0 : Int32))) (F2 : Fld Z h0 o0 "java/util/ArrayList" "elementData" "[Ljava/lang/Object;" .null) (g0 : n0 ≤ o0) : OwnMeets l Z (⟨"java/util/AbstractList", "<init>", "()V"⟩ : MethodName) jdk_39_method_1_code 1 none ws ({ frames := 2, cells := 0, slots := 0, locals := 24 } : Room) #[(.ref o0)] h0 (fun v h L => v = none ∧ Fr n0 L ∧ Keep h0 h [o0] ∧ Fld Z h o0 "java/util/AbstractList" "modCount" "I" (.int (0 : Int32)) ∧ Fld Z h o0 "java/util/ArrayList" "size" "I" (.int (0 : Int32)) ∧ Fld Z h o0 "java/util/ArrayList" "elementData" "[Ljava/lang/Object;" .null) := by
  refine OwnMeets.of_walk (plainFor_of_name pn_2) (fun m => ef_5 m o0) ?_
  intro p e s m below meth c T0 X0 K e0
  obtain ⟨hx, hby, hml, hret, hlk, hnm, hown, hZ⟩ := id K
  have N0 := Fr.nil n0
  refine en_aloadN X0 hx (hb hby d5_0) (pc' := 1) rfl rfl ?_
  refine en_callN X0 hx hZ (rm := ({ frames := 1, cells := 0, slots := 0, locals := 12 } : Room)) (y := (⟨"java/util/AbstractCollection", "<init>", "()V"⟩ : MethodName)) hown rfl (tw hw 30 rfl) (tw hw 31 rfl) (tw hw 34 rfl) (tw hw 35 rfl) (by decide) (rm6 l Z a0 hw [] o0 h0 n0 Z0) e0 (by decide) 0 rfl (by decide) (by decide) (by decide) (by rw [hml]; rfl) (argsL := []) (rest := []) (lenOf pd_0 rfl) rfl (hb hby d5_1) (pc' := 4) (fun v1 T1 Lq1 X1 hQ1 => ?_)
  obtain ⟨h1, e1⟩ : ∃ q, T1.heap = q := ⟨_, rfl⟩
  rw [e1] at hQ1
  obtain ⟨rfl, Nq1, hh⟩ := hQ1
  have N1 := Fr.app N0 Nq1
  show OwnEnds p e below s _ _ _ T1 m 4 #[.val (.ref o0)] []
  rw [hh] at e1
  refine en_aloadN X1 hx (hb hby d5_4) (pc' := 5) rfl rfl ?_
  refine en_iconst X1 hx (0 : Int32) (hb hby d5_5) (pc' := 6) ?_
  refine en_putF X1 hx hZ hown (host := "") (Or.inl (tw hw 37 rfl)) Via.refl e1 F0 E0 (Or.inl (tw hw 38 rfl)) (tw hw 19 rfl) (ty := .int) (by decide) rfl rfl (hb hby d5_6) (pc' := 9) (fun T2 h2 X2 e2 W2 => ?_)
  have F2_o0_size := F1.other W2 (Or.inr (slot_ne (Or.inl (tw hw 100 rfl)) (Or.inl (tw hw 38 rfl)) (by decide) (t := .int) (t' := .int) (by decide) (by decide)))
  have F2_o0_elementData := F2.other W2 (Or.inr (slot_ne (Or.inl (tw hw 41 rfl)) (Or.inl (tw hw 38 rfl)) (by decide) (t := (.array (.object "java/lang/Object"))) (t' := .int) (by decide) (by decide)))
  have E2_o0 := E0.wr W2
  have K2 : Keep h0 h2 [o0] := (Keep.refl h0 [o0]).wr W2 (Or.inl (List.mem_of_getElem? (i := 0) rfl))
  have Z2 : n0 ≤ h2.size := Nat.le_trans Z0 (Keep.of_wr W2).1
  have N2 := Fr.snoc X2 N1 g0
  have F2_o0_modCount := F0.same W2
  exact en_ret0 X2 hx hret hlk (hb hby d5_9) (by decide) (by decide) (by first | (rw [e2]; exact ⟨rfl, N2, K2, F2_o0_modCount, F2_o0_size, F2_o0_elementData⟩) | exact ⟨rfl, N2, K2, F2_o0_modCount, F2_o0_size, F2_o0_elementData⟩)
theorem d4_0 : decode jdk_38_method_2_code 0 = .ok (.aload_n 0, 1) := by decide +kernel
theorem d4_1 : decode jdk_38_method_2_code 1 = .ok (.invokespecial 1, 3) := by decide +kernel
theorem d4_4 : decode jdk_38_method_2_code 4 = .ok (.aload_n 0, 1) := by decide +kernel
theorem d4_5 : decode jdk_38_method_2_code 5 = .ok (.getstatic 39, 3) := by decide +kernel
theorem d4_8 : decode jdk_38_method_2_code 8 = .ok (.putfield 9, 3) := by decide +kernel
theorem d4_11 : decode jdk_38_method_2_code 11 = .ok (.return_, 1) := by decide +kernel
theorem ef_4 (m : MethodId) (o0 : Addr) : entryFrame m #[(.ref o0)] 1 = mkF m 0 #[.val (.ref o0)] [] := by first | (simp [entryFrame, mkF, argsToLocals, Value.category]; done) | rfl
theorem pn_3 : plainName "java/util/ArrayList" = true := by first | (simp [plainName, overriddenIn]; done) | decide +kernel
set_option maxRecDepth 65536 in
set_option maxHeartbeats 40000000 in
theorem rm4 (l : Launch) (Z : State) (a0 : Array Value) (hw : ∀ d ∈ tables_1, d.before a0 Z = true) (ws : List Jvm.Cond) (o0 : Addr) (D : Addr) (h0 : Heap) (n0 : Nat) (Z0 : n0 ≤ h0.size) (E0 : Exa Z h0 o0 "java/util/ArrayList") (F0 : Fld Z h0 o0 "java/util/AbstractList" "modCount" "I" (.int (0 : Int32))) (F1 : Fld Z h0 o0 "java/util/ArrayList" "size" "I" (.int (0 : Int32))) (F2 : Fld Z h0 o0 "java/util/ArrayList" "elementData" "[Ljava/lang/Object;" .null) (g0 : n0 ≤ o0) (HD : own_ST Z D) (OZ : Old Z n0 h0) : OwnMeets l Z (⟨"java/util/ArrayList", "<init>", "()V"⟩ : MethodName) jdk_38_method_2_code 1 none ws ({ frames := 3, cells := 0, slots := 0, locals := 36 } : Room) #[(.ref o0)] h0 (fun v h L => v = none ∧ Fr n0 L ∧ Keep h0 h [o0] ∧ Old Z n0 h ∧ own_AL Z n0 D o0 0 D h) := by
  refine OwnMeets.of_walk (plainFor_of_name pn_3) (fun m => ef_4 m o0) ?_
  intro p e s m below meth c T0 X0 K e0
  obtain ⟨hx, hby, hml, hret, hlk, hnm, hown, hZ⟩ := id K
  have N0 := Fr.nil n0
  refine en_aloadN X0 hx (hb hby d4_0) (pc' := 1) rfl rfl ?_
  refine en_callN X0 hx hZ (rm := ({ frames := 2, cells := 0, slots := 0, locals := 24 } : Room)) (y := (⟨"java/util/AbstractList", "<init>", "()V"⟩ : MethodName)) hown rfl (tw hw 24 rfl) (tw hw 25 rfl) (tw hw 28 rfl) (tw hw 29 rfl) (by decide) (rm5 l Z a0 hw [] o0 h0 n0 Z0 E0 F0 F1 F2 g0) e0 (by decide) 0 rfl (by decide) (by decide) (by decide) (by rw [hml]; rfl) (argsL := []) (rest := []) (lenOf pd_0 rfl) rfl (hb hby d4_1) (pc' := 4) (fun v1 T1 Lq1 X1 hQ1 => ?_)
  obtain ⟨h1, e1⟩ : ∃ q, T1.heap = q := ⟨_, rfl⟩
  rw [e1] at hQ1
  obtain ⟨rfl, Nq1, Kq1, G0, G1, G2⟩ := hQ1
  have N1 := Fr.app N0 Nq1
  show OwnEnds p e below s _ _ _ T1 m 4 #[.val (.ref o0)] []
  have E1_o0 := E0.keep Kq1
  have K1 : Keep h0 h1 [o0] := Keep.trans (Keep.refl h0 [o0]) Kq1 (allS (Or.inl (List.mem_of_getElem? (i := 0) rfl)) all0)
  have Z1 : n0 ≤ h1.size := Nat.le_trans Z0 Kq1.1
  have O1 : Old Z n0 h1 := OZ.keep Kq1 (allS (P := fun x => n0 ≤ x) g0 all0)
  obtain ⟨dlt, S0, kD, VD0⟩ := id HD
  have S1 := S0.ext O1.2
  refine en_aloadN X1 hx (hb hby d4_4) (pc' := 5) rfl rfl ?_
  refine en_getS X1 hx hZ hown (host := "") (Or.inl (tw hw 39 rfl)) Via.refl e1 S1 (hb hby d4_5) (pc' := 8) (fun T2 X2 e2 => ?_)
  refine en_putF X2 hx hZ hown (host := "") (Or.inl (tw hw 40 rfl)) Via.refl e2 G2 E1_o0 (Or.inl (tw hw 41 rfl)) (tw hw 19 rfl) (ty := (.array (.object "java/lang/Object"))) (by decide) rfl rfl (hb hby d4_8) (pc' := 11) (fun T3 h3 X3 e3 W3 => ?_)
  have F3_o0_modCount := G0.other W3 (Or.inr (slot_ne (Or.inl (tw hw 38 rfl)) (Or.inl (tw hw 41 rfl)) (by decide) (t := .int) (t' := (.array (.object "java/lang/Object"))) (by decide) (by decide)))
  have F3_o0_size := G1.other W3 (Or.inr (slot_ne (Or.inl (tw hw 100 rfl)) (Or.inl (tw hw 41 rfl)) (by decide) (t := .int) (t' := (.array (.object "java/lang/Object"))) (by decide) (by decide)))
  have E3_o0 := E1_o0.wr W3
  have S3_DEFAULTCAPACITY_EMPTY_ELEMENTDATA := S1.wr W3
  have K3 : Keep h0 h3 [o0] := K1.wr W3 (Or.inl (List.mem_of_getElem? (i := 0) rfl))
  have Z3 : n0 ≤ h3.size := Nat.le_trans Z1 (Keep.of_wr W3).1
  have O3 : Old Z n0 h3 := O1.wr W3 g0
  have N3 := Fr.snoc X3 N1 g0
  have F3_o0_elementData := G2.same W3
  exact en_ret0 X3 hx hret hlk (hb hby d4_11) (by decide) (by decide) (by first | (rw [e3]; exact ⟨rfl, N3, K3, O3, E3_o0, g0, _, _, F3_o0_modCount, F3_o0_size, rfl, F3_o0_elementData, Or.inl ⟨rfl, rfl⟩⟩) | exact ⟨rfl, N3, K3, O3, E3_o0, g0, _, _, F3_o0_modCount, F3_o0_size, rfl, F3_o0_elementData, Or.inl ⟨rfl, rfl⟩⟩)
theorem d18_0 : decode jdk_38_method_6_code 0 = .ok (.aload_n 0, 1) := by decide +kernel
theorem d18_1 : decode jdk_38_method_6_code 1 = .ok (.getfield 9, 3) := by decide +kernel
theorem d18_4 : decode jdk_38_method_6_code 4 = .ok (.arraylength, 1) := by decide +kernel
theorem d18_5 : decode jdk_38_method_6_code 5 = .ok (.istore_n 2, 1) := by decide +kernel
theorem d18_6 : decode jdk_38_method_6_code 6 = .ok (.iload_n 2, 1) := by decide +kernel
theorem d18_7 : decode jdk_38_method_6_code 7 = .ok (.ifCond .gt 13, 3) := by decide +kernel
theorem d18_10 : decode jdk_38_method_6_code 10 = .ok (.aload_n 0, 1) := by decide +kernel
theorem d18_11 : decode jdk_38_method_6_code 11 = .ok (.getfield 9, 3) := by decide +kernel
theorem d18_14 : decode jdk_38_method_6_code 14 = .ok (.getstatic 39, 3) := by decide +kernel
theorem d18_17 : decode jdk_38_method_6_code 17 = .ok (.if_acmp .eq 28, 3) := by decide +kernel
theorem d18_20 : decode jdk_38_method_6_code 20 = .ok (.iload_n 2, 1) := by decide +kernel
theorem d18_21 : decode jdk_38_method_6_code 21 = .ok (.iload_n 1, 1) := by decide +kernel
theorem d18_22 : decode jdk_38_method_6_code 22 = .ok (.iload_n 2, 1) := by decide +kernel
theorem d18_23 : decode jdk_38_method_6_code 23 = .ok (.isub, 1) := by decide +kernel
theorem d18_24 : decode jdk_38_method_6_code 24 = .ok (.iload_n 2, 1) := by decide +kernel
theorem d18_25 : decode jdk_38_method_6_code 25 = .ok (.iconst 1, 1) := by decide +kernel
theorem d18_26 : decode jdk_38_method_6_code 26 = .ok (.ishr, 1) := by decide +kernel
theorem d18_27 : decode jdk_38_method_6_code 27 = .ok (.invokestatic 73, 3) := by decide +kernel
theorem d18_30 : decode jdk_38_method_6_code 30 = .ok (.istore_n 3, 1) := by decide +kernel
theorem d18_31 : decode jdk_38_method_6_code 31 = .ok (.aload_n 0, 1) := by decide +kernel
theorem d18_32 : decode jdk_38_method_6_code 32 = .ok (.aload_n 0, 1) := by decide +kernel
theorem d18_33 : decode jdk_38_method_6_code 33 = .ok (.getfield 9, 3) := by decide +kernel
theorem d18_36 : decode jdk_38_method_6_code 36 = .ok (.iload_n 3, 1) := by decide +kernel
theorem d18_37 : decode jdk_38_method_6_code 37 = .ok (.invokestatic 66, 3) := by decide +kernel
theorem d18_40 : decode jdk_38_method_6_code 40 = .ok (.dup_x1, 1) := by decide +kernel
theorem d18_41 : decode jdk_38_method_6_code 41 = .ok (.putfield 9, 3) := by decide +kernel
theorem d18_44 : decode jdk_38_method_6_code 44 = .ok (.areturn, 1) := by decide +kernel
theorem d18_45 : decode jdk_38_method_6_code 45 = .ok (.aload_n 0, 1) := by decide +kernel
theorem d18_46 : decode jdk_38_method_6_code 46 = .ok (.bipush 10, 2) := by decide +kernel
theorem d18_48 : decode jdk_38_method_6_code 48 = .ok (.iload_n 1, 1) := by decide +kernel
theorem d18_49 : decode jdk_38_method_6_code 49 = .ok (.invokestatic 79, 3) := by decide +kernel
theorem d18_52 : decode jdk_38_method_6_code 52 = .ok (.anewarray 7, 3) := by decide +kernel
theorem d18_55 : decode jdk_38_method_6_code 55 = .ok (.dup_x1, 1) := by decide +kernel
theorem d18_56 : decode jdk_38_method_6_code 56 = .ok (.putfield 9, 3) := by decide +kernel
theorem d18_59 : decode jdk_38_method_6_code 59 = .ok (.areturn, 1) := by decide +kernel
theorem ef_18 (m : MethodId) (o0 : Addr) (x1 : Int32) : entryFrame m #[(.ref o0), (.int x1)] 4 = mkF m 0 #[.val (.ref o0), .val (.int x1), .unset, .unset] [] := by first | (simp [entryFrame, mkF, argsToLocals, Value.category]; done) | rfl
theorem pd_1 : parseMethodDescriptor "(II)I" = some ⟨[.int, .int], some .int⟩ := by decide +kernel
set_option maxRecDepth 65536 in
set_option maxHeartbeats 40000000 in
theorem rm18 (l : Launch) (Z : State) (a0 : Array Value) (hw : ∀ d ∈ tables_1, d.before a0 Z = true) (ws : List Jvm.Cond) (o0 : Addr) (mc : Int32) (D : Addr) (h0 : Heap) (n0 : Nat) (Z0 : n0 ≤ h0.size) (E0 : Exa Z h0 o0 "java/util/ArrayList") (F0 : Fld Z h0 o0 "java/util/AbstractList" "modCount" "I" (.int mc)) (F1 : Fld Z h0 o0 "java/util/ArrayList" "size" "I" (.int (0 : Int32))) (F2 : Fld Z h0 o0 "java/util/ArrayList" "elementData" "[Ljava/lang/Object;" (.ref D)) (g0 : n0 ≤ o0) (HD : own_ST Z D) (OZ : Old Z n0 h0) : OwnMeets l Z (⟨"java/util/ArrayList", "grow", "(I)[Ljava/lang/Object;"⟩ : MethodName) jdk_38_method_6_code 4 (some (.array (.object "java/lang/Object"))) ws ({ frames := 1, cells := 1, slots := 10, locals := 14 } : Room) #[(.ref o0), (.int (1 : Int32))] h0 (fun v h L => ∃ ea, v = some (.ref ea) ∧ Fr n0 L ∧ Keep h0 h [o0] ∧ n0 ≤ ea ∧ h0.size ≤ ea ∧ o0 ≠ ea ∧ Fld Z h o0 "java/util/AbstractList" "modCount" "I" (.int mc) ∧ Fld Z h o0 "java/util/ArrayList" "size" "I" (.int (0 : Int32)) ∧ Fld Z h o0 "java/util/ArrayList" "elementData" "[Ljava/lang/Object;" (.ref ea) ∧ ∃ ke, Ovr Z ke "java/lang/Object" ∧ Arv Z h ea ke (.object "java/lang/Object") (10 : Int32) own_nil .null) := by
  refine OwnMeets.of_walk (plainFor_of_name pn_3) (fun m => ef_18 m o0 (1 : Int32)) ?_
  intro p e s m below meth c T0 X0 K e0
  obtain ⟨hx, hby, hml, hret, hlk, hnm, hown, hZ⟩ := id K
  have N0 := Fr.nil n0
  obtain ⟨dlt, S0, kD, VD0⟩ := id HD
  have S1 := S0.ext OZ.2
  have VD := VD0.ext OZ.2
  have neD : D ≠ o0 := Nat.ne_of_lt (Nat.lt_of_lt_of_le (OZ.1 ▸ dlt) g0)
  refine en_aloadN X0 hx (hb hby d18_0) (pc' := 1) rfl rfl ?_
  refine en_getF X0 hx hZ hown (host := "") (Or.inl (tw hw 40 rfl)) Via.refl e0 F2 (hb hby d18_1) (pc' := 4) (fun T1 X1 e1 => ?_)
  refine en_len X1 hx hZ e1 VD (hb hby d18_4) (pc' := 5) ?_
  refine en_istoreN X1 hx (hb hby d18_5) (pc' := 6) (Ls' := #[.val (.ref o0), .val (.int (1 : Int32)), .val (.int (0 : Int32)), .unset]) rfl ?_
  refine en_iloadN X1 hx (hb hby d18_6) (pc' := 7) rfl ?_
  refine en_ifNo X1 hx (hb hby d18_7) ((if0 _ _).trans (flt (by decide : ¬ (0 : Int32) < (0 : Int32))).2.2.1) (pc' := 10) ?_
  refine en_aloadN X1 hx (hb hby d18_10) (pc' := 11) rfl rfl ?_
  refine en_getF X1 hx hZ hown (host := "") (Or.inl (tw hw 40 rfl)) Via.refl e1 F2 (hb hby d18_11) (pc' := 14) (fun T2 X2 e2 => ?_)
  refine en_getS X2 hx hZ hown (host := "") (Or.inl (tw hw 39 rfl)) Via.refl e2 S1 (hb hby d18_14) (pc' := 17) (fun T3 X3 e3 => ?_)
  refine en_acmpYes X3 hx (hb hby d18_17) (by simp [if_acmp.holds]) (pc' := 45) ?_
  refine en_aloadN X3 hx (hb hby d18_45) (pc' := 46) rfl rfl ?_
  refine en_bipush X3 hx (10 : Int32) (hb hby d18_46) (pc' := 48) ?_
  refine en_iloadN X3 hx (hb hby d18_48) (pc' := 49) rfl ?_
  refine en_callP X3 hx hZ hown (tw hw 116 rfl) (tw hw 117 rfl) (tw hw 118 rfl) (tw hw 119 rfl) (by decide) (rm19 l Z a0 hw [] (10 : Int32) (1 : Int32) _) e3 (by decide) 1 rfl (by decide) (by decide) (by decide) (by rw [hml]; rfl) (argsL := [(.int (10 : Int32)), (.int (1 : Int32))]) (rest := [(.ref o0)]) (lenOf pd_1 rfl) rfl (hb hby d18_49) (pc' := 52) (fun T4 X4 e4 => ?_)
  rw [show (f19 (10 : Int32) (1 : Int32)) = (10 : Int32) from by decide]
  refine en_newR X4 hx hZ hown (tw hw 120 rfl) (tw hw 121 rfl) e4 (hb hby d18_52) (by decide) 10 (by decide) (by decide) (by decide) (by decide) (pc' := 55) (fun T5 h5 b5 k5 g5 X5 e5 E5 V50 Ov => ?_)
  have ne5_o0 : o0 ≠ b5 := by rw [g5]; exact Nat.ne_of_lt E0.lt
  have ne5_D : D ≠ b5 := by rw [g5]; exact Nat.ne_of_lt VD.lt
  have g_b5 : n0 ≤ b5 := by rw [g5]; exact Z0
  have sz_b5 : h0.size ≤ b5 := by rw [g5]; exact (Keep.refl h0 [o0]).1
  have F5_o0_modCount := F0.ext E5
  have F5_o0_size := F1.ext E5
  have F5_o0_elementData := F2.ext E5
  have E5_o0 := E0.ext E5
  have V5_D := VD.ext E5
  have S5_DEFAULTCAPACITY_EMPTY_ELEMENTDATA := S1.ext E5
  have K5 : Keep h0 h5 [o0] := (Keep.refl h0 [o0]).ext E5
  have Z5 : n0 ≤ h5.size := Nat.le_trans Z0 E5.1
  have O5 : Old Z n0 h5 := OZ.ext E5
  have V5 : Arv Z h5 b5 k5 (.object "java/lang/Object") (10 : Int32) own_nil .null := V50.pad (pad_rep [] .null 10)
  refine en_dupX1 X5 hx (hb hby d18_55) (pc' := 56) rfl rfl ?_
  refine en_putF X5 hx hZ hown (host := "") (Or.inl (tw hw 40 rfl)) Via.refl e5 F5_o0_elementData E5_o0 (Or.inl (tw hw 41 rfl)) (tw hw 19 rfl) (ty := (.array (.object "java/lang/Object"))) (by decide) rfl rfl (hb hby d18_56) (pc' := 59) (fun T6 h6 X6 e6 W6 => ?_)
  have F6_o0_modCount := F5_o0_modCount.other W6 (Or.inr (slot_ne (Or.inl (tw hw 38 rfl)) (Or.inl (tw hw 41 rfl)) (by decide) (t := .int) (t' := (.array (.object "java/lang/Object"))) (by decide) (by decide)))
  have F6_o0_size := F5_o0_size.other W6 (Or.inr (slot_ne (Or.inl (tw hw 100 rfl)) (Or.inl (tw hw 41 rfl)) (by decide) (t := .int) (t' := (.array (.object "java/lang/Object"))) (by decide) (by decide)))
  have E6_o0 := E5_o0.wr W6
  have V6_D := V5_D.other W6 neD
  have V6_b5 := V5.other W6 (Ne.symm ne5_o0)
  have S6_DEFAULTCAPACITY_EMPTY_ELEMENTDATA := S5_DEFAULTCAPACITY_EMPTY_ELEMENTDATA.wr W6
  have K6 : Keep h0 h6 [o0] := K5.wr W6 (Or.inl (List.mem_of_getElem? (i := 0) rfl))
  have Z6 : n0 ≤ h6.size := Nat.le_trans Z5 (Keep.of_wr W6).1
  have O6 : Old Z n0 h6 := O5.wr W6 g0
  have N6 := Fr.snoc X6 N0 g0
  have F6_o0_elementData := F5_o0_elementData.same W6
  exact en_retA X6 hx hret rfl rfl hlk (hb hby d18_59) (by decide) (by decide) (by first | (rw [e6]; exact ⟨b5, rfl, N6, K6, g_b5, sz_b5, ne5_o0, F6_o0_modCount, F6_o0_size, F6_o0_elementData, _, Ov, V6_b5⟩) | exact ⟨b5, rfl, N6, K6, g_b5, sz_b5, ne5_o0, F6_o0_modCount, F6_o0_size, F6_o0_elementData, _, Ov, V6_b5⟩)
theorem d17_0 : decode jdk_38_method_7_code 0 = .ok (.aload_n 0, 1) := by decide +kernel
theorem d17_1 : decode jdk_38_method_7_code 1 = .ok (.aload_n 0, 1) := by decide +kernel
theorem d17_2 : decode jdk_38_method_7_code 2 = .ok (.getfield 48, 3) := by decide +kernel
theorem d17_5 : decode jdk_38_method_7_code 5 = .ok (.iconst 1, 1) := by decide +kernel
theorem d17_6 : decode jdk_38_method_7_code 6 = .ok (.iadd, 1) := by decide +kernel
theorem d17_7 : decode jdk_38_method_7_code 7 = .ok (.invokevirtual 69, 3) := by decide +kernel
theorem d17_10 : decode jdk_38_method_7_code 10 = .ok (.areturn, 1) := by decide +kernel
theorem ef_17 (m : MethodId) (o0 : Addr) : entryFrame m #[(.ref o0)] 1 = mkF m 0 #[.val (.ref o0)] [] := by first | (simp [entryFrame, mkF, argsToLocals, Value.category]; done) | rfl
theorem pd_2 : parseMethodDescriptor "(I)[Ljava/lang/Object;" = some ⟨[.int], some (.array (.object "java/lang/Object"))⟩ := by decide +kernel
set_option maxRecDepth 65536 in
set_option maxHeartbeats 40000000 in
theorem rm17 (l : Launch) (Z : State) (a0 : Array Value) (hw : ∀ d ∈ tables_1, d.before a0 Z = true) (ws : List Jvm.Cond) (o0 : Addr) (mc : Int32) (D : Addr) (h0 : Heap) (n0 : Nat) (Z0 : n0 ≤ h0.size) (E0 : Exa Z h0 o0 "java/util/ArrayList") (F0 : Fld Z h0 o0 "java/util/AbstractList" "modCount" "I" (.int mc)) (F1 : Fld Z h0 o0 "java/util/ArrayList" "size" "I" (.int (0 : Int32))) (F2 : Fld Z h0 o0 "java/util/ArrayList" "elementData" "[Ljava/lang/Object;" (.ref D)) (g0 : n0 ≤ o0) (HD : own_ST Z D) (OZ : Old Z n0 h0) : OwnMeets l Z (⟨"java/util/ArrayList", "grow", "()[Ljava/lang/Object;"⟩ : MethodName) jdk_38_method_7_code 1 (some (.array (.object "java/lang/Object"))) ws ({ frames := 2, cells := 1, slots := 10, locals := 29 } : Room) #[(.ref o0)] h0 (fun v h L => ∃ ea, v = some (.ref ea) ∧ Fr n0 L ∧ Keep h0 h [o0] ∧ n0 ≤ ea ∧ h0.size ≤ ea ∧ o0 ≠ ea ∧ Fld Z h o0 "java/util/AbstractList" "modCount" "I" (.int mc) ∧ Fld Z h o0 "java/util/ArrayList" "size" "I" (.int (0 : Int32)) ∧ Fld Z h o0 "java/util/ArrayList" "elementData" "[Ljava/lang/Object;" (.ref ea) ∧ ∃ ke, Ovr Z ke "java/lang/Object" ∧ Arv Z h ea ke (.object "java/lang/Object") (10 : Int32) own_nil .null) := by
  refine OwnMeets.of_walk (plainFor_of_name pn_3) (fun m => ef_17 m o0) ?_
  intro p e s m below meth c T0 X0 K e0
  obtain ⟨hx, hby, hml, hret, hlk, hnm, hown, hZ⟩ := id K
  have N0 := Fr.nil n0
  refine en_aloadN X0 hx (hb hby d17_0) (pc' := 1) rfl rfl ?_
  refine en_aloadN X0 hx (hb hby d17_1) (pc' := 2) rfl rfl ?_
  refine en_getF X0 hx hZ hown (host := "") (Or.inl (tw hw 99 rfl)) Via.refl e0 F1 (hb hby d17_2) (pc' := 5) (fun T1 X1 e1 => ?_)
  refine en_iconst X1 hx (1 : Int32) (hb hby d17_5) (pc' := 6) ?_
  refine en_iadd X1 hx (hb hby d17_6) (pc' := 7) ?_
  rw [show ((0 : Int32) + (1 : Int32)) = (1 : Int32) from by decide]
  refine en_callQ X1 hx hZ (rm := ({ frames := 1, cells := 1, slots := 10, locals := 14 } : Room)) (y := (⟨"java/util/ArrayList", "grow", "(I)[Ljava/lang/Object;"⟩ : MethodName)) (K := "java/util/ArrayList") hown (tw hw 111 rfl) (tw hw 112 rfl) (tw hw 113 rfl) (tw hw 91 rfl) rfl (tw hw 20 rfl) (tw hw 115 rfl) E0 (by decide) (rm18 l Z a0 hw [] o0 mc D h0 n0 Z0 E0 F0 F1 F2 g0 HD OZ) e1 (by decide) 0 rfl (by decide) (by decide) (by decide) (by rw [hml]; rfl) (argsL := [(.int (1 : Int32))]) (rest := []) (lenOf pd_2 rfl) rfl (hb hby d17_7) (pc' := 10) (fun v2 T2 Lq2 X2 hQ2 => ?_)
  obtain ⟨h2, e2⟩ : ∃ q, T2.heap = q := ⟨_, rfl⟩
  rw [e2] at hQ2
  obtain ⟨ea, rfl, Nq2, Kq2, ge, sze, nee, G0, G1, G2, ke, Ov, Ve⟩ := hQ2
  have N2 := Fr.app N0 Nq2
  show OwnEnds p e below s _ _ _ T2 m 10 #[.val (.ref o0)] [(.ref ea)]
  have E2_o0 := E0.keep Kq2
  have K2 : Keep h0 h2 [o0] := Keep.trans (Keep.refl h0 [o0]) Kq2 (allS (Or.inl (List.mem_of_getElem? (i := 0) rfl)) all0)
  have Z2 : n0 ≤ h2.size := Nat.le_trans Z0 Kq2.1
  have O2 : Old Z n0 h2 := OZ.keep Kq2 (allS (P := fun x => n0 ≤ x) g0 all0)
  exact en_retA X2 hx hret rfl rfl hlk (hb hby d17_10) (by decide) (by decide) (by first | (rw [e2]; exact ⟨ea, rfl, N2, K2, ge, sze, nee, G0, G1, G2, ke, Ov, Ve⟩) | exact ⟨ea, rfl, N2, K2, ge, sze, nee, G0, G1, G2, ke, Ov, Ve⟩)
theorem d16_0 : decode jdk_38_method_24_code 0 = .ok (.iload_n 3, 1) := by decide +kernel
theorem d16_1 : decode jdk_38_method_24_code 1 = .ok (.aload_n 2, 1) := by decide +kernel
theorem d16_2 : decode jdk_38_method_24_code 2 = .ok (.arraylength, 1) := by decide +kernel
theorem d16_3 : decode jdk_38_method_24_code 3 = .ok (.if_icmp .ne 8, 3) := by decide +kernel
theorem d16_6 : decode jdk_38_method_24_code 6 = .ok (.aload_n 0, 1) := by decide +kernel
theorem d16_7 : decode jdk_38_method_24_code 7 = .ok (.invokevirtual 129, 3) := by decide +kernel
theorem d16_10 : decode jdk_38_method_24_code 10 = .ok (.astore_n 2, 1) := by decide +kernel
theorem d16_11 : decode jdk_38_method_24_code 11 = .ok (.aload_n 2, 1) := by decide +kernel
theorem d16_12 : decode jdk_38_method_24_code 12 = .ok (.iload_n 3, 1) := by decide +kernel
theorem d16_13 : decode jdk_38_method_24_code 13 = .ok (.aload_n 1, 1) := by decide +kernel
theorem d16_14 : decode jdk_38_method_24_code 14 = .ok (.aastore, 1) := by decide +kernel
theorem d16_15 : decode jdk_38_method_24_code 15 = .ok (.aload_n 0, 1) := by decide +kernel
theorem d16_16 : decode jdk_38_method_24_code 16 = .ok (.iload_n 3, 1) := by decide +kernel
theorem d16_17 : decode jdk_38_method_24_code 17 = .ok (.iconst 1, 1) := by decide +kernel
theorem d16_18 : decode jdk_38_method_24_code 18 = .ok (.iadd, 1) := by decide +kernel
theorem d16_19 : decode jdk_38_method_24_code 19 = .ok (.putfield 48, 3) := by decide +kernel
theorem d16_22 : decode jdk_38_method_24_code 22 = .ok (.return_, 1) := by decide +kernel
theorem ef_16 (m : MethodId) (o0 : Addr) (o1 : Addr) (o2 : Addr) (x3 : Int32) : entryFrame m #[(.ref o0), (.ref o1), (.ref o2), (.int x3)] 4 = mkF m 0 #[.val (.ref o0), .val (.ref o1), .val (.ref o2), .val (.int x3)] [] := by first | (simp [entryFrame, mkF, argsToLocals, Value.category]; done) | rfl
theorem pd_3 : parseMethodDescriptor "()[Ljava/lang/Object;" = some ⟨[], some (.array (.object "java/lang/Object"))⟩ := by decide +kernel
set_option maxRecDepth 65536 in
set_option maxHeartbeats 40000000 in
theorem rm16a (l : Launch) (Z : State) (a0 : Array Value) (hw : ∀ d ∈ tables_1, d.before a0 Z = true) (ws : List Jvm.Cond) (o0 : Addr) (o1 : Addr) (mc : Int32) (D : Addr) (h0 : Heap) (n0 : Nat) (Z0 : n0 ≤ h0.size) (E0 : Exa Z h0 o0 "java/util/ArrayList") (F0 : Fld Z h0 o0 "java/util/AbstractList" "modCount" "I" (.int mc)) (F1 : Fld Z h0 o0 "java/util/ArrayList" "size" "I" (.int (0 : Int32))) (F2 : Fld Z h0 o0 "java/util/ArrayList" "elementData" "[Ljava/lang/Object;" (.ref D)) (g0 : n0 ≤ o0) (HD : own_ST Z D) (OZ : Old Z n0 h0) (EY : Exa Z h0 o1 "[I") : OwnMeets l Z (⟨"java/util/ArrayList", "add", "(Ljava/lang/Object;[Ljava/lang/Object;I)V"⟩ : MethodName) jdk_38_method_24_code 4 none ws ({ frames := 3, cells := 1, slots := 10, locals := 41 } : Room) #[(.ref o0), (.ref o1), (.ref D), (.int (0 : Int32))] h0 (fun v h L => v = none ∧ Fr n0 L ∧ Keep h0 h [o0, D] ∧ Old Z n0 h ∧ ∃ ea, own_AL Z n0 D o0 (0 + 1) ea h ∧ (ea = D ∨ h0.size ≤ ea)) := by
  refine OwnMeets.of_walk (plainFor_of_name pn_3) (fun m => ef_16 m o0 o1 D (0 : Int32)) ?_
  intro p e s m below meth c T0 X0 K e0
  obtain ⟨hx, hby, hml, hret, hlk, hnm, hown, hZ⟩ := id K
  have N0 := Fr.nil n0
  obtain ⟨dlt, S0, kD, VD0⟩ := id HD
  have S1 := S0.ext OZ.2
  have VD := VD0.ext OZ.2
  have neD : D ≠ o0 := Nat.ne_of_lt (Nat.lt_of_lt_of_le (OZ.1 ▸ dlt) g0)
  refine en_iloadN X0 hx (hb hby d16_0) (pc' := 1) rfl ?_
  refine en_aloadN X0 hx (hb hby d16_1) (pc' := 2) rfl rfl ?_
  refine en_len X0 hx hZ e0 VD (hb hby d16_2) (pc' := 3) ?_
  refine en_icmpNo X0 hx (hb hby d16_3) (teq (rfl : (0 : Int32) = (0 : Int32))).2 (pc' := 6) ?_
  refine en_aloadN X0 hx (hb hby d16_6) (pc' := 7) rfl rfl ?_
  refine en_callQ X0 hx hZ (rm := ({ frames := 2, cells := 1, slots := 10, locals := 29 } : Room)) (y := (⟨"java/util/ArrayList", "grow", "()[Ljava/lang/Object;"⟩ : MethodName)) (K := "java/util/ArrayList") hown (tw hw 106 rfl) (tw hw 107 rfl) (tw hw 108 rfl) (tw hw 91 rfl) rfl (tw hw 20 rfl) (tw hw 110 rfl) E0 (by decide) (rm17 l Z a0 hw [] o0 mc D h0 n0 Z0 E0 F0 F1 F2 g0 HD OZ) e0 (by decide) 0 rfl (by decide) (by decide) (by decide) (by rw [hml]; rfl) (argsL := []) (rest := []) (lenOf pd_3 rfl) rfl (hb hby d16_7) (pc' := 10) (fun v1 T1 Lq1 X1 hQ1 => ?_)
  obtain ⟨h1, e1⟩ : ∃ q, T1.heap = q := ⟨_, rfl⟩
  rw [e1] at hQ1
  obtain ⟨ea, rfl, Nq1, Kq1, ge, sze, nee, G0, G1, G2, ke, Ov, Ve⟩ := hQ1
  have N1 := Fr.app N0 Nq1
  show OwnEnds p e below s _ _ _ T1 m 10 #[.val (.ref o0), .val (.ref o1), .val (.ref D), .val (.int (0 : Int32))] [(.ref ea)]
  have E1_o0 := E0.keep Kq1
  have E1_o1 := EY.keep Kq1
  have K1 : Keep h0 h1 [o0, D] := Keep.trans (Keep.refl h0 [o0, D]) Kq1 (allS (Or.inl (List.mem_of_getElem? (i := 0) rfl)) all0)
  have Z1 : n0 ≤ h1.size := Nat.le_trans Z0 Kq1.1
  have O1 : Old Z n0 h1 := OZ.keep Kq1 (allS (P := fun x => n0 ≤ x) g0 all0)
  refine en_astoreN X1 hx (hb hby d16_10) (pc' := 11) (Ls' := #[.val (.ref o0), .val (.ref o1), .val (.ref ea), .val (.int (0 : Int32))]) rfl rfl ?_
  refine en_aloadN X1 hx (hb hby d16_11) (pc' := 12) rfl rfl ?_
  refine en_iloadN X1 hx (hb hby d16_12) (pc' := 13) rfl ?_
  refine en_aloadN X1 hx (hb hby d16_13) (pc' := 14) rfl rfl ?_
  refine en_aastore X1 hx hZ e1 Ve Ov (Ins.of_exa E1_o1 (tw hw 122 rfl)) ⟨by decide, by decide⟩ 0 rfl (by decide) (hb hby d16_14) (pc' := 15) (fun T2 h2 X2 e2 W2 V2 => ?_)
  have F2_o0_modCount := G0.other W2 (Or.inl nee)
  have F2_o0_size := G1.other W2 (Or.inl nee)
  have F2_o0_elementData := G2.other W2 (Or.inl nee)
  have E2_o0 := E1_o0.wr W2
  have E2_o1 := E1_o1.wr W2
  have K2 : Keep h0 h2 [o0, D] := K1.wr W2 (Or.inr sze)
  have Z2 : n0 ≤ h2.size := Nat.le_trans Z1 (Keep.of_wr W2).1
  have O2 : Old Z n0 h2 := O1.wr W2 ge
  have N2 := Fr.snoc X2 N1 ge
  refine en_aloadN X2 hx (hb hby d16_15) (pc' := 16) rfl rfl ?_
  refine en_iloadN X2 hx (hb hby d16_16) (pc' := 17) rfl ?_
  refine en_iconst X2 hx (1 : Int32) (hb hby d16_17) (pc' := 18) ?_
  refine en_iadd X2 hx (hb hby d16_18) (pc' := 19) ?_
  refine en_putF X2 hx hZ hown (host := "") (Or.inl (tw hw 99 rfl)) Via.refl e2 F2_o0_size E2_o0 (Or.inl (tw hw 100 rfl)) (tw hw 19 rfl) (ty := .int) (by decide) rfl rfl (hb hby d16_19) (pc' := 22) (fun T3 h3 X3 e3 W3 => ?_)
  have F3_o0_modCount := F2_o0_modCount.other W3 (Or.inr (slot_ne (Or.inl (tw hw 38 rfl)) (Or.inl (tw hw 100 rfl)) (by decide) (t := .int) (t' := .int) (by decide) (by decide)))
  have F3_o0_elementData := F2_o0_elementData.other W3 (Or.inr (slot_ne (Or.inl (tw hw 41 rfl)) (Or.inl (tw hw 100 rfl)) (by decide) (t := (.array (.object "java/lang/Object"))) (t' := .int) (by decide) (by decide)))
  have E3_o0 := E2_o0.wr W3
  have E3_o1 := E2_o1.wr W3
  have V3_ea := V2.other W3 (Ne.symm nee)
  have K3 : Keep h0 h3 [o0, D] := K2.wr W3 (Or.inl (List.mem_of_getElem? (i := 0) rfl))
  have Z3 : n0 ≤ h3.size := Nat.le_trans Z2 (Keep.of_wr W3).1
  have O3 : Old Z n0 h3 := O2.wr W3 g0
  have N3 := Fr.snoc X3 N2 g0
  have F3_o0_size := F2_o0_size.same W3
  exact en_ret0 X3 hx hret hlk (hb hby d16_22) (by decide) (by decide) (by first | (rw [e3]; exact ⟨rfl, N3, K3, O3, ea, ⟨E3_o0, g0, _, _, F3_o0_modCount, F3_o0_size, rfl, F3_o0_elementData, Or.inr ⟨by decide, ge, nee, ke, _, own_len10 _ _ _ rfl, Ov, V3_ea⟩⟩, Or.inr sze⟩) | exact ⟨rfl, N3, K3, O3, ea, ⟨E3_o0, g0, _, _, F3_o0_modCount, F3_o0_size, rfl, F3_o0_elementData, Or.inr ⟨by decide, ge, nee, ke, _, own_len10 _ _ _ rfl, Ov, V3_ea⟩⟩, Or.inr sze⟩)
set_option maxRecDepth 65536 in
set_option maxHeartbeats 40000000 in
theorem rm16b (l : Launch) (Z : State) (a0 : Array Value) (hw : ∀ d ∈ tables_1, d.before a0 Z = true) (ws : List Jvm.Cond) (o0 : Addr) (o1 : Addr) (o2 : Addr) (x3 : Int32) (mc : Int32) (D : Addr) (ln : Nat) (ke : ClassId) (es : List Value) (h0 : Heap) (n0 : Nat) (Z0 : n0 ≤ h0.size) (E0 : Exa Z h0 o0 "java/util/ArrayList") (F0 : Fld Z h0 o0 "java/util/AbstractList" "modCount" "I" (.int mc)) (F1 : Fld Z h0 o0 "java/util/ArrayList" "size" "I" (.int x3)) (F2 : Fld Z h0 o0 "java/util/ArrayList" "elementData" "[Ljava/lang/Object;" (.ref o2)) (g0 : n0 ≤ o0) (OZ : Old Z n0 h0) (EY : Exa Z h0 o1 "[I") (hs : x3.toInt = ln) (hl : ln < 10) (ge : n0 ≤ o2) (nee : o0 ≠ o2) (hes : es.length = 10) (Ov : Ovr Z ke "java/lang/Object") (Ve : Arv Z h0 o2 ke (.object "java/lang/Object") (10 : Int32) es .null) : OwnMeets l Z (⟨"java/util/ArrayList", "add", "(Ljava/lang/Object;[Ljava/lang/Object;I)V"⟩ : MethodName) jdk_38_method_24_code 4 none ws ({ frames := 0, cells := 0, slots := 0, locals := 0 } : Room) #[(.ref o0), (.ref o1), (.ref o2), (.int x3)] h0 (fun v h L => v = none ∧ Fr n0 L ∧ Keep h0 h [o0, o2] ∧ Old Z n0 h ∧ ∃ ea, own_AL Z n0 D o0 (ln + 1) ea h ∧ (ea = o2 ∨ h0.size ≤ ea)) := by
  refine OwnMeets.of_walk (plainFor_of_name pn_3) (fun m => ef_16 m o0 o1 o2 x3) ?_
  intro p e s m below meth c T0 X0 K e0
  obtain ⟨hx, hby, hml, hret, hlk, hnm, hown, hZ⟩ := id K
  have N0 := Fr.nil n0
  refine en_iloadN X0 hx (hb hby d16_0) (pc' := 1) rfl ?_
  refine en_aloadN X0 hx (hb hby d16_1) (pc' := 2) rfl rfl ?_
  refine en_len X0 hx hZ e0 Ve (hb hby d16_2) (pc' := 3) ?_
  refine en_icmpYes X0 hx (hb hby d16_3) (feq (own_ne10 hs hl)).2 (pc' := 11) ?_
  refine en_aloadN X0 hx (hb hby d16_11) (pc' := 12) rfl rfl ?_
  refine en_iloadN X0 hx (hb hby d16_12) (pc' := 13) rfl ?_
  refine en_aloadN X0 hx (hb hby d16_13) (pc' := 14) rfl rfl ?_
  refine en_aastore X0 hx hZ e0 Ve Ov (Ins.of_exa EY (tw hw 122 rfl)) (own_in10 hs hl) ln (own_clamp hs) (by rw [hes]; exact hl) (hb hby d16_14) (pc' := 15) (fun T1 h1 X1 e1 W1 V1 => ?_)
  have F1_o0_modCount := F0.other W1 (Or.inl nee)
  have F1_o0_size := F1.other W1 (Or.inl nee)
  have F1_o0_elementData := F2.other W1 (Or.inl nee)
  have E1_o0 := E0.wr W1
  have E1_o1 := EY.wr W1
  have K1 : Keep h0 h1 [o0, o2] := (Keep.refl h0 [o0, o2]).wr W1 (Or.inl (List.mem_of_getElem? (i := 1) rfl))
  have Z1 : n0 ≤ h1.size := Nat.le_trans Z0 (Keep.of_wr W1).1
  have O1 : Old Z n0 h1 := OZ.wr W1 ge
  have N1 := Fr.snoc X1 N0 ge
  refine en_aloadN X1 hx (hb hby d16_15) (pc' := 16) rfl rfl ?_
  refine en_iloadN X1 hx (hb hby d16_16) (pc' := 17) rfl ?_
  refine en_iconst X1 hx (1 : Int32) (hb hby d16_17) (pc' := 18) ?_
  refine en_iadd X1 hx (hb hby d16_18) (pc' := 19) ?_
  refine en_putF X1 hx hZ hown (host := "") (Or.inl (tw hw 99 rfl)) Via.refl e1 F1_o0_size E1_o0 (Or.inl (tw hw 100 rfl)) (tw hw 19 rfl) (ty := .int) (by decide) rfl rfl (hb hby d16_19) (pc' := 22) (fun T2 h2 X2 e2 W2 => ?_)
  have F2_o0_modCount := F1_o0_modCount.other W2 (Or.inr (slot_ne (Or.inl (tw hw 38 rfl)) (Or.inl (tw hw 100 rfl)) (by decide) (t := .int) (t' := .int) (by decide) (by decide)))
  have F2_o0_elementData := F1_o0_elementData.other W2 (Or.inr (slot_ne (Or.inl (tw hw 41 rfl)) (Or.inl (tw hw 100 rfl)) (by decide) (t := (.array (.object "java/lang/Object"))) (t' := .int) (by decide) (by decide)))
  have E2_o0 := E1_o0.wr W2
  have E2_o1 := E1_o1.wr W2
  have V2_o2 := V1.other W2 (Ne.symm nee)
  have K2 : Keep h0 h2 [o0, o2] := K1.wr W2 (Or.inl (List.mem_of_getElem? (i := 0) rfl))
  have Z2 : n0 ≤ h2.size := Nat.le_trans Z1 (Keep.of_wr W2).1
  have O2 : Old Z n0 h2 := O1.wr W2 g0
  have N2 := Fr.snoc X2 N1 g0
  have F2_o0_size := F1_o0_size.same W2
  exact en_ret0 X2 hx hret hlk (hb hby d16_22) (by decide) (by decide) (by first | (rw [e2]; exact ⟨rfl, N2, K2, O2, o2, ⟨E2_o0, g0, _, _, F2_o0_modCount, F2_o0_size, own_inc hs (by omega), F2_o0_elementData, Or.inr ⟨by omega, ge, nee, ke, _, own_len10 _ _ _ hes, Ov, V2_o2⟩⟩, Or.inl rfl⟩) | exact ⟨rfl, N2, K2, O2, o2, ⟨E2_o0, g0, _, _, F2_o0_modCount, F2_o0_size, own_inc hs (by omega), F2_o0_elementData, Or.inr ⟨by omega, ge, nee, ke, _, own_len10 _ _ _ hes, Ov, V2_o2⟩⟩, Or.inl rfl⟩)
theorem d15_0 : decode jdk_38_method_25_code 0 = .ok (.aload_n 0, 1) := by decide +kernel
theorem d15_1 : decode jdk_38_method_25_code 1 = .ok (.dup, 1) := by decide +kernel
theorem d15_2 : decode jdk_38_method_25_code 2 = .ok (.getfield 63, 3) := by decide +kernel
theorem d15_5 : decode jdk_38_method_25_code 5 = .ok (.iconst 1, 1) := by decide +kernel
theorem d15_6 : decode jdk_38_method_25_code 6 = .ok (.iadd, 1) := by decide +kernel
theorem d15_7 : decode jdk_38_method_25_code 7 = .ok (.putfield 63, 3) := by decide +kernel
theorem d15_10 : decode jdk_38_method_25_code 10 = .ok (.aload_n 0, 1) := by decide +kernel
theorem d15_11 : decode jdk_38_method_25_code 11 = .ok (.aload_n 1, 1) := by decide +kernel
theorem d15_12 : decode jdk_38_method_25_code 12 = .ok (.aload_n 0, 1) := by decide +kernel
theorem d15_13 : decode jdk_38_method_25_code 13 = .ok (.getfield 9, 3) := by decide +kernel
theorem d15_16 : decode jdk_38_method_25_code 16 = .ok (.aload_n 0, 1) := by decide +kernel
theorem d15_17 : decode jdk_38_method_25_code 17 = .ok (.getfield 48, 3) := by decide +kernel
theorem d15_20 : decode jdk_38_method_25_code 20 = .ok (.invokevirtual 131, 3) := by decide +kernel
theorem d15_23 : decode jdk_38_method_25_code 23 = .ok (.iconst 1, 1) := by decide +kernel
theorem d15_24 : decode jdk_38_method_25_code 24 = .ok (.ireturn, 1) := by decide +kernel
theorem ef_15 (m : MethodId) (o0 : Addr) (o1 : Addr) : entryFrame m #[(.ref o0), (.ref o1)] 2 = mkF m 0 #[.val (.ref o0), .val (.ref o1)] [] := by first | (simp [entryFrame, mkF, argsToLocals, Value.category]; done) | rfl
theorem pd_4 : parseMethodDescriptor "(Ljava/lang/Object;[Ljava/lang/Object;I)V" = some ⟨[(.object "java/lang/Object"), (.array (.object "java/lang/Object")), .int], none⟩ := by decide +kernel
set_option maxRecDepth 65536 in
set_option maxHeartbeats 40000000 in
theorem rm15 (l : Launch) (Z : State) (a0 : Array Value) (hw : ∀ d ∈ tables_1, d.before a0 Z = true) (ws : List Jvm.Cond) (o0 : Addr) (o1 : Addr) (D : Addr) (ln : Nat) (ea : Addr) (h0 : Heap) (n0 : Nat) (Z0 : n0 ≤ h0.size) (HA : own_AL Z n0 D o0 ln ea h0) (HD : own_ST Z D) (OZ : Old Z n0 h0) (EY : Exa Z h0 o1 "[I") (hl : ln < 10) : OwnMeets l Z (⟨"java/util/ArrayList", "add", "(Ljava/lang/Object;)Z"⟩ : MethodName) jdk_38_method_25_code 2 (some .boolean) ws ({ frames := 4, cells := 1, slots := 10, locals := 56 } : Room) #[(.ref o0), (.ref o1)] h0 (fun v h L => v = some (.int (1 : Int32)) ∧ Fr n0 L ∧ Keep h0 h [o0, ea] ∧ Old Z n0 h ∧ ∃ ea', own_AL Z n0 D o0 (ln + 1) ea' h ∧ (ea' = ea ∨ h0.size ≤ ea')) := by
  refine OwnMeets.of_walk (plainFor_of_name pn_3) (fun m => ef_15 m o0 o1) ?_
  intro p e s m below meth c T0 X0 K e0
  obtain ⟨hx, hby, hml, hret, hlk, hnm, hown, hZ⟩ := id K
  have N0 := Fr.nil n0
  obtain ⟨E0, g0, mc, sz, F0, F1, hs, F2, hcase⟩ := HA
  rcases hcase with ⟨rfl, rfl⟩ | ⟨hpos, ge, nee, ke, es, hes, Ov, Ve⟩
  · obtain rfl := own_zero hs
    refine en_aloadN X0 hx (hb hby d15_0) (pc' := 1) rfl rfl ?_
    refine en_dup X0 hx (hb hby d15_1) (pc' := 2) rfl ?_
    refine en_getF X0 hx hZ hown (host := "") (Or.inl (tw hw 97 rfl)) (Via.of (tw hw 98 rfl)) e0 F0 (hb hby d15_2) (pc' := 5) (fun T1 X1 e1 => ?_)
    refine en_iconst X1 hx (1 : Int32) (hb hby d15_5) (pc' := 6) ?_
    refine en_iadd X1 hx (hb hby d15_6) (pc' := 7) ?_
    refine en_putF X1 hx hZ hown (host := "") (Or.inl (tw hw 97 rfl)) (Via.of (tw hw 98 rfl)) e1 F0 E0 (Or.inl (tw hw 38 rfl)) (tw hw 19 rfl) (ty := .int) (by decide) rfl rfl (hb hby d15_7) (pc' := 10) (fun T2 h2 X2 e2 W2 => ?_)
    have F2_o0_size := F1.other W2 (Or.inr (slot_ne (Or.inl (tw hw 100 rfl)) (Or.inl (tw hw 38 rfl)) (by decide) (t := .int) (t' := .int) (by decide) (by decide)))
    have F2_o0_elementData := F2.other W2 (Or.inr (slot_ne (Or.inl (tw hw 41 rfl)) (Or.inl (tw hw 38 rfl)) (by decide) (t := (.array (.object "java/lang/Object"))) (t' := .int) (by decide) (by decide)))
    have E2_o0 := E0.wr W2
    have E2_o1 := EY.wr W2
    have K2 : Keep h0 h2 [o0, ea] := (Keep.refl h0 [o0, ea]).wr W2 (Or.inl (List.mem_of_getElem? (i := 0) rfl))
    have Z2 : n0 ≤ h2.size := Nat.le_trans Z0 (Keep.of_wr W2).1
    have O2 : Old Z n0 h2 := OZ.wr W2 g0
    have N2 := Fr.snoc X2 N0 g0
    have F2_o0_modCount := F0.same W2
    refine en_aloadN X2 hx (hb hby d15_10) (pc' := 11) rfl rfl ?_
    refine en_aloadN X2 hx (hb hby d15_11) (pc' := 12) rfl rfl ?_
    refine en_aloadN X2 hx (hb hby d15_12) (pc' := 13) rfl rfl ?_
    refine en_getF X2 hx hZ hown (host := "") (Or.inl (tw hw 40 rfl)) Via.refl e2 F2_o0_elementData (hb hby d15_13) (pc' := 16) (fun T3 X3 e3 => ?_)
    refine en_aloadN X3 hx (hb hby d15_16) (pc' := 17) rfl rfl ?_
    refine en_getF X3 hx hZ hown (host := "") (Or.inl (tw hw 99 rfl)) Via.refl e3 F2_o0_size (hb hby d15_17) (pc' := 20) (fun T4 X4 e4 => ?_)
    refine en_callQ X4 hx hZ (rm := ({ frames := 3, cells := 1, slots := 10, locals := 41 } : Room)) (y := (⟨"java/util/ArrayList", "add", "(Ljava/lang/Object;[Ljava/lang/Object;I)V"⟩ : MethodName)) (K := "java/util/ArrayList") hown (tw hw 101 rfl) (tw hw 102 rfl) (tw hw 103 rfl) (tw hw 91 rfl) rfl (tw hw 20 rfl) (tw hw 105 rfl) E2_o0 (by decide) (rm16a l Z a0 hw [] o0 o1 (mc + (1 : Int32)) ea h2 n0 Z2 E2_o0 F2_o0_modCount F2_o0_size F2_o0_elementData g0 HD O2 E2_o1) e4 (by decide) 0 rfl (by decide) (by decide) (by decide) (by rw [hml]; rfl) (argsL := [(.ref o1), (.ref ea), (.int (0 : Int32))]) (rest := []) (lenOf pd_4 rfl) rfl (hb hby d15_20) (pc' := 23) (fun v6 T6 Lq6 X6 hQ6 => ?_)
    obtain ⟨h6, e6⟩ : ∃ q, T6.heap = q := ⟨_, rfl⟩
    rw [e6] at hQ6
    obtain ⟨rfl, Nq6, Kq6, On, ea', HA', he'⟩ := hQ6
    have N6 := Fr.app N2 Nq6
    show OwnEnds p e below s _ _ _ T6 m 23 #[.val (.ref o0), .val (.ref o1)] []
    have E6_o0 := E2_o0.keep Kq6
    have E6_o1 := E2_o1.keep Kq6
    have K6 : Keep h0 h6 [o0, ea] := Keep.trans K2 Kq6 (allS (Or.inl (List.mem_of_getElem? (i := 0) rfl)) (allS (Or.inl (List.mem_of_getElem? (i := 1) rfl)) all0))
    have Z6 : n0 ≤ h6.size := Nat.le_trans Z2 Kq6.1
    refine en_iconst X6 hx (1 : Int32) (hb hby d15_23) (pc' := 24) ?_
    exact en_retZ X6 hx hret hlk (hb hby d15_24) rfl (by decide) (by decide) (by first | (rw [e6]; exact ⟨rfl, N6, K6, On, ea', HA', he'.imp id fun q => Nat.le_trans (Keep.of_wr W2).1 q⟩) | exact ⟨rfl, N6, K6, On, ea', HA', he'.imp id fun q => Nat.le_trans (Keep.of_wr W2).1 q⟩)
  · refine en_aloadN X0 hx (hb hby d15_0) (pc' := 1) rfl rfl ?_
    refine en_dup X0 hx (hb hby d15_1) (pc' := 2) rfl ?_
    refine en_getF X0 hx hZ hown (host := "") (Or.inl (tw hw 97 rfl)) (Via.of (tw hw 98 rfl)) e0 F0 (hb hby d15_2) (pc' := 5) (fun T7 X7 e7 => ?_)
    refine en_iconst X7 hx (1 : Int32) (hb hby d15_5) (pc' := 6) ?_
    refine en_iadd X7 hx (hb hby d15_6) (pc' := 7) ?_
    refine en_putF X7 hx hZ hown (host := "") (Or.inl (tw hw 97 rfl)) (Via.of (tw hw 98 rfl)) e7 F0 E0 (Or.inl (tw hw 38 rfl)) (tw hw 19 rfl) (ty := .int) (by decide) rfl rfl (hb hby d15_7) (pc' := 10) (fun T8 h8 X8 e8 W8 => ?_)
    have F8_o0_size := F1.other W8 (Or.inr (slot_ne (Or.inl (tw hw 100 rfl)) (Or.inl (tw hw 38 rfl)) (by decide) (t := .int) (t' := .int) (by decide) (by decide)))
    have F8_o0_elementData := F2.other W8 (Or.inr (slot_ne (Or.inl (tw hw 41 rfl)) (Or.inl (tw hw 38 rfl)) (by decide) (t := (.array (.object "java/lang/Object"))) (t' := .int) (by decide) (by decide)))
    have E8_o0 := E0.wr W8
    have E8_o1 := EY.wr W8
    have V8_ea := Ve.other W8 (Ne.symm nee)
    have K8 : Keep h0 h8 [o0, ea] := (Keep.refl h0 [o0, ea]).wr W8 (Or.inl (List.mem_of_getElem? (i := 0) rfl))
    have Z8 : n0 ≤ h8.size := Nat.le_trans Z0 (Keep.of_wr W8).1
    have O8 : Old Z n0 h8 := OZ.wr W8 g0
    have N8 := Fr.snoc X8 N0 g0
    have F8_o0_modCount := F0.same W8
    refine en_aloadN X8 hx (hb hby d15_10) (pc' := 11) rfl rfl ?_
    refine en_aloadN X8 hx (hb hby d15_11) (pc' := 12) rfl rfl ?_
    refine en_aloadN X8 hx (hb hby d15_12) (pc' := 13) rfl rfl ?_
    refine en_getF X8 hx hZ hown (host := "") (Or.inl (tw hw 40 rfl)) Via.refl e8 F8_o0_elementData (hb hby d15_13) (pc' := 16) (fun T9 X9 e9 => ?_)
    refine en_aloadN X9 hx (hb hby d15_16) (pc' := 17) rfl rfl ?_
    refine en_getF X9 hx hZ hown (host := "") (Or.inl (tw hw 99 rfl)) Via.refl e9 F8_o0_size (hb hby d15_17) (pc' := 20) (fun T10 X10 e10 => ?_)
    refine en_callQ X10 hx hZ (rm := ({ frames := 0, cells := 0, slots := 0, locals := 0 } : Room)) (y := (⟨"java/util/ArrayList", "add", "(Ljava/lang/Object;[Ljava/lang/Object;I)V"⟩ : MethodName)) (K := "java/util/ArrayList") hown (tw hw 101 rfl) (tw hw 102 rfl) (tw hw 103 rfl) (tw hw 91 rfl) rfl (tw hw 20 rfl) (tw hw 105 rfl) E8_o0 (by decide) (rm16b l Z a0 hw [] o0 o1 ea sz (mc + (1 : Int32)) D ln ke es h8 n0 Z8 E8_o0 F8_o0_modCount F8_o0_size F8_o0_elementData g0 O8 E8_o1 hs hl ge nee hes Ov V8_ea) e10 (by decide) 0 rfl (by decide) (by decide) (by decide) (by rw [hml]; rfl) (argsL := [(.ref o1), (.ref ea), (.int sz)]) (rest := []) (lenOf pd_4 rfl) rfl (hb hby d15_20) (pc' := 23) (fun v12 T12 Lq12 X12 hQ12 => ?_)
    obtain ⟨h12, e12⟩ : ∃ q, T12.heap = q := ⟨_, rfl⟩
    rw [e12] at hQ12
    obtain ⟨rfl, Nq12, Kq12, On, ea', HA', he'⟩ := hQ12
    have N12 := Fr.app N8 Nq12
    show OwnEnds p e below s _ _ _ T12 m 23 #[.val (.ref o0), .val (.ref o1)] []
    have E12_o0 := E8_o0.keep Kq12
    have E12_o1 := E8_o1.keep Kq12
    have K12 : Keep h0 h12 [o0, ea] := Keep.trans K8 Kq12 (allS (Or.inl (List.mem_of_getElem? (i := 0) rfl)) (allS (Or.inl (List.mem_of_getElem? (i := 1) rfl)) all0))
    have Z12 : n0 ≤ h12.size := Nat.le_trans Z8 Kq12.1
    refine en_iconst X12 hx (1 : Int32) (hb hby d15_23) (pc' := 24) ?_
    exact en_retZ X12 hx hret hlk (hb hby d15_24) rfl (by decide) (by decide) (by first | (rw [e12]; exact ⟨rfl, N12, K12, On, ea', HA', he'.imp id fun q => Nat.le_trans (Keep.of_wr W8).1 q⟩) | exact ⟨rfl, N12, K12, On, ea', HA', he'.imp id fun q => Nat.le_trans (Keep.of_wr W8).1 q⟩)
theorem d20_0 : decode jdk_38_method_8_code 0 = .ok (.aload_n 0, 1) := by decide +kernel
theorem d20_1 : decode jdk_38_method_8_code 1 = .ok (.getfield 48, 3) := by decide +kernel
theorem d20_4 : decode jdk_38_method_8_code 4 = .ok (.ireturn, 1) := by decide +kernel
theorem ef_20 (m : MethodId) (o0 : Addr) : entryFrame m #[(.ref o0)] 1 = mkF m 0 #[.val (.ref o0)] [] := by first | (simp [entryFrame, mkF, argsToLocals, Value.category]; done) | rfl
set_option maxRecDepth 65536 in
set_option maxHeartbeats 40000000 in
theorem rm20 (l : Launch) (Z : State) (a0 : Array Value) (hw : ∀ d ∈ tables_1, d.before a0 Z = true) (ws : List Jvm.Cond) (o0 : Addr) (sz : Int32) (h0 : Heap) (n0 : Nat) (Z0 : n0 ≤ h0.size) (F1 : Fld Z h0 o0 "java/util/ArrayList" "size" "I" (.int sz)) : OwnMeets l Z (⟨"java/util/ArrayList", "size", "()I"⟩ : MethodName) jdk_38_method_8_code 1 (some .int) ws ({ frames := 0, cells := 0, slots := 0, locals := 0 } : Room) #[(.ref o0)] h0 (PQ (.int sz) h0) := by
  refine OwnMeets.of_walk (plainFor_of_name pn_3) (fun m => ef_20 m o0) ?_
  intro p e s m below meth c T0 X0 K e0
  obtain ⟨hx, hby, hml, hret, hlk, hnm, hown, hZ⟩ := id K
  have N0 := Fr.nil n0
  refine en_aloadN X0 hx (hb hby d20_0) (pc' := 1) rfl rfl ?_
  refine en_getF X0 hx hZ hown (host := "") (Or.inl (tw hw 99 rfl)) Via.refl e0 F1 (hb hby d20_1) (pc' := 4) (fun T1 X1 e1 => ?_)
  exact en_retI X1 hx hret hlk (hb hby d20_4) (by decide) (by decide) (by first | (rw [e1]; exact ⟨rfl, rfl, rfl⟩) | exact ⟨rfl, rfl, rfl⟩)
theorem d13_0 : decode prog_19_method_17_code 0 = .ok (.aload_n 0, 1) := by decide +kernel
theorem d13_1 : decode prog_19_method_17_code 1 = .ok (.dup, 1) := by decide +kernel
theorem d13_2 : decode prog_19_method_17_code 2 = .ok (.getfield 53, 3) := by decide +kernel
theorem d13_5 : decode prog_19_method_17_code 5 = .ok (.lload_n 1, 1) := by decide +kernel
theorem d13_6 : decode prog_19_method_17_code 6 = .ok (.ladd, 1) := by decide +kernel
theorem d13_7 : decode prog_19_method_17_code 7 = .ok (.putfield 53, 3) := by decide +kernel
theorem d13_10 : decode prog_19_method_17_code 10 = .ok (.aload_n 0, 1) := by decide +kernel
theorem d13_11 : decode prog_19_method_17_code 11 = .ok (.getfield 53, 3) := by decide +kernel
theorem d13_14 : decode prog_19_method_17_code 14 = .ok (.aload_n 0, 1) := by decide +kernel
theorem d13_15 : decode prog_19_method_17_code 15 = .ok (.getfield 9, 3) := by decide +kernel
theorem d13_18 : decode prog_19_method_17_code 18 = .ok (.lcmp, 1) := by decide +kernel
theorem d13_19 : decode prog_19_method_17_code 19 = .ok (.ifCond .le 20, 3) := by decide +kernel
theorem d13_22 : decode prog_19_method_17_code 22 = .ok (.new 56, 3) := by decide +kernel
theorem d13_25 : decode prog_19_method_17_code 25 = .ok (.dup, 1) := by decide +kernel
theorem d13_26 : decode prog_19_method_17_code 26 = .ok (.aload_n 0, 1) := by decide +kernel
theorem d13_27 : decode prog_19_method_17_code 27 = .ok (.getfield 9, 3) := by decide +kernel
theorem d13_30 : decode prog_19_method_17_code 30 = .ok (.invokedynamic 58, 5) := by decide +kernel
theorem d13_35 : decode prog_19_method_17_code 35 = .ok (.invokespecial 62, 3) := by decide +kernel
theorem d13_38 : decode prog_19_method_17_code 38 = .ok (.athrow, 1) := by decide +kernel
theorem d13_39 : decode prog_19_method_17_code 39 = .ok (.return_, 1) := by decide +kernel
theorem ef_13 (m : MethodId) (o0 : Addr) (x1 : Int64) : entryFrame m #[(.ref o0), (.long x1)] 3 = mkF m 0 #[.val (.ref o0), .val (.long x1), .second] [] := by first | (simp [entryFrame, mkF, argsToLocals, Value.category]; done) | rfl
theorem pn_4 : plainName "com/example/querent/querent/match/Automaton$Postfix" = true := by first | (simp [plainName, overriddenIn]; done) | decide +kernel
set_option maxRecDepth 65536 in
set_option maxHeartbeats 40000000 in
theorem rm13 (l : Launch) (Z : State) (a0 : Array Value) (hw : ∀ d ∈ tables_1, d.before a0 Z = true) (ws : List Jvm.Cond) (o0 : Addr) (x1 : Int64) (D : Addr) (r : Addr) (b : Addr) (kb : ClassId) (st : Int64) (sz : Int32) (vs : List Int32) (ln : Nat) (ea : Addr) (h0 : Heap) (n0 : Nat) (Z0 : n0 ≤ h0.size) (H0 : own_BD Z n0 D o0 r b kb st sz vs ln ea h0) : OwnMeets l Z (⟨"com/example/querent/querent/match/Automaton$Postfix", "count", "(J)V"⟩ : MethodName) prog_19_method_17_code 3 none ws ({ frames := 0, cells := 0, slots := 0, locals := 0 } : Room) #[(.ref o0), (.long x1)] h0 (fun v h L => v = none ∧ Fr n0 L ∧ Keep h0 h [o0, b] ∧ own_BD Z n0 D o0 r b kb (st + x1) sz vs ln ea h) := by
  refine OwnMeets.of_walk (plainFor_of_name pn_4) (fun m => ef_13 m o0 x1) ?_
  intro p e s m below meth c T0 X0 K e0
  obtain ⟨hx, hby, hml, hret, hlk, hnm, hown, hZ⟩ := id K
  have N0 := Fr.nil n0
  obtain ⟨cE1, cM1, cS1, cT1, cP1, cZ1, cV1, cL1, cA1, cB1, n11, n21, n31, n41, n51, cO1, cR1⟩ := id H0
  refine en_aloadN X0 hx (hb hby d13_0) (pc' := 1) rfl rfl ?_
  refine en_dup X0 hx (hb hby d13_1) (pc' := 2) rfl ?_
  refine en_getF X0 hx hZ hown (host := "") (Or.inl (tw hw 81 rfl)) Via.refl e0 cS1 (hb hby d13_2) (pc' := 5) (fun T2 X2 e2 => ?_)
  refine en_lloadN X2 hx (hb hby d13_5) (pc' := 6) rfl ?_
  refine en_ladd X2 hx (hb hby d13_6) (pc' := 7) ?_
  refine en_putF X2 hx hZ hown (host := "") (Or.inl (tw hw 81 rfl)) Via.refl e2 cS1 cE1 (Or.inl (tw hw 82 rfl)) (tw hw 2 rfl) (ty := .long) (by decide) rfl rfl (hb hby d13_7) (pc' := 10) (fun T3 h3 X3 e3 W3 => ?_)
  have F3_o0_maxStates := cM1.other W3 (Or.inr (slot_ne (Or.inr (tw hw 17 rfl)) (Or.inl (tw hw 82 rfl)) (by decide) (t := .long) (t' := .long) (by decide) (by decide)))
  have F3_o0_sets := cT1.other W3 (Or.inr (slot_ne (Or.inr (tw hw 43 rfl)) (Or.inl (tw hw 82 rfl)) (by decide) (t := (.object "java/util/List")) (t' := .long) (by decide) (by decide)))
  have F3_o0_postfix := cP1.other W3 (Or.inr (slot_ne (Or.inl (tw hw 46 rfl)) (Or.inl (tw hw 82 rfl)) (by decide) (t := (.array .int)) (t' := .long) (by decide) (by decide)))
  have F3_o0_size := cZ1.other W3 (Or.inr (slot_ne (Or.inl (tw hw 53 rfl)) (Or.inl (tw hw 82 rfl)) (by decide) (t := .int) (t' := .long) (by decide) (by decide)))
  have E3_o0 := cE1.wr W3
  have V3_b := cV1.other W3 (Ne.symm n11)
  have K3 : Keep h0 h3 [o0, b] := (Keep.refl h0 [o0, b]).wr W3 (Or.inl (List.mem_of_getElem? (i := 0) rfl))
  have Z3 : n0 ≤ h3.size := Nat.le_trans Z0 (Keep.of_wr W3).1
  have N3 := Fr.snoc X3 N0 cA1
  have F3_o0_states := cS1.same W3
  refine en_aloadN X3 hx (hb hby d13_10) (pc' := 11) rfl rfl ?_
  refine en_getF X3 hx hZ hown (host := "") (Or.inl (tw hw 81 rfl)) Via.refl e3 F3_o0_states (hb hby d13_11) (pc' := 14) (fun T4 X4 e4 => ?_)
  refine en_aloadN X4 hx (hb hby d13_14) (pc' := 15) rfl rfl ?_
  refine en_getF X4 hx hZ hown (host := "") (Or.inl (tw hw 16 rfl)) Via.refl e4 F3_o0_maxStates (hb hby d13_15) (pc' := 18) (fun T5 X5 e5 => ?_)
  refine en_lcmp X5 hx (hb hby d13_18) (pc' := 19) ?_
  refine en_ifYes X5 hx (hb hby d13_19) (nwgt (own_top _)).2 (pc' := 39) ?_
  exact en_ret0 X5 hx hret hlk (hb hby d13_39) (by decide) (by decide) (by first | (rw [e5]; exact ⟨rfl, N3, K3, ⟨E3_o0, F3_o0_maxStates, F3_o0_states, F3_o0_sets, F3_o0_postfix, F3_o0_size, V3_b, cL1, cA1, cB1, n11, n21, n31, n41, n51, (cO1.keep (K3 : Keep h0 h3 [o0, b]) (allS (P := fun x => n0 ≤ x) cA1 (allS (P := fun x => n0 ≤ x) cB1 all0))), (cR1.keep (K3 : Keep h0 h3 [o0, b]) (ninS n21 (ninS n31 nin0)) (ninS n41 (ninS n51 nin0)))⟩⟩) | exact ⟨rfl, N3, K3, ⟨E3_o0, F3_o0_maxStates, F3_o0_states, F3_o0_sets, F3_o0_postfix, F3_o0_size, V3_b, cL1, cA1, cB1, n11, n21, n31, n41, n51, (cO1.keep (K3 : Keep h0 h3 [o0, b]) (allS (P := fun x => n0 ≤ x) cA1 (allS (P := fun x => n0 ≤ x) cB1 all0))), (cR1.keep (K3 : Keep h0 h3 [o0, b]) (ninS n21 (ninS n31 nin0)) (ninS n41 (ninS n51 nin0)))⟩⟩)
theorem d21_0 : decode prog_17_method_3_code 0 = .ok (.aload_n 0, 1) := by decide +kernel
theorem d21_1 : decode prog_17_method_3_code 1 = .ok (.getfield 24, 3) := by decide +kernel
theorem d21_4 : decode prog_17_method_3_code 4 = .ok (.aload_n 0, 1) := by decide +kernel
theorem d21_5 : decode prog_17_method_3_code 5 = .ok (.getfield 20, 3) := by decide +kernel
theorem d21_8 : decode prog_17_method_3_code 8 = .ok (.arraylength, 1) := by decide +kernel
theorem d21_9 : decode prog_17_method_3_code 9 = .ok (.if_icmp .ne 20, 3) := by decide +kernel
theorem d21_12 : decode prog_17_method_3_code 12 = .ok (.aload_n 0, 1) := by decide +kernel
theorem d21_13 : decode prog_17_method_3_code 13 = .ok (.aload_n 0, 1) := by decide +kernel
theorem d21_14 : decode prog_17_method_3_code 14 = .ok (.getfield 20, 3) := by decide +kernel
theorem d21_17 : decode prog_17_method_3_code 17 = .ok (.iconst 2, 1) := by decide +kernel
theorem d21_18 : decode prog_17_method_3_code 18 = .ok (.aload_n 0, 1) := by decide +kernel
theorem d21_19 : decode prog_17_method_3_code 19 = .ok (.getfield 24, 3) := by decide +kernel
theorem d21_22 : decode prog_17_method_3_code 22 = .ok (.imul, 1) := by decide +kernel
theorem d21_23 : decode prog_17_method_3_code 23 = .ok (.invokestatic 28, 3) := by decide +kernel
theorem d21_26 : decode prog_17_method_3_code 26 = .ok (.putfield 20, 3) := by decide +kernel
theorem d21_29 : decode prog_17_method_3_code 29 = .ok (.aload_n 0, 1) := by decide +kernel
theorem d21_30 : decode prog_17_method_3_code 30 = .ok (.getfield 20, 3) := by decide +kernel
theorem d21_33 : decode prog_17_method_3_code 33 = .ok (.aload_n 0, 1) := by decide +kernel
theorem d21_34 : decode prog_17_method_3_code 34 = .ok (.dup, 1) := by decide +kernel
theorem d21_35 : decode prog_17_method_3_code 35 = .ok (.getfield 24, 3) := by decide +kernel
theorem d21_38 : decode prog_17_method_3_code 38 = .ok (.dup_x1, 1) := by decide +kernel
theorem d21_39 : decode prog_17_method_3_code 39 = .ok (.iconst 1, 1) := by decide +kernel
theorem d21_40 : decode prog_17_method_3_code 40 = .ok (.iadd, 1) := by decide +kernel
theorem d21_41 : decode prog_17_method_3_code 41 = .ok (.putfield 24, 3) := by decide +kernel
theorem d21_44 : decode prog_17_method_3_code 44 = .ok (.iload_n 1, 1) := by decide +kernel
theorem d21_45 : decode prog_17_method_3_code 45 = .ok (.iastore, 1) := by decide +kernel
theorem d21_46 : decode prog_17_method_3_code 46 = .ok (.return_, 1) := by decide +kernel
theorem ef_21 (m : MethodId) (o0 : Addr) (x1 : Int32) : entryFrame m #[(.ref o0), (.int x1)] 2 = mkF m 0 #[.val (.ref o0), .val (.int x1)] [] := by first | (simp [entryFrame, mkF, argsToLocals, Value.category]; done) | rfl
theorem pn_5 : plainName "com/example/querent/querent/match/Automaton$Builder" = true := by first | (simp [plainName, overriddenIn]; done) | decide +kernel
set_option maxRecDepth 65536 in
set_option maxHeartbeats 40000000 in
theorem rm21 (l : Launch) (Z : State) (a0 : Array Value) (hw : ∀ d ∈ tables_1, d.before a0 Z = true) (ws : List Jvm.Cond) (o0 : Addr) (x1 : Int32) (n : Nat) (D : Addr) (r : Addr) (b : Addr) (kb : ClassId) (st : Int64) (sz : Int32) (vs : List Int32) (ln : Nat) (ea : Addr) (h0 : Heap) (n0 : Nat) (Z0 : n0 ≤ h0.size) (H0 : own_BD Z n0 D o0 r b kb st sz vs ln ea h0) (hs : sz.toInt = n) (hn : n < 16) : OwnMeets l Z (⟨"com/example/querent/querent/match/Automaton$Builder", "write", "(I)V"⟩ : MethodName) prog_17_method_3_code 2 none ws ({ frames := 0, cells := 0, slots := 0, locals := 0 } : Room) #[(.ref o0), (.int x1)] h0 (fun v h L => v = none ∧ Fr n0 L ∧ Keep h0 h [o0, b] ∧ own_BD Z n0 D o0 r b kb st (sz + (1 : Int32)) (vs.set n x1) ln ea h) := by
  refine OwnMeets.of_walk (plainFor_of_name pn_5) (fun m => ef_21 m o0 x1) ?_
  intro p e s m below meth c T0 X0 K e0
  obtain ⟨hx, hby, hml, hret, hlk, hnm, hown, hZ⟩ := id K
  have N0 := Fr.nil n0
  obtain ⟨cE1, cM1, cS1, cT1, cP1, cZ1, cV1, cL1, cA1, cB1, n11, n21, n31, n41, n51, cO1, cR1⟩ := id H0
  refine en_aloadN X0 hx (hb hby d21_0) (pc' := 1) rfl rfl ?_
  refine en_getF X0 hx hZ hown (host := "") (Or.inl (tw hw 52 rfl)) Via.refl e0 cZ1 (hb hby d21_1) (pc' := 4) (fun T2 X2 e2 => ?_)
  refine en_aloadN X2 hx (hb hby d21_4) (pc' := 5) rfl rfl ?_
  refine en_getF X2 hx hZ hown (host := "") (Or.inl (tw hw 45 rfl)) Via.refl e2 cP1 (hb hby d21_5) (pc' := 8) (fun T3 X3 e3 => ?_)
  refine en_len X3 hx hZ e3 cV1 (hb hby d21_8) (pc' := 9) ?_
  refine en_icmpYes X3 hx (hb hby d21_9) (feq (own_ne16 hs hn)).2 (pc' := 29) ?_
  refine en_aloadN X3 hx (hb hby d21_29) (pc' := 30) rfl rfl ?_
  refine en_getF X3 hx hZ hown (host := "") (Or.inl (tw hw 45 rfl)) Via.refl e3 cP1 (hb hby d21_30) (pc' := 33) (fun T4 X4 e4 => ?_)
  refine en_aloadN X4 hx (hb hby d21_33) (pc' := 34) rfl rfl ?_
  refine en_dup X4 hx (hb hby d21_34) (pc' := 35) rfl ?_
  refine en_getF X4 hx hZ hown (host := "") (Or.inl (tw hw 52 rfl)) Via.refl e4 cZ1 (hb hby d21_35) (pc' := 38) (fun T5 X5 e5 => ?_)
  refine en_dupX1 X5 hx (hb hby d21_38) (pc' := 39) rfl rfl ?_
  refine en_iconst X5 hx (1 : Int32) (hb hby d21_39) (pc' := 40) ?_
  refine en_iadd X5 hx (hb hby d21_40) (pc' := 41) ?_
  refine en_putF X5 hx hZ hown (host := "") (Or.inl (tw hw 52 rfl)) Via.refl e5 cZ1 cE1 (Or.inl (tw hw 53 rfl)) (tw hw 2 rfl) (ty := .int) (by decide) rfl rfl (hb hby d21_41) (pc' := 44) (fun T6 h6 X6 e6 W6 => ?_)
  have F6_o0_maxStates := cM1.other W6 (Or.inr (slot_ne (Or.inr (tw hw 17 rfl)) (Or.inl (tw hw 53 rfl)) (by decide) (t := .long) (t' := .int) (by decide) (by decide)))
  have F6_o0_states := cS1.other W6 (Or.inr (slot_ne (Or.inl (tw hw 82 rfl)) (Or.inl (tw hw 53 rfl)) (by decide) (t := .long) (t' := .int) (by decide) (by decide)))
  have F6_o0_sets := cT1.other W6 (Or.inr (slot_ne (Or.inr (tw hw 43 rfl)) (Or.inl (tw hw 53 rfl)) (by decide) (t := (.object "java/util/List")) (t' := .int) (by decide) (by decide)))
  have F6_o0_postfix := cP1.other W6 (Or.inr (slot_ne (Or.inl (tw hw 46 rfl)) (Or.inl (tw hw 53 rfl)) (by decide) (t := (.array .int)) (t' := .int) (by decide) (by decide)))
  have E6_o0 := cE1.wr W6
  have V6_b := cV1.other W6 (Ne.symm n11)
  have K6 : Keep h0 h6 [o0, b] := (Keep.refl h0 [o0, b]).wr W6 (Or.inl (List.mem_of_getElem? (i := 0) rfl))
  have Z6 : n0 ≤ h6.size := Nat.le_trans Z0 (Keep.of_wr W6).1
  have N6 := Fr.snoc X6 N0 cA1
  have F6_o0_size := cZ1.same W6
  refine en_iloadN X6 hx (hb hby d21_44) (pc' := 45) rfl ?_
  refine en_iastore X6 hx hZ e6 V6_b (own_in hs hn) n (own_clamp hs) (by simp [cL1]; omega) (hb hby d21_45) (pc' := 46) (fun T7 h7 X7 e7 W7 V70 => ?_)
  have F7_o0_maxStates := F6_o0_maxStates.other W7 (Or.inl n11)
  have F7_o0_states := F6_o0_states.other W7 (Or.inl n11)
  have F7_o0_sets := F6_o0_sets.other W7 (Or.inl n11)
  have F7_o0_postfix := F6_o0_postfix.other W7 (Or.inl n11)
  have F7_o0_size := F6_o0_size.other W7 (Or.inl n11)
  have E7_o0 := E6_o0.wr W7
  have K7 : Keep h0 h7 [o0, b] := K6.wr W7 (Or.inl (List.mem_of_getElem? (i := 1) rfl))
  have Z7 : n0 ≤ h7.size := Nat.le_trans Z6 (Keep.of_wr W7).1
  have N7 := Fr.snoc X7 N6 cB1
  have V7 : Arv Z h7 b kb .int (16 : Int32) ((vs.set n x1).map Value.int) (.int (0 : Int32)) := by rw [List.map_set]; exact V70
  exact en_ret0 X7 hx hret hlk (hb hby d21_46) (by decide) (by decide) (by first | (rw [e7]; exact ⟨rfl, N7, K7, ⟨E7_o0, F7_o0_maxStates, F7_o0_states, F7_o0_sets, F7_o0_postfix, F7_o0_size, V7, (by simp [cL1]), cA1, cB1, n11, n21, n31, n41, n51, (cO1.keep (K7 : Keep h0 h7 [o0, b]) (allS (P := fun x => n0 ≤ x) cA1 (allS (P := fun x => n0 ≤ x) cB1 all0))), (cR1.keep (K7 : Keep h0 h7 [o0, b]) (ninS n21 (ninS n31 nin0)) (ninS n41 (ninS n51 nin0)))⟩⟩) | exact ⟨rfl, N7, K7, ⟨E7_o0, F7_o0_maxStates, F7_o0_states, F7_o0_sets, F7_o0_postfix, F7_o0_size, V7, (by simp [cL1]), cA1, cB1, n11, n21, n31, n41, n51, (cO1.keep (K7 : Keep h0 h7 [o0, b]) (allS (P := fun x => n0 ≤ x) cA1 (allS (P := fun x => n0 ≤ x) cB1 all0))), (cR1.keep (K7 : Keep h0 h7 [o0, b]) (ninS n21 (ninS n31 nin0)) (ninS n41 (ninS n51 nin0)))⟩⟩)
theorem d22_0 : decode prog_19_method_6_code 0 = .ok (.aload_n 0, 1) := by decide +kernel
theorem d22_1 : decode prog_19_method_6_code 1 = .ok (.iconst (-1), 1) := by decide +kernel
theorem d22_2 : decode prog_19_method_6_code 2 = .ok (.invokevirtual 30, 3) := by decide +kernel
theorem d22_5 : decode prog_19_method_6_code 5 = .ok (.return_, 1) := by decide +kernel
theorem ef_22 (m : MethodId) (o0 : Addr) : entryFrame m #[(.ref o0)] 1 = mkF m 0 #[.val (.ref o0)] [] := by first | (simp [entryFrame, mkF, argsToLocals, Value.category]; done) | rfl
theorem pd_5 : parseMethodDescriptor "(I)V" = some ⟨[.int], none⟩ := by decide +kernel
set_option maxRecDepth 65536 in
set_option maxHeartbeats 40000000 in
theorem rm22 (l : Launch) (Z : State) (a0 : Array Value) (hw : ∀ d ∈ tables_1, d.before a0 Z = true) (ws : List Jvm.Cond) (o0 : Addr) (n : Nat) (D : Addr) (r : Addr) (b : Addr) (kb : ClassId) (st : Int64) (sz : Int32) (vs : List Int32) (ln : Nat) (ea : Addr) (h0 : Heap) (n0 : Nat) (Z0 : n0 ≤ h0.size) (H0 : own_BD Z n0 D o0 r b kb st sz vs ln ea h0) (hs : sz.toInt = n) (hn : n < 16) : OwnMeets l Z (⟨"com/example/querent/querent/match/Automaton$Postfix", "concat", "()V"⟩ : MethodName) prog_19_method_6_code 1 none ws ({ frames := 1, cells := 0, slots := 0, locals := 13 } : Room) #[(.ref o0)] h0 (fun v h L => v = none ∧ Fr n0 L ∧ Keep h0 h [o0, b] ∧ own_BD Z n0 D o0 r b kb st (sz + (1 : Int32)) (vs.set n (-1 : Int32)) ln ea h) := by
  refine OwnMeets.of_walk (plainFor_of_name pn_4) (fun m => ef_22 m o0) ?_
  intro p e s m below meth c T0 X0 K e0
  obtain ⟨hx, hby, hml, hret, hlk, hnm, hown, hZ⟩ := id K
  have N0 := Fr.nil n0
  obtain ⟨cE1, cM1, cS1, cT1, cP1, cZ1, cV1, cL1, cA1, cB1, n11, n21, n31, n41, n51, cO1, cR1⟩ := id H0
  refine en_aloadN X0 hx (hb hby d22_0) (pc' := 1) rfl rfl ?_
  refine en_iconst X0 hx (-1 : Int32) (hb hby d22_1) (pc' := 2) ?_
  refine en_callV X0 hx hZ (rm := ({ frames := 0, cells := 0, slots := 0, locals := 0 } : Room)) (y := (⟨"com/example/querent/querent/match/Automaton$Postfix", "write", "(I)V"⟩ : MethodName)) (z := (⟨"com/example/querent/querent/match/Automaton$Builder", "write", "(I)V"⟩ : MethodName)) (K := "com/example/querent/querent/match/Automaton$Builder") hown (tw hw 142 rfl) (tw hw 143 rfl) (nf_by (args := #[]) (mvT hZ (tw hw 70 rfl)) rfl) (tw hw 144 rfl) (tw hw 133 rfl) (tw hw 3 rfl) (tw hw 135 rfl) cE1 (by decide) (rm21 l Z a0 hw [] o0 (-1 : Int32) n D r b kb st sz vs ln ea h0 n0 Z0 H0 hs hn) e0 (by decide) 0 rfl (by decide) (by decide) (by decide) (by rw [hml]; rfl) (argsL := [(.int (-1 : Int32))]) (rest := []) (lenOf pd_5 rfl) rfl (hb hby d22_2) (pc' := 5) (fun v3 T3 Lq3 X3 hQ3 => ?_)
  obtain ⟨h3, e3⟩ : ∃ q, T3.heap = q := ⟨_, rfl⟩
  rw [e3] at hQ3
  obtain ⟨rfl, Nq3, Kq3, Hq2⟩ := hQ3
  have N3 := Fr.app N0 Nq3
  show OwnEnds p e below s _ _ _ T3 m 5 #[.val (.ref o0)] []
  have E3_o0 := cE1.keep Kq3
  have K3 : Keep h0 h3 [o0, b] := Keep.trans (Keep.refl h0 [o0, b]) Kq3 (allS (Or.inl (List.mem_of_getElem? (i := 0) rfl)) (allS (Or.inl (List.mem_of_getElem? (i := 1) rfl)) all0))
  have Z3 : n0 ≤ h3.size := Nat.le_trans Z0 Kq3.1
  obtain ⟨cE4, cM4, cS4, cT4, cP4, cZ4, cV4, cL4, cA4, cB4, n14, n24, n34, n44, n54, cO4, cR4⟩ := id Hq2
  exact en_ret0 X3 hx hret hlk (hb hby d22_5) (by decide) (by decide) (by first | (rw [e3]; exact ⟨rfl, N3, K3, Hq2⟩) | exact ⟨rfl, N3, K3, Hq2⟩)
theorem d23_0 : decode prog_19_method_8_code 0 = .ok (.aload_n 0, 1) := by decide +kernel
theorem d23_1 : decode prog_19_method_8_code 1 = .ok (.lconst 1, 1) := by decide +kernel
theorem d23_2 : decode prog_19_method_8_code 2 = .ok (.invokevirtual 15, 3) := by decide +kernel
theorem d23_5 : decode prog_19_method_8_code 5 = .ok (.aload_n 0, 1) := by decide +kernel
theorem d23_6 : decode prog_19_method_8_code 6 = .ok (.bipush (-3), 2) := by decide +kernel
theorem d23_8 : decode prog_19_method_8_code 8 = .ok (.invokevirtual 30, 3) := by decide +kernel
theorem d23_11 : decode prog_19_method_8_code 11 = .ok (.return_, 1) := by decide +kernel
theorem ef_23 (m : MethodId) (o0 : Addr) : entryFrame m #[(.ref o0)] 1 = mkF m 0 #[.val (.ref o0)] [] := by first | (simp [entryFrame, mkF, argsToLocals, Value.category]; done) | rfl
theorem pd_6 : parseMethodDescriptor "(J)V" = some ⟨[.long], none⟩ := by decide +kernel
set_option maxRecDepth 65536 in
set_option maxHeartbeats 40000000 in
theorem rm23 (l : Launch) (Z : State) (a0 : Array Value) (hw : ∀ d ∈ tables_1, d.before a0 Z = true) (ws : List Jvm.Cond) (o0 : Addr) (n : Nat) (D : Addr) (r : Addr) (b : Addr) (kb : ClassId) (st : Int64) (sz : Int32) (vs : List Int32) (ln : Nat) (ea : Addr) (h0 : Heap) (n0 : Nat) (Z0 : n0 ≤ h0.size) (H0 : own_BD Z n0 D o0 r b kb st sz vs ln ea h0) (hs : sz.toInt = n) (hn : n < 16) : OwnMeets l Z (⟨"com/example/querent/querent/match/Automaton$Postfix", "star", "()V"⟩ : MethodName) prog_19_method_8_code 1 none ws ({ frames := 1, cells := 0, slots := 0, locals := 14 } : Room) #[(.ref o0)] h0 (fun v h L => v = none ∧ Fr n0 L ∧ Keep h0 h [o0, b] ∧ own_BD Z n0 D o0 r b kb (st + (1 : Int64)) (sz + (1 : Int32)) (vs.set n (-3 : Int32)) ln ea h) := by
  refine OwnMeets.of_walk (plainFor_of_name pn_4) (fun m => ef_23 m o0) ?_
  intro p e s m below meth c T0 X0 K e0
  obtain ⟨hx, hby, hml, hret, hlk, hnm, hown, hZ⟩ := id K
  have N0 := Fr.nil n0
  obtain ⟨cE1, cM1, cS1, cT1, cP1, cZ1, cV1, cL1, cA1, cB1, n11, n21, n31, n41, n51, cO1, cR1⟩ := id H0
  refine en_aloadN X0 hx (hb hby d23_0) (pc' := 1) rfl rfl ?_
  refine en_lconst X0 hx (1 : Int64) (hb hby d23_1) (pc' := 2) ?_
  refine en_callQ X0 hx hZ (rm := ({ frames := 0, cells := 0, slots := 0, locals := 0 } : Room)) (y := (⟨"com/example/querent/querent/match/Automaton$Postfix", "count", "(J)V"⟩ : MethodName)) (K := "com/example/querent/querent/match/Automaton$Builder") hown (tw hw 77 rfl) (tw hw 78 rfl) (tw hw 79 rfl) (tw hw 70 rfl) rfl (tw hw 11 rfl) (tw hw 80 rfl) cE1 (by decide) (rm13 l Z a0 hw [] o0 (1 : Int64) D r b kb st sz vs ln ea h0 n0 Z0 H0 ) e0 (by decide) 0 rfl (by decide) (by decide) (by decide) (by rw [hml]; rfl) (argsL := [(.long (1 : Int64))]) (rest := []) (lenOf pd_6 rfl) rfl (hb hby d23_2) (pc' := 5) (fun v3 T3 Lq3 X3 hQ3 => ?_)
  obtain ⟨h3, e3⟩ : ∃ q, T3.heap = q := ⟨_, rfl⟩
  rw [e3] at hQ3
  obtain ⟨rfl, Nq3, Kq3, Hq2⟩ := hQ3
  have N3 := Fr.app N0 Nq3
  show OwnEnds p e below s _ _ _ T3 m 5 #[.val (.ref o0)] []
  have E3_o0 := cE1.keep Kq3
  have K3 : Keep h0 h3 [o0, b] := Keep.trans (Keep.refl h0 [o0, b]) Kq3 (allS (Or.inl (List.mem_of_getElem? (i := 0) rfl)) (allS (Or.inl (List.mem_of_getElem? (i := 1) rfl)) all0))
  have Z3 : n0 ≤ h3.size := Nat.le_trans Z0 Kq3.1
  obtain ⟨cE4, cM4, cS4, cT4, cP4, cZ4, cV4, cL4, cA4, cB4, n14, n24, n34, n44, n54, cO4, cR4⟩ := id Hq2
  refine en_aloadN X3 hx (hb hby d23_5) (pc' := 6) rfl rfl ?_
  refine en_bipush X3 hx (-3 : Int32) (hb hby d23_6) (pc' := 8) ?_
  refine en_callV X3 hx hZ (rm := ({ frames := 0, cells := 0, slots := 0, locals := 0 } : Room)) (y := (⟨"com/example/querent/querent/match/Automaton$Postfix", "write", "(I)V"⟩ : MethodName)) (z := (⟨"com/example/querent/querent/match/Automaton$Builder", "write", "(I)V"⟩ : MethodName)) (K := "com/example/querent/querent/match/Automaton$Builder") hown (tw hw 142 rfl) (tw hw 143 rfl) (nf_by (args := #[]) (mvT hZ (tw hw 70 rfl)) rfl) (tw hw 144 rfl) (tw hw 133 rfl) (tw hw 3 rfl) (tw hw 135 rfl) cE4 (by decide) (rm21 l Z a0 hw [] o0 (-3 : Int32) n D r b kb (st + (1 : Int64)) sz vs ln ea h3 n0 Z3 Hq2 hs hn) e3 (by decide) 0 rfl (by decide) (by decide) (by decide) (by rw [hml]; rfl) (argsL := [(.int (-3 : Int32))]) (rest := []) (lenOf pd_5 rfl) rfl (hb hby d23_8) (pc' := 11) (fun v6 T6 Lq6 X6 hQ6 => ?_)
  obtain ⟨h6, e6⟩ : ∃ q, T6.heap = q := ⟨_, rfl⟩
  rw [e6] at hQ6
  obtain ⟨rfl, Nq6, Kq6, Hq5⟩ := hQ6
  have N6 := Fr.app N3 Nq6
  show OwnEnds p e below s _ _ _ T6 m 11 #[.val (.ref o0)] []
  have E6_o0 := cE4.keep Kq6
  have K6 : Keep h0 h6 [o0, b] := Keep.trans K3 Kq6 (allS (Or.inl (List.mem_of_getElem? (i := 0) rfl)) (allS (Or.inl (List.mem_of_getElem? (i := 1) rfl)) all0))
  have Z6 : n0 ≤ h6.size := Nat.le_trans Z3 Kq6.1
  obtain ⟨cE7, cM7, cS7, cT7, cP7, cZ7, cV7, cL7, cA7, cB7, n17, n27, n37, n47, n57, cO7, cR7⟩ := id Hq5
  exact en_ret0 X6 hx hret hlk (hb hby d23_11) (by decide) (by decide) (by first | (rw [e6]; exact ⟨rfl, N6, K6, Hq5⟩) | exact ⟨rfl, N6, K6, Hq5⟩)
theorem d24_0 : decode prog_19_method_5_code 0 = .ok (.aload_n 0, 1) := by decide +kernel
theorem d24_1 : decode prog_19_method_5_code 1 = .ok (.lconst 1, 1) := by decide +kernel
theorem d24_2 : decode prog_19_method_5_code 2 = .ok (.invokevirtual 15, 3) := by decide +kernel
theorem d24_5 : decode prog_19_method_5_code 5 = .ok (.aload_n 0, 1) := by decide +kernel
theorem d24_6 : decode prog_19_method_5_code 6 = .ok (.bipush (-6), 2) := by decide +kernel
theorem d24_8 : decode prog_19_method_5_code 8 = .ok (.invokevirtual 30, 3) := by decide +kernel
theorem d24_11 : decode prog_19_method_5_code 11 = .ok (.return_, 1) := by decide +kernel
theorem ef_24 (m : MethodId) (o0 : Addr) : entryFrame m #[(.ref o0)] 1 = mkF m 0 #[.val (.ref o0)] [] := by first | (simp [entryFrame, mkF, argsToLocals, Value.category]; done) | rfl
set_option maxRecDepth 65536 in
set_option maxHeartbeats 40000000 in
theorem rm24 (l : Launch) (Z : State) (a0 : Array Value) (hw : ∀ d ∈ tables_1, d.before a0 Z = true) (ws : List Jvm.Cond) (o0 : Addr) (n : Nat) (D : Addr) (r : Addr) (b : Addr) (kb : ClassId) (st : Int64) (sz : Int32) (vs : List Int32) (ln : Nat) (ea : Addr) (h0 : Heap) (n0 : Nat) (Z0 : n0 ≤ h0.size) (H0 : own_BD Z n0 D o0 r b kb st sz vs ln ea h0) (hs : sz.toInt = n) (hn : n < 16) : OwnMeets l Z (⟨"com/example/querent/querent/match/Automaton$Postfix", "empty", "()V"⟩ : MethodName) prog_19_method_5_code 1 none ws ({ frames := 1, cells := 0, slots := 0, locals := 14 } : Room) #[(.ref o0)] h0 (fun v h L => v = none ∧ Fr n0 L ∧ Keep h0 h [o0, b] ∧ own_BD Z n0 D o0 r b kb (st + (1 : Int64)) (sz + (1 : Int32)) (vs.set n (-6 : Int32)) ln ea h) := by
  refine OwnMeets.of_walk (plainFor_of_name pn_4) (fun m => ef_24 m o0) ?_
  intro p e s m below meth c T0 X0 K e0
  obtain ⟨hx, hby, hml, hret, hlk, hnm, hown, hZ⟩ := id K
  have N0 := Fr.nil n0
  obtain ⟨cE1, cM1, cS1, cT1, cP1, cZ1, cV1, cL1, cA1, cB1, n11, n21, n31, n41, n51, cO1, cR1⟩ := id H0
  refine en_aloadN X0 hx (hb hby d24_0) (pc' := 1) rfl rfl ?_
  refine en_lconst X0 hx (1 : Int64) (hb hby d24_1) (pc' := 2) ?_
  refine en_callQ X0 hx hZ (rm := ({ frames := 0, cells := 0, slots := 0, locals := 0 } : Room)) (y := (⟨"com/example/querent/querent/match/Automaton$Postfix", "count", "(J)V"⟩ : MethodName)) (K := "com/example/querent/querent/match/Automaton$Builder") hown (tw hw 77 rfl) (tw hw 78 rfl) (tw hw 79 rfl) (tw hw 70 rfl) rfl (tw hw 11 rfl) (tw hw 80 rfl) cE1 (by decide) (rm13 l Z a0 hw [] o0 (1 : Int64) D r b kb st sz vs ln ea h0 n0 Z0 H0 ) e0 (by decide) 0 rfl (by decide) (by decide) (by decide) (by rw [hml]; rfl) (argsL := [(.long (1 : Int64))]) (rest := []) (lenOf pd_6 rfl) rfl (hb hby d24_2) (pc' := 5) (fun v3 T3 Lq3 X3 hQ3 => ?_)
  obtain ⟨h3, e3⟩ : ∃ q, T3.heap = q := ⟨_, rfl⟩
  rw [e3] at hQ3
  obtain ⟨rfl, Nq3, Kq3, Hq2⟩ := hQ3
  have N3 := Fr.app N0 Nq3
  show OwnEnds p e below s _ _ _ T3 m 5 #[.val (.ref o0)] []
  have E3_o0 := cE1.keep Kq3
  have K3 : Keep h0 h3 [o0, b] := Keep.trans (Keep.refl h0 [o0, b]) Kq3 (allS (Or.inl (List.mem_of_getElem? (i := 0) rfl)) (allS (Or.inl (List.mem_of_getElem? (i := 1) rfl)) all0))
  have Z3 : n0 ≤ h3.size := Nat.le_trans Z0 Kq3.1
  obtain ⟨cE4, cM4, cS4, cT4, cP4, cZ4, cV4, cL4, cA4, cB4, n14, n24, n34, n44, n54, cO4, cR4⟩ := id Hq2
  refine en_aloadN X3 hx (hb hby d24_5) (pc' := 6) rfl rfl ?_
  refine en_bipush X3 hx (-6 : Int32) (hb hby d24_6) (pc' := 8) ?_
  refine en_callV X3 hx hZ (rm := ({ frames := 0, cells := 0, slots := 0, locals := 0 } : Room)) (y := (⟨"com/example/querent/querent/match/Automaton$Postfix", "write", "(I)V"⟩ : MethodName)) (z := (⟨"com/example/querent/querent/match/Automaton$Builder", "write", "(I)V"⟩ : MethodName)) (K := "com/example/querent/querent/match/Automaton$Builder") hown (tw hw 142 rfl) (tw hw 143 rfl) (nf_by (args := #[]) (mvT hZ (tw hw 70 rfl)) rfl) (tw hw 144 rfl) (tw hw 133 rfl) (tw hw 3 rfl) (tw hw 135 rfl) cE4 (by decide) (rm21 l Z a0 hw [] o0 (-6 : Int32) n D r b kb (st + (1 : Int64)) sz vs ln ea h3 n0 Z3 Hq2 hs hn) e3 (by decide) 0 rfl (by decide) (by decide) (by decide) (by rw [hml]; rfl) (argsL := [(.int (-6 : Int32))]) (rest := []) (lenOf pd_5 rfl) rfl (hb hby d24_8) (pc' := 11) (fun v6 T6 Lq6 X6 hQ6 => ?_)
  obtain ⟨h6, e6⟩ : ∃ q, T6.heap = q := ⟨_, rfl⟩
  rw [e6] at hQ6
  obtain ⟨rfl, Nq6, Kq6, Hq5⟩ := hQ6
  have N6 := Fr.app N3 Nq6
  show OwnEnds p e below s _ _ _ T6 m 11 #[.val (.ref o0)] []
  have E6_o0 := cE4.keep Kq6
  have K6 : Keep h0 h6 [o0, b] := Keep.trans K3 Kq6 (allS (Or.inl (List.mem_of_getElem? (i := 0) rfl)) (allS (Or.inl (List.mem_of_getElem? (i := 1) rfl)) all0))
  have Z6 : n0 ≤ h6.size := Nat.le_trans Z3 Kq6.1
  obtain ⟨cE7, cM7, cS7, cT7, cP7, cZ7, cV7, cL7, cA7, cB7, n17, n27, n37, n47, n57, cO7, cR7⟩ := id Hq5
  exact en_ret0 X6 hx hret hlk (hb hby d24_11) (by decide) (by decide) (by first | (rw [e6]; exact ⟨rfl, N6, K6, Hq5⟩) | exact ⟨rfl, N6, K6, Hq5⟩)
theorem d14_0 : decode prog_17_method_4_code 0 = .ok (.aload_n 0, 1) := by decide +kernel
theorem d14_1 : decode prog_17_method_4_code 1 = .ok (.getfield 14, 3) := by decide +kernel
theorem d14_4 : decode prog_17_method_4_code 4 = .ok (.aload_n 1, 1) := by decide +kernel
theorem d14_5 : decode prog_17_method_4_code 5 = .ok (.invokeinterface 34 2, 5) := by decide +kernel
theorem d14_10 : decode prog_17_method_4_code 10 = .ok (.pop, 1) := by decide +kernel
theorem d14_11 : decode prog_17_method_4_code 11 = .ok (.aload_n 0, 1) := by decide +kernel
theorem d14_12 : decode prog_17_method_4_code 12 = .ok (.aload_n 0, 1) := by decide +kernel
theorem d14_13 : decode prog_17_method_4_code 13 = .ok (.getfield 14, 3) := by decide +kernel
theorem d14_16 : decode prog_17_method_4_code 16 = .ok (.invokeinterface 40 1, 5) := by decide +kernel
theorem d14_21 : decode prog_17_method_4_code 21 = .ok (.iconst 1, 1) := by decide +kernel
theorem d14_22 : decode prog_17_method_4_code 22 = .ok (.isub, 1) := by decide +kernel
theorem d14_23 : decode prog_17_method_4_code 23 = .ok (.invokevirtual 43, 3) := by decide +kernel
theorem d14_26 : decode prog_17_method_4_code 26 = .ok (.return_, 1) := by decide +kernel
theorem ef_14 (m : MethodId) (o0 : Addr) (o1 : Addr) : entryFrame m #[(.ref o0), (.ref o1)] 2 = mkF m 0 #[.val (.ref o0), .val (.ref o1)] [] := by first | (simp [entryFrame, mkF, argsToLocals, Value.category]; done) | rfl
theorem pd_7 : parseMethodDescriptor "(Ljava/lang/Object;)Z" = some ⟨[(.object "java/lang/Object")], some .boolean⟩ := by decide +kernel
theorem pd_8 : parseMethodDescriptor "()I" = some ⟨[], some .int⟩ := by decide +kernel
set_option maxRecDepth 65536 in
set_option maxHeartbeats 40000000 in
theorem rm14 (l : Launch) (Z : State) (a0 : Array Value) (hw : ∀ d ∈ tables_1, d.before a0 Z = true) (ws : List Jvm.Cond) (o0 : Addr) (o1 : Addr) (n : Nat) (D : Addr) (r : Addr) (b : Addr) (kb : ClassId) (st : Int64) (sz : Int32) (vs : List Int32) (ln : Nat) (ea : Addr) (h0 : Heap) (n0 : Nat) (Z0 : n0 ≤ h0.size) (H0 : own_BD Z n0 D o0 r b kb st sz vs ln ea h0) (hs : sz.toInt = n) (hn : n < 16) (HD : own_ST Z D) (hl : ln < 10) (EY : Exa Z h0 o1 "[I") : OwnMeets l Z (⟨"com/example/querent/querent/match/Automaton$Builder", "writeSet", "([I)V"⟩ : MethodName) prog_17_method_4_code 2 none ws ({ frames := 5, cells := 1, slots := 10, locals := 69 } : Room) #[(.ref o0), (.ref o1)] h0 (fun v h L => v = none ∧ Fr n0 L ∧ ∃ (st' : Int64) (w : Int32) (ea' : Addr), ¬ w = (-1 : Int32) ∧ own_BD Z n0 D o0 r b kb st' (sz + (1 : Int32)) (vs.set n w) (ln + 1) ea' h) := by
  refine OwnMeets.of_walk (plainFor_of_name pn_5) (fun m => ef_14 m o0 o1) ?_
  intro p e s m below meth c T0 X0 K e0
  obtain ⟨hx, hby, hml, hret, hlk, hnm, hown, hZ⟩ := id K
  have N0 := Fr.nil n0
  obtain ⟨cE1, cM1, cS1, cT1, cP1, cZ1, cV1, cL1, cA1, cB1, n11, n21, n31, n41, n51, cO1, cR1⟩ := id H0
  have eR := cR1.1
  refine en_aloadN X0 hx (hb hby d14_0) (pc' := 1) rfl rfl ?_
  refine en_getF X0 hx hZ hown (host := "") (Or.inl (tw hw 42 rfl)) Via.refl e0 cT1 (hb hby d14_1) (pc' := 4) (fun T2 X2 e2 => ?_)
  refine en_aloadN X2 hx (hb hby d14_4) (pc' := 5) rfl rfl ?_
  refine en_callI X2 hx hZ (rm := ({ frames := 4, cells := 1, slots := 10, locals := 56 } : Room)) (y := (⟨"java/util/List", "add", "(Ljava/lang/Object;)Z"⟩ : MethodName)) (z := (⟨"java/util/ArrayList", "add", "(Ljava/lang/Object;)Z"⟩ : MethodName)) (K := "java/util/ArrayList") hown (tw hw 88 rfl) (tw hw 89 rfl) (mvT hZ (tw hw 90 rfl)) (tw hw 91 rfl) (tw hw 92 rfl) (tw hw 93 rfl) (tw hw 94 rfl) (tw hw 95 rfl) (tw hw 20 rfl) (tw hw 96 rfl) eR (by decide) (rm15 l Z a0 hw [] r o1 D ln ea h0 n0 Z0 cR1 HD cO1 EY hl) e2 (by decide) 0 rfl (by decide) (by decide) (by decide) (by rw [hml]; rfl) (argsL := [(.ref o1)]) (rest := []) (lenOf pd_7 rfl) rfl (hb hby d14_5) (pc' := 10) (fun v3 T3 Lq3 X3 hQ3 => ?_)
  obtain ⟨h3, e3⟩ : ∃ q, T3.heap = q := ⟨_, rfl⟩
  rw [e3] at hQ3
  obtain ⟨rfl, Nq3, Kq3, On, ea', HA', he'⟩ := hQ3
  have N3 := Fr.app N0 Nq3
  show OwnEnds p e below s _ _ _ T3 m 10 #[.val (.ref o0), .val (.ref o1)] [(.int (1 : Int32))]
  have F3_o0_maxStates := cM1.keep Kq3 (ninS (Ne.symm n21) (ninS (Ne.symm n41) nin0))
  have F3_o0_states := cS1.keep Kq3 (ninS (Ne.symm n21) (ninS (Ne.symm n41) nin0))
  have F3_o0_sets := cT1.keep Kq3 (ninS (Ne.symm n21) (ninS (Ne.symm n41) nin0))
  have F3_o0_postfix := cP1.keep Kq3 (ninS (Ne.symm n21) (ninS (Ne.symm n41) nin0))
  have F3_o0_size := cZ1.keep Kq3 (ninS (Ne.symm n21) (ninS (Ne.symm n41) nin0))
  have E3_o0 := cE1.keep Kq3
  have E3_r := eR.keep Kq3
  have V3_b := cV1.keep Kq3 (ninS (Ne.symm n31) (ninS (Ne.symm n51) nin0))
  have Z3 : n0 ≤ h3.size := Nat.le_trans Z0 Kq3.1
  have m4 : ea' ≠ o0 := he'.elim (fun q => q ▸ n41) (fun q => Ne.symm (Nat.ne_of_lt (Nat.lt_of_lt_of_le cE1.lt q)))
  have m5 : ea' ≠ b := he'.elim (fun q => q ▸ n51) (fun q => Ne.symm (Nat.ne_of_lt (Nat.lt_of_lt_of_le cV1.lt q)))
  have HB : own_BD Z n0 D o0 r b kb st sz vs (ln + 1) ea' h3 := ⟨E3_o0, F3_o0_maxStates, F3_o0_states, F3_o0_sets, F3_o0_postfix, F3_o0_size, V3_b, cL1, cA1, cB1, n11, n21, n31, m4, m5, On, HA'⟩
  obtain ⟨-, -, mc', sz', -, Fsz, hsz, -, -⟩ := id HA'
  refine en_pop X3 hx (hb hby d14_10) (pc' := 11) rfl ?_
  refine en_aloadN X3 hx (hb hby d14_11) (pc' := 12) rfl rfl ?_
  refine en_aloadN X3 hx (hb hby d14_12) (pc' := 13) rfl rfl ?_
  refine en_getF X3 hx hZ hown (host := "") (Or.inl (tw hw 42 rfl)) Via.refl e3 F3_o0_sets (hb hby d14_13) (pc' := 16) (fun T4 X4 e4 => ?_)
  refine en_callIP X4 hx hZ (y := (⟨"java/util/List", "size", "()I"⟩ : MethodName)) (z := (⟨"java/util/ArrayList", "size", "()I"⟩ : MethodName)) (K := "java/util/ArrayList") (fr := 0) (lo := 0) hown (tw hw 123 rfl) (tw hw 124 rfl) (mvT hZ (tw hw 125 rfl)) (tw hw 126 rfl) (tw hw 127 rfl) (tw hw 128 rfl) (tw hw 129 rfl) (tw hw 95 rfl) (tw hw 20 rfl) (tw hw 130 rfl) E3_r (by decide) (rm20 l Z a0 hw [] r sz' _ n0 Z3 Fsz) e4 (by decide) 1 rfl (by decide) (by decide) (by decide) (by rw [hml]; rfl) (argsL := []) (rest := [(.ref o0)]) (lenOf pd_8 rfl) rfl (hb hby d14_16) (pc' := 21) (fun T5 X5 e5 => ?_)
  refine en_iconst X5 hx (1 : Int32) (hb hby d14_21) (pc' := 22) ?_
  refine en_isub X5 hx (hb hby d14_22) (pc' := 23) ?_
  refine en_callV X5 hx hZ (rm := ({ frames := 0, cells := 0, slots := 0, locals := 0 } : Room)) (y := (⟨"com/example/querent/querent/match/Automaton$Builder", "write", "(I)V"⟩ : MethodName)) (z := (⟨"com/example/querent/querent/match/Automaton$Builder", "write", "(I)V"⟩ : MethodName)) (K := "com/example/querent/querent/match/Automaton$Builder") hown (tw hw 131 rfl) (tw hw 132 rfl) (notFace_of_selects (args := #[]) (mvT hZ (tw hw 134 rfl))) (tw hw 134 rfl) (tw hw 133 rfl) (tw hw 3 rfl) (tw hw 135 rfl) E3_o0 (by decide) (rm21 l Z a0 hw [] o0 (sz' - (1 : Int32)) n D r b kb st sz vs (ln + 1) ea' h3 n0 Z3 HB hs hn) e5 (by decide) 0 rfl (by decide) (by decide) (by decide) (by rw [hml]; rfl) (argsL := [(.int (sz' - (1 : Int32)))]) (rest := []) (lenOf pd_5 rfl) rfl (hb hby d14_23) (pc' := 26) (fun v7 T7 Lq7 X7 hQ7 => ?_)
  obtain ⟨h7, e7⟩ : ∃ q, T7.heap = q := ⟨_, rfl⟩
  rw [e7] at hQ7
  obtain ⟨rfl, Nq7, Kq7, Hq6⟩ := hQ7
  have N7 := Fr.app N3 Nq7
  show OwnEnds p e below s _ _ _ T7 m 26 #[.val (.ref o0), .val (.ref o1)] []
  have E7_o0 := E3_o0.keep Kq7
  have E7_r := E3_r.keep Kq7
  have Z7 : n0 ≤ h7.size := Nat.le_trans Z3 Kq7.1
  exact en_ret0 X7 hx hret hlk (hb hby d14_26) (by decide) (by decide) (by first | (rw [e7]; exact ⟨rfl, N7, st, _, ea', own_dec hsz, Hq6⟩) | exact ⟨rfl, N7, st, _, ea', own_dec hsz, Hq6⟩)
theorem d12_0 : decode prog_19_method_2_code 0 = .ok (.aload_n 0, 1) := by decide +kernel
theorem d12_1 : decode prog_19_method_2_code 1 = .ok (.lconst 1, 1) := by decide +kernel
theorem d12_2 : decode prog_19_method_2_code 2 = .ok (.invokevirtual 15, 3) := by decide +kernel
theorem d12_5 : decode prog_19_method_2_code 5 = .ok (.aload_n 0, 1) := by decide +kernel
theorem d12_6 : decode prog_19_method_2_code 6 = .ok (.aload_n 1, 1) := by decide +kernel
theorem d12_7 : decode prog_19_method_2_code 7 = .ok (.invokevirtual 19, 3) := by decide +kernel
theorem d12_10 : decode prog_19_method_2_code 10 = .ok (.return_, 1) := by decide +kernel
theorem ef_12 (m : MethodId) (o0 : Addr) (o1 : Addr) : entryFrame m #[(.ref o0), (.ref o1)] 2 = mkF m 0 #[.val (.ref o0), .val (.ref o1)] [] := by first | (simp [entryFrame, mkF, argsToLocals, Value.category]; done) | rfl
theorem pd_9 : parseMethodDescriptor "([I)V" = some ⟨[(.array .int)], none⟩ := by decide +kernel
set_option maxRecDepth 65536 in
set_option maxHeartbeats 40000000 in
theorem rm12 (l : Launch) (Z : State) (a0 : Array Value) (hw : ∀ d ∈ tables_1, d.before a0 Z = true) (ws : List Jvm.Cond) (o0 : Addr) (o1 : Addr) (n : Nat) (D : Addr) (r : Addr) (b : Addr) (kb : ClassId) (st : Int64) (sz : Int32) (vs : List Int32) (ln : Nat) (ea : Addr) (h0 : Heap) (n0 : Nat) (Z0 : n0 ≤ h0.size) (H0 : own_BD Z n0 D o0 r b kb st sz vs ln ea h0) (hs : sz.toInt = n) (hn : n < 16) (HD : own_ST Z D) (hl : ln < 10) (EY : Exa Z h0 o1 "[I") : OwnMeets l Z (⟨"com/example/querent/querent/match/Automaton$Postfix", "set", "([I)V"⟩ : MethodName) prog_19_method_2_code 2 none ws ({ frames := 6, cells := 1, slots := 10, locals := 82 } : Room) #[(.ref o0), (.ref o1)] h0 (fun v h L => v = none ∧ Fr n0 L ∧ ∃ (st' : Int64) (w : Int32) (ea' : Addr), ¬ w = (-1 : Int32) ∧ own_BD Z n0 D o0 r b kb st' (sz + (1 : Int32)) (vs.set n w) (ln + 1) ea' h) := by
  refine OwnMeets.of_walk (plainFor_of_name pn_4) (fun m => ef_12 m o0 o1) ?_
  intro p e s m below meth c T0 X0 K e0
  obtain ⟨hx, hby, hml, hret, hlk, hnm, hown, hZ⟩ := id K
  have N0 := Fr.nil n0
  obtain ⟨cE1, cM1, cS1, cT1, cP1, cZ1, cV1, cL1, cA1, cB1, n11, n21, n31, n41, n51, cO1, cR1⟩ := id H0
  refine en_aloadN X0 hx (hb hby d12_0) (pc' := 1) rfl rfl ?_
  refine en_lconst X0 hx (1 : Int64) (hb hby d12_1) (pc' := 2) ?_
  refine en_callQ X0 hx hZ (rm := ({ frames := 0, cells := 0, slots := 0, locals := 0 } : Room)) (y := (⟨"com/example/querent/querent/match/Automaton$Postfix", "count", "(J)V"⟩ : MethodName)) (K := "com/example/querent/querent/match/Automaton$Builder") hown (tw hw 77 rfl) (tw hw 78 rfl) (tw hw 79 rfl) (tw hw 70 rfl) rfl (tw hw 11 rfl) (tw hw 80 rfl) cE1 (by decide) (rm13 l Z a0 hw [] o0 (1 : Int64) D r b kb st sz vs ln ea h0 n0 Z0 H0 ) e0 (by decide) 0 rfl (by decide) (by decide) (by decide) (by rw [hml]; rfl) (argsL := [(.long (1 : Int64))]) (rest := []) (lenOf pd_6 rfl) rfl (hb hby d12_2) (pc' := 5) (fun v3 T3 Lq3 X3 hQ3 => ?_)
  obtain ⟨h3, e3⟩ : ∃ q, T3.heap = q := ⟨_, rfl⟩
  rw [e3] at hQ3
  obtain ⟨rfl, Nq3, Kq3, Hq2⟩ := hQ3
  have N3 := Fr.app N0 Nq3
  show OwnEnds p e below s _ _ _ T3 m 5 #[.val (.ref o0), .val (.ref o1)] []
  have E3_o0 := cE1.keep Kq3
  have E3_o1 := EY.keep Kq3
  have Z3 : n0 ≤ h3.size := Nat.le_trans Z0 Kq3.1
  obtain ⟨cE4, cM4, cS4, cT4, cP4, cZ4, cV4, cL4, cA4, cB4, n14, n24, n34, n44, n54, cO4, cR4⟩ := id Hq2
  refine en_aloadN X3 hx (hb hby d12_5) (pc' := 6) rfl rfl ?_
  refine en_aloadN X3 hx (hb hby d12_6) (pc' := 7) rfl rfl ?_
  refine en_callV X3 hx hZ (rm := ({ frames := 5, cells := 1, slots := 10, locals := 69 } : Room)) (y := (⟨"com/example/querent/querent/match/Automaton$Postfix", "writeSet", "([I)V"⟩ : MethodName)) (z := (⟨"com/example/querent/querent/match/Automaton$Builder", "writeSet", "([I)V"⟩ : MethodName)) (K := "com/example/querent/querent/match/Automaton$Builder") hown (tw hw 83 rfl) (tw hw 84 rfl) (nf_by (args := #[]) (mvT hZ (tw hw 70 rfl)) rfl) (tw hw 85 rfl) (tw hw 86 rfl) (tw hw 3 rfl) (tw hw 87 rfl) cE4 (by decide) (rm14 l Z a0 hw [] o0 o1 n D r b kb (st + (1 : Int64)) sz vs ln ea h3 n0 Z3 Hq2 hs hn HD hl E3_o1) e3 (by decide) 0 rfl (by decide) (by decide) (by decide) (by rw [hml]; rfl) (argsL := [(.ref o1)]) (rest := []) (lenOf pd_9 rfl) rfl (hb hby d12_7) (pc' := 10) (fun v5 T5 Lq5 X5 hQ5 => ?_)
  obtain ⟨h5, e5⟩ : ∃ q, T5.heap = q := ⟨_, rfl⟩
  rw [e5] at hQ5
  obtain ⟨rfl, Nq5, st', wv, ea', hwv, Hw⟩ := hQ5
  have N5 := Fr.app N3 Nq5
  show OwnEnds p e below s _ _ _ T5 m 10 #[.val (.ref o0), .val (.ref o1)] []
  exact en_ret0 X5 hx hret hlk (hb hby d12_10) (by decide) (by decide) (by first | (rw [e5]; exact ⟨rfl, N5, st', wv, ea', hwv, Hw⟩) | exact ⟨rfl, N5, st', wv, ea', hwv, Hw⟩)
theorem own_AL.ext' {Z : State} {n0 : Nat} {D r : Addr} {ln : Nat} {ea : Addr} {h h' : Heap} (H : own_AL Z n0 D r ln ea h) (E : Ext h h') : own_AL Z n0 D r ln ea h' := H.keep ((Keep.refl h []).ext E) nin0 nin0
theorem own_AL.ltE {Z : State} {n0 : Nat} {D r : Addr} {ln : Nat} {ea : Addr} {h : Heap} (H : own_AL Z n0 D r ln ea h) (HD : own_ST Z D) (O : Old Z n0 h) : ea < h.size := by
  obtain ⟨q1, q2, mc, sz, q3, q4, q5, q6, q7⟩ := H
  rcases q7 with ⟨-, rfl⟩ | ⟨-, -, -, ke, es, -, -, V⟩
  · exact Nat.lt_of_lt_of_le HD.1 O.2.1
  · exact V.lt
theorem d11_0 : decode prog_19_method_3_code 0 = .ok (.aload_n 0, 1) := by decide +kernel
theorem d11_1 : decode prog_19_method_3_code 1 = .ok (.iconst 2, 1) := by decide +kernel
theorem d11_2 : decode prog_19_method_3_code 2 = .ok (.newarray .int, 2) := by decide +kernel
theorem d11_4 : decode prog_19_method_3_code 4 = .ok (.dup, 1) := by decide +kernel
theorem d11_5 : decode prog_19_method_3_code 5 = .ok (.iconst 0, 1) := by decide +kernel
theorem d11_6 : decode prog_19_method_3_code 6 = .ok (.iload_n 1, 1) := by decide +kernel
theorem d11_7 : decode prog_19_method_3_code 7 = .ok (.iastore, 1) := by decide +kernel
theorem d11_8 : decode prog_19_method_3_code 8 = .ok (.dup, 1) := by decide +kernel
theorem d11_9 : decode prog_19_method_3_code 9 = .ok (.iconst 1, 1) := by decide +kernel
theorem d11_10 : decode prog_19_method_3_code 10 = .ok (.iload_n 1, 1) := by decide +kernel
theorem d11_11 : decode prog_19_method_3_code 11 = .ok (.iastore, 1) := by decide +kernel
theorem d11_12 : decode prog_19_method_3_code 12 = .ok (.invokevirtual 23, 3) := by decide +kernel
theorem d11_15 : decode prog_19_method_3_code 15 = .ok (.return_, 1) := by decide +kernel
theorem ef_11 (m : MethodId) (o0 : Addr) (x1 : Int32) : entryFrame m #[(.ref o0), (.int x1)] 2 = mkF m 0 #[.val (.ref o0), .val (.int x1)] [] := by first | (simp [entryFrame, mkF, argsToLocals, Value.category]; done) | rfl
set_option maxRecDepth 65536 in
set_option maxHeartbeats 40000000 in
theorem rm11 (l : Launch) (Z : State) (a0 : Array Value) (hw : ∀ d ∈ tables_1, d.before a0 Z = true) (ws : List Jvm.Cond) (o0 : Addr) (x1 : Int32) (n : Nat) (D : Addr) (r : Addr) (b : Addr) (kb : ClassId) (st : Int64) (sz : Int32) (vs : List Int32) (ln : Nat) (ea : Addr) (h0 : Heap) (n0 : Nat) (Z0 : n0 ≤ h0.size) (H0 : own_BD Z n0 D o0 r b kb st sz vs ln ea h0) (hs : sz.toInt = n) (hn : n < 16) (HD : own_ST Z D) (hl : ln < 10) : OwnMeets l Z (⟨"com/example/querent/querent/match/Automaton$Postfix", "literal", "(I)V"⟩ : MethodName) prog_19_method_3_code 2 none ws ({ frames := 7, cells := 2, slots := 12, locals := 95 } : Room) #[(.ref o0), (.int x1)] h0 (fun v h L => v = none ∧ Fr n0 L ∧ ∃ (st' : Int64) (w : Int32) (ea' : Addr), ¬ w = (-1 : Int32) ∧ own_BD Z n0 D o0 r b kb st' (sz + (1 : Int32)) (vs.set n w) (ln + 1) ea' h) := by
  refine OwnMeets.of_walk (plainFor_of_name pn_4) (fun m => ef_11 m o0 x1) ?_
  intro p e s m below meth c T0 X0 K e0
  obtain ⟨hx, hby, hml, hret, hlk, hnm, hown, hZ⟩ := id K
  have N0 := Fr.nil n0
  obtain ⟨cE1, cM1, cS1, cT1, cP1, cZ1, cV1, cL1, cA1, cB1, n11, n21, n31, n41, n51, cO1, cR1⟩ := id H0
  refine en_aloadN X0 hx (hb hby d11_0) (pc' := 1) rfl rfl ?_
  refine en_iconst X0 hx (2 : Int32) (hb hby d11_1) (pc' := 2) ?_
  refine en_newPE X0 hx hZ (tw hw 44 rfl) e0 (hb hby d11_2) (by decide) 2 (by decide) (by decide) (by decide) (by decide) (ad := "[I") rfl (pc' := 4) (fun T2 h2 b2 k2 g2 X2 e2 E2 V20 Ey2 => ?_)
  have Hx : own_BD Z n0 D o0 r b kb st sz vs ln ea h2 := ⟨cE1.ext E2, cM1.ext E2, cS1.ext E2, cT1.ext E2, cP1.ext E2, cZ1.ext E2, cV1.ext E2, cL1, cA1, cB1, n11, n21, n31, n41, n51, cO1.ext E2, (own_AL.ext' cR1 E2)⟩
  have neo : o0 ≠ b2 := by rw [g2]; exact Nat.ne_of_lt cE1.lt
  have nb : b ≠ b2 := by rw [g2]; exact Nat.ne_of_lt cV1.lt
  have nr : r ≠ b2 := by rw [g2]; exact Nat.ne_of_lt cR1.1.lt
  have ne : ea ≠ b2 := by rw [g2]; exact Nat.ne_of_lt (own_AL.ltE cR1 HD cO1)
  have g_b2 : n0 ≤ b2 := by rw [g2]; exact Z0
  have Z2 : n0 ≤ h2.size := Nat.le_trans Z0 E2.1
  have V2 : Arv Z h2 b2 k2 .int (2 : Int32) [(.int (0 : Int32)), (.int (0 : Int32))] (.int (0 : Int32)) := V20.pad (pad_rep [] (.int (0 : Int32)) 2)
  have KK := Keep.refl h2 [b2]
  refine en_dup X2 hx (hb hby d11_4) (pc' := 5) rfl ?_
  refine en_iconst X2 hx (0 : Int32) (hb hby d11_5) (pc' := 6) ?_
  refine en_iloadN X2 hx (hb hby d11_6) (pc' := 7) rfl ?_
  refine en_iastore X2 hx hZ e2 V2 ⟨by decide, by decide⟩ 0 rfl (Nat.le_of_ble_eq_true rfl) (hb hby d11_7) (pc' := 8) (fun T3 h3 X3 e3 W3 V30 => ?_)
  have E3_b2 := Ey2.wr W3
  have Z3 : n0 ≤ h3.size := Nat.le_trans Z2 (Keep.of_wr W3).1
  have N3 := Fr.snoc X3 N0 g_b2
  have V3 : Arv Z h3 b2 k2 .int (2 : Int32) [(.int x1), (.int (0 : Int32))] (.int (0 : Int32)) := V30
  refine en_dup X3 hx (hb hby d11_8) (pc' := 9) rfl ?_
  refine en_iconst X3 hx (1 : Int32) (hb hby d11_9) (pc' := 10) ?_
  refine en_iloadN X3 hx (hb hby d11_10) (pc' := 11) rfl ?_
  refine en_iastore X3 hx hZ e3 V3 ⟨by decide, by decide⟩ 1 rfl (Nat.le_of_ble_eq_true rfl) (hb hby d11_11) (pc' := 12) (fun T4 h4 X4 e4 W4 V40 => ?_)
  have E4_b2 := E3_b2.wr W4
  have Z4 : n0 ≤ h4.size := Nat.le_trans Z3 (Keep.of_wr W4).1
  have N4 := Fr.snoc X4 N3 g_b2
  have V4 : Arv Z h4 b2 k2 .int (2 : Int32) [(.int x1), (.int x1)] (.int (0 : Int32)) := V40
  have K2 : Keep h2 h4 [b2] := ((KK.wr W3 (Or.inl (List.mem_of_getElem? (i := 0) rfl))).wr W4 (Or.inl (List.mem_of_getElem? (i := 0) rfl)))
  have Hy : own_BD Z n0 D o0 r b kb st sz vs ln ea h4 := by
    obtain ⟨q_cE, q_cM, q_cS, q_cT, q_cP, q_cZ, q_cV, q_cL, q_cA, q_cB, q_n1, q_n2, q_n3, q_n4, q_n5, q_cO, q_cR⟩ := Hx
    exact ⟨q_cE.keep K2, q_cM.keep K2 (ninS neo nin0), q_cS.keep K2 (ninS neo nin0), q_cT.keep K2 (ninS neo nin0), q_cP.keep K2 (ninS neo nin0), q_cZ.keep K2 (ninS neo nin0), q_cV.keep K2 (ninS nb nin0), q_cL, q_cA, q_cB, q_n1, q_n2, q_n3, q_n4, q_n5, q_cO.keep K2 (allS (P := fun x => n0 ≤ x) g_b2 all0), q_cR.keep K2 (ninS nr nin0) (ninS ne nin0)⟩
  refine en_callV X4 hx hZ (rm := ({ frames := 6, cells := 1, slots := 10, locals := 82 } : Room)) (y := (⟨"com/example/querent/querent/match/Automaton$Postfix", "set", "([I)V"⟩ : MethodName)) (z := (⟨"com/example/querent/querent/match/Automaton$Postfix", "set", "([I)V"⟩ : MethodName)) (K := "com/example/querent/querent/match/Automaton$Builder") hown (tw hw 72 rfl) (tw hw 73 rfl) (notFace_of_selects (args := #[]) (mvT hZ (tw hw 75 rfl))) (tw hw 75 rfl) (tw hw 74 rfl) (tw hw 11 rfl) (tw hw 76 rfl) Hy.1 (by decide) (rm12 l Z a0 hw [] o0 b2 n D r b kb st sz vs ln ea h4 n0 Z4 Hy hs hn HD hl E4_b2) e4 (by decide) 0 rfl (by decide) (by decide) (by decide) (by rw [hml]; rfl) (argsL := [(.ref b2)]) (rest := []) (lenOf pd_9 rfl) rfl (hb hby d11_12) (pc' := 15) (fun v5 T5 Lq5 X5 hQ5 => ?_)
  obtain ⟨h5, e5⟩ : ∃ q, T5.heap = q := ⟨_, rfl⟩
  rw [e5] at hQ5
  obtain ⟨rfl, Nq5, st', wv, ea', hwv, Hw⟩ := hQ5
  have N5 := Fr.app N4 Nq5
  show OwnEnds p e below s _ _ _ T5 m 15 #[.val (.ref o0), .val (.int x1)] []
  exact en_ret0 X5 hx hret hlk (hb hby d11_15) (by decide) (by decide) (by first | (rw [e5]; exact ⟨rfl, N5, st', wv, ea', hwv, Hw⟩) | exact ⟨rfl, N5, st', wv, ea', hwv, Hw⟩)
theorem d10_0 : decode method_3_code 0 = .ok (.iload_n 1, 1) := by decide +kernel
theorem d10_1 : decode method_3_code 1 = .ok (.ifCond .ne 11, 3) := by decide +kernel
theorem d10_4 : decode method_3_code 4 = .ok (.aload_n 0, 1) := by decide +kernel
theorem d10_5 : decode method_3_code 5 = .ok (.iload_n 2, 1) := by decide +kernel
theorem d10_6 : decode method_3_code 6 = .ok (.invokevirtual 35, 3) := by decide +kernel
theorem d10_9 : decode method_3_code 9 = .ok (.goto 31, 3) := by decide +kernel
theorem d10_12 : decode method_3_code 12 = .ok (.iload_n 1, 1) := by decide +kernel
theorem d10_13 : decode method_3_code 13 = .ok (.iconst 1, 1) := by decide +kernel
theorem d10_14 : decode method_3_code 14 = .ok (.if_icmp .ne 10, 3) := by decide +kernel
theorem d10_17 : decode method_3_code 17 = .ok (.aload_n 0, 1) := by decide +kernel
theorem d10_18 : decode method_3_code 18 = .ok (.invokevirtual 39, 3) := by decide +kernel
theorem d10_21 : decode method_3_code 21 = .ok (.goto 19, 3) := by decide +kernel
theorem d10_24 : decode method_3_code 24 = .ok (.iload_n 1, 1) := by decide +kernel
theorem d10_25 : decode method_3_code 25 = .ok (.iconst 2, 1) := by decide +kernel
theorem d10_26 : decode method_3_code 26 = .ok (.if_icmp .ne 10, 3) := by decide +kernel
theorem d10_29 : decode method_3_code 29 = .ok (.aload_n 0, 1) := by decide +kernel
theorem d10_30 : decode method_3_code 30 = .ok (.invokevirtual 42, 3) := by decide +kernel
theorem d10_33 : decode method_3_code 33 = .ok (.goto 7, 3) := by decide +kernel
theorem d10_36 : decode method_3_code 36 = .ok (.aload_n 0, 1) := by decide +kernel
theorem d10_37 : decode method_3_code 37 = .ok (.invokevirtual 45, 3) := by decide +kernel
theorem d10_40 : decode method_3_code 40 = .ok (.return_, 1) := by decide +kernel
theorem ef_10 (m : MethodId) (o0 : Addr) (x1 : Int32) (x2 : Int32) : entryFrame m #[(.ref o0), (.int x1), (.int x2)] 3 = mkF m 0 #[.val (.ref o0), .val (.int x1), .val (.int x2)] [] := by first | (simp [entryFrame, mkF, argsToLocals, Value.category]; done) | rfl
set_option maxRecDepth 65536 in
set_option maxHeartbeats 40000000 in
theorem rm10 (l : Launch) (Z : State) (a0 : Array Value) (hw : ∀ d ∈ tables_1, d.before a0 Z = true) (ws : List Jvm.Cond) (o0 : Addr) (x1 : Int32) (x2 : Int32) (n : Nat) (D : Addr) (r : Addr) (b : Addr) (kb : ClassId) (st : Int64) (sz : Int32) (vs : List Int32) (ln : Nat) (ea : Addr) (h0 : Heap) (n0 : Nat) (Z0 : n0 ≤ h0.size) (H0 : own_BD Z n0 D o0 r b kb st sz vs ln ea h0) (hs : sz.toInt = n) (hn : n < 16) (HD : own_ST Z D) (hl : ln < 10) : OwnMeets l Z (⟨"com/example/querent/querent/match/BuilderStatesFromPinLaw", "part", "(Lcom/example/querent/querent/match/Automaton$Builder;II)V"⟩ : MethodName) method_3_code 3 none ws ({ frames := 8, cells := 2, slots := 12, locals := 108 } : Room) #[(.ref o0), (.int x1), (.int x2)] h0 (fun v h L => v = none ∧ Fr n0 L ∧ ∃ (st' : Int64) (w : Int32) (ln' : Nat) (ea' : Addr), (w = (-1 : Int32) ↔ x1 = (1 : Int32)) ∧ ln' ≤ ln + 1 ∧ own_BD Z n0 D o0 r b kb st' (sz + (1 : Int32)) (vs.set n w) ln' ea' h) := by
  refine OwnMeets.of_walk (plainFor_of_name pn_0) (fun m => ef_10 m o0 x1 x2) ?_
  intro p e s m below meth c T0 X0 K e0
  obtain ⟨hx, hby, hml, hret, hlk, hnm, hown, hZ⟩ := id K
  have N0 := Fr.nil n0
  obtain ⟨cE1, cM1, cS1, cT1, cP1, cZ1, cV1, cL1, cA1, cB1, n11, n21, n31, n41, n51, cO1, cR1⟩ := id H0
  refine en_iloadN X0 hx (hb hby d10_0) (pc' := 1) rfl ?_
  by_cases hk0 : x1 = (0 : Int32)
  · refine en_ifNo X0 hx (hb hby d10_1) ((if0 _ _).trans (teq hk0).2) (pc' := 4) ?_
    refine en_aloadN X0 hx (hb hby d10_4) (pc' := 5) rfl rfl ?_
    refine en_iloadN X0 hx (hb hby d10_5) (pc' := 6) rfl ?_
    refine en_callU X0 hx hZ (rm := ({ frames := 7, cells := 2, slots := 12, locals := 95 } : Room)) (y := (⟨"com/example/querent/querent/match/Automaton$Builder", "literal", "(I)V"⟩ : MethodName)) (z := (⟨"com/example/querent/querent/match/Automaton$Postfix", "literal", "(I)V"⟩ : MethodName)) (K := "com/example/querent/querent/match/Automaton$Builder") (owner := "com/example/querent/querent/match/Automaton$Postfix") hown (tw hw 66 rfl) (tw hw 67 rfl) (tw hw 68 rfl) (tw hw 70 rfl) (tw hw 69 rfl) (tw hw 11 rfl) (tw hw 71 rfl) cE1 (by decide) (rm11 l Z a0 hw [] o0 x2 n D r b kb st sz vs ln ea h0 n0 Z0 H0 hs hn HD hl) e0 (by decide) 0 rfl (by decide) (by decide) (by decide) (by rw [hml]; rfl) (argsL := [(.int x2)]) (rest := []) (lenOf pd_5 rfl) rfl (hb hby d10_6) (pc' := 9) (fun v2 T2 Lq2 X2 hQ2 => ?_)
    obtain ⟨h2, e2⟩ : ∃ q, T2.heap = q := ⟨_, rfl⟩
    rw [e2] at hQ2
    obtain ⟨rfl, Nq2, st', wv, ea', hwv, Hw⟩ := hQ2
    have N2 := Fr.app N0 Nq2
    show OwnEnds p e below s _ _ _ T2 m 9 #[.val (.ref o0), .val (.int x1), .val (.int x2)] []
    refine en_goto X2 hx (hb hby d10_9) (pc' := 40) ?_
    exact en_ret0 X2 hx hret hlk (hb hby d10_40) (by decide) (by decide) (by first | (rw [e2]; exact ⟨rfl, N2, st', wv, _, ea', ⟨fun q => absurd q hwv, fun q => absurd (hk0 ▸ q) (by decide)⟩, Nat.le_refl _, Hw⟩) | exact ⟨rfl, N2, st', wv, _, ea', ⟨fun q => absurd q hwv, fun q => absurd (hk0 ▸ q) (by decide)⟩, Nat.le_refl _, Hw⟩)
  · refine en_ifYes X0 hx (hb hby d10_1) ((if0 _ _).trans (feq hk0).2) (pc' := 12) ?_
    refine en_iloadN X0 hx (hb hby d10_12) (pc' := 13) rfl ?_
    refine en_iconst X0 hx (1 : Int32) (hb hby d10_13) (pc' := 14) ?_
    by_cases hk1 : x1 = (1 : Int32)
    · refine en_icmpNo X0 hx (hb hby d10_14) (teq hk1).2 (pc' := 17) ?_
      refine en_aloadN X0 hx (hb hby d10_17) (pc' := 18) rfl rfl ?_
      refine en_callU X0 hx hZ (rm := ({ frames := 1, cells := 0, slots := 0, locals := 13 } : Room)) (y := (⟨"com/example/querent/querent/match/Automaton$Builder", "concat", "()V"⟩ : MethodName)) (z := (⟨"com/example/querent/querent/match/Automaton$Postfix", "concat", "()V"⟩ : MethodName)) (K := "com/example/querent/querent/match/Automaton$Builder") (owner := "com/example/querent/querent/match/Automaton$Postfix") hown (tw hw 136 rfl) (tw hw 137 rfl) (tw hw 138 rfl) (tw hw 140 rfl) (tw hw 139 rfl) (tw hw 11 rfl) (tw hw 141 rfl) cE1 (by decide) (rm22 l Z a0 hw [] o0 n D r b kb st sz vs ln ea h0 n0 Z0 H0 hs hn) e0 (by decide) 0 rfl (by decide) (by decide) (by decide) (by rw [hml]; rfl) (argsL := []) (rest := []) (lenOf pd_0 rfl) rfl (hb hby d10_18) (pc' := 21) (fun v4 T4 Lq4 X4 hQ4 => ?_)
      obtain ⟨h4, e4⟩ : ∃ q, T4.heap = q := ⟨_, rfl⟩
      rw [e4] at hQ4
      obtain ⟨rfl, Nq4, Kq4, Hw⟩ := hQ4
      have N4 := Fr.app N0 Nq4
      show OwnEnds p e below s _ _ _ T4 m 21 #[.val (.ref o0), .val (.int x1), .val (.int x2)] []
      have E4_o0 := cE1.keep Kq4
      have Z4 : n0 ≤ h4.size := Nat.le_trans Z0 Kq4.1
      refine en_goto X4 hx (hb hby d10_21) (pc' := 40) ?_
      exact en_ret0 X4 hx hret hlk (hb hby d10_40) (by decide) (by decide) (by first | (rw [e4]; exact ⟨rfl, N4, _, _, _, _, ⟨fun _ => hk1, fun _ => rfl⟩, Nat.le_succ _, Hw⟩) | exact ⟨rfl, N4, _, _, _, _, ⟨fun _ => hk1, fun _ => rfl⟩, Nat.le_succ _, Hw⟩)
    · refine en_icmpYes X0 hx (hb hby d10_14) (feq hk1).2 (pc' := 24) ?_
      refine en_iloadN X0 hx (hb hby d10_24) (pc' := 25) rfl ?_
      refine en_iconst X0 hx (2 : Int32) (hb hby d10_25) (pc' := 26) ?_
      by_cases hk2 : x1 = (2 : Int32)
      · refine en_icmpNo X0 hx (hb hby d10_26) (teq hk2).2 (pc' := 29) ?_
        refine en_aloadN X0 hx (hb hby d10_29) (pc' := 30) rfl rfl ?_
        refine en_callU X0 hx hZ (rm := ({ frames := 1, cells := 0, slots := 0, locals := 14 } : Room)) (y := (⟨"com/example/querent/querent/match/Automaton$Builder", "star", "()V"⟩ : MethodName)) (z := (⟨"com/example/querent/querent/match/Automaton$Postfix", "star", "()V"⟩ : MethodName)) (K := "com/example/querent/querent/match/Automaton$Builder") (owner := "com/example/querent/querent/match/Automaton$Postfix") hown (tw hw 145 rfl) (tw hw 146 rfl) (tw hw 147 rfl) (tw hw 149 rfl) (tw hw 148 rfl) (tw hw 11 rfl) (tw hw 150 rfl) cE1 (by decide) (rm23 l Z a0 hw [] o0 n D r b kb st sz vs ln ea h0 n0 Z0 H0 hs hn) e0 (by decide) 0 rfl (by decide) (by decide) (by decide) (by rw [hml]; rfl) (argsL := []) (rest := []) (lenOf pd_0 rfl) rfl (hb hby d10_30) (pc' := 33) (fun v5 T5 Lq5 X5 hQ5 => ?_)
        obtain ⟨h5, e5⟩ : ∃ q, T5.heap = q := ⟨_, rfl⟩
        rw [e5] at hQ5
        obtain ⟨rfl, Nq5, Kq5, Hw⟩ := hQ5
        have N5 := Fr.app N0 Nq5
        show OwnEnds p e below s _ _ _ T5 m 33 #[.val (.ref o0), .val (.int x1), .val (.int x2)] []
        have E5_o0 := cE1.keep Kq5
        have Z5 : n0 ≤ h5.size := Nat.le_trans Z0 Kq5.1
        refine en_goto X5 hx (hb hby d10_33) (pc' := 40) ?_
        exact en_ret0 X5 hx hret hlk (hb hby d10_40) (by decide) (by decide) (by first | (rw [e5]; exact ⟨rfl, N5, _, _, _, _, ⟨fun q => absurd q (by decide), fun q => absurd q hk1⟩, Nat.le_succ _, Hw⟩) | exact ⟨rfl, N5, _, _, _, _, ⟨fun q => absurd q (by decide), fun q => absurd q hk1⟩, Nat.le_succ _, Hw⟩)
      · refine en_icmpYes X0 hx (hb hby d10_26) (feq hk2).2 (pc' := 36) ?_
        refine en_aloadN X0 hx (hb hby d10_36) (pc' := 37) rfl rfl ?_
        refine en_callU X0 hx hZ (rm := ({ frames := 1, cells := 0, slots := 0, locals := 14 } : Room)) (y := (⟨"com/example/querent/querent/match/Automaton$Builder", "empty", "()V"⟩ : MethodName)) (z := (⟨"com/example/querent/querent/match/Automaton$Postfix", "empty", "()V"⟩ : MethodName)) (K := "com/example/querent/querent/match/Automaton$Builder") (owner := "com/example/querent/querent/match/Automaton$Postfix") hown (tw hw 151 rfl) (tw hw 152 rfl) (tw hw 153 rfl) (tw hw 155 rfl) (tw hw 154 rfl) (tw hw 11 rfl) (tw hw 156 rfl) cE1 (by decide) (rm24 l Z a0 hw [] o0 n D r b kb st sz vs ln ea h0 n0 Z0 H0 hs hn) e0 (by decide) 0 rfl (by decide) (by decide) (by decide) (by rw [hml]; rfl) (argsL := []) (rest := []) (lenOf pd_0 rfl) rfl (hb hby d10_37) (pc' := 40) (fun v6 T6 Lq6 X6 hQ6 => ?_)
        obtain ⟨h6, e6⟩ : ∃ q, T6.heap = q := ⟨_, rfl⟩
        rw [e6] at hQ6
        obtain ⟨rfl, Nq6, Kq6, Hw⟩ := hQ6
        have N6 := Fr.app N0 Nq6
        show OwnEnds p e below s _ _ _ T6 m 40 #[.val (.ref o0), .val (.int x1), .val (.int x2)] []
        have E6_o0 := cE1.keep Kq6
        have Z6 : n0 ≤ h6.size := Nat.le_trans Z0 Kq6.1
        exact en_ret0 X6 hx hret hlk (hb hby d10_40) (by decide) (by decide) (by first | (rw [e6]; exact ⟨rfl, N6, _, _, _, _, ⟨fun q => absurd q (by decide), fun q => absurd q hk1⟩, Nat.le_succ _, Hw⟩) | exact ⟨rfl, N6, _, _, _, _, ⟨fun q => absurd q (by decide), fun q => absurd q hk1⟩, Nat.le_succ _, Hw⟩)
theorem d9_0 : decode prog_17_method_2_code 0 = .ok (.aload_n 0, 1) := by decide +kernel
theorem d9_1 : decode prog_17_method_2_code 1 = .ok (.getfield 24, 3) := by decide +kernel
theorem d9_4 : decode prog_17_method_2_code 4 = .ok (.ireturn, 1) := by decide +kernel
theorem ef_9 (m : MethodId) (o0 : Addr) : entryFrame m #[(.ref o0)] 1 = mkF m 0 #[.val (.ref o0)] [] := by first | (simp [entryFrame, mkF, argsToLocals, Value.category]; done) | rfl
set_option maxRecDepth 65536 in
set_option maxHeartbeats 40000000 in
theorem rm9 (l : Launch) (Z : State) (a0 : Array Value) (hw : ∀ d ∈ tables_1, d.before a0 Z = true) (ws : List Jvm.Cond) (o0 : Addr) (D : Addr) (r : Addr) (b : Addr) (kb : ClassId) (st : Int64) (sz : Int32) (vs : List Int32) (ln : Nat) (ea : Addr) (h0 : Heap) (n0 : Nat) (Z0 : n0 ≤ h0.size) (H0 : own_BD Z n0 D o0 r b kb st sz vs ln ea h0) : OwnMeets l Z (⟨"com/example/querent/querent/match/Automaton$Builder", "size", "()I"⟩ : MethodName) prog_17_method_2_code 1 (some .int) ws ({ frames := 0, cells := 0, slots := 0, locals := 0 } : Room) #[(.ref o0)] h0 (PQ (.int sz) h0) := by
  refine OwnMeets.of_walk (plainFor_of_name pn_5) (fun m => ef_9 m o0) ?_
  intro p e s m below meth c T0 X0 K e0
  obtain ⟨hx, hby, hml, hret, hlk, hnm, hown, hZ⟩ := id K
  have N0 := Fr.nil n0
  obtain ⟨cE1, cM1, cS1, cT1, cP1, cZ1, cV1, cL1, cA1, cB1, n11, n21, n31, n41, n51, cO1, cR1⟩ := id H0
  refine en_aloadN X0 hx (hb hby d9_0) (pc' := 1) rfl rfl ?_
  refine en_getF X0 hx hZ hown (host := "") (Or.inl (tw hw 52 rfl)) Via.refl e0 cZ1 (hb hby d9_1) (pc' := 4) (fun T2 X2 e2 => ?_)
  exact en_retI X2 hx hret hlk (hb hby d9_4) (by decide) (by decide) (by first | (rw [e2]; exact ⟨rfl, rfl, rfl⟩) | exact ⟨rfl, rfl, rfl⟩)
theorem d7_0 : decode prog_17_method_5_code 0 = .ok (.lconst 0, 1) := by decide +kernel
theorem d7_1 : decode prog_17_method_5_code 1 = .ok (.lstore_n 2, 1) := by decide +kernel
theorem d7_2 : decode prog_17_method_5_code 2 = .ok (.iload_n 1, 1) := by decide +kernel
theorem d7_3 : decode prog_17_method_5_code 3 = .ok (.istore 4, 2) := by decide +kernel
theorem d7_5 : decode prog_17_method_5_code 5 = .ok (.iload 4, 2) := by decide +kernel
theorem d7_7 : decode prog_17_method_5_code 7 = .ok (.aload_n 0, 1) := by decide +kernel
theorem d7_8 : decode prog_17_method_5_code 8 = .ok (.getfield 24, 3) := by decide +kernel
theorem d7_11 : decode prog_17_method_5_code 11 = .ok (.if_icmp .ge 24, 3) := by decide +kernel
theorem d7_14 : decode prog_17_method_5_code 14 = .ok (.aload_n 0, 1) := by decide +kernel
theorem d7_15 : decode prog_17_method_5_code 15 = .ok (.getfield 20, 3) := by decide +kernel
theorem d7_18 : decode prog_17_method_5_code 18 = .ok (.iload 4, 2) := by decide +kernel
theorem d7_20 : decode prog_17_method_5_code 20 = .ok (.iaload, 1) := by decide +kernel
theorem d7_21 : decode prog_17_method_5_code 21 = .ok (.iconst (-1), 1) := by decide +kernel
theorem d7_22 : decode prog_17_method_5_code 22 = .ok (.if_icmp .eq 7, 3) := by decide +kernel
theorem d7_25 : decode prog_17_method_5_code 25 = .ok (.lload_n 2, 1) := by decide +kernel
theorem d7_26 : decode prog_17_method_5_code 26 = .ok (.lconst 1, 1) := by decide +kernel
theorem d7_27 : decode prog_17_method_5_code 27 = .ok (.ladd, 1) := by decide +kernel
theorem d7_28 : decode prog_17_method_5_code 28 = .ok (.lstore_n 2, 1) := by decide +kernel
theorem d7_29 : decode prog_17_method_5_code 29 = .ok (.iinc 4 1, 3) := by decide +kernel
theorem d7_32 : decode prog_17_method_5_code 32 = .ok (.goto (-27), 3) := by decide +kernel
theorem d7_35 : decode prog_17_method_5_code 35 = .ok (.lload_n 2, 1) := by decide +kernel
theorem d7_36 : decode prog_17_method_5_code 36 = .ok (.lreturn, 1) := by decide +kernel
set_option maxHeartbeats 4000000 in
theorem loop7 {p : Program} {l : Launch} {e : Env} {s : State} {m : MethodId} {args : Array Value} {below : List Frame} {meth : Method} {c : Code} {Z : State} {a0 : Array Value} {h : Heap} {n0 : Nat} {D r b o0 e0 : Addr} {kb : ClassId} {x1 sz : Int32} {st : Int64} {vs : List Int32} {n ln : Nat} (hw : ∀ d ∈ tables_1, d.before a0 Z = true) (K : Cx p s m meth c Z (⟨"com/example/querent/querent/match/Automaton$Builder", "statesFrom", "(I)J"⟩ : MethodName) prog_17_method_5_code 5 (some .long)) (H0 : own_BD Z n0 D o0 r b kb st sz vs ln e0 h) (hs : sz.toInt = n) (hn16 : n ≤ 16) (k : Nat) :
    ∀ (i : Nat) (iI : Int32) (acc : Int64) (T : State) (X : Stand p l e ({ frames := 0, cells := 0, slots := 0, locals := 0 } : Room) s m args below meth c T [] 0 0) (eT : T.heap = h), n - i ≤ k → iI.toInt = i → OwnEnds p e below s ({ frames := 0, cells := 0, slots := 0, locals := 0 } : Room).cells ({ frames := 0, cells := 0, slots := 0, locals := 0 } : Room).slots (PQ (.long (own_cnt acc vs i (n - i))) h) T m 5 #[.val (.ref o0), .val (.int x1), .val (.long acc), .second, .val (.int iI)] [] := by
  obtain ⟨hx, hby, hml, hret, hlk, hnm, hown, hZ⟩ := id K
  induction k with
  | zero =>
    intro i iI acc T X eT hk hi
    obtain ⟨cE1, cM1, cS1, cT1, cP1, cZ1, cV1, cL1, cA1, cB1, n11, n21, n31, n41, n51, cO1, cR1⟩ := id H0
    refine en_iload X hx (hb hby d7_5) (pc' := 7) rfl ?_
    refine en_aloadN X hx (hb hby d7_7) (pc' := 8) rfl rfl ?_
    refine en_getF X hx hZ hown (host := "") (Or.inl (tw hw 52 rfl)) Via.refl eT cZ1 (hb hby d7_8) (pc' := 11) (fun T2 X2 e2 => ?_)
    by_cases hlt : iI < sz
    · refine en_icmpNo X2 hx (hb hby d7_11) (tlt hlt).2.1 (pc' := 14) ?_
      have hil : i < n := by rw [Int32.lt_iff_toInt_lt, hi, hs] at hlt; omega
      exact absurd hil (by omega)
    · refine en_icmpYes X2 hx (hb hby d7_11) (flt hlt).2.1 (pc' := 35) ?_
      have hge : n - i = 0 := by rw [Int32.lt_iff_toInt_lt, hi, hs] at hlt; omega
      rw [hge]
      refine en_lloadN X2 hx (hb hby d7_35) (pc' := 36) rfl ?_
      exact en_retL X2 hx hret hlk (hb hby d7_36) (by decide) (by decide) (by first | (rw [e2]; exact ⟨rfl, rfl, rfl⟩) | exact ⟨rfl, rfl, rfl⟩)
  | succ k ih =>
    intro i iI acc T X eT hk hi
    obtain ⟨cE1, cM1, cS1, cT1, cP1, cZ1, cV1, cL1, cA1, cB1, n11, n21, n31, n41, n51, cO1, cR1⟩ := id H0
    refine en_iload X hx (hb hby d7_5) (pc' := 7) rfl ?_
    refine en_aloadN X hx (hb hby d7_7) (pc' := 8) rfl rfl ?_
    refine en_getF X hx hZ hown (host := "") (Or.inl (tw hw 52 rfl)) Via.refl eT cZ1 (hb hby d7_8) (pc' := 11) (fun T2 X2 e2 => ?_)
    by_cases hlt : iI < sz
    · refine en_icmpNo X2 hx (hb hby d7_11) (tlt hlt).2.1 (pc' := 14) ?_
      have hil : i < n := by rw [Int32.lt_iff_toInt_lt, hi, hs] at hlt; omega
      have hq : n - i = (n - (i + 1)) + 1 := by omega
      rw [hq]
      refine en_aloadN X2 hx (hb hby d7_14) (pc' := 15) rfl rfl ?_
      refine en_getF X2 hx hZ hown (host := "") (Or.inl (tw hw 45 rfl)) Via.refl e2 cP1 (hb hby d7_15) (pc' := 18) (fun T3 X3 e3 => ?_)
      refine en_iload X3 hx (hb hby d7_18) (pc' := 20) rfl ?_
      refine en_iaload X3 hx hZ e3 cV1 (own_in hi (by omega)) (x := (vs.getD i 0)) (by rw [own_clamp hi]; exact own_get vs i) (hb hby d7_20) (pc' := 21) ?_
      refine en_iconst X3 hx (-1 : Int32) (hb hby d7_21) (pc' := 22) ?_
      by_cases hm : (vs.getD i 0) = (-1 : Int32)
      · refine en_icmpYes X3 hx (hb hby d7_22) (teq hm).1 (pc' := 29) ?_
        have hu : own_cnt acc vs i ((n - (i + 1)) + 1) = own_cnt (if vs.getD i 0 = (-1 : Int32) then acc else acc + 1) vs (i + 1) (n - (i + 1)) := rfl
        rw [hu, if_pos hm]
        refine en_iinc X3 hx (hb hby d7_29) (pc' := 32) (Ls' := #[.val (.ref o0), .val (.int x1), .val (.long acc), .second, .val (.int (iI + (1 : Int32)))]) rfl rfl ?_
        refine en_goto X3 hx (hb hby d7_32) (pc' := 5) ?_
        exact ih (i + 1) _ _ _ X3 e3 (by omega) (own_inc hi (by omega))
      · refine en_icmpNo X3 hx (hb hby d7_22) (feq hm).1 (pc' := 25) ?_
        have hu : own_cnt acc vs i ((n - (i + 1)) + 1) = own_cnt (if vs.getD i 0 = (-1 : Int32) then acc else acc + 1) vs (i + 1) (n - (i + 1)) := rfl
        rw [hu, if_neg hm]
        refine en_lloadN X3 hx (hb hby d7_25) (pc' := 26) rfl ?_
        refine en_lconst X3 hx (1 : Int64) (hb hby d7_26) (pc' := 27) ?_
        refine en_ladd X3 hx (hb hby d7_27) (pc' := 28) ?_
        refine en_lstoreN X3 hx (hb hby d7_28) (pc' := 29) (Ls' := #[.val (.ref o0), .val (.int x1), .val (.long (acc + (1 : Int64))), .second, .val (.int iI)]) rfl ?_
        refine en_iinc X3 hx (hb hby d7_29) (pc' := 32) (Ls' := #[.val (.ref o0), .val (.int x1), .val (.long (acc + (1 : Int64))), .second, .val (.int (iI + (1 : Int32)))]) rfl rfl ?_
        refine en_goto X3 hx (hb hby d7_32) (pc' := 5) ?_
        exact ih (i + 1) _ _ _ X3 e3 (by omega) (own_inc hi (by omega))
    · refine en_icmpYes X2 hx (hb hby d7_11) (flt hlt).2.1 (pc' := 35) ?_
      have hge : n - i = 0 := by rw [Int32.lt_iff_toInt_lt, hi, hs] at hlt; omega
      rw [hge]
      refine en_lloadN X2 hx (hb hby d7_35) (pc' := 36) rfl ?_
      exact en_retL X2 hx hret hlk (hb hby d7_36) (by decide) (by decide) (by first | (rw [e2]; exact ⟨rfl, rfl, rfl⟩) | exact ⟨rfl, rfl, rfl⟩)
theorem ef_7 (m : MethodId) (o0 : Addr) (x1 : Int32) : entryFrame m #[(.ref o0), (.int x1)] 5 = mkF m 0 #[.val (.ref o0), .val (.int x1), .unset, .unset, .unset] [] := by first | (simp [entryFrame, mkF, argsToLocals, Value.category]; done) | rfl
set_option maxRecDepth 65536 in
set_option maxHeartbeats 40000000 in
theorem rm7 (l : Launch) (Z : State) (a0 : Array Value) (hw : ∀ d ∈ tables_1, d.before a0 Z = true) (ws : List Jvm.Cond) (o0 : Addr) (x1 : Int32) (i : Nat) (n : Nat) (D : Addr) (r : Addr) (b : Addr) (kb : ClassId) (st : Int64) (sz : Int32) (vs : List Int32) (ln : Nat) (ea : Addr) (h0 : Heap) (n0 : Nat) (Z0 : n0 ≤ h0.size) (H0 : own_BD Z n0 D o0 r b kb st sz vs ln ea h0) (hi : x1.toInt = i) (hs : sz.toInt = n) (hn16 : n ≤ 16) : OwnMeets l Z (⟨"com/example/querent/querent/match/Automaton$Builder", "statesFrom", "(I)J"⟩ : MethodName) prog_17_method_5_code 5 (some .long) ws ({ frames := 0, cells := 0, slots := 0, locals := 0 } : Room) #[(.ref o0), (.int x1)] h0 (PQ (.long (own_cnt (0 : Int64) vs i (n - i))) h0) := by
  refine OwnMeets.of_walk (plainFor_of_name pn_5) (fun m => ef_7 m o0 x1) ?_
  intro p e s m below meth c T0 X0 K e0
  obtain ⟨hx, hby, hml, hret, hlk, hnm, hown, hZ⟩ := id K
  have N0 := Fr.nil n0
  refine en_lconst X0 hx (0 : Int64) (hb hby d7_0) (pc' := 1) ?_
  refine en_lstoreN X0 hx (hb hby d7_1) (pc' := 2) (Ls' := #[.val (.ref o0), .val (.int x1), .val (.long (0 : Int64)), .second, .unset]) rfl ?_
  refine en_iloadN X0 hx (hb hby d7_2) (pc' := 3) rfl ?_
  refine en_istore X0 hx (hb hby d7_3) (pc' := 5) (Ls' := #[.val (.ref o0), .val (.int x1), .val (.long (0 : Int64)), .second, .val (.int x1)]) rfl ?_
  exact loop7 hw K H0 hs hn16 n i _ _ _ X0 e0 (by omega) hi
theorem d2_0 : decode prog_19_method_1_code 0 = .ok (.aload_n 0, 1) := by decide +kernel
theorem d2_1 : decode prog_19_method_1_code 1 = .ok (.invokespecial 3, 3) := by decide +kernel
theorem d2_4 : decode prog_19_method_1_code 4 = .ok (.aload_n 0, 1) := by decide +kernel
theorem d2_5 : decode prog_19_method_1_code 5 = .ok (.lload_n 1, 1) := by decide +kernel
theorem d2_6 : decode prog_19_method_1_code 6 = .ok (.putfield 9, 3) := by decide +kernel
theorem d2_9 : decode prog_19_method_1_code 9 = .ok (.return_, 1) := by decide +kernel
theorem ef_2 (m : MethodId) (o0 : Addr) (x1 : Int64) : entryFrame m #[(.ref o0), (.long x1)] 3 = mkF m 0 #[.val (.ref o0), .val (.long x1), .second] [] := by first | (simp [entryFrame, mkF, argsToLocals, Value.category]; done) | rfl
set_option maxRecDepth 65536 in
set_option maxHeartbeats 40000000 in
theorem rm2 (l : Launch) (Z : State) (a0 : Array Value) (hw : ∀ d ∈ tables_1, d.before a0 Z = true) (ws : List Jvm.Cond) (o0 : Addr) (x1 : Int64) (h0 : Heap) (n0 : Nat) (Z0 : n0 ≤ h0.size) (E0 : Exa Z h0 o0 "com/example/querent/querent/match/Automaton$Builder") (F_maxStates : Fld Z h0 o0 "com/example/querent/querent/match/Automaton$Postfix" "maxStates" "J" (.long (0 : Int64))) (F_states : Fld Z h0 o0 "com/example/querent/querent/match/Automaton$Postfix" "states" "J" (.long (0 : Int64))) (F_sets : Fld Z h0 o0 "com/example/querent/querent/match/Automaton$Builder" "sets" "Ljava/util/List;" .null) (F_postfix : Fld Z h0 o0 "com/example/querent/querent/match/Automaton$Builder" "postfix" "[I" .null) (F_size : Fld Z h0 o0 "com/example/querent/querent/match/Automaton$Builder" "size" "I" (.int (0 : Int32))) (g0 : n0 ≤ o0) : OwnMeets l Z (⟨"com/example/querent/querent/match/Automaton$Postfix", "<init>", "(J)V"⟩ : MethodName) prog_19_method_1_code 3 none ws ({ frames := 1, cells := 0, slots := 0, locals := 12 } : Room) #[(.ref o0), (.long x1)] h0 (fun v h L => v = none ∧ Fr n0 L ∧ Keep h0 h [o0] ∧ Fld Z h o0 "com/example/querent/querent/match/Automaton$Postfix" "maxStates" "J" (.long x1) ∧ Fld Z h o0 "com/example/querent/querent/match/Automaton$Postfix" "states" "J" (.long (0 : Int64)) ∧ Fld Z h o0 "com/example/querent/querent/match/Automaton$Builder" "sets" "Ljava/util/List;" .null ∧ Fld Z h o0 "com/example/querent/querent/match/Automaton$Builder" "postfix" "[I" .null ∧ Fld Z h o0 "com/example/querent/querent/match/Automaton$Builder" "size" "I" (.int (0 : Int32))) := by
  refine OwnMeets.of_walk (plainFor_of_name pn_4) (fun m => ef_2 m o0 x1) ?_
  intro p e s m below meth c T0 X0 K e0
  obtain ⟨hx, hby, hml, hret, hlk, hnm, hown, hZ⟩ := id K
  have N0 := Fr.nil n0
  refine en_aloadN X0 hx (hb hby d2_0) (pc' := 1) rfl rfl ?_
  refine en_initO X0 hx hZ hown (tw hw 13 rfl) (tw hw 14 rfl) (tw hw 15 rfl) e0 (by rw [hml]; rfl) (hb hby d2_1) (by decide) 0 rfl (by decide) (pc' := 4) (fun T1 X1 e1 => ?_)
  refine en_aloadN X1 hx (hb hby d2_4) (pc' := 5) rfl rfl ?_
  refine en_lloadN X1 hx (hb hby d2_5) (pc' := 6) rfl ?_
  refine en_putF X1 hx hZ hown (host := "") (Or.inl (tw hw 16 rfl)) Via.refl e1 F_maxStates E0 (Or.inr ⟨(tw hw 17 rfl), rfl, hnm⟩) (tw hw 2 rfl) (ty := .long) (by decide) rfl rfl (hb hby d2_6) (pc' := 9) (fun T2 h2 X2 e2 W2 => ?_)
  have F2_o0_states := F_states.other W2 (Or.inr (slot_ne (Or.inl (tw hw 82 rfl)) (Or.inr (tw hw 17 rfl)) (by decide) (t := .long) (t' := .long) (by decide) (by decide)))
  have F2_o0_sets := F_sets.other W2 (Or.inr (slot_ne (Or.inr (tw hw 43 rfl)) (Or.inr (tw hw 17 rfl)) (by decide) (t := (.object "java/util/List")) (t' := .long) (by decide) (by decide)))
  have F2_o0_postfix := F_postfix.other W2 (Or.inr (slot_ne (Or.inl (tw hw 46 rfl)) (Or.inr (tw hw 17 rfl)) (by decide) (t := (.array .int)) (t' := .long) (by decide) (by decide)))
  have F2_o0_size := F_size.other W2 (Or.inr (slot_ne (Or.inl (tw hw 53 rfl)) (Or.inr (tw hw 17 rfl)) (by decide) (t := .int) (t' := .long) (by decide) (by decide)))
  have E2_o0 := E0.wr W2
  have K2 : Keep h0 h2 [o0] := (Keep.refl h0 [o0]).wr W2 (Or.inl (List.mem_of_getElem? (i := 0) rfl))
  have Z2 : n0 ≤ h2.size := Nat.le_trans Z0 (Keep.of_wr W2).1
  have N2 := Fr.snoc X2 N0 g0
  have F2_o0_maxStates := F_maxStates.same W2
  exact en_ret0 X2 hx hret hlk (hb hby d2_9) (by decide) (by decide) (by first | (rw [e2]; exact ⟨rfl, N2, K2, F2_o0_maxStates, F2_o0_states, F2_o0_sets, F2_o0_postfix, F2_o0_size⟩) | exact ⟨rfl, N2, K2, F2_o0_maxStates, F2_o0_states, F2_o0_sets, F2_o0_postfix, F2_o0_size⟩)
def own_z16 : List Int32 := [0, 0, 0, 0, 0, 0, 0, 0, 0, 0, 0, 0, 0, 0, 0, 0]
theorem d1_0 : decode prog_17_method_1_code 0 = .ok (.aload_n 0, 1) := by decide +kernel
theorem d1_1 : decode prog_17_method_1_code 1 = .ok (.lload_n 1, 1) := by decide +kernel
theorem d1_2 : decode prog_17_method_1_code 2 = .ok (.invokespecial 3, 3) := by decide +kernel
theorem d1_5 : decode prog_17_method_1_code 5 = .ok (.aload_n 0, 1) := by decide +kernel
theorem d1_6 : decode prog_17_method_1_code 6 = .ok (.new 9, 3) := by decide +kernel
theorem d1_9 : decode prog_17_method_1_code 9 = .ok (.dup, 1) := by decide +kernel
theorem d1_10 : decode prog_17_method_1_code 10 = .ok (.invokespecial 11, 3) := by decide +kernel
theorem d1_13 : decode prog_17_method_1_code 13 = .ok (.putfield 14, 3) := by decide +kernel
theorem d1_16 : decode prog_17_method_1_code 16 = .ok (.aload_n 0, 1) := by decide +kernel
theorem d1_17 : decode prog_17_method_1_code 17 = .ok (.bipush 16, 2) := by decide +kernel
theorem d1_19 : decode prog_17_method_1_code 19 = .ok (.newarray .int, 2) := by decide +kernel
theorem d1_21 : decode prog_17_method_1_code 21 = .ok (.putfield 20, 3) := by decide +kernel
theorem d1_24 : decode prog_17_method_1_code 24 = .ok (.return_, 1) := by decide +kernel
theorem ef_1 (m : MethodId) (o0 : Addr) (x1 : Int64) : entryFrame m #[(.ref o0), (.long x1)] 3 = mkF m 0 #[.val (.ref o0), .val (.long x1), .second] [] := by first | (simp [entryFrame, mkF, argsToLocals, Value.category]; done) | rfl
set_option maxRecDepth 65536 in
set_option maxHeartbeats 40000000 in
theorem rm1 (l : Launch) (Z : State) (a0 : Array Value) (hw : ∀ d ∈ tables_1, d.before a0 Z = true) (ws : List Jvm.Cond) (o0 : Addr) (D : Addr) (h0 : Heap) (n0 : Nat) (Z0 : n0 ≤ h0.size) (E0 : Exa Z h0 o0 "com/example/querent/querent/match/Automaton$Builder") (F_maxStates : Fld Z h0 o0 "com/example/querent/querent/match/Automaton$Postfix" "maxStates" "J" (.long (0 : Int64))) (F_states : Fld Z h0 o0 "com/example/querent/querent/match/Automaton$Postfix" "states" "J" (.long (0 : Int64))) (F_sets : Fld Z h0 o0 "com/example/querent/querent/match/Automaton$Builder" "sets" "Ljava/util/List;" .null) (F_postfix : Fld Z h0 o0 "com/example/querent/querent/match/Automaton$Builder" "postfix" "[I" .null) (F_size : Fld Z h0 o0 "com/example/querent/querent/match/Automaton$Builder" "size" "I" (.int (0 : Int32))) (g0 : n0 ≤ o0) (HD : own_ST Z D) (OZ : Old Z n0 h0) : OwnMeets l Z (⟨"com/example/querent/querent/match/Automaton$Builder", "<init>", "(J)V"⟩ : MethodName) prog_17_method_1_code 3 none ws ({ frames := 4, cells := 2, slots := 19, locals := 50 } : Room) #[(.ref o0), (.long (9223372036854775807 : Int64))] h0 (fun v h L => ∃ r b kb, v = none ∧ Fr n0 L ∧ own_BD Z n0 D o0 r b kb (0 : Int64) (0 : Int32) own_z16 0 D h) := by
  refine OwnMeets.of_walk (plainFor_of_name pn_5) (fun m => ef_1 m o0 (9223372036854775807 : Int64)) ?_
  intro p e s m below meth c T0 X0 K e0
  obtain ⟨hx, hby, hml, hret, hlk, hnm, hown, hZ⟩ := id K
  have N0 := Fr.nil n0
  refine en_aloadN X0 hx (hb hby d1_0) (pc' := 1) rfl rfl ?_
  refine en_lloadN X0 hx (hb hby d1_1) (pc' := 2) rfl ?_
  refine en_callN X0 hx hZ (rm := ({ frames := 1, cells := 0, slots := 0, locals := 12 } : Room)) (y := (⟨"com/example/querent/querent/match/Automaton$Postfix", "<init>", "(J)V"⟩ : MethodName)) hown rfl (tw hw 8 rfl) (tw hw 9 rfl) (tw hw 11 rfl) (tw hw 12 rfl) (by decide) (rm2 l Z a0 hw [] o0 (9223372036854775807 : Int64) h0 n0 Z0 E0 F_maxStates F_states F_sets F_postfix F_size g0) e0 (by decide) 0 rfl (by decide) (by decide) (by decide) (by rw [hml]; rfl) (argsL := [(.long (9223372036854775807 : Int64))]) (rest := []) (lenOf pd_6 rfl) rfl (hb hby d1_2) (pc' := 5) (fun v1 T1 Lq1 X1 hQ1 => ?_)
  obtain ⟨h1, e1⟩ : ∃ q, T1.heap = q := ⟨_, rfl⟩
  rw [e1] at hQ1
  obtain ⟨rfl, Nq1, Kq1, G0, G1, G2, G3, G4⟩ := hQ1
  have N1 := Fr.app N0 Nq1
  show OwnEnds p e below s _ _ _ T1 m 5 #[.val (.ref o0), .val (.long (9223372036854775807 : Int64)), .second] []
  have E1_o0 := E0.keep Kq1
  have K1 : Keep h0 h1 [o0] := Keep.trans (Keep.refl h0 [o0]) Kq1 (allS (Or.inl (List.mem_of_getElem? (i := 0) rfl)) all0)
  have Z1 : n0 ≤ h1.size := Nat.le_trans Z0 Kq1.1
  have O1 : Old Z n0 h1 := OZ.keep Kq1 (allS (P := fun x => n0 ≤ x) g0 all0)
  refine en_aloadN X1 hx (hb hby d1_5) (pc' := 6) rfl rfl ?_
  refine en_newO X1 hx hZ hown (tw hw 18 rfl) (tw hw 19 rfl) (tw hw 20 rfl) e1 (hb hby d1_6) (by decide) (by decide) (pc' := 9) (fun T2 h2 b2 g2 X2 e2 E2 A2 D2 => ?_)
  have ne2_o0 : o0 ≠ b2 := by rw [g2]; exact Nat.ne_of_lt E1_o0.lt
  have g_b2 : n0 ≤ b2 := by rw [g2]; exact Z1
  have sz_b2 : h0.size ≤ b2 := by rw [g2]; exact K1.1
  have F2_o0_maxStates := G0.ext E2
  have F2_o0_states := G1.ext E2
  have F2_o0_sets := G2.ext E2
  have F2_o0_postfix := G3.ext E2
  have F2_o0_size := G4.ext E2
  have E2_o0 := E1_o0.ext E2
  have K2 : Keep h0 h2 [o0] := K1.ext E2
  have Z2 : n0 ≤ h2.size := Nat.le_trans Z1 E2.1
  have O2 : Old Z n0 h2 := O1.ext E2
  have F2_b2_modCount : Fld Z h2 b2 "java/util/AbstractList" "modCount" "I" (.int (0 : Int32)) := D2 (Or.inl (tw hw 38 rfl)) (ty := .int) (by decide)
  have F2_b2_elementData : Fld Z h2 b2 "java/util/ArrayList" "elementData" "[Ljava/lang/Object;" .null := D2 (Or.inl (tw hw 41 rfl)) (ty := (.array (.object "java/lang/Object"))) (by decide)
  have F2_b2_size : Fld Z h2 b2 "java/util/ArrayList" "size" "I" (.int (0 : Int32)) := D2 (Or.inl (tw hw 100 rfl)) (ty := .int) (by decide)
  refine en_dup X2 hx (hb hby d1_9) (pc' := 10) rfl ?_
  refine en_callN X2 hx hZ (rm := ({ frames := 3, cells := 0, slots := 0, locals := 36 } : Room)) (y := (⟨"java/util/ArrayList", "<init>", "()V"⟩ : MethodName)) hown rfl (tw hw 21 rfl) (tw hw 22 rfl) (tw hw 20 rfl) (tw hw 23 rfl) (by decide) (rm4 l Z a0 hw [] b2 D h2 n0 Z2 A2 F2_b2_modCount F2_b2_size F2_b2_elementData g_b2 HD O2) e2 (by decide) 2 rfl (by decide) (by decide) (by decide) (by rw [hml]; rfl) (argsL := []) (rest := [(.ref b2), (.ref o0)]) (lenOf pd_0 rfl) rfl (hb hby d1_10) (pc' := 13) (fun v3 T3 Lq3 X3 hQ3 => ?_)
  obtain ⟨h3, e3⟩ : ∃ q, T3.heap = q := ⟨_, rfl⟩
  rw [e3] at hQ3
  obtain ⟨rfl, Nq3, Kq3, On, HA⟩ := hQ3
  have N3 := Fr.app N1 Nq3
  show OwnEnds p e below s _ _ _ T3 m 13 #[.val (.ref o0), .val (.long (9223372036854775807 : Int64)), .second] [(.ref b2), (.ref o0)]
  have F3_o0_maxStates := F2_o0_maxStates.keep Kq3 (ninS ne2_o0 nin0)
  have F3_o0_states := F2_o0_states.keep Kq3 (ninS ne2_o0 nin0)
  have F3_o0_sets := F2_o0_sets.keep Kq3 (ninS ne2_o0 nin0)
  have F3_o0_postfix := F2_o0_postfix.keep Kq3 (ninS ne2_o0 nin0)
  have F3_o0_size := F2_o0_size.keep Kq3 (ninS ne2_o0 nin0)
  have E3_o0 := E2_o0.keep Kq3
  have E3_b2 := A2.keep Kq3
  have K3 : Keep h0 h3 [o0] := Keep.trans K2 Kq3 (allS (Or.inr sz_b2) all0)
  have Z3 : n0 ≤ h3.size := Nat.le_trans Z2 Kq3.1
  have KA := Keep.refl h3 [o0]
  refine en_putF X3 hx hZ hown (host := "") (Or.inl (tw hw 42 rfl)) Via.refl e3 F3_o0_sets E3_o0 (Or.inr ⟨(tw hw 43 rfl), rfl, hnm⟩) (tw hw 2 rfl) (ty := (.object "java/util/List")) (by decide) rfl rfl (hb hby d1_13) (pc' := 16) (fun T4 h4 X4 e4 W4 => ?_)
  have F4_o0_maxStates := F3_o0_maxStates.other W4 (Or.inr (slot_ne (Or.inr (tw hw 17 rfl)) (Or.inr (tw hw 43 rfl)) (by decide) (t := .long) (t' := (.object "java/util/List")) (by decide) (by decide)))
  have F4_o0_states := F3_o0_states.other W4 (Or.inr (slot_ne (Or.inl (tw hw 82 rfl)) (Or.inr (tw hw 43 rfl)) (by decide) (t := .long) (t' := (.object "java/util/List")) (by decide) (by decide)))
  have F4_o0_postfix := F3_o0_postfix.other W4 (Or.inr (slot_ne (Or.inl (tw hw 46 rfl)) (Or.inr (tw hw 43 rfl)) (by decide) (t := (.array .int)) (t' := (.object "java/util/List")) (by decide) (by decide)))
  have F4_o0_size := F3_o0_size.other W4 (Or.inr (slot_ne (Or.inl (tw hw 53 rfl)) (Or.inr (tw hw 43 rfl)) (by decide) (t := .int) (t' := (.object "java/util/List")) (by decide) (by decide)))
  have E4_o0 := E3_o0.wr W4
  have E4_b2 := E3_b2.wr W4
  have K4 : Keep h0 h4 [o0] := K3.wr W4 (Or.inl (List.mem_of_getElem? (i := 0) rfl))
  have Z4 : n0 ≤ h4.size := Nat.le_trans Z3 (Keep.of_wr W4).1
  have O4 : Old Z n0 h4 := On.wr W4 g0
  have N4 := Fr.snoc X4 N3 g0
  have F4_o0_sets := F3_o0_sets.same W4
  refine en_aloadN X4 hx (hb hby d1_16) (pc' := 17) rfl rfl ?_
  refine en_bipush X4 hx (16 : Int32) (hb hby d1_17) (pc' := 19) ?_
  refine en_newP X4 hx hZ (tw hw 44 rfl) e4 (hb hby d1_19) (by decide) 16 (by decide) (by decide) (by decide) (by decide) (pc' := 21) (fun T5 h5 b5 k5 g5 X5 e5 E5 V50 => ?_)
  have ne5_o0 : o0 ≠ b5 := by rw [g5]; exact Nat.ne_of_lt E4_o0.lt
  have ne5_b2 : b2 ≠ b5 := by rw [g5]; exact Nat.ne_of_lt E4_b2.lt
  have g_b5 : n0 ≤ b5 := by rw [g5]; exact Z4
  have sz_b5 : h0.size ≤ b5 := by rw [g5]; exact K4.1
  have F5_o0_maxStates := F4_o0_maxStates.ext E5
  have F5_o0_states := F4_o0_states.ext E5
  have F5_o0_sets := F4_o0_sets.ext E5
  have F5_o0_postfix := F4_o0_postfix.ext E5
  have F5_o0_size := F4_o0_size.ext E5
  have E5_o0 := E4_o0.ext E5
  have E5_b2 := E4_b2.ext E5
  have K5 : Keep h0 h5 [o0] := K4.ext E5
  have Z5 : n0 ≤ h5.size := Nat.le_trans Z4 E5.1
  have O5 : Old Z n0 h5 := O4.ext E5
  have V5 : Arv Z h5 b5 k5 .int (16 : Int32) [(.int (0 : Int32)), (.int (0 : Int32)), (.int (0 : Int32)), (.int (0 : Int32)), (.int (0 : Int32)), (.int (0 : Int32)), (.int (0 : Int32)), (.int (0 : Int32)), (.int (0 : Int32)), (.int (0 : Int32)), (.int (0 : Int32)), (.int (0 : Int32)), (.int (0 : Int32)), (.int (0 : Int32)), (.int (0 : Int32)), (.int (0 : Int32))] (.int (0 : Int32)) := V50.pad (pad_rep [] (.int (0 : Int32)) 16)
  refine en_putF X5 hx hZ hown (host := "") (Or.inl (tw hw 45 rfl)) Via.refl e5 F5_o0_postfix E5_o0 (Or.inl (tw hw 46 rfl)) (tw hw 2 rfl) (ty := (.array .int)) (by decide) rfl rfl (hb hby d1_21) (pc' := 24) (fun T6 h6 X6 e6 W6 => ?_)
  have F6_o0_maxStates := F5_o0_maxStates.other W6 (Or.inr (slot_ne (Or.inr (tw hw 17 rfl)) (Or.inl (tw hw 46 rfl)) (by decide) (t := .long) (t' := (.array .int)) (by decide) (by decide)))
  have F6_o0_states := F5_o0_states.other W6 (Or.inr (slot_ne (Or.inl (tw hw 82 rfl)) (Or.inl (tw hw 46 rfl)) (by decide) (t := .long) (t' := (.array .int)) (by decide) (by decide)))
  have F6_o0_sets := F5_o0_sets.other W6 (Or.inr (slot_ne (Or.inr (tw hw 43 rfl)) (Or.inl (tw hw 46 rfl)) (by decide) (t := (.object "java/util/List")) (t' := (.array .int)) (by decide) (by decide)))
  have F6_o0_size := F5_o0_size.other W6 (Or.inr (slot_ne (Or.inl (tw hw 53 rfl)) (Or.inl (tw hw 46 rfl)) (by decide) (t := .int) (t' := (.array .int)) (by decide) (by decide)))
  have E6_o0 := E5_o0.wr W6
  have E6_b2 := E5_b2.wr W6
  have V6_b5 := V5.other W6 (Ne.symm ne5_o0)
  have K6 : Keep h0 h6 [o0] := K5.wr W6 (Or.inl (List.mem_of_getElem? (i := 0) rfl))
  have Z6 : n0 ≤ h6.size := Nat.le_trans Z5 (Keep.of_wr W6).1
  have O6 : Old Z n0 h6 := O5.wr W6 g0
  have N6 := Fr.snoc X6 N4 g0
  have F6_o0_postfix := F5_o0_postfix.same W6
  have Vz : Arv Z h6 b5 k5 .int (16 : Int32) (own_z16.map Value.int) (.int (0 : Int32)) := V6_b5
  have neo : D ≠ o0 := Nat.ne_of_lt (Nat.lt_of_lt_of_le (OZ.1 ▸ HD.1) g0)
  have neb : D ≠ b5 := Nat.ne_of_lt (Nat.lt_of_lt_of_le (OZ.1 ▸ HD.1) g_b5)
  have HA2 := HA.keep (((KA.wr W4 (Or.inl (List.mem_of_getElem? (i := 0) rfl))).ext E5).wr W6 (Or.inl (List.mem_of_getElem? (i := 0) rfl))) (ninS (Ne.symm ne2_o0) nin0) (ninS neo nin0)
  exact en_ret0 X6 hx hret hlk (hb hby d1_24) (by decide) (by decide) (by first | (rw [e6]; exact ⟨b2, b5, k5, rfl, N6, ⟨E6_o0, F6_o0_maxStates, F6_o0_states, F6_o0_sets, F6_o0_postfix, F6_o0_size, Vz, rfl, g0, g_b5, ne5_o0, (Ne.symm ne2_o0), ne5_b2, neo, neb, O6, HA2⟩⟩) | exact ⟨b2, b5, k5, rfl, N6, ⟨E6_o0, F6_o0_maxStates, F6_o0_states, F6_o0_sets, F6_o0_postfix, F6_o0_size, Vz, rfl, g0, g_b5, ne5_o0, (Ne.symm ne2_o0), ne5_b2, neo, neb, O6, HA2⟩⟩)
theorem own_len {s : State} {args : Array Value} {t : Term} {D : Addr} {cl : Cell} {ty : FieldType} {z : Int32} (h : (Jvm.Cond.eq (Term.length t) (Term.int z)).before args s = true) (ev : t.eval args s none [] s = some (.ref D)) (A : Arr s s.heap D cl ty) : cl.slots.size < 2 ^ 31 ∧ cl.slots.size.toInt32 = z := by
  have ha : s.arrayAt? D = some cl := A.fin (Vm.Alike.refl _)
  have h' := Cond.before_iff.mp h
  by_cases q : cl.slots.size < 2 ^ 31
  · have e := len_f ev ha q
    refine ⟨q, ?_⟩
    simp only [Cond.value, e, Term.int_eval] at h'
    simpa using h'
  · have e : (Term.length t).eval args s none [] s = none := by simp [Term.eval, ev, ha]; omega
    simp [Cond.value, e] at h'
theorem own_st {s : State} {args : Array Value} {C n d : String} {O : String} (hi : (Jvm.Cond.initialized C).before args s = true) (hl : (Jvm.Cond.laysStatic C n d).before args s = true) (ha : (Jvm.Cond.arrayOf (Term.static C n d) (.object O)).before args s = true) (hn : (Jvm.Cond.eq (Term.length (Term.static C n d)) (Term.int 0)).before args s = true) :
    ∃ D, D < s.heap.size ∧ Sta s s.heap C n d (.ref D) ∧ ∃ kD, Arv s s.heap D kD (.object O) (0 : Int32) [] .null := by
  have ha' := Cond.before_iff.mp ha
  obtain ⟨D, ev⟩ := arr_v ha'
  obtain ⟨cl, A⟩ := Arr.start ev ha'
  obtain ⟨q1, q2⟩ := own_len hn ev A
  have q3 : cl.slots.size = 0 := by
    have h1 := len_toInt q1
    rw [q2] at h1
    have h0 : (0 : Int32).toInt = 0 := rfl
    omega
  exact ⟨D, A.lt, Sta.start ev (Or.inr ⟨hi, hl⟩), cl.cls, cl, A, rfl, q3, by decide, fun k hk => absurd hk (by omega), fun k hk => absurd hk (by omega)⟩
theorem own_five (x : Int32) {q : Int32} (h : ((x &&& (2147483647 : Int32)) % (5 : Int32)) = q) : q = 0 ∨ q = 1 ∨ q = 2 ∨ q = 3 ∨ q = 4 := by
  subst h
  have h1 := (c_iremV (x &&& (2147483647 : Int32)) 5).1 ((c_and x 2147483647 (by decide)).1) (by decide)
  have e5 : (5 : Int32).toInt = 5 := rfl
  rcases (by omega : ((x &&& (2147483647 : Int32)) % (5 : Int32)).toInt = 0 ∨ ((x &&& (2147483647 : Int32)) % (5 : Int32)).toInt = 1 ∨ ((x &&& (2147483647 : Int32)) % (5 : Int32)).toInt = 2 ∨ ((x &&& (2147483647 : Int32)) % (5 : Int32)).toInt = 3 ∨ ((x &&& (2147483647 : Int32)) % (5 : Int32)).toInt = 4) with q | q | q | q | q
  · exact Or.inl (Int32.toInt_inj.mp q)
  · exact Or.inr (Or.inl (Int32.toInt_inj.mp q))
  · exact Or.inr (Or.inr (Or.inl (Int32.toInt_inj.mp q)))
  · exact Or.inr (Or.inr (Or.inr (Or.inl (Int32.toInt_inj.mp q))))
  · exact Or.inr (Or.inr (Or.inr (Or.inr (Int32.toInt_inj.mp q))))
theorem own_from (x : Int32) (y : Int32) (n : Nat) (hy : y.toInt = ((n + 1 : Nat) : Int)) {q : Int32} (h : ((x &&& (2147483647 : Int32)) % y) = q) : ∃ i : Nat, i ≤ n ∧ q.toInt = i := by
  subst h
  have h1 := (c_iremV (x &&& (2147483647 : Int32)) y).1 ((c_and x 2147483647 (by decide)).1) (by omega)
  obtain ⟨i, hi⟩ := Int.eq_ofNat_of_zero_le h1.1
  exact ⟨i, by omega, hi⟩
theorem own_of {c : Int32} {n : Nat} (h : c.toInt = n) : c = Int32.ofNat n := by
  have := Int32.toInt_lt c
  apply Int32.toInt_inj.mp
  rw [h, Int32.toInt_ofNat']
  have e : Int32.size = 2 ^ 32 := rfl
  rw [Int.bmod_eq_of_le] <;> omega
theorem own_fin_0_0 (k0 k1 k2 k3 : Int32)  : own_cnt (0 : Int64) own_z16 0 (0 - 0) = ((((f8 (0 : Int32) (0 : Int32) (0 : Int32) k0) + (f8 (1 : Int32) (0 : Int32) (0 : Int32) k1)) + (f8 (2 : Int32) (0 : Int32) (0 : Int32) k2)) + (f8 (3 : Int32) (0 : Int32) (0 : Int32) k3)) := by
  have e : own_cnt (0 : Int64) own_z16 0 (0 - 0) = (0 : Int64) := rfl
  rw [e]
  unfold f8
  simp []
theorem own_fin_0 (k0 k1 k2 k3 fr : Int32)  (i : Nat) (hi : i ≤ 0) (hf : fr.toInt = i) : own_cnt (0 : Int64) own_z16 i (0 - i) = ((((f8 (0 : Int32) fr (0 : Int32) k0) + (f8 (1 : Int32) fr (0 : Int32) k1)) + (f8 (2 : Int32) fr (0 : Int32) k2)) + (f8 (3 : Int32) fr (0 : Int32) k3)) := by
  rw [own_of hf]
  match i, hi with
  | 0, _ => exact own_fin_0_0  k0 k1 k2 k3 
theorem own_fin_1_0 (w0 : Int32) (k0 k1 k2 k3 : Int32) (h0 : w0 = (-1 : Int32) ↔ k0 = (1 : Int32)) : own_cnt (0 : Int64) (own_z16.set 0 w0) 0 (1 - 0) = ((((f8 (0 : Int32) (0 : Int32) (1 : Int32) k0) + (f8 (1 : Int32) (0 : Int32) (1 : Int32) k1)) + (f8 (2 : Int32) (0 : Int32) (1 : Int32) k2)) + (f8 (3 : Int32) (0 : Int32) (1 : Int32) k3)) := by
  have e : own_cnt (0 : Int64) (own_z16.set 0 w0) 0 (1 - 0) = (if w0 = (-1 : Int32) then (0 : Int64) else (0 : Int64) + 1) := rfl
  rw [e]
  unfold f8
  by_cases c0 : k0 = (1 : Int32) <;> simp [h0, c0]
theorem own_fin_1_1 (w0 : Int32) (k0 k1 k2 k3 : Int32) (h0 : w0 = (-1 : Int32) ↔ k0 = (1 : Int32)) : own_cnt (0 : Int64) (own_z16.set 0 w0) 1 (1 - 1) = ((((f8 (0 : Int32) (1 : Int32) (1 : Int32) k0) + (f8 (1 : Int32) (1 : Int32) (1 : Int32) k1)) + (f8 (2 : Int32) (1 : Int32) (1 : Int32) k2)) + (f8 (3 : Int32) (1 : Int32) (1 : Int32) k3)) := by
  have e : own_cnt (0 : Int64) (own_z16.set 0 w0) 1 (1 - 1) = (0 : Int64) := rfl
  rw [e]
  unfold f8
  simp []
theorem own_fin_1 (w0 : Int32) (k0 k1 k2 k3 fr : Int32) (h0 : w0 = (-1 : Int32) ↔ k0 = (1 : Int32)) (i : Nat) (hi : i ≤ 1) (hf : fr.toInt = i) : own_cnt (0 : Int64) (own_z16.set 0 w0) i (1 - i) = ((((f8 (0 : Int32) fr (1 : Int32) k0) + (f8 (1 : Int32) fr (1 : Int32) k1)) + (f8 (2 : Int32) fr (1 : Int32) k2)) + (f8 (3 : Int32) fr (1 : Int32) k3)) := by
  rw [own_of hf]
  match i, hi with
  | 0, _ => exact own_fin_1_0 w0 k0 k1 k2 k3 h0
  | 1, _ => exact own_fin_1_1 w0 k0 k1 k2 k3 h0
theorem own_fin_2_0 (w0 w1 : Int32) (k0 k1 k2 k3 : Int32) (h0 : w0 = (-1 : Int32) ↔ k0 = (1 : Int32)) (h1 : w1 = (-1 : Int32) ↔ k1 = (1 : Int32)) : own_cnt (0 : Int64) ((own_z16.set 0 w0).set 1 w1) 0 (2 - 0) = ((((f8 (0 : Int32) (0 : Int32) (2 : Int32) k0) + (f8 (1 : Int32) (0 : Int32) (2 : Int32) k1)) + (f8 (2 : Int32) (0 : Int32) (2 : Int32) k2)) + (f8 (3 : Int32) (0 : Int32) (2 : Int32) k3)) := by
  have e : own_cnt (0 : Int64) ((own_z16.set 0 w0).set 1 w1) 0 (2 - 0) = (if w1 = (-1 : Int32) then (if w0 = (-1 : Int32) then (0 : Int64) else (0 : Int64) + 1) else (if w0 = (-1 : Int32) then (0 : Int64) else (0 : Int64) + 1) + 1) := rfl
  rw [e]
  unfold f8
  by_cases c0 : k0 = (1 : Int32) <;> by_cases c1 : k1 = (1 : Int32) <;> simp [h0, h1, c0, c1]
theorem own_fin_2_1 (w0 w1 : Int32) (k0 k1 k2 k3 : Int32) (h0 : w0 = (-1 : Int32) ↔ k0 = (1 : Int32)) (h1 : w1 = (-1 : Int32) ↔ k1 = (1 : Int32)) : own_cnt (0 : Int64) ((own_z16.set 0 w0).set 1 w1) 1 (2 - 1) = ((((f8 (0 : Int32) (1 : Int32) (2 : Int32) k0) + (f8 (1 : Int32) (1 : Int32) (2 : Int32) k1)) + (f8 (2 : Int32) (1 : Int32) (2 : Int32) k2)) + (f8 (3 : Int32) (1 : Int32) (2 : Int32) k3)) := by
  have e : own_cnt (0 : Int64) ((own_z16.set 0 w0).set 1 w1) 1 (2 - 1) = (if w1 = (-1 : Int32) then (0 : Int64) else (0 : Int64) + 1) := rfl
  rw [e]
  unfold f8
  by_cases c1 : k1 = (1 : Int32) <;> simp [h1, c1]
theorem own_fin_2_2 (w0 w1 : Int32) (k0 k1 k2 k3 : Int32) (h0 : w0 = (-1 : Int32) ↔ k0 = (1 : Int32)) (h1 : w1 = (-1 : Int32) ↔ k1 = (1 : Int32)) : own_cnt (0 : Int64) ((own_z16.set 0 w0).set 1 w1) 2 (2 - 2) = ((((f8 (0 : Int32) (2 : Int32) (2 : Int32) k0) + (f8 (1 : Int32) (2 : Int32) (2 : Int32) k1)) + (f8 (2 : Int32) (2 : Int32) (2 : Int32) k2)) + (f8 (3 : Int32) (2 : Int32) (2 : Int32) k3)) := by
  have e : own_cnt (0 : Int64) ((own_z16.set 0 w0).set 1 w1) 2 (2 - 2) = (0 : Int64) := rfl
  rw [e]
  unfold f8
  simp []
theorem own_fin_2 (w0 w1 : Int32) (k0 k1 k2 k3 fr : Int32) (h0 : w0 = (-1 : Int32) ↔ k0 = (1 : Int32)) (h1 : w1 = (-1 : Int32) ↔ k1 = (1 : Int32)) (i : Nat) (hi : i ≤ 2) (hf : fr.toInt = i) : own_cnt (0 : Int64) ((own_z16.set 0 w0).set 1 w1) i (2 - i) = ((((f8 (0 : Int32) fr (2 : Int32) k0) + (f8 (1 : Int32) fr (2 : Int32) k1)) + (f8 (2 : Int32) fr (2 : Int32) k2)) + (f8 (3 : Int32) fr (2 : Int32) k3)) := by
  rw [own_of hf]
  match i, hi with
  | 0, _ => exact own_fin_2_0 w0 w1 k0 k1 k2 k3 h0 h1
  | 1, _ => exact own_fin_2_1 w0 w1 k0 k1 k2 k3 h0 h1
  | 2, _ => exact own_fin_2_2 w0 w1 k0 k1 k2 k3 h0 h1
theorem own_fin_3_0 (w0 w1 w2 : Int32) (k0 k1 k2 k3 : Int32) (h0 : w0 = (-1 : Int32) ↔ k0 = (1 : Int32)) (h1 : w1 = (-1 : Int32) ↔ k1 = (1 : Int32)) (h2 : w2 = (-1 : Int32) ↔ k2 = (1 : Int32)) : own_cnt (0 : Int64) (((own_z16.set 0 w0).set 1 w1).set 2 w2) 0 (3 - 0) = ((((f8 (0 : Int32) (0 : Int32) (3 : Int32) k0) + (f8 (1 : Int32) (0 : Int32) (3 : Int32) k1)) + (f8 (2 : Int32) (0 : Int32) (3 : Int32) k2)) + (f8 (3 : Int32) (0 : Int32) (3 : Int32) k3)) := by
  have e : own_cnt (0 : Int64) (((own_z16.set 0 w0).set 1 w1).set 2 w2) 0 (3 - 0) = (if w2 = (-1 : Int32) then (if w1 = (-1 : Int32) then (if w0 = (-1 : Int32) then (0 : Int64) else (0 : Int64) + 1) else (if w0 = (-1 : Int32) then (0 : Int64) else (0 : Int64) + 1) + 1) else (if w1 = (-1 : Int32) then (if w0 = (-1 : Int32) then (0 : Int64) else (0 : Int64) + 1) else (if w0 = (-1 : Int32) then (0 : Int64) else (0 : Int64) + 1) + 1) + 1) := rfl
  rw [e]
  unfold f8
  by_cases c0 : k0 = (1 : Int32) <;> by_cases c1 : k1 = (1 : Int32) <;> by_cases c2 : k2 = (1 : Int32) <;> simp [h0, h1, h2, c0, c1, c2]
theorem own_fin_3_1 (w0 w1 w2 : Int32) (k0 k1 k2 k3 : Int32) (h0 : w0 = (-1 : Int32) ↔ k0 = (1 : Int32)) (h1 : w1 = (-1 : Int32) ↔ k1 = (1 : Int32)) (h2 : w2 = (-1 : Int32) ↔ k2 = (1 : Int32)) : own_cnt (0 : Int64) (((own_z16.set 0 w0).set 1 w1).set 2 w2) 1 (3 - 1) = ((((f8 (0 : Int32) (1 : Int32) (3 : Int32) k0) + (f8 (1 : Int32) (1 : Int32) (3 : Int32) k1)) + (f8 (2 : Int32) (1 : Int32) (3 : Int32) k2)) + (f8 (3 : Int32) (1 : Int32) (3 : Int32) k3)) := by
  have e : own_cnt (0 : Int64) (((own_z16.set 0 w0).set 1 w1).set 2 w2) 1 (3 - 1) = (if w2 = (-1 : Int32) then (if w1 = (-1 : Int32) then (0 : Int64) else (0 : Int64) + 1) else (if w1 = (-1 : Int32) then (0 : Int64) else (0 : Int64) + 1) + 1) := rfl
  rw [e]
  unfold f8
  by_cases c1 : k1 = (1 : Int32) <;> by_cases c2 : k2 = (1 : Int32) <;> simp [h1, h2, c1, c2]
theorem own_fin_3_2 (w0 w1 w2 : Int32) (k0 k1 k2 k3 : Int32) (h0 : w0 = (-1 : Int32) ↔ k0 = (1 : Int32)) (h1 : w1 = (-1 : Int32) ↔ k1 = (1 : Int32)) (h2 : w2 = (-1 : Int32) ↔ k2 = (1 : Int32)) : own_cnt (0 : Int64) (((own_z16.set 0 w0).set 1 w1).set 2 w2) 2 (3 - 2) = ((((f8 (0 : Int32) (2 : Int32) (3 : Int32) k0) + (f8 (1 : Int32) (2 : Int32) (3 : Int32) k1)) + (f8 (2 : Int32) (2 : Int32) (3 : Int32) k2)) + (f8 (3 : Int32) (2 : Int32) (3 : Int32) k3)) := by
  have e : own_cnt (0 : Int64) (((own_z16.set 0 w0).set 1 w1).set 2 w2) 2 (3 - 2) = (if w2 = (-1 : Int32) then (0 : Int64) else (0 : Int64) + 1) := rfl
  rw [e]
  unfold f8
  by_cases c2 : k2 = (1 : Int32) <;> simp [h2, c2]
theorem own_fin_3_3 (w0 w1 w2 : Int32) (k0 k1 k2 k3 : Int32) (h0 : w0 = (-1 : Int32) ↔ k0 = (1 : Int32)) (h1 : w1 = (-1 : Int32) ↔ k1 = (1 : Int32)) (h2 : w2 = (-1 : Int32) ↔ k2 = (1 : Int32)) : own_cnt (0 : Int64) (((own_z16.set 0 w0).set 1 w1).set 2 w2) 3 (3 - 3) = ((((f8 (0 : Int32) (3 : Int32) (3 : Int32) k0) + (f8 (1 : Int32) (3 : Int32) (3 : Int32) k1)) + (f8 (2 : Int32) (3 : Int32) (3 : Int32) k2)) + (f8 (3 : Int32) (3 : Int32) (3 : Int32) k3)) := by
  have e : own_cnt (0 : Int64) (((own_z16.set 0 w0).set 1 w1).set 2 w2) 3 (3 - 3) = (0 : Int64) := rfl
  rw [e]
  unfold f8
  simp []
theorem own_fin_3 (w0 w1 w2 : Int32) (k0 k1 k2 k3 fr : Int32) (h0 : w0 = (-1 : Int32) ↔ k0 = (1 : Int32)) (h1 : w1 = (-1 : Int32) ↔ k1 = (1 : Int32)) (h2 : w2 = (-1 : Int32) ↔ k2 = (1 : Int32)) (i : Nat) (hi : i ≤ 3) (hf : fr.toInt = i) : own_cnt (0 : Int64) (((own_z16.set 0 w0).set 1 w1).set 2 w2) i (3 - i) = ((((f8 (0 : Int32) fr (3 : Int32) k0) + (f8 (1 : Int32) fr (3 : Int32) k1)) + (f8 (2 : Int32) fr (3 : Int32) k2)) + (f8 (3 : Int32) fr (3 : Int32) k3)) := by
  rw [own_of hf]
  match i, hi with
  | 0, _ => exact own_fin_3_0 w0 w1 w2 k0 k1 k2 k3 h0 h1 h2
  | 1, _ => exact own_fin_3_1 w0 w1 w2 k0 k1 k2 k3 h0 h1 h2
  | 2, _ => exact own_fin_3_2 w0 w1 w2 k0 k1 k2 k3 h0 h1 h2
  | 3, _ => exact own_fin_3_3 w0 w1 w2 k0 k1 k2 k3 h0 h1 h2
theorem own_fin_4_0 (w0 w1 w2 w3 : Int32) (k0 k1 k2 k3 : Int32) (h0 : w0 = (-1 : Int32) ↔ k0 = (1 : Int32)) (h1 : w1 = (-1 : Int32) ↔ k1 = (1 : Int32)) (h2 : w2 = (-1 : Int32) ↔ k2 = (1 : Int32)) (h3 : w3 = (-1 : Int32) ↔ k3 = (1 : Int32)) : own_cnt (0 : Int64) ((((own_z16.set 0 w0).set 1 w1).set 2 w2).set 3 w3) 0 (4 - 0) = ((((f8 (0 : Int32) (0 : Int32) (4 : Int32) k0) + (f8 (1 : Int32) (0 : Int32) (4 : Int32) k1)) + (f8 (2 : Int32) (0 : Int32) (4 : Int32) k2)) + (f8 (3 : Int32) (0 : Int32) (4 : Int32) k3)) := by
  have e : own_cnt (0 : Int64) ((((own_z16.set 0 w0).set 1 w1).set 2 w2).set 3 w3) 0 (4 - 0) = (if w3 = (-1 : Int32) then (if w2 = (-1 : Int32) then (if w1 = (-1 : Int32) then (if w0 = (-1 : Int32) then (0 : Int64) else (0 : Int64) + 1) else (if w0 = (-1 : Int32) then (0 : Int64) else (0 : Int64) + 1) + 1) else (if w1 = (-1 : Int32) then (if w0 = (-1 : Int32) then (0 : Int64) else (0 : Int64) + 1) else (if w0 = (-1 : Int32) then (0 : Int64) else (0 : Int64) + 1) + 1) + 1) else (if w2 = (-1 : Int32) then (if w1 = (-1 : Int32) then (if w0 = (-1 : Int32) then (0 : Int64) else (0 : Int64) + 1) else (if w0 = (-1 : Int32) then (0 : Int64) else (0 : Int64) + 1) + 1) else (if w1 = (-1 : Int32) then (if w0 = (-1 : Int32) then (0 : Int64) else (0 : Int64) + 1) else (if w0 = (-1 : Int32) then (0 : Int64) else (0 : Int64) + 1) + 1) + 1) + 1) := rfl
  rw [e]
  unfold f8
  by_cases c0 : k0 = (1 : Int32) <;> by_cases c1 : k1 = (1 : Int32) <;> by_cases c2 : k2 = (1 : Int32) <;> by_cases c3 : k3 = (1 : Int32) <;> simp [h0, h1, h2, h3, c0, c1, c2, c3]
theorem own_fin_4_1 (w0 w1 w2 w3 : Int32) (k0 k1 k2 k3 : Int32) (h0 : w0 = (-1 : Int32) ↔ k0 = (1 : Int32)) (h1 : w1 = (-1 : Int32) ↔ k1 = (1 : Int32)) (h2 : w2 = (-1 : Int32) ↔ k2 = (1 : Int32)) (h3 : w3 = (-1 : Int32) ↔ k3 = (1 : Int32)) : own_cnt (0 : Int64) ((((own_z16.set 0 w0).set 1 w1).set 2 w2).set 3 w3) 1 (4 - 1) = ((((f8 (0 : Int32) (1 : Int32) (4 : Int32) k0) + (f8 (1 : Int32) (1 : Int32) (4 : Int32) k1)) + (f8 (2 : Int32) (1 : Int32) (4 : Int32) k2)) + (f8 (3 : Int32) (1 : Int32) (4 : Int32) k3)) := by
  have e : own_cnt (0 : Int64) ((((own_z16.set 0 w0).set 1 w1).set 2 w2).set 3 w3) 1 (4 - 1) = (if w3 = (-1 : Int32) then (if w2 = (-1 : Int32) then (if w1 = (-1 : Int32) then (0 : Int64) else (0 : Int64) + 1) else (if w1 = (-1 : Int32) then (0 : Int64) else (0 : Int64) + 1) + 1) else (if w2 = (-1 : Int32) then (if w1 = (-1 : Int32) then (0 : Int64) else (0 : Int64) + 1) else (if w1 = (-1 : Int32) then (0 : Int64) else (0 : Int64) + 1) + 1) + 1) := rfl
  rw [e]
  unfold f8
  by_cases c1 : k1 = (1 : Int32) <;> by_cases c2 : k2 = (1 : Int32) <;> by_cases c3 : k3 = (1 : Int32) <;> simp [h1, h2, h3, c1, c2, c3]
theorem own_fin_4_2 (w0 w1 w2 w3 : Int32) (k0 k1 k2 k3 : Int32) (h0 : w0 = (-1 : Int32) ↔ k0 = (1 : Int32)) (h1 : w1 = (-1 : Int32) ↔ k1 = (1 : Int32)) (h2 : w2 = (-1 : Int32) ↔ k2 = (1 : Int32)) (h3 : w3 = (-1 : Int32) ↔ k3 = (1 : Int32)) : own_cnt (0 : Int64) ((((own_z16.set 0 w0).set 1 w1).set 2 w2).set 3 w3) 2 (4 - 2) = ((((f8 (0 : Int32) (2 : Int32) (4 : Int32) k0) + (f8 (1 : Int32) (2 : Int32) (4 : Int32) k1)) + (f8 (2 : Int32) (2 : Int32) (4 : Int32) k2)) + (f8 (3 : Int32) (2 : Int32) (4 : Int32) k3)) := by
  have e : own_cnt (0 : Int64) ((((own_z16.set 0 w0).set 1 w1).set 2 w2).set 3 w3) 2 (4 - 2) = (if w3 = (-1 : Int32) then (if w2 = (-1 : Int32) then (0 : Int64) else (0 : Int64) + 1) else (if w2 = (-1 : Int32) then (0 : Int64) else (0 : Int64) + 1) + 1) := rfl
  rw [e]
  unfold f8
  by_cases c2 : k2 = (1 : Int32) <;> by_cases c3 : k3 = (1 : Int32) <;> simp [h2, h3, c2, c3]
theorem own_fin_4_3 (w0 w1 w2 w3 : Int32) (k0 k1 k2 k3 : Int32) (h0 : w0 = (-1 : Int32) ↔ k0 = (1 : Int32)) (h1 : w1 = (-1 : Int32) ↔ k1 = (1 : Int32)) (h2 : w2 = (-1 : Int32) ↔ k2 = (1 : Int32)) (h3 : w3 = (-1 : Int32) ↔ k3 = (1 : Int32)) : own_cnt (0 : Int64) ((((own_z16.set 0 w0).set 1 w1).set 2 w2).set 3 w3) 3 (4 - 3) = ((((f8 (0 : Int32) (3 : Int32) (4 : Int32) k0) + (f8 (1 : Int32) (3 : Int32) (4 : Int32) k1)) + (f8 (2 : Int32) (3 : Int32) (4 : Int32) k2)) + (f8 (3 : Int32) (3 : Int32) (4 : Int32) k3)) := by
  have e : own_cnt (0 : Int64) ((((own_z16.set 0 w0).set 1 w1).set 2 w2).set 3 w3) 3 (4 - 3) = (if w3 = (-1 : Int32) then (0 : Int64) else (0 : Int64) + 1) := rfl
  rw [e]
  unfold f8
  by_cases c3 : k3 = (1 : Int32) <;> simp [h3, c3]
theorem own_fin_4_4 (w0 w1 w2 w3 : Int32) (k0 k1 k2 k3 : Int32) (h0 : w0 = (-1 : Int32) ↔ k0 = (1 : Int32)) (h1 : w1 = (-1 : Int32) ↔ k1 = (1 : Int32)) (h2 : w2 = (-1 : Int32) ↔ k2 = (1 : Int32)) (h3 : w3 = (-1 : Int32) ↔ k3 = (1 : Int32)) : own_cnt (0 : Int64) ((((own_z16.set 0 w0).set 1 w1).set 2 w2).set 3 w3) 4 (4 - 4) = ((((f8 (0 : Int32) (4 : Int32) (4 : Int32) k0) + (f8 (1 : Int32) (4 : Int32) (4 : Int32) k1)) + (f8 (2 : Int32) (4 : Int32) (4 : Int32) k2)) + (f8 (3 : Int32) (4 : Int32) (4 : Int32) k3)) := by
  have e : own_cnt (0 : Int64) ((((own_z16.set 0 w0).set 1 w1).set 2 w2).set 3 w3) 4 (4 - 4) = (0 : Int64) := rfl
  rw [e]
  unfold f8
  simp []
theorem own_fin_4 (w0 w1 w2 w3 : Int32) (k0 k1 k2 k3 fr : Int32) (h0 : w0 = (-1 : Int32) ↔ k0 = (1 : Int32)) (h1 : w1 = (-1 : Int32) ↔ k1 = (1 : Int32)) (h2 : w2 = (-1 : Int32) ↔ k2 = (1 : Int32)) (h3 : w3 = (-1 : Int32) ↔ k3 = (1 : Int32)) (i : Nat) (hi : i ≤ 4) (hf : fr.toInt = i) : own_cnt (0 : Int64) ((((own_z16.set 0 w0).set 1 w1).set 2 w2).set 3 w3) i (4 - i) = ((((f8 (0 : Int32) fr (4 : Int32) k0) + (f8 (1 : Int32) fr (4 : Int32) k1)) + (f8 (2 : Int32) fr (4 : Int32) k2)) + (f8 (3 : Int32) fr (4 : Int32) k3)) := by
  rw [own_of hf]
  match i, hi with
  | 0, _ => exact own_fin_4_0 w0 w1 w2 w3 k0 k1 k2 k3 h0 h1 h2 h3
  | 1, _ => exact own_fin_4_1 w0 w1 w2 w3 k0 k1 k2 k3 h0 h1 h2 h3
  | 2, _ => exact own_fin_4_2 w0 w1 w2 w3 k0 k1 k2 k3 h0 h1 h2 h3
  | 3, _ => exact own_fin_4_3 w0 w1 w2 w3 k0 k1 k2 k3 h0 h1 h2 h3
  | 4, _ => exact own_fin_4_4 w0 w1 w2 w3 k0 k1 k2 k3 h0 h1 h2 h3
theorem own_BD.sz {Z : State} {n0 : Nat} {D a r b : Addr} {kb : ClassId} {st : Int64} {sz : Int32} {vs : List Int32} {ln : Nat} {ea : Addr} {h : Heap} (H : own_BD Z n0 D a r b kb st sz vs ln ea h) : n0 ≤ h.size := by
  obtain ⟨-, -, -, -, -, -, -, -, -, -, -, -, -, -, -, O, -⟩ := H
  exact O.1 ▸ O.2.1
theorem ef_0 (m : MethodId) (x0 : Int32) (x1 : Int32) (x2 : Int32) (x3 : Int32) : entryFrame m #[(.int x0), (.int x1), (.int x2), (.int x3)] maxLocals = mkF m 0 #[.val (.int x0), .val (.int x1), .val (.int x2), .val (.int x3), .unset, .unset, .unset, .unset, .unset, .unset, .unset, .unset, .unset, .unset, .unset] [] := by first | (simp [entryFrame, mkF, argsToLocals, Value.category, maxLocals]; done) | rfl
theorem pd_10 : parseMethodDescriptor "(I)J" = some ⟨[.int], some .long⟩ := by decide +kernel
theorem pd_11 : parseMethodDescriptor "(IIII)J" = some ⟨[.int, .int, .int, .int], some .long⟩ := by decide +kernel
theorem pd_12 : parseMethodDescriptor "(Lcom/example/querent/querent/match/Automaton$Builder;II)V" = some ⟨[(.object "com/example/querent/querent/match/Automaton$Builder"), .int, .int], none⟩ := by decide +kernel
set_option maxRecDepth 65536 in
set_option maxHeartbeats 40000000 in
theorem rm0 (l : Launch) (Z : State) (a0 : Array Value) (hw : ∀ d ∈ tables_1, d.before a0 Z = true) (ws : List Jvm.Cond) (x0 : Int32) (x1 : Int32) (x2 : Int32) (x3 : Int32) (D : Addr) (h0 : Heap) (n0 : Nat) (Z0 : n0 ≤ h0.size) (HD : own_ST Z D) (OZ : Old Z n0 h0) : OwnMeets l Z x code maxLocals ret ws room_1 #[(.int x0), (.int x1), (.int x2), (.int x3)] h0 (fun v h L => v = some (.int (1 : Int32)) ∧ Fr n0 L) := by
  refine OwnMeets.of_walk (plainFor_of_name pn_0) (fun m => ef_0 m x0 x1 x2 x3) ?_
  intro p e s m below meth c T0 X0 K e0
  obtain ⟨hx, hby, hml, hret, hlk, hnm, hown, hZ⟩ := id K
  have N0 := Fr.nil n0
  refine en_iloadN X0 hx (hb hby at_0) (pc' := 1) rfl ?_
  refine en_ldc X0 hx hZ hown (tw hw 0 rfl) (hb hby at_1) (pc' := 3) ?_
  refine en_iand X0 hx (hb hby at_3) (pc' := 4) ?_
  refine en_iconst X0 hx (5 : Int32) (hb hby at_4) (pc' := 5) ?_
  refine en_irem X0 hx (hb hby at_5) (pc' := 6) (by decide) ?_
  generalize hnn : ((x0 &&& (2147483647 : Int32)) % (5 : Int32)) = nn
  rcases own_five x0 hnn with rfl | rfl | rfl | rfl | rfl
  · refine en_istore X0 hx (hb hby at_6) (pc' := 8) (Ls' := #[.val (.int x0), .val (.int x1), .val (.int x2), .val (.int x3), .val (.int (0 : Int32)), .unset, .unset, .unset, .unset, .unset, .unset, .unset, .unset, .unset, .unset]) rfl ?_
    refine en_iloadN X0 hx (hb hby at_8) (pc' := 9) rfl ?_
    refine en_ldc X0 hx hZ hown (tw hw 0 rfl) (hb hby at_9) (pc' := 11) ?_
    refine en_iand X0 hx (hb hby at_11) (pc' := 12) ?_
    refine en_iload X0 hx (hb hby at_12) (pc' := 14) rfl ?_
    refine en_iconst X0 hx (1 : Int32) (hb hby at_14) (pc' := 15) ?_
    refine en_iadd X0 hx (hb hby at_15) (pc' := 16) ?_
    refine en_irem X0 hx (hb hby at_16) (pc' := 17) (by decide) ?_
    generalize hfr : ((x1 &&& (2147483647 : Int32)) % ((0 : Int32) + (1 : Int32))) = fr
    obtain ⟨i, hi, hf⟩ := own_from x1 _ 0 rfl hfr
    refine en_istore X0 hx (hb hby at_17) (pc' := 19) (Ls' := #[.val (.int x0), .val (.int x1), .val (.int x2), .val (.int x3), .val (.int (0 : Int32)), .val (.int fr), .unset, .unset, .unset, .unset, .unset, .unset, .unset, .unset, .unset]) rfl ?_
    refine en_iloadN X0 hx (hb hby at_19) (pc' := 20) rfl ?_
    refine en_iconst X0 hx (3 : Int32) (hb hby at_20) (pc' := 21) ?_
    refine en_iand X0 hx (hb hby at_21) (pc' := 22) ?_
    generalize hk0 : (x2 &&& (3 : Int32)) = k0
    refine en_istore X0 hx (hb hby at_22) (pc' := 24) (Ls' := #[.val (.int x0), .val (.int x1), .val (.int x2), .val (.int x3), .val (.int (0 : Int32)), .val (.int fr), .val (.int k0), .unset, .unset, .unset, .unset, .unset, .unset, .unset, .unset]) rfl ?_
    refine en_iloadN X0 hx (hb hby at_24) (pc' := 25) rfl ?_
    refine en_iconst X0 hx (2 : Int32) (hb hby at_25) (pc' := 26) ?_
    refine en_iushr X0 hx (hb hby at_26) (pc' := 27) ?_
    refine en_iconst X0 hx (3 : Int32) (hb hby at_27) (pc' := 28) ?_
    refine en_iand X0 hx (hb hby at_28) (pc' := 29) ?_
    generalize hk1 : (((x2.toUInt32 >>> ((2 : Int32) &&& 31).toUInt32).toInt32) &&& (3 : Int32)) = k1
    refine en_istore X0 hx (hb hby at_29) (pc' := 31) (Ls' := #[.val (.int x0), .val (.int x1), .val (.int x2), .val (.int x3), .val (.int (0 : Int32)), .val (.int fr), .val (.int k0), .val (.int k1), .unset, .unset, .unset, .unset, .unset, .unset, .unset]) rfl ?_
    refine en_iloadN X0 hx (hb hby at_31) (pc' := 32) rfl ?_
    refine en_iconst X0 hx (4 : Int32) (hb hby at_32) (pc' := 33) ?_
    refine en_iushr X0 hx (hb hby at_33) (pc' := 34) ?_
    refine en_iconst X0 hx (3 : Int32) (hb hby at_34) (pc' := 35) ?_
    refine en_iand X0 hx (hb hby at_35) (pc' := 36) ?_
    generalize hk2 : (((x2.toUInt32 >>> ((4 : Int32) &&& 31).toUInt32).toInt32) &&& (3 : Int32)) = k2
    refine en_istore X0 hx (hb hby at_36) (pc' := 38) (Ls' := #[.val (.int x0), .val (.int x1), .val (.int x2), .val (.int x3), .val (.int (0 : Int32)), .val (.int fr), .val (.int k0), .val (.int k1), .val (.int k2), .unset, .unset, .unset, .unset, .unset, .unset]) rfl ?_
    refine en_iloadN X0 hx (hb hby at_38) (pc' := 39) rfl ?_
    refine en_bipush X0 hx (6 : Int32) (hb hby at_39) (pc' := 41) ?_
    refine en_iushr X0 hx (hb hby at_41) (pc' := 42) ?_
    refine en_iconst X0 hx (3 : Int32) (hb hby at_42) (pc' := 43) ?_
    refine en_iand X0 hx (hb hby at_43) (pc' := 44) ?_
    generalize hk3 : (((x2.toUInt32 >>> ((6 : Int32) &&& 31).toUInt32).toInt32) &&& (3 : Int32)) = k3
    refine en_istore X0 hx (hb hby at_44) (pc' := 46) (Ls' := #[.val (.int x0), .val (.int x1), .val (.int x2), .val (.int x3), .val (.int (0 : Int32)), .val (.int fr), .val (.int k0), .val (.int k1), .val (.int k2), .val (.int k3), .unset, .unset, .unset, .unset, .unset]) rfl ?_
    refine en_newO X0 hx hZ hown (tw hw 1 rfl) (tw hw 2 rfl) (tw hw 3 rfl) e0 (hb hby at_46) (by decide) (by decide) (pc' := 49) (fun T1 h1 b1 g1 X1 e1 E1 A1 D1 => ?_)
    have g_b1 : n0 ≤ b1 := by rw [g1]; exact Z0
    have Z1 : n0 ≤ h1.size := Nat.le_trans Z0 E1.1
    have O1 : Old Z n0 h1 := OZ.ext E1
    have F1_b1_maxStates : Fld Z h1 b1 "com/example/querent/querent/match/Automaton$Postfix" "maxStates" "J" (.long (0 : Int64)) := D1 (Or.inr (tw hw 17 rfl)) (ty := .long) (by decide)
    have F1_b1_sets : Fld Z h1 b1 "com/example/querent/querent/match/Automaton$Builder" "sets" "Ljava/util/List;" .null := D1 (Or.inr (tw hw 43 rfl)) (ty := (.object "java/util/List")) (by decide)
    have F1_b1_postfix : Fld Z h1 b1 "com/example/querent/querent/match/Automaton$Builder" "postfix" "[I" .null := D1 (Or.inl (tw hw 46 rfl)) (ty := (.array .int)) (by decide)
    have F1_b1_size : Fld Z h1 b1 "com/example/querent/querent/match/Automaton$Builder" "size" "I" (.int (0 : Int32)) := D1 (Or.inl (tw hw 53 rfl)) (ty := .int) (by decide)
    have F1_b1_states : Fld Z h1 b1 "com/example/querent/querent/match/Automaton$Postfix" "states" "J" (.long (0 : Int64)) := D1 (Or.inl (tw hw 82 rfl)) (ty := .long) (by decide)
    refine en_dup X1 hx (hb hby at_49) (pc' := 50) rfl ?_
    refine en_ldc2 X1 hx hZ hown (tw hw 4 rfl) (hb hby at_50) (pc' := 53) ?_
    refine en_callN X1 hx hZ (rm := ({ frames := 4, cells := 2, slots := 19, locals := 50 } : Room)) (y := (⟨"com/example/querent/querent/match/Automaton$Builder", "<init>", "(J)V"⟩ : MethodName)) hown rfl (tw hw 5 rfl) (tw hw 6 rfl) (tw hw 3 rfl) (tw hw 7 rfl) (by decide) (rm1 l Z a0 hw [] b1 D h1 n0 Z1 A1 F1_b1_maxStates F1_b1_states F1_b1_sets F1_b1_postfix F1_b1_size g_b1 HD O1) e1 (by decide) 1 rfl (by decide) (by decide) (by decide) (by rw [hml]; rfl) (argsL := [(.long (9223372036854775807 : Int64))]) (rest := [(.ref b1)]) (lenOf pd_6 rfl) rfl (hb hby at_53) (pc' := 56) (fun v2 T2 Lq2 X2 hQ2 => ?_)
    obtain ⟨h2, e2⟩ : ∃ q, T2.heap = q := ⟨_, rfl⟩
    rw [e2] at hQ2
    obtain ⟨r, bb, kb, rfl, Nq2, Hc⟩ := hQ2
    have N2 := Fr.app N0 Nq2
    show OwnEnds p e below s _ _ _ T2 m 56 #[.val (.int x0), .val (.int x1), .val (.int x2), .val (.int x3), .val (.int (0 : Int32)), .val (.int fr), .val (.int k0), .val (.int k1), .val (.int k2), .val (.int k3), .unset, .unset, .unset, .unset, .unset] [(.ref b1)]
    have Zs3 : n0 ≤ h2.size := own_BD.sz Hc
    refine en_astore X2 hx (hb hby at_56) (pc' := 58) (Ls' := #[.val (.int x0), .val (.int x1), .val (.int x2), .val (.int x3), .val (.int (0 : Int32)), .val (.int fr), .val (.int k0), .val (.int k1), .val (.int k2), .val (.int k3), .val (.ref b1), .unset, .unset, .unset, .unset]) rfl rfl ?_
    refine en_iload X2 hx (hb hby at_58) (pc' := 60) rfl ?_
    refine en_ifYes X2 hx (hb hby at_60) ((if0 _ _).trans (flt (by decide : ¬ (0 : Int32) < (0 : Int32))).2.2.2) (pc' := 71) ?_
    refine en_iload X2 hx (hb hby at_71) (pc' := 73) rfl ?_
    refine en_iconst X2 hx (1 : Int32) (hb hby at_73) (pc' := 74) ?_
    refine en_icmpYes X2 hx (hb hby at_74) (flt (by decide : ¬ (1 : Int32) < (0 : Int32))).2.2.2 (pc' := 85) ?_
    refine en_iload X2 hx (hb hby at_85) (pc' := 87) rfl ?_
    refine en_iconst X2 hx (2 : Int32) (hb hby at_87) (pc' := 88) ?_
    refine en_icmpYes X2 hx (hb hby at_88) (flt (by decide : ¬ (2 : Int32) < (0 : Int32))).2.2.2 (pc' := 99) ?_
    refine en_iload X2 hx (hb hby at_99) (pc' := 101) rfl ?_
    refine en_iconst X2 hx (3 : Int32) (hb hby at_101) (pc' := 102) ?_
    refine en_icmpYes X2 hx (hb hby at_102) (flt (by decide : ¬ (3 : Int32) < (0 : Int32))).2.2.2 (pc' := 113) ?_
    refine en_aload X2 hx (hb hby at_113) (pc' := 115) rfl rfl ?_
    refine en_iload X2 hx (hb hby at_115) (pc' := 117) rfl ?_
    refine en_callVP X2 hx hZ (y := (⟨"com/example/querent/querent/match/Automaton$Builder", "statesFrom", "(I)J"⟩ : MethodName)) (z := (⟨"com/example/querent/querent/match/Automaton$Builder", "statesFrom", "(I)J"⟩ : MethodName)) (K := "com/example/querent/querent/match/Automaton$Builder") (fr := 0) (lo := 0) hown (tw hw 47 rfl) (tw hw 48 rfl) (notFace_of_selects (args := #[]) (mvT hZ (tw hw 50 rfl))) (tw hw 50 rfl) (tw hw 49 rfl) (tw hw 3 rfl) (tw hw 51 rfl) Hc.1 (by decide) (rm7 l Z a0 hw [] b1 fr i 0 D r bb kb (0 : Int64) (0 : Int32) own_z16 0 D _ n0 Zs3 Hc hf rfl (by decide)) e2 (by decide) 0 rfl (by decide) (by decide) (by decide) (by rw [hml]; rfl) (argsL := [(.int fr)]) (rest := []) (lenOf pd_10 rfl) rfl (hb hby at_117) (pc' := 120) (fun T4 X4 e4 => ?_)
    refine en_lstore X4 hx (hb hby at_120) (pc' := 122) (Ls' := #[.val (.int x0), .val (.int x1), .val (.int x2), .val (.int x3), .val (.int (0 : Int32)), .val (.int fr), .val (.int k0), .val (.int k1), .val (.int k2), .val (.int k3), .val (.ref b1), .val (.long (own_cnt (0 : Int64) own_z16 i (0 - i))), .second, .unset, .unset]) rfl ?_
    refine en_iconst X4 hx (0 : Int32) (hb hby at_122) (pc' := 123) ?_
    refine en_iload X4 hx (hb hby at_123) (pc' := 125) rfl ?_
    refine en_iload X4 hx (hb hby at_125) (pc' := 127) rfl ?_
    refine en_iload X4 hx (hb hby at_127) (pc' := 129) rfl ?_
    refine en_callP X4 hx hZ hown (tw hw 54 rfl) (tw hw 55 rfl) (tw hw 56 rfl) (tw hw 57 rfl) (by decide) (rm8 l Z a0 hw [] (0 : Int32) fr (0 : Int32) k0 _) e4 (by decide) 0 rfl (by decide) (by decide) (by decide) (by rw [hml]; rfl) (argsL := [(.int (0 : Int32)), (.int fr), (.int (0 : Int32)), (.int k0)]) (rest := []) (lenOf pd_11 rfl) rfl (hb hby at_129) (pc' := 132) (fun T5 X5 e5 => ?_)
    refine en_iconst X5 hx (1 : Int32) (hb hby at_132) (pc' := 133) ?_
    refine en_iload X5 hx (hb hby at_133) (pc' := 135) rfl ?_
    refine en_iload X5 hx (hb hby at_135) (pc' := 137) rfl ?_
    refine en_iload X5 hx (hb hby at_137) (pc' := 139) rfl ?_
    refine en_callP X5 hx hZ hown (tw hw 54 rfl) (tw hw 55 rfl) (tw hw 56 rfl) (tw hw 57 rfl) (by decide) (rm8 l Z a0 hw [] (1 : Int32) fr (0 : Int32) k1 _) e5 (by decide) 2 rfl (by decide) (by decide) (by decide) (by rw [hml]; rfl) (argsL := [(.int (1 : Int32)), (.int fr), (.int (0 : Int32)), (.int k1)]) (rest := [(.long (f8 (0 : Int32) fr (0 : Int32) k0))]) (lenOf pd_11 rfl) rfl (hb hby at_139) (pc' := 142) (fun T6 X6 e6 => ?_)
    refine en_ladd X6 hx (hb hby at_142) (pc' := 143) ?_
    refine en_iconst X6 hx (2 : Int32) (hb hby at_143) (pc' := 144) ?_
    refine en_iload X6 hx (hb hby at_144) (pc' := 146) rfl ?_
    refine en_iload X6 hx (hb hby at_146) (pc' := 148) rfl ?_
    refine en_iload X6 hx (hb hby at_148) (pc' := 150) rfl ?_
    refine en_callP X6 hx hZ hown (tw hw 54 rfl) (tw hw 55 rfl) (tw hw 56 rfl) (tw hw 57 rfl) (by decide) (rm8 l Z a0 hw [] (2 : Int32) fr (0 : Int32) k2 _) e6 (by decide) 2 rfl (by decide) (by decide) (by decide) (by rw [hml]; rfl) (argsL := [(.int (2 : Int32)), (.int fr), (.int (0 : Int32)), (.int k2)]) (rest := [(.long ((f8 (0 : Int32) fr (0 : Int32) k0) + (f8 (1 : Int32) fr (0 : Int32) k1)))]) (lenOf pd_11 rfl) rfl (hb hby at_150) (pc' := 153) (fun T7 X7 e7 => ?_)
    refine en_ladd X7 hx (hb hby at_153) (pc' := 154) ?_
    refine en_iconst X7 hx (3 : Int32) (hb hby at_154) (pc' := 155) ?_
    refine en_iload X7 hx (hb hby at_155) (pc' := 157) rfl ?_
    refine en_iload X7 hx (hb hby at_157) (pc' := 159) rfl ?_
    refine en_iload X7 hx (hb hby at_159) (pc' := 161) rfl ?_
    refine en_callP X7 hx hZ hown (tw hw 54 rfl) (tw hw 55 rfl) (tw hw 56 rfl) (tw hw 57 rfl) (by decide) (rm8 l Z a0 hw [] (3 : Int32) fr (0 : Int32) k3 _) e7 (by decide) 2 rfl (by decide) (by decide) (by decide) (by rw [hml]; rfl) (argsL := [(.int (3 : Int32)), (.int fr), (.int (0 : Int32)), (.int k3)]) (rest := [(.long (((f8 (0 : Int32) fr (0 : Int32) k0) + (f8 (1 : Int32) fr (0 : Int32) k1)) + (f8 (2 : Int32) fr (0 : Int32) k2)))]) (lenOf pd_11 rfl) rfl (hb hby at_161) (pc' := 164) (fun T8 X8 e8 => ?_)
    refine en_ladd X8 hx (hb hby at_164) (pc' := 165) ?_
    refine en_lstore X8 hx (hb hby at_165) (pc' := 167) (Ls' := #[.val (.int x0), .val (.int x1), .val (.int x2), .val (.int x3), .val (.int (0 : Int32)), .val (.int fr), .val (.int k0), .val (.int k1), .val (.int k2), .val (.int k3), .val (.ref b1), .val (.long (own_cnt (0 : Int64) own_z16 i (0 - i))), .second, .val (.long ((((f8 (0 : Int32) fr (0 : Int32) k0) + (f8 (1 : Int32) fr (0 : Int32) k1)) + (f8 (2 : Int32) fr (0 : Int32) k2)) + (f8 (3 : Int32) fr (0 : Int32) k3))), .second]) rfl ?_
    refine en_lload X8 hx (hb hby at_167) (pc' := 169) rfl ?_
    refine en_lload X8 hx (hb hby at_169) (pc' := 171) rfl ?_
    refine en_lcmp X8 hx (hb hby at_171) (pc' := 172) ?_
    refine en_ifNo X8 hx (hb hby at_172) (weq (own_fin_0  k0 k1 k2 k3 fr  i hi hf)).2 (pc' := 175) ?_
    refine en_aload X8 hx (hb hby at_175) (pc' := 177) rfl rfl ?_
    refine en_callVP X8 hx hZ (y := (⟨"com/example/querent/querent/match/Automaton$Builder", "size", "()I"⟩ : MethodName)) (z := (⟨"com/example/querent/querent/match/Automaton$Builder", "size", "()I"⟩ : MethodName)) (K := "com/example/querent/querent/match/Automaton$Builder") (fr := 0) (lo := 0) hown (tw hw 58 rfl) (tw hw 59 rfl) (notFace_of_selects (args := #[]) (mvT hZ (tw hw 61 rfl))) (tw hw 61 rfl) (tw hw 60 rfl) (tw hw 3 rfl) (tw hw 62 rfl) Hc.1 (by decide) (rm9 l Z a0 hw [] b1 D r bb kb (0 : Int64) (0 : Int32) own_z16 0 D _ n0 Zs3 Hc) e8 (by decide) 0 rfl (by decide) (by decide) (by decide) (by rw [hml]; rfl) (argsL := []) (rest := []) (lenOf pd_8 rfl) rfl (hb hby at_177) (pc' := 180) (fun T9 X9 e9 => ?_)
    refine en_iload X9 hx (hb hby at_180) (pc' := 182) rfl ?_
    refine en_icmpNo X9 hx (hb hby at_182) (teq (rfl : (0 : Int32) = (0 : Int32))).2 (pc' := 185) ?_
    refine en_iconst X9 hx (1 : Int32) (hb hby at_185) (pc' := 186) ?_
    refine en_goto X9 hx (hb hby at_186) (pc' := 190) ?_
    exact en_retZ X9 hx hret hlk (hb hby at_190) rfl (by decide) (by decide) (by first | (rw [e9]; exact ⟨rfl, N2⟩) | exact ⟨rfl, N2⟩)
  · refine en_istore X0 hx (hb hby at_6) (pc' := 8) (Ls' := #[.val (.int x0), .val (.int x1), .val (.int x2), .val (.int x3), .val (.int (1 : Int32)), .unset, .unset, .unset, .unset, .unset, .unset, .unset, .unset, .unset, .unset]) rfl ?_
    refine en_iloadN X0 hx (hb hby at_8) (pc' := 9) rfl ?_
    refine en_ldc X0 hx hZ hown (tw hw 0 rfl) (hb hby at_9) (pc' := 11) ?_
    refine en_iand X0 hx (hb hby at_11) (pc' := 12) ?_
    refine en_iload X0 hx (hb hby at_12) (pc' := 14) rfl ?_
    refine en_iconst X0 hx (1 : Int32) (hb hby at_14) (pc' := 15) ?_
    refine en_iadd X0 hx (hb hby at_15) (pc' := 16) ?_
    refine en_irem X0 hx (hb hby at_16) (pc' := 17) (by decide) ?_
    generalize hfr : ((x1 &&& (2147483647 : Int32)) % ((1 : Int32) + (1 : Int32))) = fr
    obtain ⟨i, hi, hf⟩ := own_from x1 _ 1 rfl hfr
    refine en_istore X0 hx (hb hby at_17) (pc' := 19) (Ls' := #[.val (.int x0), .val (.int x1), .val (.int x2), .val (.int x3), .val (.int (1 : Int32)), .val (.int fr), .unset, .unset, .unset, .unset, .unset, .unset, .unset, .unset, .unset]) rfl ?_
    refine en_iloadN X0 hx (hb hby at_19) (pc' := 20) rfl ?_
    refine en_iconst X0 hx (3 : Int32) (hb hby at_20) (pc' := 21) ?_
    refine en_iand X0 hx (hb hby at_21) (pc' := 22) ?_
    generalize hk0 : (x2 &&& (3 : Int32)) = k0
    refine en_istore X0 hx (hb hby at_22) (pc' := 24) (Ls' := #[.val (.int x0), .val (.int x1), .val (.int x2), .val (.int x3), .val (.int (1 : Int32)), .val (.int fr), .val (.int k0), .unset, .unset, .unset, .unset, .unset, .unset, .unset, .unset]) rfl ?_
    refine en_iloadN X0 hx (hb hby at_24) (pc' := 25) rfl ?_
    refine en_iconst X0 hx (2 : Int32) (hb hby at_25) (pc' := 26) ?_
    refine en_iushr X0 hx (hb hby at_26) (pc' := 27) ?_
    refine en_iconst X0 hx (3 : Int32) (hb hby at_27) (pc' := 28) ?_
    refine en_iand X0 hx (hb hby at_28) (pc' := 29) ?_
    generalize hk1 : (((x2.toUInt32 >>> ((2 : Int32) &&& 31).toUInt32).toInt32) &&& (3 : Int32)) = k1
    refine en_istore X0 hx (hb hby at_29) (pc' := 31) (Ls' := #[.val (.int x0), .val (.int x1), .val (.int x2), .val (.int x3), .val (.int (1 : Int32)), .val (.int fr), .val (.int k0), .val (.int k1), .unset, .unset, .unset, .unset, .unset, .unset, .unset]) rfl ?_
    refine en_iloadN X0 hx (hb hby at_31) (pc' := 32) rfl ?_
    refine en_iconst X0 hx (4 : Int32) (hb hby at_32) (pc' := 33) ?_
    refine en_iushr X0 hx (hb hby at_33) (pc' := 34) ?_
    refine en_iconst X0 hx (3 : Int32) (hb hby at_34) (pc' := 35) ?_
    refine en_iand X0 hx (hb hby at_35) (pc' := 36) ?_
    generalize hk2 : (((x2.toUInt32 >>> ((4 : Int32) &&& 31).toUInt32).toInt32) &&& (3 : Int32)) = k2
    refine en_istore X0 hx (hb hby at_36) (pc' := 38) (Ls' := #[.val (.int x0), .val (.int x1), .val (.int x2), .val (.int x3), .val (.int (1 : Int32)), .val (.int fr), .val (.int k0), .val (.int k1), .val (.int k2), .unset, .unset, .unset, .unset, .unset, .unset]) rfl ?_
    refine en_iloadN X0 hx (hb hby at_38) (pc' := 39) rfl ?_
    refine en_bipush X0 hx (6 : Int32) (hb hby at_39) (pc' := 41) ?_
    refine en_iushr X0 hx (hb hby at_41) (pc' := 42) ?_
    refine en_iconst X0 hx (3 : Int32) (hb hby at_42) (pc' := 43) ?_
    refine en_iand X0 hx (hb hby at_43) (pc' := 44) ?_
    generalize hk3 : (((x2.toUInt32 >>> ((6 : Int32) &&& 31).toUInt32).toInt32) &&& (3 : Int32)) = k3
    refine en_istore X0 hx (hb hby at_44) (pc' := 46) (Ls' := #[.val (.int x0), .val (.int x1), .val (.int x2), .val (.int x3), .val (.int (1 : Int32)), .val (.int fr), .val (.int k0), .val (.int k1), .val (.int k2), .val (.int k3), .unset, .unset, .unset, .unset, .unset]) rfl ?_
    refine en_newO X0 hx hZ hown (tw hw 1 rfl) (tw hw 2 rfl) (tw hw 3 rfl) e0 (hb hby at_46) (by decide) (by decide) (pc' := 49) (fun T10 h10 b10 g10 X10 e10 E10 A10 D10 => ?_)
    have g_b10 : n0 ≤ b10 := by rw [g10]; exact Z0
    have Z10 : n0 ≤ h10.size := Nat.le_trans Z0 E10.1
    have O10 : Old Z n0 h10 := OZ.ext E10
    have F10_b10_maxStates : Fld Z h10 b10 "com/example/querent/querent/match/Automaton$Postfix" "maxStates" "J" (.long (0 : Int64)) := D10 (Or.inr (tw hw 17 rfl)) (ty := .long) (by decide)
    have F10_b10_sets : Fld Z h10 b10 "com/example/querent/querent/match/Automaton$Builder" "sets" "Ljava/util/List;" .null := D10 (Or.inr (tw hw 43 rfl)) (ty := (.object "java/util/List")) (by decide)
    have F10_b10_postfix : Fld Z h10 b10 "com/example/querent/querent/match/Automaton$Builder" "postfix" "[I" .null := D10 (Or.inl (tw hw 46 rfl)) (ty := (.array .int)) (by decide)
    have F10_b10_size : Fld Z h10 b10 "com/example/querent/querent/match/Automaton$Builder" "size" "I" (.int (0 : Int32)) := D10 (Or.inl (tw hw 53 rfl)) (ty := .int) (by decide)
    have F10_b10_states : Fld Z h10 b10 "com/example/querent/querent/match/Automaton$Postfix" "states" "J" (.long (0 : Int64)) := D10 (Or.inl (tw hw 82 rfl)) (ty := .long) (by decide)
    refine en_dup X10 hx (hb hby at_49) (pc' := 50) rfl ?_
    refine en_ldc2 X10 hx hZ hown (tw hw 4 rfl) (hb hby at_50) (pc' := 53) ?_
    refine en_callN X10 hx hZ (rm := ({ frames := 4, cells := 2, slots := 19, locals := 50 } : Room)) (y := (⟨"com/example/querent/querent/match/Automaton$Builder", "<init>", "(J)V"⟩ : MethodName)) hown rfl (tw hw 5 rfl) (tw hw 6 rfl) (tw hw 3 rfl) (tw hw 7 rfl) (by decide) (rm1 l Z a0 hw [] b10 D h10 n0 Z10 A10 F10_b10_maxStates F10_b10_states F10_b10_sets F10_b10_postfix F10_b10_size g_b10 HD O10) e10 (by decide) 1 rfl (by decide) (by decide) (by decide) (by rw [hml]; rfl) (argsL := [(.long (9223372036854775807 : Int64))]) (rest := [(.ref b10)]) (lenOf pd_6 rfl) rfl (hb hby at_53) (pc' := 56) (fun v11 T11 Lq11 X11 hQ11 => ?_)
    obtain ⟨h11, e11⟩ : ∃ q, T11.heap = q := ⟨_, rfl⟩
    rw [e11] at hQ11
    obtain ⟨r, bb, kb, rfl, Nq11, Hc⟩ := hQ11
    have N11 := Fr.app N0 Nq11
    show OwnEnds p e below s _ _ _ T11 m 56 #[.val (.int x0), .val (.int x1), .val (.int x2), .val (.int x3), .val (.int (1 : Int32)), .val (.int fr), .val (.int k0), .val (.int k1), .val (.int k2), .val (.int k3), .unset, .unset, .unset, .unset, .unset] [(.ref b10)]
    have Zs12 : n0 ≤ h11.size := own_BD.sz Hc
    refine en_astore X11 hx (hb hby at_56) (pc' := 58) (Ls' := #[.val (.int x0), .val (.int x1), .val (.int x2), .val (.int x3), .val (.int (1 : Int32)), .val (.int fr), .val (.int k0), .val (.int k1), .val (.int k2), .val (.int k3), .val (.ref b10), .unset, .unset, .unset, .unset]) rfl rfl ?_
    refine en_iload X11 hx (hb hby at_58) (pc' := 60) rfl ?_
    refine en_ifNo X11 hx (hb hby at_60) ((if0 _ _).trans (tlt (by decide : (0 : Int32) < (1 : Int32))).2.2.2) (pc' := 63) ?_
    refine en_aload X11 hx (hb hby at_63) (pc' := 65) rfl rfl ?_
    refine en_iload X11 hx (hb hby at_65) (pc' := 67) rfl ?_
    refine en_iloadN X11 hx (hb hby at_67) (pc' := 68) rfl ?_
    refine en_callS X11 hx hZ (rm := ({ frames := 8, cells := 2, slots := 12, locals := 108 } : Room)) hown (tw hw 63 rfl) (tw hw 64 rfl) (tw hw 56 rfl) (tw hw 65 rfl) (by decide) (rm10 l Z a0 hw [] b10 k0 x3 0 D r bb kb (0 : Int64) (0 : Int32) own_z16 0 D h11 n0 Zs12 Hc rfl (by decide) HD (by omega)) e11 (by decide) 0 rfl (by decide) (by decide) (by decide) (by rw [hml]; rfl) (argsL := [(.ref b10), (.int k0), (.int x3)]) (rest := []) (lenOf pd_12 rfl) rfl (hb hby at_68) (pc' := 71) (fun v13 T13 Lq13 X13 hQ13 => ?_)
    obtain ⟨h13, e13⟩ : ∃ q, T13.heap = q := ⟨_, rfl⟩
    rw [e13] at hQ13
    obtain ⟨rfl, Nq13, st0, w0, ln0, ea0, hk0, hle0, H0⟩ := hQ13
    have N13 := Fr.app N11 Nq13
    show OwnEnds p e below s _ _ _ T13 m 71 #[.val (.int x0), .val (.int x1), .val (.int x2), .val (.int x3), .val (.int (1 : Int32)), .val (.int fr), .val (.int k0), .val (.int k1), .val (.int k2), .val (.int k3), .val (.ref b10), .unset, .unset, .unset, .unset] []
    have Zs14 : n0 ≤ h13.size := own_BD.sz H0
    refine en_iload X13 hx (hb hby at_71) (pc' := 73) rfl ?_
    refine en_iconst X13 hx (1 : Int32) (hb hby at_73) (pc' := 74) ?_
    refine en_icmpYes X13 hx (hb hby at_74) (flt (by decide : ¬ (1 : Int32) < (1 : Int32))).2.2.2 (pc' := 85) ?_
    refine en_iload X13 hx (hb hby at_85) (pc' := 87) rfl ?_
    refine en_iconst X13 hx (2 : Int32) (hb hby at_87) (pc' := 88) ?_
    refine en_icmpYes X13 hx (hb hby at_88) (flt (by decide : ¬ (2 : Int32) < (1 : Int32))).2.2.2 (pc' := 99) ?_
    refine en_iload X13 hx (hb hby at_99) (pc' := 101) rfl ?_
    refine en_iconst X13 hx (3 : Int32) (hb hby at_101) (pc' := 102) ?_
    refine en_icmpYes X13 hx (hb hby at_102) (flt (by decide : ¬ (3 : Int32) < (1 : Int32))).2.2.2 (pc' := 113) ?_
    refine en_aload X13 hx (hb hby at_113) (pc' := 115) rfl rfl ?_
    refine en_iload X13 hx (hb hby at_115) (pc' := 117) rfl ?_
    refine en_callVP X13 hx hZ (y := (⟨"com/example/querent/querent/match/Automaton$Builder", "statesFrom", "(I)J"⟩ : MethodName)) (z := (⟨"com/example/querent/querent/match/Automaton$Builder", "statesFrom", "(I)J"⟩ : MethodName)) (K := "com/example/querent/querent/match/Automaton$Builder") (fr := 0) (lo := 0) hown (tw hw 47 rfl) (tw hw 48 rfl) (notFace_of_selects (args := #[]) (mvT hZ (tw hw 50 rfl))) (tw hw 50 rfl) (tw hw 49 rfl) (tw hw 3 rfl) (tw hw 51 rfl) H0.1 (by decide) (rm7 l Z a0 hw [] b10 fr i 1 D r bb kb st0 ((0 : Int32) + (1 : Int32)) (own_z16.set 0 w0) ln0 ea0 _ n0 Zs14 H0 hf rfl (by decide)) e13 (by decide) 0 rfl (by decide) (by decide) (by decide) (by rw [hml]; rfl) (argsL := [(.int fr)]) (rest := []) (lenOf pd_10 rfl) rfl (hb hby at_117) (pc' := 120) (fun T15 X15 e15 => ?_)
    refine en_lstore X15 hx (hb hby at_120) (pc' := 122) (Ls' := #[.val (.int x0), .val (.int x1), .val (.int x2), .val (.int x3), .val (.int (1 : Int32)), .val (.int fr), .val (.int k0), .val (.int k1), .val (.int k2), .val (.int k3), .val (.ref b10), .val (.long (own_cnt (0 : Int64) (own_z16.set 0 w0) i (1 - i))), .second, .unset, .unset]) rfl ?_
    refine en_iconst X15 hx (0 : Int32) (hb hby at_122) (pc' := 123) ?_
    refine en_iload X15 hx (hb hby at_123) (pc' := 125) rfl ?_
    refine en_iload X15 hx (hb hby at_125) (pc' := 127) rfl ?_
    refine en_iload X15 hx (hb hby at_127) (pc' := 129) rfl ?_
    refine en_callP X15 hx hZ hown (tw hw 54 rfl) (tw hw 55 rfl) (tw hw 56 rfl) (tw hw 57 rfl) (by decide) (rm8 l Z a0 hw [] (0 : Int32) fr (1 : Int32) k0 _) e15 (by decide) 0 rfl (by decide) (by decide) (by decide) (by rw [hml]; rfl) (argsL := [(.int (0 : Int32)), (.int fr), (.int (1 : Int32)), (.int k0)]) (rest := []) (lenOf pd_11 rfl) rfl (hb hby at_129) (pc' := 132) (fun T16 X16 e16 => ?_)
    refine en_iconst X16 hx (1 : Int32) (hb hby at_132) (pc' := 133) ?_
    refine en_iload X16 hx (hb hby at_133) (pc' := 135) rfl ?_
    refine en_iload X16 hx (hb hby at_135) (pc' := 137) rfl ?_
    refine en_iload X16 hx (hb hby at_137) (pc' := 139) rfl ?_
    refine en_callP X16 hx hZ hown (tw hw 54 rfl) (tw hw 55 rfl) (tw hw 56 rfl) (tw hw 57 rfl) (by decide) (rm8 l Z a0 hw [] (1 : Int32) fr (1 : Int32) k1 _) e16 (by decide) 2 rfl (by decide) (by decide) (by decide) (by rw [hml]; rfl) (argsL := [(.int (1 : Int32)), (.int fr), (.int (1 : Int32)), (.int k1)]) (rest := [(.long (f8 (0 : Int32) fr (1 : Int32) k0))]) (lenOf pd_11 rfl) rfl (hb hby at_139) (pc' := 142) (fun T17 X17 e17 => ?_)
    refine en_ladd X17 hx (hb hby at_142) (pc' := 143) ?_
    refine en_iconst X17 hx (2 : Int32) (hb hby at_143) (pc' := 144) ?_
    refine en_iload X17 hx (hb hby at_144) (pc' := 146) rfl ?_
    refine en_iload X17 hx (hb hby at_146) (pc' := 148) rfl ?_
    refine en_iload X17 hx (hb hby at_148) (pc' := 150) rfl ?_
    refine en_callP X17 hx hZ hown (tw hw 54 rfl) (tw hw 55 rfl) (tw hw 56 rfl) (tw hw 57 rfl) (by decide) (rm8 l Z a0 hw [] (2 : Int32) fr (1 : Int32) k2 _) e17 (by decide) 2 rfl (by decide) (by decide) (by decide) (by rw [hml]; rfl) (argsL := [(.int (2 : Int32)), (.int fr), (.int (1 : Int32)), (.int k2)]) (rest := [(.long ((f8 (0 : Int32) fr (1 : Int32) k0) + (f8 (1 : Int32) fr (1 : Int32) k1)))]) (lenOf pd_11 rfl) rfl (hb hby at_150) (pc' := 153) (fun T18 X18 e18 => ?_)
    refine en_ladd X18 hx (hb hby at_153) (pc' := 154) ?_
    refine en_iconst X18 hx (3 : Int32) (hb hby at_154) (pc' := 155) ?_
    refine en_iload X18 hx (hb hby at_155) (pc' := 157) rfl ?_
    refine en_iload X18 hx (hb hby at_157) (pc' := 159) rfl ?_
    refine en_iload X18 hx (hb hby at_159) (pc' := 161) rfl ?_
    refine en_callP X18 hx hZ hown (tw hw 54 rfl) (tw hw 55 rfl) (tw hw 56 rfl) (tw hw 57 rfl) (by decide) (rm8 l Z a0 hw [] (3 : Int32) fr (1 : Int32) k3 _) e18 (by decide) 2 rfl (by decide) (by decide) (by decide) (by rw [hml]; rfl) (argsL := [(.int (3 : Int32)), (.int fr), (.int (1 : Int32)), (.int k3)]) (rest := [(.long (((f8 (0 : Int32) fr (1 : Int32) k0) + (f8 (1 : Int32) fr (1 : Int32) k1)) + (f8 (2 : Int32) fr (1 : Int32) k2)))]) (lenOf pd_11 rfl) rfl (hb hby at_161) (pc' := 164) (fun T19 X19 e19 => ?_)
    refine en_ladd X19 hx (hb hby at_164) (pc' := 165) ?_
    refine en_lstore X19 hx (hb hby at_165) (pc' := 167) (Ls' := #[.val (.int x0), .val (.int x1), .val (.int x2), .val (.int x3), .val (.int (1 : Int32)), .val (.int fr), .val (.int k0), .val (.int k1), .val (.int k2), .val (.int k3), .val (.ref b10), .val (.long (own_cnt (0 : Int64) (own_z16.set 0 w0) i (1 - i))), .second, .val (.long ((((f8 (0 : Int32) fr (1 : Int32) k0) + (f8 (1 : Int32) fr (1 : Int32) k1)) + (f8 (2 : Int32) fr (1 : Int32) k2)) + (f8 (3 : Int32) fr (1 : Int32) k3))), .second]) rfl ?_
    refine en_lload X19 hx (hb hby at_167) (pc' := 169) rfl ?_
    refine en_lload X19 hx (hb hby at_169) (pc' := 171) rfl ?_
    refine en_lcmp X19 hx (hb hby at_171) (pc' := 172) ?_
    refine en_ifNo X19 hx (hb hby at_172) (weq (own_fin_1 w0 k0 k1 k2 k3 fr hk0 i hi hf)).2 (pc' := 175) ?_
    refine en_aload X19 hx (hb hby at_175) (pc' := 177) rfl rfl ?_
    refine en_callVP X19 hx hZ (y := (⟨"com/example/querent/querent/match/Automaton$Builder", "size", "()I"⟩ : MethodName)) (z := (⟨"com/example/querent/querent/match/Automaton$Builder", "size", "()I"⟩ : MethodName)) (K := "com/example/querent/querent/match/Automaton$Builder") (fr := 0) (lo := 0) hown (tw hw 58 rfl) (tw hw 59 rfl) (notFace_of_selects (args := #[]) (mvT hZ (tw hw 61 rfl))) (tw hw 61 rfl) (tw hw 60 rfl) (tw hw 3 rfl) (tw hw 62 rfl) H0.1 (by decide) (rm9 l Z a0 hw [] b10 D r bb kb st0 ((0 : Int32) + (1 : Int32)) (own_z16.set 0 w0) ln0 ea0 _ n0 Zs14 H0) e19 (by decide) 0 rfl (by decide) (by decide) (by decide) (by rw [hml]; rfl) (argsL := []) (rest := []) (lenOf pd_8 rfl) rfl (hb hby at_177) (pc' := 180) (fun T20 X20 e20 => ?_)
    refine en_iload X20 hx (hb hby at_180) (pc' := 182) rfl ?_
    refine en_icmpNo X20 hx (hb hby at_182) (teq (rfl : ((0 : Int32) + (1 : Int32)) = (1 : Int32))).2 (pc' := 185) ?_
    refine en_iconst X20 hx (1 : Int32) (hb hby at_185) (pc' := 186) ?_
    refine en_goto X20 hx (hb hby at_186) (pc' := 190) ?_
    exact en_retZ X20 hx hret hlk (hb hby at_190) rfl (by decide) (by decide) (by first | (rw [e20]; exact ⟨rfl, N13⟩) | exact ⟨rfl, N13⟩)
  · refine en_istore X0 hx (hb hby at_6) (pc' := 8) (Ls' := #[.val (.int x0), .val (.int x1), .val (.int x2), .val (.int x3), .val (.int (2 : Int32)), .unset, .unset, .unset, .unset, .unset, .unset, .unset, .unset, .unset, .unset]) rfl ?_
    refine en_iloadN X0 hx (hb hby at_8) (pc' := 9) rfl ?_
    refine en_ldc X0 hx hZ hown (tw hw 0 rfl) (hb hby at_9) (pc' := 11) ?_
    refine en_iand X0 hx (hb hby at_11) (pc' := 12) ?_
    refine en_iload X0 hx (hb hby at_12) (pc' := 14) rfl ?_
    refine en_iconst X0 hx (1 : Int32) (hb hby at_14) (pc' := 15) ?_
    refine en_iadd X0 hx (hb hby at_15) (pc' := 16) ?_
    refine en_irem X0 hx (hb hby at_16) (pc' := 17) (by decide) ?_
    generalize hfr : ((x1 &&& (2147483647 : Int32)) % ((2 : Int32) + (1 : Int32))) = fr
    obtain ⟨i, hi, hf⟩ := own_from x1 _ 2 rfl hfr
    refine en_istore X0 hx (hb hby at_17) (pc' := 19) (Ls' := #[.val (.int x0), .val (.int x1), .val (.int x2), .val (.int x3), .val (.int (2 : Int32)), .val (.int fr), .unset, .unset, .unset, .unset, .unset, .unset, .unset, .unset, .unset]) rfl ?_
    refine en_iloadN X0 hx (hb hby at_19) (pc' := 20) rfl ?_
    refine en_iconst X0 hx (3 : Int32) (hb hby at_20) (pc' := 21) ?_
    refine en_iand X0 hx (hb hby at_21) (pc' := 22) ?_
    generalize hk0 : (x2 &&& (3 : Int32)) = k0
    refine en_istore X0 hx (hb hby at_22) (pc' := 24) (Ls' := #[.val (.int x0), .val (.int x1), .val (.int x2), .val (.int x3), .val (.int (2 : Int32)), .val (.int fr), .val (.int k0), .unset, .unset, .unset, .unset, .unset, .unset, .unset, .unset]) rfl ?_
    refine en_iloadN X0 hx (hb hby at_24) (pc' := 25) rfl ?_
    refine en_iconst X0 hx (2 : Int32) (hb hby at_25) (pc' := 26) ?_
    refine en_iushr X0 hx (hb hby at_26) (pc' := 27) ?_
    refine en_iconst X0 hx (3 : Int32) (hb hby at_27) (pc' := 28) ?_
    refine en_iand X0 hx (hb hby at_28) (pc' := 29) ?_
    generalize hk1 : (((x2.toUInt32 >>> ((2 : Int32) &&& 31).toUInt32).toInt32) &&& (3 : Int32)) = k1
    refine en_istore X0 hx (hb hby at_29) (pc' := 31) (Ls' := #[.val (.int x0), .val (.int x1), .val (.int x2), .val (.int x3), .val (.int (2 : Int32)), .val (.int fr), .val (.int k0), .val (.int k1), .unset, .unset, .unset, .unset, .unset, .unset, .unset]) rfl ?_
    refine en_iloadN X0 hx (hb hby at_31) (pc' := 32) rfl ?_
    refine en_iconst X0 hx (4 : Int32) (hb hby at_32) (pc' := 33) ?_
    refine en_iushr X0 hx (hb hby at_33) (pc' := 34) ?_
    refine en_iconst X0 hx (3 : Int32) (hb hby at_34) (pc' := 35) ?_
    refine en_iand X0 hx (hb hby at_35) (pc' := 36) ?_
    generalize hk2 : (((x2.toUInt32 >>> ((4 : Int32) &&& 31).toUInt32).toInt32) &&& (3 : Int32)) = k2
    refine en_istore X0 hx (hb hby at_36) (pc' := 38) (Ls' := #[.val (.int x0), .val (.int x1), .val (.int x2), .val (.int x3), .val (.int (2 : Int32)), .val (.int fr), .val (.int k0), .val (.int k1), .val (.int k2), .unset, .unset, .unset, .unset, .unset, .unset]) rfl ?_
    refine en_iloadN X0 hx (hb hby at_38) (pc' := 39) rfl ?_
    refine en_bipush X0 hx (6 : Int32) (hb hby at_39) (pc' := 41) ?_
    refine en_iushr X0 hx (hb hby at_41) (pc' := 42) ?_
    refine en_iconst X0 hx (3 : Int32) (hb hby at_42) (pc' := 43) ?_
    refine en_iand X0 hx (hb hby at_43) (pc' := 44) ?_
    generalize hk3 : (((x2.toUInt32 >>> ((6 : Int32) &&& 31).toUInt32).toInt32) &&& (3 : Int32)) = k3
    refine en_istore X0 hx (hb hby at_44) (pc' := 46) (Ls' := #[.val (.int x0), .val (.int x1), .val (.int x2), .val (.int x3), .val (.int (2 : Int32)), .val (.int fr), .val (.int k0), .val (.int k1), .val (.int k2), .val (.int k3), .unset, .unset, .unset, .unset, .unset]) rfl ?_
    refine en_newO X0 hx hZ hown (tw hw 1 rfl) (tw hw 2 rfl) (tw hw 3 rfl) e0 (hb hby at_46) (by decide) (by decide) (pc' := 49) (fun T21 h21 b21 g21 X21 e21 E21 A21 D21 => ?_)
    have g_b21 : n0 ≤ b21 := by rw [g21]; exact Z0
    have Z21 : n0 ≤ h21.size := Nat.le_trans Z0 E21.1
    have O21 : Old Z n0 h21 := OZ.ext E21
    have F21_b21_maxStates : Fld Z h21 b21 "com/example/querent/querent/match/Automaton$Postfix" "maxStates" "J" (.long (0 : Int64)) := D21 (Or.inr (tw hw 17 rfl)) (ty := .long) (by decide)
    have F21_b21_sets : Fld Z h21 b21 "com/example/querent/querent/match/Automaton$Builder" "sets" "Ljava/util/List;" .null := D21 (Or.inr (tw hw 43 rfl)) (ty := (.object "java/util/List")) (by decide)
    have F21_b21_postfix : Fld Z h21 b21 "com/example/querent/querent/match/Automaton$Builder" "postfix" "[I" .null := D21 (Or.inl (tw hw 46 rfl)) (ty := (.array .int)) (by decide)
    have F21_b21_size : Fld Z h21 b21 "com/example/querent/querent/match/Automaton$Builder" "size" "I" (.int (0 : Int32)) := D21 (Or.inl (tw hw 53 rfl)) (ty := .int) (by decide)
    have F21_b21_states : Fld Z h21 b21 "com/example/querent/querent/match/Automaton$Postfix" "states" "J" (.long (0 : Int64)) := D21 (Or.inl (tw hw 82 rfl)) (ty := .long) (by decide)
    refine en_dup X21 hx (hb hby at_49) (pc' := 50) rfl ?_
    refine en_ldc2 X21 hx hZ hown (tw hw 4 rfl) (hb hby at_50) (pc' := 53) ?_
    refine en_callN X21 hx hZ (rm := ({ frames := 4, cells := 2, slots := 19, locals := 50 } : Room)) (y := (⟨"com/example/querent/querent/match/Automaton$Builder", "<init>", "(J)V"⟩ : MethodName)) hown rfl (tw hw 5 rfl) (tw hw 6 rfl) (tw hw 3 rfl) (tw hw 7 rfl) (by decide) (rm1 l Z a0 hw [] b21 D h21 n0 Z21 A21 F21_b21_maxStates F21_b21_states F21_b21_sets F21_b21_postfix F21_b21_size g_b21 HD O21) e21 (by decide) 1 rfl (by decide) (by decide) (by decide) (by rw [hml]; rfl) (argsL := [(.long (9223372036854775807 : Int64))]) (rest := [(.ref b21)]) (lenOf pd_6 rfl) rfl (hb hby at_53) (pc' := 56) (fun v22 T22 Lq22 X22 hQ22 => ?_)
    obtain ⟨h22, e22⟩ : ∃ q, T22.heap = q := ⟨_, rfl⟩
    rw [e22] at hQ22
    obtain ⟨r, bb, kb, rfl, Nq22, Hc⟩ := hQ22
    have N22 := Fr.app N0 Nq22
    show OwnEnds p e below s _ _ _ T22 m 56 #[.val (.int x0), .val (.int x1), .val (.int x2), .val (.int x3), .val (.int (2 : Int32)), .val (.int fr), .val (.int k0), .val (.int k1), .val (.int k2), .val (.int k3), .unset, .unset, .unset, .unset, .unset] [(.ref b21)]
    have Zs23 : n0 ≤ h22.size := own_BD.sz Hc
    refine en_astore X22 hx (hb hby at_56) (pc' := 58) (Ls' := #[.val (.int x0), .val (.int x1), .val (.int x2), .val (.int x3), .val (.int (2 : Int32)), .val (.int fr), .val (.int k0), .val (.int k1), .val (.int k2), .val (.int k3), .val (.ref b21), .unset, .unset, .unset, .unset]) rfl rfl ?_
    refine en_iload X22 hx (hb hby at_58) (pc' := 60) rfl ?_
    refine en_ifNo X22 hx (hb hby at_60) ((if0 _ _).trans (tlt (by decide : (0 : Int32) < (2 : Int32))).2.2.2) (pc' := 63) ?_
    refine en_aload X22 hx (hb hby at_63) (pc' := 65) rfl rfl ?_
    refine en_iload X22 hx (hb hby at_65) (pc' := 67) rfl ?_
    refine en_iloadN X22 hx (hb hby at_67) (pc' := 68) rfl ?_
    refine en_callS X22 hx hZ (rm := ({ frames := 8, cells := 2, slots := 12, locals := 108 } : Room)) hown (tw hw 63 rfl) (tw hw 64 rfl) (tw hw 56 rfl) (tw hw 65 rfl) (by decide) (rm10 l Z a0 hw [] b21 k0 x3 0 D r bb kb (0 : Int64) (0 : Int32) own_z16 0 D h22 n0 Zs23 Hc rfl (by decide) HD (by omega)) e22 (by decide) 0 rfl (by decide) (by decide) (by decide) (by rw [hml]; rfl) (argsL := [(.ref b21), (.int k0), (.int x3)]) (rest := []) (lenOf pd_12 rfl) rfl (hb hby at_68) (pc' := 71) (fun v24 T24 Lq24 X24 hQ24 => ?_)
    obtain ⟨h24, e24⟩ : ∃ q, T24.heap = q := ⟨_, rfl⟩
    rw [e24] at hQ24
    obtain ⟨rfl, Nq24, st0, w0, ln0, ea0, hk0, hle0, H0⟩ := hQ24
    have N24 := Fr.app N22 Nq24
    show OwnEnds p e below s _ _ _ T24 m 71 #[.val (.int x0), .val (.int x1), .val (.int x2), .val (.int x3), .val (.int (2 : Int32)), .val (.int fr), .val (.int k0), .val (.int k1), .val (.int k2), .val (.int k3), .val (.ref b21), .unset, .unset, .unset, .unset] []
    have Zs25 : n0 ≤ h24.size := own_BD.sz H0
    refine en_iload X24 hx (hb hby at_71) (pc' := 73) rfl ?_
    refine en_iconst X24 hx (1 : Int32) (hb hby at_73) (pc' := 74) ?_
    refine en_icmpNo X24 hx (hb hby at_74) (tlt (by decide : (1 : Int32) < (2 : Int32))).2.2.2 (pc' := 77) ?_
    refine en_aload X24 hx (hb hby at_77) (pc' := 79) rfl rfl ?_
    refine en_iload X24 hx (hb hby at_79) (pc' := 81) rfl ?_
    refine en_iloadN X24 hx (hb hby at_81) (pc' := 82) rfl ?_
    refine en_callS X24 hx hZ (rm := ({ frames := 8, cells := 2, slots := 12, locals := 108 } : Room)) hown (tw hw 63 rfl) (tw hw 64 rfl) (tw hw 56 rfl) (tw hw 65 rfl) (by decide) (rm10 l Z a0 hw [] b21 k1 x3 1 D r bb kb st0 ((0 : Int32) + (1 : Int32)) (own_z16.set 0 w0) ln0 ea0 h24 n0 Zs25 H0 rfl (by decide) HD (by omega)) e24 (by decide) 0 rfl (by decide) (by decide) (by decide) (by rw [hml]; rfl) (argsL := [(.ref b21), (.int k1), (.int x3)]) (rest := []) (lenOf pd_12 rfl) rfl (hb hby at_82) (pc' := 85) (fun v26 T26 Lq26 X26 hQ26 => ?_)
    obtain ⟨h26, e26⟩ : ∃ q, T26.heap = q := ⟨_, rfl⟩
    rw [e26] at hQ26
    obtain ⟨rfl, Nq26, st1, w1, ln1, ea1, hk1, hle1, H1⟩ := hQ26
    have N26 := Fr.app N24 Nq26
    show OwnEnds p e below s _ _ _ T26 m 85 #[.val (.int x0), .val (.int x1), .val (.int x2), .val (.int x3), .val (.int (2 : Int32)), .val (.int fr), .val (.int k0), .val (.int k1), .val (.int k2), .val (.int k3), .val (.ref b21), .unset, .unset, .unset, .unset] []
    have Zs27 : n0 ≤ h26.size := own_BD.sz H1
    refine en_iload X26 hx (hb hby at_85) (pc' := 87) rfl ?_
    refine en_iconst X26 hx (2 : Int32) (hb hby at_87) (pc' := 88) ?_
    refine en_icmpYes X26 hx (hb hby at_88) (flt (by decide : ¬ (2 : Int32) < (2 : Int32))).2.2.2 (pc' := 99) ?_
    refine en_iload X26 hx (hb hby at_99) (pc' := 101) rfl ?_
    refine en_iconst X26 hx (3 : Int32) (hb hby at_101) (pc' := 102) ?_
    refine en_icmpYes X26 hx (hb hby at_102) (flt (by decide : ¬ (3 : Int32) < (2 : Int32))).2.2.2 (pc' := 113) ?_
    refine en_aload X26 hx (hb hby at_113) (pc' := 115) rfl rfl ?_
    refine en_iload X26 hx (hb hby at_115) (pc' := 117) rfl ?_
    refine en_callVP X26 hx hZ (y := (⟨"com/example/querent/querent/match/Automaton$Builder", "statesFrom", "(I)J"⟩ : MethodName)) (z := (⟨"com/example/querent/querent/match/Automaton$Builder", "statesFrom", "(I)J"⟩ : MethodName)) (K := "com/example/querent/querent/match/Automaton$Builder") (fr := 0) (lo := 0) hown (tw hw 47 rfl) (tw hw 48 rfl) (notFace_of_selects (args := #[]) (mvT hZ (tw hw 50 rfl))) (tw hw 50 rfl) (tw hw 49 rfl) (tw hw 3 rfl) (tw hw 51 rfl) H1.1 (by decide) (rm7 l Z a0 hw [] b21 fr i 2 D r bb kb st1 (((0 : Int32) + (1 : Int32)) + (1 : Int32)) ((own_z16.set 0 w0).set 1 w1) ln1 ea1 _ n0 Zs27 H1 hf rfl (by decide)) e26 (by decide) 0 rfl (by decide) (by decide) (by decide) (by rw [hml]; rfl) (argsL := [(.int fr)]) (rest := []) (lenOf pd_10 rfl) rfl (hb hby at_117) (pc' := 120) (fun T28 X28 e28 => ?_)
    refine en_lstore X28 hx (hb hby at_120) (pc' := 122) (Ls' := #[.val (.int x0), .val (.int x1), .val (.int x2), .val (.int x3), .val (.int (2 : Int32)), .val (.int fr), .val (.int k0), .val (.int k1), .val (.int k2), .val (.int k3), .val (.ref b21), .val (.long (own_cnt (0 : Int64) ((own_z16.set 0 w0).set 1 w1) i (2 - i))), .second, .unset, .unset]) rfl ?_
    refine en_iconst X28 hx (0 : Int32) (hb hby at_122) (pc' := 123) ?_
    refine en_iload X28 hx (hb hby at_123) (pc' := 125) rfl ?_
    refine en_iload X28 hx (hb hby at_125) (pc' := 127) rfl ?_
    refine en_iload X28 hx (hb hby at_127) (pc' := 129) rfl ?_
    refine en_callP X28 hx hZ hown (tw hw 54 rfl) (tw hw 55 rfl) (tw hw 56 rfl) (tw hw 57 rfl) (by decide) (rm8 l Z a0 hw [] (0 : Int32) fr (2 : Int32) k0 _) e28 (by decide) 0 rfl (by decide) (by decide) (by decide) (by rw [hml]; rfl) (argsL := [(.int (0 : Int32)), (.int fr), (.int (2 : Int32)), (.int k0)]) (rest := []) (lenOf pd_11 rfl) rfl (hb hby at_129) (pc' := 132) (fun T29 X29 e29 => ?_)
    refine en_iconst X29 hx (1 : Int32) (hb hby at_132) (pc' := 133) ?_
    refine en_iload X29 hx (hb hby at_133) (pc' := 135) rfl ?_
    refine en_iload X29 hx (hb hby at_135) (pc' := 137) rfl ?_
    refine en_iload X29 hx (hb hby at_137) (pc' := 139) rfl ?_
    refine en_callP X29 hx hZ hown (tw hw 54 rfl) (tw hw 55 rfl) (tw hw 56 rfl) (tw hw 57 rfl) (by decide) (rm8 l Z a0 hw [] (1 : Int32) fr (2 : Int32) k1 _) e29 (by decide) 2 rfl (by decide) (by decide) (by decide) (by rw [hml]; rfl) (argsL := [(.int (1 : Int32)), (.int fr), (.int (2 : Int32)), (.int k1)]) (rest := [(.long (f8 (0 : Int32) fr (2 : Int32) k0))]) (lenOf pd_11 rfl) rfl (hb hby at_139) (pc' := 142) (fun T30 X30 e30 => ?_)
    refine en_ladd X30 hx (hb hby at_142) (pc' := 143) ?_
    refine en_iconst X30 hx (2 : Int32) (hb hby at_143) (pc' := 144) ?_
    refine en_iload X30 hx (hb hby at_144) (pc' := 146) rfl ?_
    refine en_iload X30 hx (hb hby at_146) (pc' := 148) rfl ?_
    refine en_iload X30 hx (hb hby at_148) (pc' := 150) rfl ?_
    refine en_callP X30 hx hZ hown (tw hw 54 rfl) (tw hw 55 rfl) (tw hw 56 rfl) (tw hw 57 rfl) (by decide) (rm8 l Z a0 hw [] (2 : Int32) fr (2 : Int32) k2 _) e30 (by decide) 2 rfl (by decide) (by decide) (by decide) (by rw [hml]; rfl) (argsL := [(.int (2 : Int32)), (.int fr), (.int (2 : Int32)), (.int k2)]) (rest := [(.long ((f8 (0 : Int32) fr (2 : Int32) k0) + (f8 (1 : Int32) fr (2 : Int32) k1)))]) (lenOf pd_11 rfl) rfl (hb hby at_150) (pc' := 153) (fun T31 X31 e31 => ?_)
    refine en_ladd X31 hx (hb hby at_153) (pc' := 154) ?_
    refine en_iconst X31 hx (3 : Int32) (hb hby at_154) (pc' := 155) ?_
    refine en_iload X31 hx (hb hby at_155) (pc' := 157) rfl ?_
    refine en_iload X31 hx (hb hby at_157) (pc' := 159) rfl ?_
    refine en_iload X31 hx (hb hby at_159) (pc' := 161) rfl ?_
    refine en_callP X31 hx hZ hown (tw hw 54 rfl) (tw hw 55 rfl) (tw hw 56 rfl) (tw hw 57 rfl) (by decide) (rm8 l Z a0 hw [] (3 : Int32) fr (2 : Int32) k3 _) e31 (by decide) 2 rfl (by decide) (by decide) (by decide) (by rw [hml]; rfl) (argsL := [(.int (3 : Int32)), (.int fr), (.int (2 : Int32)), (.int k3)]) (rest := [(.long (((f8 (0 : Int32) fr (2 : Int32) k0) + (f8 (1 : Int32) fr (2 : Int32) k1)) + (f8 (2 : Int32) fr (2 : Int32) k2)))]) (lenOf pd_11 rfl) rfl (hb hby at_161) (pc' := 164) (fun T32 X32 e32 => ?_)
    refine en_ladd X32 hx (hb hby at_164) (pc' := 165) ?_
    refine en_lstore X32 hx (hb hby at_165) (pc' := 167) (Ls' := #[.val (.int x0), .val (.int x1), .val (.int x2), .val (.int x3), .val (.int (2 : Int32)), .val (.int fr), .val (.int k0), .val (.int k1), .val (.int k2), .val (.int k3), .val (.ref b21), .val (.long (own_cnt (0 : Int64) ((own_z16.set 0 w0).set 1 w1) i (2 - i))), .second, .val (.long ((((f8 (0 : Int32) fr (2 : Int32) k0) + (f8 (1 : Int32) fr (2 : Int32) k1)) + (f8 (2 : Int32) fr (2 : Int32) k2)) + (f8 (3 : Int32) fr (2 : Int32) k3))), .second]) rfl ?_
    refine en_lload X32 hx (hb hby at_167) (pc' := 169) rfl ?_
    refine en_lload X32 hx (hb hby at_169) (pc' := 171) rfl ?_
    refine en_lcmp X32 hx (hb hby at_171) (pc' := 172) ?_
    refine en_ifNo X32 hx (hb hby at_172) (weq (own_fin_2 w0 w1 k0 k1 k2 k3 fr hk0 hk1 i hi hf)).2 (pc' := 175) ?_
    refine en_aload X32 hx (hb hby at_175) (pc' := 177) rfl rfl ?_
    refine en_callVP X32 hx hZ (y := (⟨"com/example/querent/querent/match/Automaton$Builder", "size", "()I"⟩ : MethodName)) (z := (⟨"com/example/querent/querent/match/Automaton$Builder", "size", "()I"⟩ : MethodName)) (K := "com/example/querent/querent/match/Automaton$Builder") (fr := 0) (lo := 0) hown (tw hw 58 rfl) (tw hw 59 rfl) (notFace_of_selects (args := #[]) (mvT hZ (tw hw 61 rfl))) (tw hw 61 rfl) (tw hw 60 rfl) (tw hw 3 rfl) (tw hw 62 rfl) H1.1 (by decide) (rm9 l Z a0 hw [] b21 D r bb kb st1 (((0 : Int32) + (1 : Int32)) + (1 : Int32)) ((own_z16.set 0 w0).set 1 w1) ln1 ea1 _ n0 Zs27 H1) e32 (by decide) 0 rfl (by decide) (by decide) (by decide) (by rw [hml]; rfl) (argsL := []) (rest := []) (lenOf pd_8 rfl) rfl (hb hby at_177) (pc' := 180) (fun T33 X33 e33 => ?_)
    refine en_iload X33 hx (hb hby at_180) (pc' := 182) rfl ?_
    refine en_icmpNo X33 hx (hb hby at_182) (teq (rfl : (((0 : Int32) + (1 : Int32)) + (1 : Int32)) = (2 : Int32))).2 (pc' := 185) ?_
    refine en_iconst X33 hx (1 : Int32) (hb hby at_185) (pc' := 186) ?_
    refine en_goto X33 hx (hb hby at_186) (pc' := 190) ?_
    exact en_retZ X33 hx hret hlk (hb hby at_190) rfl (by decide) (by decide) (by first | (rw [e33]; exact ⟨rfl, N26⟩) | exact ⟨rfl, N26⟩)
  · refine en_istore X0 hx (hb hby at_6) (pc' := 8) (Ls' := #[.val (.int x0), .val (.int x1), .val (.int x2), .val (.int x3), .val (.int (3 : Int32)), .unset, .unset, .unset, .unset, .unset, .unset, .unset, .unset, .unset, .unset]) rfl ?_
    refine en_iloadN X0 hx (hb hby at_8) (pc' := 9) rfl ?_
    refine en_ldc X0 hx hZ hown (tw hw 0 rfl) (hb hby at_9) (pc' := 11) ?_
    refine en_iand X0 hx (hb hby at_11) (pc' := 12) ?_
    refine en_iload X0 hx (hb hby at_12) (pc' := 14) rfl ?_
    refine en_iconst X0 hx (1 : Int32) (hb hby at_14) (pc' := 15) ?_
    refine en_iadd X0 hx (hb hby at_15) (pc' := 16) ?_
    refine en_irem X0 hx (hb hby at_16) (pc' := 17) (by decide) ?_
    generalize hfr : ((x1 &&& (2147483647 : Int32)) % ((3 : Int32) + (1 : Int32))) = fr
    obtain ⟨i, hi, hf⟩ := own_from x1 _ 3 rfl hfr
    refine en_istore X0 hx (hb hby at_17) (pc' := 19) (Ls' := #[.val (.int x0), .val (.int x1), .val (.int x2), .val (.int x3), .val (.int (3 : Int32)), .val (.int fr), .unset, .unset, .unset, .unset, .unset, .unset, .unset, .unset, .unset]) rfl ?_
    refine en_iloadN X0 hx (hb hby at_19) (pc' := 20) rfl ?_
    refine en_iconst X0 hx (3 : Int32) (hb hby at_20) (pc' := 21) ?_
    refine en_iand X0 hx (hb hby at_21) (pc' := 22) ?_
    generalize hk0 : (x2 &&& (3 : Int32)) = k0
    refine en_istore X0 hx (hb hby at_22) (pc' := 24) (Ls' := #[.val (.int x0), .val (.int x1), .val (.int x2), .val (.int x3), .val (.int (3 : Int32)), .val (.int fr), .val (.int k0), .unset, .unset, .unset, .unset, .unset, .unset, .unset, .unset]) rfl ?_
    refine en_iloadN X0 hx (hb hby at_24) (pc' := 25) rfl ?_
    refine en_iconst X0 hx (2 : Int32) (hb hby at_25) (pc' := 26) ?_
    refine en_iushr X0 hx (hb hby at_26) (pc' := 27) ?_
    refine en_iconst X0 hx (3 : Int32) (hb hby at_27) (pc' := 28) ?_
    refine en_iand X0 hx (hb hby at_28) (pc' := 29) ?_
    generalize hk1 : (((x2.toUInt32 >>> ((2 : Int32) &&& 31).toUInt32).toInt32) &&& (3 : Int32)) = k1
    refine en_istore X0 hx (hb hby at_29) (pc' := 31) (Ls' := #[.val (.int x0), .val (.int x1), .val (.int x2), .val (.int x3), .val (.int (3 : Int32)), .val (.int fr), .val (.int k0), .val (.int k1), .unset, .unset, .unset, .unset, .unset, .unset, .unset]) rfl ?_
    refine en_iloadN X0 hx (hb hby at_31) (pc' := 32) rfl ?_
    refine en_iconst X0 hx (4 : Int32) (hb hby at_32) (pc' := 33) ?_
    refine en_iushr X0 hx (hb hby at_33) (pc' := 34) ?_
    refine en_iconst X0 hx (3 : Int32) (hb hby at_34) (pc' := 35) ?_
    refine en_iand X0 hx (hb hby at_35) (pc' := 36) ?_
    generalize hk2 : (((x2.toUInt32 >>> ((4 : Int32) &&& 31).toUInt32).toInt32) &&& (3 : Int32)) = k2
    refine en_istore X0 hx (hb hby at_36) (pc' := 38) (Ls' := #[.val (.int x0), .val (.int x1), .val (.int x2), .val (.int x3), .val (.int (3 : Int32)), .val (.int fr), .val (.int k0), .val (.int k1), .val (.int k2), .unset, .unset, .unset, .unset, .unset, .unset]) rfl ?_
    refine en_iloadN X0 hx (hb hby at_38) (pc' := 39) rfl ?_
    refine en_bipush X0 hx (6 : Int32) (hb hby at_39) (pc' := 41) ?_
    refine en_iushr X0 hx (hb hby at_41) (pc' := 42) ?_
    refine en_iconst X0 hx (3 : Int32) (hb hby at_42) (pc' := 43) ?_
    refine en_iand X0 hx (hb hby at_43) (pc' := 44) ?_
    generalize hk3 : (((x2.toUInt32 >>> ((6 : Int32) &&& 31).toUInt32).toInt32) &&& (3 : Int32)) = k3
    refine en_istore X0 hx (hb hby at_44) (pc' := 46) (Ls' := #[.val (.int x0), .val (.int x1), .val (.int x2), .val (.int x3), .val (.int (3 : Int32)), .val (.int fr), .val (.int k0), .val (.int k1), .val (.int k2), .val (.int k3), .unset, .unset, .unset, .unset, .unset]) rfl ?_
    refine en_newO X0 hx hZ hown (tw hw 1 rfl) (tw hw 2 rfl) (tw hw 3 rfl) e0 (hb hby at_46) (by decide) (by decide) (pc' := 49) (fun T34 h34 b34 g34 X34 e34 E34 A34 D34 => ?_)
    have g_b34 : n0 ≤ b34 := by rw [g34]; exact Z0
    have Z34 : n0 ≤ h34.size := Nat.le_trans Z0 E34.1
    have O34 : Old Z n0 h34 := OZ.ext E34
    have F34_b34_maxStates : Fld Z h34 b34 "com/example/querent/querent/match/Automaton$Postfix" "maxStates" "J" (.long (0 : Int64)) := D34 (Or.inr (tw hw 17 rfl)) (ty := .long) (by decide)
    have F34_b34_sets : Fld Z h34 b34 "com/example/querent/querent/match/Automaton$Builder" "sets" "Ljava/util/List;" .null := D34 (Or.inr (tw hw 43 rfl)) (ty := (.object "java/util/List")) (by decide)
    have F34_b34_postfix : Fld Z h34 b34 "com/example/querent/querent/match/Automaton$Builder" "postfix" "[I" .null := D34 (Or.inl (tw hw 46 rfl)) (ty := (.array .int)) (by decide)
    have F34_b34_size : Fld Z h34 b34 "com/example/querent/querent/match/Automaton$Builder" "size" "I" (.int (0 : Int32)) := D34 (Or.inl (tw hw 53 rfl)) (ty := .int) (by decide)
    have F34_b34_states : Fld Z h34 b34 "com/example/querent/querent/match/Automaton$Postfix" "states" "J" (.long (0 : Int64)) := D34 (Or.inl (tw hw 82 rfl)) (ty := .long) (by decide)
    refine en_dup X34 hx (hb hby at_49) (pc' := 50) rfl ?_
    refine en_ldc2 X34 hx hZ hown (tw hw 4 rfl) (hb hby at_50) (pc' := 53) ?_
    refine en_callN X34 hx hZ (rm := ({ frames := 4, cells := 2, slots := 19, locals := 50 } : Room)) (y := (⟨"com/example/querent/querent/match/Automaton$Builder", "<init>", "(J)V"⟩ : MethodName)) hown rfl (tw hw 5 rfl) (tw hw 6 rfl) (tw hw 3 rfl) (tw hw 7 rfl) (by decide) (rm1 l Z a0 hw [] b34 D h34 n0 Z34 A34 F34_b34_maxStates F34_b34_states F34_b34_sets F34_b34_postfix F34_b34_size g_b34 HD O34) e34 (by decide) 1 rfl (by decide) (by decide) (by decide) (by rw [hml]; rfl) (argsL := [(.long (9223372036854775807 : Int64))]) (rest := [(.ref b34)]) (lenOf pd_6 rfl) rfl (hb hby at_53) (pc' := 56) (fun v35 T35 Lq35 X35 hQ35 => ?_)
    obtain ⟨h35, e35⟩ : ∃ q, T35.heap = q := ⟨_, rfl⟩
    rw [e35] at hQ35
    obtain ⟨r, bb, kb, rfl, Nq35, Hc⟩ := hQ35
    have N35 := Fr.app N0 Nq35
    show OwnEnds p e below s _ _ _ T35 m 56 #[.val (.int x0), .val (.int x1), .val (.int x2), .val (.int x3), .val (.int (3 : Int32)), .val (.int fr), .val (.int k0), .val (.int k1), .val (.int k2), .val (.int k3), .unset, .unset, .unset, .unset, .unset] [(.ref b34)]
    have Zs36 : n0 ≤ h35.size := own_BD.sz Hc
    refine en_astore X35 hx (hb hby at_56) (pc' := 58) (Ls' := #[.val (.int x0), .val (.int x1), .val (.int x2), .val (.int x3), .val (.int (3 : Int32)), .val (.int fr), .val (.int k0), .val (.int k1), .val (.int k2), .val (.int k3), .val (.ref b34), .unset, .unset, .unset, .unset]) rfl rfl ?_
    refine en_iload X35 hx (hb hby at_58) (pc' := 60) rfl ?_
    refine en_ifNo X35 hx (hb hby at_60) ((if0 _ _).trans (tlt (by decide : (0 : Int32) < (3 : Int32))).2.2.2) (pc' := 63) ?_
    refine en_aload X35 hx (hb hby at_63) (pc' := 65) rfl rfl ?_
    refine en_iload X35 hx (hb hby at_65) (pc' := 67) rfl ?_
    refine en_iloadN X35 hx (hb hby at_67) (pc' := 68) rfl ?_
    refine en_callS X35 hx hZ (rm := ({ frames := 8, cells := 2, slots := 12, locals := 108 } : Room)) hown (tw hw 63 rfl) (tw hw 64 rfl) (tw hw 56 rfl) (tw hw 65 rfl) (by decide) (rm10 l Z a0 hw [] b34 k0 x3 0 D r bb kb (0 : Int64) (0 : Int32) own_z16 0 D h35 n0 Zs36 Hc rfl (by decide) HD (by omega)) e35 (by decide) 0 rfl (by decide) (by decide) (by decide) (by rw [hml]; rfl) (argsL := [(.ref b34), (.int k0), (.int x3)]) (rest := []) (lenOf pd_12 rfl) rfl (hb hby at_68) (pc' := 71) (fun v37 T37 Lq37 X37 hQ37 => ?_)
    obtain ⟨h37, e37⟩ : ∃ q, T37.heap = q := ⟨_, rfl⟩
    rw [e37] at hQ37
    obtain ⟨rfl, Nq37, st0, w0, ln0, ea0, hk0, hle0, H0⟩ := hQ37
    have N37 := Fr.app N35 Nq37
    show OwnEnds p e below s _ _ _ T37 m 71 #[.val (.int x0), .val (.int x1), .val (.int x2), .val (.int x3), .val (.int (3 : Int32)), .val (.int fr), .val (.int k0), .val (.int k1), .val (.int k2), .val (.int k3), .val (.ref b34), .unset, .unset, .unset, .unset] []
    have Zs38 : n0 ≤ h37.size := own_BD.sz H0
    refine en_iload X37 hx (hb hby at_71) (pc' := 73) rfl ?_
    refine en_iconst X37 hx (1 : Int32) (hb hby at_73) (pc' := 74) ?_
    refine en_icmpNo X37 hx (hb hby at_74) (tlt (by decide : (1 : Int32) < (3 : Int32))).2.2.2 (pc' := 77) ?_
    refine en_aload X37 hx (hb hby at_77) (pc' := 79) rfl rfl ?_
    refine en_iload X37 hx (hb hby at_79) (pc' := 81) rfl ?_
    refine en_iloadN X37 hx (hb hby at_81) (pc' := 82) rfl ?_
    refine en_callS X37 hx hZ (rm := ({ frames := 8, cells := 2, slots := 12, locals := 108 } : Room)) hown (tw hw 63 rfl) (tw hw 64 rfl) (tw hw 56 rfl) (tw hw 65 rfl) (by decide) (rm10 l Z a0 hw [] b34 k1 x3 1 D r bb kb st0 ((0 : Int32) + (1 : Int32)) (own_z16.set 0 w0) ln0 ea0 h37 n0 Zs38 H0 rfl (by decide) HD (by omega)) e37 (by decide) 0 rfl (by decide) (by decide) (by decide) (by rw [hml]; rfl) (argsL := [(.ref b34), (.int k1), (.int x3)]) (rest := []) (lenOf pd_12 rfl) rfl (hb hby at_82) (pc' := 85) (fun v39 T39 Lq39 X39 hQ39 => ?_)
    obtain ⟨h39, e39⟩ : ∃ q, T39.heap = q := ⟨_, rfl⟩
    rw [e39] at hQ39
    obtain ⟨rfl, Nq39, st1, w1, ln1, ea1, hk1, hle1, H1⟩ := hQ39
    have N39 := Fr.app N37 Nq39
    show OwnEnds p e below s _ _ _ T39 m 85 #[.val (.int x0), .val (.int x1), .val (.int x2), .val (.int x3), .val (.int (3 : Int32)), .val (.int fr), .val (.int k0), .val (.int k1), .val (.int k2), .val (.int k3), .val (.ref b34), .unset, .unset, .unset, .unset] []
    have Zs40 : n0 ≤ h39.size := own_BD.sz H1
    refine en_iload X39 hx (hb hby at_85) (pc' := 87) rfl ?_
    refine en_iconst X39 hx (2 : Int32) (hb hby at_87) (pc' := 88) ?_
    refine en_icmpNo X39 hx (hb hby at_88) (tlt (by decide : (2 : Int32) < (3 : Int32))).2.2.2 (pc' := 91) ?_
    refine en_aload X39 hx (hb hby at_91) (pc' := 93) rfl rfl ?_
    refine en_iload X39 hx (hb hby at_93) (pc' := 95) rfl ?_
    refine en_iloadN X39 hx (hb hby at_95) (pc' := 96) rfl ?_
    refine en_callS X39 hx hZ (rm := ({ frames := 8, cells := 2, slots := 12, locals := 108 } : Room)) hown (tw hw 63 rfl) (tw hw 64 rfl) (tw hw 56 rfl) (tw hw 65 rfl) (by decide) (rm10 l Z a0 hw [] b34 k2 x3 2 D r bb kb st1 (((0 : Int32) + (1 : Int32)) + (1 : Int32)) ((own_z16.set 0 w0).set 1 w1) ln1 ea1 h39 n0 Zs40 H1 rfl (by decide) HD (by omega)) e39 (by decide) 0 rfl (by decide) (by decide) (by decide) (by rw [hml]; rfl) (argsL := [(.ref b34), (.int k2), (.int x3)]) (rest := []) (lenOf pd_12 rfl) rfl (hb hby at_96) (pc' := 99) (fun v41 T41 Lq41 X41 hQ41 => ?_)
    obtain ⟨h41, e41⟩ : ∃ q, T41.heap = q := ⟨_, rfl⟩
    rw [e41] at hQ41
    obtain ⟨rfl, Nq41, st2, w2, ln2, ea2, hk2, hle2, H2⟩ := hQ41
    have N41 := Fr.app N39 Nq41
    show OwnEnds p e below s _ _ _ T41 m 99 #[.val (.int x0), .val (.int x1), .val (.int x2), .val (.int x3), .val (.int (3 : Int32)), .val (.int fr), .val (.int k0), .val (.int k1), .val (.int k2), .val (.int k3), .val (.ref b34), .unset, .unset, .unset, .unset] []
    have Zs42 : n0 ≤ h41.size := own_BD.sz H2
    refine en_iload X41 hx (hb hby at_99) (pc' := 101) rfl ?_
    refine en_iconst X41 hx (3 : Int32) (hb hby at_101) (pc' := 102) ?_
    refine en_icmpYes X41 hx (hb hby at_102) (flt (by decide : ¬ (3 : Int32) < (3 : Int32))).2.2.2 (pc' := 113) ?_
    refine en_aload X41 hx (hb hby at_113) (pc' := 115) rfl rfl ?_
    refine en_iload X41 hx (hb hby at_115) (pc' := 117) rfl ?_
    refine en_callVP X41 hx hZ (y := (⟨"com/example/querent/querent/match/Automaton$Builder", "statesFrom", "(I)J"⟩ : MethodName)) (z := (⟨"com/example/querent/querent/match/Automaton$Builder", "statesFrom", "(I)J"⟩ : MethodName)) (K := "com/example/querent/querent/match/Automaton$Builder") (fr := 0) (lo := 0) hown (tw hw 47 rfl) (tw hw 48 rfl) (notFace_of_selects (args := #[]) (mvT hZ (tw hw 50 rfl))) (tw hw 50 rfl) (tw hw 49 rfl) (tw hw 3 rfl) (tw hw 51 rfl) H2.1 (by decide) (rm7 l Z a0 hw [] b34 fr i 3 D r bb kb st2 ((((0 : Int32) + (1 : Int32)) + (1 : Int32)) + (1 : Int32)) (((own_z16.set 0 w0).set 1 w1).set 2 w2) ln2 ea2 _ n0 Zs42 H2 hf rfl (by decide)) e41 (by decide) 0 rfl (by decide) (by decide) (by decide) (by rw [hml]; rfl) (argsL := [(.int fr)]) (rest := []) (lenOf pd_10 rfl) rfl (hb hby at_117) (pc' := 120) (fun T43 X43 e43 => ?_)
    refine en_lstore X43 hx (hb hby at_120) (pc' := 122) (Ls' := #[.val (.int x0), .val (.int x1), .val (.int x2), .val (.int x3), .val (.int (3 : Int32)), .val (.int fr), .val (.int k0), .val (.int k1), .val (.int k2), .val (.int k3), .val (.ref b34), .val (.long (own_cnt (0 : Int64) (((own_z16.set 0 w0).set 1 w1).set 2 w2) i (3 - i))), .second, .unset, .unset]) rfl ?_
    refine en_iconst X43 hx (0 : Int32) (hb hby at_122) (pc' := 123) ?_
    refine en_iload X43 hx (hb hby at_123) (pc' := 125) rfl ?_
    refine en_iload X43 hx (hb hby at_125) (pc' := 127) rfl ?_
    refine en_iload X43 hx (hb hby at_127) (pc' := 129) rfl ?_
    refine en_callP X43 hx hZ hown (tw hw 54 rfl) (tw hw 55 rfl) (tw hw 56 rfl) (tw hw 57 rfl) (by decide) (rm8 l Z a0 hw [] (0 : Int32) fr (3 : Int32) k0 _) e43 (by decide) 0 rfl (by decide) (by decide) (by decide) (by rw [hml]; rfl) (argsL := [(.int (0 : Int32)), (.int fr), (.int (3 : Int32)), (.int k0)]) (rest := []) (lenOf pd_11 rfl) rfl (hb hby at_129) (pc' := 132) (fun T44 X44 e44 => ?_)
    refine en_iconst X44 hx (1 : Int32) (hb hby at_132) (pc' := 133) ?_
    refine en_iload X44 hx (hb hby at_133) (pc' := 135) rfl ?_
    refine en_iload X44 hx (hb hby at_135) (pc' := 137) rfl ?_
    refine en_iload X44 hx (hb hby at_137) (pc' := 139) rfl ?_
    refine en_callP X44 hx hZ hown (tw hw 54 rfl) (tw hw 55 rfl) (tw hw 56 rfl) (tw hw 57 rfl) (by decide) (rm8 l Z a0 hw [] (1 : Int32) fr (3 : Int32) k1 _) e44 (by decide) 2 rfl (by decide) (by decide) (by decide) (by rw [hml]; rfl) (argsL := [(.int (1 : Int32)), (.int fr), (.int (3 : Int32)), (.int k1)]) (rest := [(.long (f8 (0 : Int32) fr (3 : Int32) k0))]) (lenOf pd_11 rfl) rfl (hb hby at_139) (pc' := 142) (fun T45 X45 e45 => ?_)
    refine en_ladd X45 hx (hb hby at_142) (pc' := 143) ?_
    refine en_iconst X45 hx (2 : Int32) (hb hby at_143) (pc' := 144) ?_
    refine en_iload X45 hx (hb hby at_144) (pc' := 146) rfl ?_
    refine en_iload X45 hx (hb hby at_146) (pc' := 148) rfl ?_
    refine en_iload X45 hx (hb hby at_148) (pc' := 150) rfl ?_
    refine en_callP X45 hx hZ hown (tw hw 54 rfl) (tw hw 55 rfl) (tw hw 56 rfl) (tw hw 57 rfl) (by decide) (rm8 l Z a0 hw [] (2 : Int32) fr (3 : Int32) k2 _) e45 (by decide) 2 rfl (by decide) (by decide) (by decide) (by rw [hml]; rfl) (argsL := [(.int (2 : Int32)), (.int fr), (.int (3 : Int32)), (.int k2)]) (rest := [(.long ((f8 (0 : Int32) fr (3 : Int32) k0) + (f8 (1 : Int32) fr (3 : Int32) k1)))]) (lenOf pd_11 rfl) rfl (hb hby at_150) (pc' := 153) (fun T46 X46 e46 => ?_)
    refine en_ladd X46 hx (hb hby at_153) (pc' := 154) ?_
    refine en_iconst X46 hx (3 : Int32) (hb hby at_154) (pc' := 155) ?_
    refine en_iload X46 hx (hb hby at_155) (pc' := 157) rfl ?_
    refine en_iload X46 hx (hb hby at_157) (pc' := 159) rfl ?_
    refine en_iload X46 hx (hb hby at_159) (pc' := 161) rfl ?_
    refine en_callP X46 hx hZ hown (tw hw 54 rfl) (tw hw 55 rfl) (tw hw 56 rfl) (tw hw 57 rfl) (by decide) (rm8 l Z a0 hw [] (3 : Int32) fr (3 : Int32) k3 _) e46 (by decide) 2 rfl (by decide) (by decide) (by decide) (by rw [hml]; rfl) (argsL := [(.int (3 : Int32)), (.int fr), (.int (3 : Int32)), (.int k3)]) (rest := [(.long (((f8 (0 : Int32) fr (3 : Int32) k0) + (f8 (1 : Int32) fr (3 : Int32) k1)) + (f8 (2 : Int32) fr (3 : Int32) k2)))]) (lenOf pd_11 rfl) rfl (hb hby at_161) (pc' := 164) (fun T47 X47 e47 => ?_)
    refine en_ladd X47 hx (hb hby at_164) (pc' := 165) ?_
    refine en_lstore X47 hx (hb hby at_165) (pc' := 167) (Ls' := #[.val (.int x0), .val (.int x1), .val (.int x2), .val (.int x3), .val (.int (3 : Int32)), .val (.int fr), .val (.int k0), .val (.int k1), .val (.int k2), .val (.int k3), .val (.ref b34), .val (.long (own_cnt (0 : Int64) (((own_z16.set 0 w0).set 1 w1).set 2 w2) i (3 - i))), .second, .val (.long ((((f8 (0 : Int32) fr (3 : Int32) k0) + (f8 (1 : Int32) fr (3 : Int32) k1)) + (f8 (2 : Int32) fr (3 : Int32) k2)) + (f8 (3 : Int32) fr (3 : Int32) k3))), .second]) rfl ?_
    refine en_lload X47 hx (hb hby at_167) (pc' := 169) rfl ?_
    refine en_lload X47 hx (hb hby at_169) (pc' := 171) rfl ?_
    refine en_lcmp X47 hx (hb hby at_171) (pc' := 172) ?_
    refine en_ifNo X47 hx (hb hby at_172) (weq (own_fin_3 w0 w1 w2 k0 k1 k2 k3 fr hk0 hk1 hk2 i hi hf)).2 (pc' := 175) ?_
    refine en_aload X47 hx (hb hby at_175) (pc' := 177) rfl rfl ?_
    refine en_callVP X47 hx hZ (y := (⟨"com/example/querent/querent/match/Automaton$Builder", "size", "()I"⟩ : MethodName)) (z := (⟨"com/example/querent/querent/match/Automaton$Builder", "size", "()I"⟩ : MethodName)) (K := "com/example/querent/querent/match/Automaton$Builder") (fr := 0) (lo := 0) hown (tw hw 58 rfl) (tw hw 59 rfl) (notFace_of_selects (args := #[]) (mvT hZ (tw hw 61 rfl))) (tw hw 61 rfl) (tw hw 60 rfl) (tw hw 3 rfl) (tw hw 62 rfl) H2.1 (by decide) (rm9 l Z a0 hw [] b34 D r bb kb st2 ((((0 : Int32) + (1 : Int32)) + (1 : Int32)) + (1 : Int32)) (((own_z16.set 0 w0).set 1 w1).set 2 w2) ln2 ea2 _ n0 Zs42 H2) e47 (by decide) 0 rfl (by decide) (by decide) (by decide) (by rw [hml]; rfl) (argsL := []) (rest := []) (lenOf pd_8 rfl) rfl (hb hby at_177) (pc' := 180) (fun T48 X48 e48 => ?_)
    refine en_iload X48 hx (hb hby at_180) (pc' := 182) rfl ?_
    refine en_icmpNo X48 hx (hb hby at_182) (teq (rfl : ((((0 : Int32) + (1 : Int32)) + (1 : Int32)) + (1 : Int32)) = (3 : Int32))).2 (pc' := 185) ?_
    refine en_iconst X48 hx (1 : Int32) (hb hby at_185) (pc' := 186) ?_
    refine en_goto X48 hx (hb hby at_186) (pc' := 190) ?_
    exact en_retZ X48 hx hret hlk (hb hby at_190) rfl (by decide) (by decide) (by first | (rw [e48]; exact ⟨rfl, N41⟩) | exact ⟨rfl, N41⟩)
  · refine en_istore X0 hx (hb hby at_6) (pc' := 8) (Ls' := #[.val (.int x0), .val (.int x1), .val (.int x2), .val (.int x3), .val (.int (4 : Int32)), .unset, .unset, .unset, .unset, .unset, .unset, .unset, .unset, .unset, .unset]) rfl ?_
    refine en_iloadN X0 hx (hb hby at_8) (pc' := 9) rfl ?_
    refine en_ldc X0 hx hZ hown (tw hw 0 rfl) (hb hby at_9) (pc' := 11) ?_
    refine en_iand X0 hx (hb hby at_11) (pc' := 12) ?_
    refine en_iload X0 hx (hb hby at_12) (pc' := 14) rfl ?_
    refine en_iconst X0 hx (1 : Int32) (hb hby at_14) (pc' := 15) ?_
    refine en_iadd X0 hx (hb hby at_15) (pc' := 16) ?_
    refine en_irem X0 hx (hb hby at_16) (pc' := 17) (by decide) ?_
    generalize hfr : ((x1 &&& (2147483647 : Int32)) % ((4 : Int32) + (1 : Int32))) = fr
    obtain ⟨i, hi, hf⟩ := own_from x1 _ 4 rfl hfr
    refine en_istore X0 hx (hb hby at_17) (pc' := 19) (Ls' := #[.val (.int x0), .val (.int x1), .val (.int x2), .val (.int x3), .val (.int (4 : Int32)), .val (.int fr), .unset, .unset, .unset, .unset, .unset, .unset, .unset, .unset, .unset]) rfl ?_
    refine en_iloadN X0 hx (hb hby at_19) (pc' := 20) rfl ?_
    refine en_iconst X0 hx (3 : Int32) (hb hby at_20) (pc' := 21) ?_
    refine en_iand X0 hx (hb hby at_21) (pc' := 22) ?_
    generalize hk0 : (x2 &&& (3 : Int32)) = k0
    refine en_istore X0 hx (hb hby at_22) (pc' := 24) (Ls' := #[.val (.int x0), .val (.int x1), .val (.int x2), .val (.int x3), .val (.int (4 : Int32)), .val (.int fr), .val (.int k0), .unset, .unset, .unset, .unset, .unset, .unset, .unset, .unset]) rfl ?_
    refine en_iloadN X0 hx (hb hby at_24) (pc' := 25) rfl ?_
    refine en_iconst X0 hx (2 : Int32) (hb hby at_25) (pc' := 26) ?_
    refine en_iushr X0 hx (hb hby at_26) (pc' := 27) ?_
    refine en_iconst X0 hx (3 : Int32) (hb hby at_27) (pc' := 28) ?_
    refine en_iand X0 hx (hb hby at_28) (pc' := 29) ?_
    generalize hk1 : (((x2.toUInt32 >>> ((2 : Int32) &&& 31).toUInt32).toInt32) &&& (3 : Int32)) = k1
    refine en_istore X0 hx (hb hby at_29) (pc' := 31) (Ls' := #[.val (.int x0), .val (.int x1), .val (.int x2), .val (.int x3), .val (.int (4 : Int32)), .val (.int fr), .val (.int k0), .val (.int k1), .unset, .unset, .unset, .unset, .unset, .unset, .unset]) rfl ?_
    refine en_iloadN X0 hx (hb hby at_31) (pc' := 32) rfl ?_
    refine en_iconst X0 hx (4 : Int32) (hb hby at_32) (pc' := 33) ?_
    refine en_iushr X0 hx (hb hby at_33) (pc' := 34) ?_
    refine en_iconst X0 hx (3 : Int32) (hb hby at_34) (pc' := 35) ?_
    refine en_iand X0 hx (hb hby at_35) (pc' := 36) ?_
    generalize hk2 : (((x2.toUInt32 >>> ((4 : Int32) &&& 31).toUInt32).toInt32) &&& (3 : Int32)) = k2
    refine en_istore X0 hx (hb hby at_36) (pc' := 38) (Ls' := #[.val (.int x0), .val (.int x1), .val (.int x2), .val (.int x3), .val (.int (4 : Int32)), .val (.int fr), .val (.int k0), .val (.int k1), .val (.int k2), .unset, .unset, .unset, .unset, .unset, .unset]) rfl ?_
    refine en_iloadN X0 hx (hb hby at_38) (pc' := 39) rfl ?_
    refine en_bipush X0 hx (6 : Int32) (hb hby at_39) (pc' := 41) ?_
    refine en_iushr X0 hx (hb hby at_41) (pc' := 42) ?_
    refine en_iconst X0 hx (3 : Int32) (hb hby at_42) (pc' := 43) ?_
    refine en_iand X0 hx (hb hby at_43) (pc' := 44) ?_
    generalize hk3 : (((x2.toUInt32 >>> ((6 : Int32) &&& 31).toUInt32).toInt32) &&& (3 : Int32)) = k3
    refine en_istore X0 hx (hb hby at_44) (pc' := 46) (Ls' := #[.val (.int x0), .val (.int x1), .val (.int x2), .val (.int x3), .val (.int (4 : Int32)), .val (.int fr), .val (.int k0), .val (.int k1), .val (.int k2), .val (.int k3), .unset, .unset, .unset, .unset, .unset]) rfl ?_
    refine en_newO X0 hx hZ hown (tw hw 1 rfl) (tw hw 2 rfl) (tw hw 3 rfl) e0 (hb hby at_46) (by decide) (by decide) (pc' := 49) (fun T49 h49 b49 g49 X49 e49 E49 A49 D49 => ?_)
    have g_b49 : n0 ≤ b49 := by rw [g49]; exact Z0
    have Z49 : n0 ≤ h49.size := Nat.le_trans Z0 E49.1
    have O49 : Old Z n0 h49 := OZ.ext E49
    have F49_b49_maxStates : Fld Z h49 b49 "com/example/querent/querent/match/Automaton$Postfix" "maxStates" "J" (.long (0 : Int64)) := D49 (Or.inr (tw hw 17 rfl)) (ty := .long) (by decide)
    have F49_b49_sets : Fld Z h49 b49 "com/example/querent/querent/match/Automaton$Builder" "sets" "Ljava/util/List;" .null := D49 (Or.inr (tw hw 43 rfl)) (ty := (.object "java/util/List")) (by decide)
    have F49_b49_postfix : Fld Z h49 b49 "com/example/querent/querent/match/Automaton$Builder" "postfix" "[I" .null := D49 (Or.inl (tw hw 46 rfl)) (ty := (.array .int)) (by decide)
    have F49_b49_size : Fld Z h49 b49 "com/example/querent/querent/match/Automaton$Builder" "size" "I" (.int (0 : Int32)) := D49 (Or.inl (tw hw 53 rfl)) (ty := .int) (by decide)
    have F49_b49_states : Fld Z h49 b49 "com/example/querent/querent/match/Automaton$Postfix" "states" "J" (.long (0 : Int64)) := D49 (Or.inl (tw hw 82 rfl)) (ty := .long) (by decide)
    refine en_dup X49 hx (hb hby at_49) (pc' := 50) rfl ?_
    refine en_ldc2 X49 hx hZ hown (tw hw 4 rfl) (hb hby at_50) (pc' := 53) ?_
    refine en_callN X49 hx hZ (rm := ({ frames := 4, cells := 2, slots := 19, locals := 50 } : Room)) (y := (⟨"com/example/querent/querent/match/Automaton$Builder", "<init>", "(J)V"⟩ : MethodName)) hown rfl (tw hw 5 rfl) (tw hw 6 rfl) (tw hw 3 rfl) (tw hw 7 rfl) (by decide) (rm1 l Z a0 hw [] b49 D h49 n0 Z49 A49 F49_b49_maxStates F49_b49_states F49_b49_sets F49_b49_postfix F49_b49_size g_b49 HD O49) e49 (by decide) 1 rfl (by decide) (by decide) (by decide) (by rw [hml]; rfl) (argsL := [(.long (9223372036854775807 : Int64))]) (rest := [(.ref b49)]) (lenOf pd_6 rfl) rfl (hb hby at_53) (pc' := 56) (fun v50 T50 Lq50 X50 hQ50 => ?_)
    obtain ⟨h50, e50⟩ : ∃ q, T50.heap = q := ⟨_, rfl⟩
    rw [e50] at hQ50
    obtain ⟨r, bb, kb, rfl, Nq50, Hc⟩ := hQ50
    have N50 := Fr.app N0 Nq50
    show OwnEnds p e below s _ _ _ T50 m 56 #[.val (.int x0), .val (.int x1), .val (.int x2), .val (.int x3), .val (.int (4 : Int32)), .val (.int fr), .val (.int k0), .val (.int k1), .val (.int k2), .val (.int k3), .unset, .unset, .unset, .unset, .unset] [(.ref b49)]
    have Zs51 : n0 ≤ h50.size := own_BD.sz Hc
    refine en_astore X50 hx (hb hby at_56) (pc' := 58) (Ls' := #[.val (.int x0), .val (.int x1), .val (.int x2), .val (.int x3), .val (.int (4 : Int32)), .val (.int fr), .val (.int k0), .val (.int k1), .val (.int k2), .val (.int k3), .val (.ref b49), .unset, .unset, .unset, .unset]) rfl rfl ?_
    refine en_iload X50 hx (hb hby at_58) (pc' := 60) rfl ?_
    refine en_ifNo X50 hx (hb hby at_60) ((if0 _ _).trans (tlt (by decide : (0 : Int32) < (4 : Int32))).2.2.2) (pc' := 63) ?_
    refine en_aload X50 hx (hb hby at_63) (pc' := 65) rfl rfl ?_
    refine en_iload X50 hx (hb hby at_65) (pc' := 67) rfl ?_
    refine en_iloadN X50 hx (hb hby at_67) (pc' := 68) rfl ?_
    refine en_callS X50 hx hZ (rm := ({ frames := 8, cells := 2, slots := 12, locals := 108 } : Room)) hown (tw hw 63 rfl) (tw hw 64 rfl) (tw hw 56 rfl) (tw hw 65 rfl) (by decide) (rm10 l Z a0 hw [] b49 k0 x3 0 D r bb kb (0 : Int64) (0 : Int32) own_z16 0 D h50 n0 Zs51 Hc rfl (by decide) HD (by omega)) e50 (by decide) 0 rfl (by decide) (by decide) (by decide) (by rw [hml]; rfl) (argsL := [(.ref b49), (.int k0), (.int x3)]) (rest := []) (lenOf pd_12 rfl) rfl (hb hby at_68) (pc' := 71) (fun v52 T52 Lq52 X52 hQ52 => ?_)
    obtain ⟨h52, e52⟩ : ∃ q, T52.heap = q := ⟨_, rfl⟩
    rw [e52] at hQ52
    obtain ⟨rfl, Nq52, st0, w0, ln0, ea0, hk0, hle0, H0⟩ := hQ52
    have N52 := Fr.app N50 Nq52
    show OwnEnds p e below s _ _ _ T52 m 71 #[.val (.int x0), .val (.int x1), .val (.int x2), .val (.int x3), .val (.int (4 : Int32)), .val (.int fr), .val (.int k0), .val (.int k1), .val (.int k2), .val (.int k3), .val (.ref b49), .unset, .unset, .unset, .unset] []
    have Zs53 : n0 ≤ h52.size := own_BD.sz H0
    refine en_iload X52 hx (hb hby at_71) (pc' := 73) rfl ?_
    refine en_iconst X52 hx (1 : Int32) (hb hby at_73) (pc' := 74) ?_
    refine en_icmpNo X52 hx (hb hby at_74) (tlt (by decide : (1 : Int32) < (4 : Int32))).2.2.2 (pc' := 77) ?_
    refine en_aload X52 hx (hb hby at_77) (pc' := 79) rfl rfl ?_
    refine en_iload X52 hx (hb hby at_79) (pc' := 81) rfl ?_
    refine en_iloadN X52 hx (hb hby at_81) (pc' := 82) rfl ?_
    refine en_callS X52 hx hZ (rm := ({ frames := 8, cells := 2, slots := 12, locals := 108 } : Room)) hown (tw hw 63 rfl) (tw hw 64 rfl) (tw hw 56 rfl) (tw hw 65 rfl) (by decide) (rm10 l Z a0 hw [] b49 k1 x3 1 D r bb kb st0 ((0 : Int32) + (1 : Int32)) (own_z16.set 0 w0) ln0 ea0 h52 n0 Zs53 H0 rfl (by decide) HD (by omega)) e52 (by decide) 0 rfl (by decide) (by decide) (by decide) (by rw [hml]; rfl) (argsL := [(.ref b49), (.int k1), (.int x3)]) (rest := []) (lenOf pd_12 rfl) rfl (hb hby at_82) (pc' := 85) (fun v54 T54 Lq54 X54 hQ54 => ?_)
    obtain ⟨h54, e54⟩ : ∃ q, T54.heap = q := ⟨_, rfl⟩
    rw [e54] at hQ54
    obtain ⟨rfl, Nq54, st1, w1, ln1, ea1, hk1, hle1, H1⟩ := hQ54
    have N54 := Fr.app N52 Nq54
    show OwnEnds p e below s _ _ _ T54 m 85 #[.val (.int x0), .val (.int x1), .val (.int x2), .val (.int x3), .val (.int (4 : Int32)), .val (.int fr), .val (.int k0), .val (.int k1), .val (.int k2), .val (.int k3), .val (.ref b49), .unset, .unset, .unset, .unset] []
    have Zs55 : n0 ≤ h54.size := own_BD.sz H1
    refine en_iload X54 hx (hb hby at_85) (pc' := 87) rfl ?_
    refine en_iconst X54 hx (2 : Int32) (hb hby at_87) (pc' := 88) ?_
    refine en_icmpNo X54 hx (hb hby at_88) (tlt (by decide : (2 : Int32) < (4 : Int32))).2.2.2 (pc' := 91) ?_
    refine en_aload X54 hx (hb hby at_91) (pc' := 93) rfl rfl ?_
    refine en_iload X54 hx (hb hby at_93) (pc' := 95) rfl ?_
    refine en_iloadN X54 hx (hb hby at_95) (pc' := 96) rfl ?_
    refine en_callS X54 hx hZ (rm := ({ frames := 8, cells := 2, slots := 12, locals := 108 } : Room)) hown (tw hw 63 rfl) (tw hw 64 rfl) (tw hw 56 rfl) (tw hw 65 rfl) (by decide) (rm10 l Z a0 hw [] b49 k2 x3 2 D r bb kb st1 (((0 : Int32) + (1 : Int32)) + (1 : Int32)) ((own_z16.set 0 w0).set 1 w1) ln1 ea1 h54 n0 Zs55 H1 rfl (by decide) HD (by omega)) e54 (by decide) 0 rfl (by decide) (by decide) (by decide) (by rw [hml]; rfl) (argsL := [(.ref b49), (.int k2), (.int x3)]) (rest := []) (lenOf pd_12 rfl) rfl (hb hby at_96) (pc' := 99) (fun v56 T56 Lq56 X56 hQ56 => ?_)
    obtain ⟨h56, e56⟩ : ∃ q, T56.heap = q := ⟨_, rfl⟩
    rw [e56] at hQ56
    obtain ⟨rfl, Nq56, st2, w2, ln2, ea2, hk2, hle2, H2⟩ := hQ56
    have N56 := Fr.app N54 Nq56
    show OwnEnds p e below s _ _ _ T56 m 99 #[.val (.int x0), .val (.int x1), .val (.int x2), .val (.int x3), .val (.int (4 : Int32)), .val (.int fr), .val (.int k0), .val (.int k1), .val (.int k2), .val (.int k3), .val (.ref b49), .unset, .unset, .unset, .unset] []
    have Zs57 : n0 ≤ h56.size := own_BD.sz H2
    refine en_iload X56 hx (hb hby at_99) (pc' := 101) rfl ?_
    refine en_iconst X56 hx (3 : Int32) (hb hby at_101) (pc' := 102) ?_
    refine en_icmpNo X56 hx (hb hby at_102) (tlt (by decide : (3 : Int32) < (4 : Int32))).2.2.2 (pc' := 105) ?_
    refine en_aload X56 hx (hb hby at_105) (pc' := 107) rfl rfl ?_
    refine en_iload X56 hx (hb hby at_107) (pc' := 109) rfl ?_
    refine en_iloadN X56 hx (hb hby at_109) (pc' := 110) rfl ?_
    refine en_callS X56 hx hZ (rm := ({ frames := 8, cells := 2, slots := 12, locals := 108 } : Room)) hown (tw hw 63 rfl) (tw hw 64 rfl) (tw hw 56 rfl) (tw hw 65 rfl) (by decide) (rm10 l Z a0 hw [] b49 k3 x3 3 D r bb kb st2 ((((0 : Int32) + (1 : Int32)) + (1 : Int32)) + (1 : Int32)) (((own_z16.set 0 w0).set 1 w1).set 2 w2) ln2 ea2 h56 n0 Zs57 H2 rfl (by decide) HD (by omega)) e56 (by decide) 0 rfl (by decide) (by decide) (by decide) (by rw [hml]; rfl) (argsL := [(.ref b49), (.int k3), (.int x3)]) (rest := []) (lenOf pd_12 rfl) rfl (hb hby at_110) (pc' := 113) (fun v58 T58 Lq58 X58 hQ58 => ?_)
    obtain ⟨h58, e58⟩ : ∃ q, T58.heap = q := ⟨_, rfl⟩
    rw [e58] at hQ58
    obtain ⟨rfl, Nq58, st3, w3, ln3, ea3, hk3, hle3, H3⟩ := hQ58
    have N58 := Fr.app N56 Nq58
    show OwnEnds p e below s _ _ _ T58 m 113 #[.val (.int x0), .val (.int x1), .val (.int x2), .val (.int x3), .val (.int (4 : Int32)), .val (.int fr), .val (.int k0), .val (.int k1), .val (.int k2), .val (.int k3), .val (.ref b49), .unset, .unset, .unset, .unset] []
    have Zs59 : n0 ≤ h58.size := own_BD.sz H3
    refine en_aload X58 hx (hb hby at_113) (pc' := 115) rfl rfl ?_
    refine en_iload X58 hx (hb hby at_115) (pc' := 117) rfl ?_
    refine en_callVP X58 hx hZ (y := (⟨"com/example/querent/querent/match/Automaton$Builder", "statesFrom", "(I)J"⟩ : MethodName)) (z := (⟨"com/example/querent/querent/match/Automaton$Builder", "statesFrom", "(I)J"⟩ : MethodName)) (K := "com/example/querent/querent/match/Automaton$Builder") (fr := 0) (lo := 0) hown (tw hw 47 rfl) (tw hw 48 rfl) (notFace_of_selects (args := #[]) (mvT hZ (tw hw 50 rfl))) (tw hw 50 rfl) (tw hw 49 rfl) (tw hw 3 rfl) (tw hw 51 rfl) H3.1 (by decide) (rm7 l Z a0 hw [] b49 fr i 4 D r bb kb st3 (((((0 : Int32) + (1 : Int32)) + (1 : Int32)) + (1 : Int32)) + (1 : Int32)) ((((own_z16.set 0 w0).set 1 w1).set 2 w2).set 3 w3) ln3 ea3 _ n0 Zs59 H3 hf rfl (by decide)) e58 (by decide) 0 rfl (by decide) (by decide) (by decide) (by rw [hml]; rfl) (argsL := [(.int fr)]) (rest := []) (lenOf pd_10 rfl) rfl (hb hby at_117) (pc' := 120) (fun T60 X60 e60 => ?_)
    refine en_lstore X60 hx (hb hby at_120) (pc' := 122) (Ls' := #[.val (.int x0), .val (.int x1), .val (.int x2), .val (.int x3), .val (.int (4 : Int32)), .val (.int fr), .val (.int k0), .val (.int k1), .val (.int k2), .val (.int k3), .val (.ref b49), .val (.long (own_cnt (0 : Int64) ((((own_z16.set 0 w0).set 1 w1).set 2 w2).set 3 w3) i (4 - i))), .second, .unset, .unset]) rfl ?_
    refine en_iconst X60 hx (0 : Int32) (hb hby at_122) (pc' := 123) ?_
    refine en_iload X60 hx (hb hby at_123) (pc' := 125) rfl ?_
    refine en_iload X60 hx (hb hby at_125) (pc' := 127) rfl ?_
    refine en_iload X60 hx (hb hby at_127) (pc' := 129) rfl ?_
    refine en_callP X60 hx hZ hown (tw hw 54 rfl) (tw hw 55 rfl) (tw hw 56 rfl) (tw hw 57 rfl) (by decide) (rm8 l Z a0 hw [] (0 : Int32) fr (4 : Int32) k0 _) e60 (by decide) 0 rfl (by decide) (by decide) (by decide) (by rw [hml]; rfl) (argsL := [(.int (0 : Int32)), (.int fr), (.int (4 : Int32)), (.int k0)]) (rest := []) (lenOf pd_11 rfl) rfl (hb hby at_129) (pc' := 132) (fun T61 X61 e61 => ?_)
    refine en_iconst X61 hx (1 : Int32) (hb hby at_132) (pc' := 133) ?_
    refine en_iload X61 hx (hb hby at_133) (pc' := 135) rfl ?_
    refine en_iload X61 hx (hb hby at_135) (pc' := 137) rfl ?_
    refine en_iload X61 hx (hb hby at_137) (pc' := 139) rfl ?_
    refine en_callP X61 hx hZ hown (tw hw 54 rfl) (tw hw 55 rfl) (tw hw 56 rfl) (tw hw 57 rfl) (by decide) (rm8 l Z a0 hw [] (1 : Int32) fr (4 : Int32) k1 _) e61 (by decide) 2 rfl (by decide) (by decide) (by decide) (by rw [hml]; rfl) (argsL := [(.int (1 : Int32)), (.int fr), (.int (4 : Int32)), (.int k1)]) (rest := [(.long (f8 (0 : Int32) fr (4 : Int32) k0))]) (lenOf pd_11 rfl) rfl (hb hby at_139) (pc' := 142) (fun T62 X62 e62 => ?_)
    refine en_ladd X62 hx (hb hby at_142) (pc' := 143) ?_
    refine en_iconst X62 hx (2 : Int32) (hb hby at_143) (pc' := 144) ?_
    refine en_iload X62 hx (hb hby at_144) (pc' := 146) rfl ?_
    refine en_iload X62 hx (hb hby at_146) (pc' := 148) rfl ?_
    refine en_iload X62 hx (hb hby at_148) (pc' := 150) rfl ?_
    refine en_callP X62 hx hZ hown (tw hw 54 rfl) (tw hw 55 rfl) (tw hw 56 rfl) (tw hw 57 rfl) (by decide) (rm8 l Z a0 hw [] (2 : Int32) fr (4 : Int32) k2 _) e62 (by decide) 2 rfl (by decide) (by decide) (by decide) (by rw [hml]; rfl) (argsL := [(.int (2 : Int32)), (.int fr), (.int (4 : Int32)), (.int k2)]) (rest := [(.long ((f8 (0 : Int32) fr (4 : Int32) k0) + (f8 (1 : Int32) fr (4 : Int32) k1)))]) (lenOf pd_11 rfl) rfl (hb hby at_150) (pc' := 153) (fun T63 X63 e63 => ?_)
    refine en_ladd X63 hx (hb hby at_153) (pc' := 154) ?_
    refine en_iconst X63 hx (3 : Int32) (hb hby at_154) (pc' := 155) ?_
    refine en_iload X63 hx (hb hby at_155) (pc' := 157) rfl ?_
    refine en_iload X63 hx (hb hby at_157) (pc' := 159) rfl ?_
    refine en_iload X63 hx (hb hby at_159) (pc' := 161) rfl ?_
    refine en_callP X63 hx hZ hown (tw hw 54 rfl) (tw hw 55 rfl) (tw hw 56 rfl) (tw hw 57 rfl) (by decide) (rm8 l Z a0 hw [] (3 : Int32) fr (4 : Int32) k3 _) e63 (by decide) 2 rfl (by decide) (by decide) (by decide) (by rw [hml]; rfl) (argsL := [(.int (3 : Int32)), (.int fr), (.int (4 : Int32)), (.int k3)]) (rest := [(.long (((f8 (0 : Int32) fr (4 : Int32) k0) + (f8 (1 : Int32) fr (4 : Int32) k1)) + (f8 (2 : Int32) fr (4 : Int32) k2)))]) (lenOf pd_11 rfl) rfl (hb hby at_161) (pc' := 164) (fun T64 X64 e64 => ?_)
    refine en_ladd X64 hx (hb hby at_164) (pc' := 165) ?_
    refine en_lstore X64 hx (hb hby at_165) (pc' := 167) (Ls' := #[.val (.int x0), .val (.int x1), .val (.int x2), .val (.int x3), .val (.int (4 : Int32)), .val (.int fr), .val (.int k0), .val (.int k1), .val (.int k2), .val (.int k3), .val (.ref b49), .val (.long (own_cnt (0 : Int64) ((((own_z16.set 0 w0).set 1 w1).set 2 w2).set 3 w3) i (4 - i))), .second, .val (.long ((((f8 (0 : Int32) fr (4 : Int32) k0) + (f8 (1 : Int32) fr (4 : Int32) k1)) + (f8 (2 : Int32) fr (4 : Int32) k2)) + (f8 (3 : Int32) fr (4 : Int32) k3))), .second]) rfl ?_
    refine en_lload X64 hx (hb hby at_167) (pc' := 169) rfl ?_
    refine en_lload X64 hx (hb hby at_169) (pc' := 171) rfl ?_
    refine en_lcmp X64 hx (hb hby at_171) (pc' := 172) ?_
    refine en_ifNo X64 hx (hb hby at_172) (weq (own_fin_4 w0 w1 w2 w3 k0 k1 k2 k3 fr hk0 hk1 hk2 hk3 i hi hf)).2 (pc' := 175) ?_
    refine en_aload X64 hx (hb hby at_175) (pc' := 177) rfl rfl ?_
    refine en_callVP X64 hx hZ (y := (⟨"com/example/querent/querent/match/Automaton$Builder", "size", "()I"⟩ : MethodName)) (z := (⟨"com/example/querent/querent/match/Automaton$Builder", "size", "()I"⟩ : MethodName)) (K := "com/example/querent/querent/match/Automaton$Builder") (fr := 0) (lo := 0) hown (tw hw 58 rfl) (tw hw 59 rfl) (notFace_of_selects (args := #[]) (mvT hZ (tw hw 61 rfl))) (tw hw 61 rfl) (tw hw 60 rfl) (tw hw 3 rfl) (tw hw 62 rfl) H3.1 (by decide) (rm9 l Z a0 hw [] b49 D r bb kb st3 (((((0 : Int32) + (1 : Int32)) + (1 : Int32)) + (1 : Int32)) + (1 : Int32)) ((((own_z16.set 0 w0).set 1 w1).set 2 w2).set 3 w3) ln3 ea3 _ n0 Zs59 H3) e64 (by decide) 0 rfl (by decide) (by decide) (by decide) (by rw [hml]; rfl) (argsL := []) (rest := []) (lenOf pd_8 rfl) rfl (hb hby at_177) (pc' := 180) (fun T65 X65 e65 => ?_)
    refine en_iload X65 hx (hb hby at_180) (pc' := 182) rfl ?_
    refine en_icmpNo X65 hx (hb hby at_182) (teq (rfl : (((((0 : Int32) + (1 : Int32)) + (1 : Int32)) + (1 : Int32)) + (1 : Int32)) = (4 : Int32))).2 (pc' := 185) ?_
    refine en_iconst X65 hx (1 : Int32) (hb hby at_185) (pc' := 186) ?_
    refine en_goto X65 hx (hb hby at_186) (pc' := 190) ?_
    exact en_retZ X65 hx hret hlk (hb hby at_190) rfl (by decide) (by decide) (by first | (rw [e65]; exact ⟨rfl, N58⟩) | exact ⟨rfl, N58⟩)
set_option maxRecDepth 65536 in
set_option maxHeartbeats 40000000 in
theorem comes_1 {Post : Tables → Env → Array Value → State → Outcome → State → Prop} (hpost : ∀ tb e args s v u, (limb_1_1.after args s (.returned v) u = true ∧ limb_1_2.after args s (.returned v) u = true ∧ True) → FrameEnd s (.returned v) u (Jvm.fieldLocs frame_1_writes args s ++ Jvm.arrayLocs frame_1_arrays args s ++ Jvm.staticLocs frame_1_statics s) 24 192 → Post tb e args s (.returned v) u) :
    ArmFor flags0 classFile x code maxLocals ret World_1 tables_1 room_1 Calls_1 rest_1 Pre_1 Post := by
  intro l hfl _ _ p e ha hc hk s m args below hf hA hF happ hP
  obtain ⟨hcalls, hrest, hpre⟩ := hP
  obtain ⟨-, -, -, hnamed, -, -, -, hat⟩ := (Spec.applies_iff hf).mp happ
  obtain ⟨hg, hn⟩ := and_e (Cond.before_iff.mp (show (Jvm.Cond.and given_1 narrow_1).before args s = true from hpre))
  obtain ⟨g1, g2⟩ := and_e hg
  obtain ⟨g3, g4⟩ := and_e g2
  obtain ⟨g5, g6⟩ := and_e g4
  obtain ⟨g7, g8⟩ := and_e g6
  obtain ⟨w0, w1, w2, w3, rfl⟩ : ∃ w0 w1 w2 w3 : Value, args = #[w0, w1, w2, w3] := by
    have hs : args.size = 4 := by simpa [Cond.value, given_1] using g1
    obtain ⟨L⟩ := args
    match L, hs with
    | [w0, w1, w2, w3], _ => exact ⟨w0, w1, w2, w3, rfl⟩
  have hw := fun d (hd : d ∈ tables_1) => atoms_spec (ws := Jvm.Cond.code x code maxLocals ret :: tables_1) hat d (List.mem_cons_of_mem _ hd)
  obtain ⟨i0, ei0⟩ := is_v g3
  obtain rfl : w0 = (.int i0) := Option.some.inj ei0
  obtain ⟨i1, ei1⟩ := is_v g5
  obtain rfl : w1 = (.int i1) := Option.some.inj ei1
  obtain ⟨i2, ei2⟩ := is_v g7
  obtain rfl : w2 = (.int i2) := Option.some.inj ei2
  obtain ⟨i3, ei3⟩ := is_v g8
  obtain rfl : w3 = (.int i3) := Option.some.inj ei3
  obtain ⟨hsets, hown0⟩ := atoms_of _ (rest_1_c_eq ▸ (show rest_1_c.before _ s = true from hrest))
  obtain ⟨D, HD⟩ := own_st (s := s) (hw _ (List.mem_of_getElem? (i := 20) rfl)) (hsets _ (List.mem_of_getElem? (i := 2) rfl)) (hsets _ (List.mem_of_getElem? (i := 6) rfl)) (hsets _ (List.mem_of_getElem? (i := 8) rfl))
  obtain ⟨n, o, h1, h2, h3, _, L, rfl, ⟨rfl, N⟩, hq⟩ := rm0 l s _ hw tables_1 i0 i1 i2 i3 D s.heap s.heap.size (Nat.le_refl _) HD (Old.start s) p e ha hc hk s m _ below hf ((Spec.applies_iff_loose hf).mp happ).1 ⟨rfl, State.Warmed39.refl s, rfl⟩ trivial
  refine ⟨n, _, h1, h2, h3, hpost _ _ _ _ _ _ ⟨Cond.after_iff.mpr rfl, Cond.after_iff.mpr (eq_i res_at (Term.int_eval (1)) rfl), trivial⟩ ⟨hq.1, hq.2.1, (hq.2.2.sift fun y hy => Or.inr (N y hy)).mono (by decide) (by decide)⟩⟩
theorem main_1_1 : Claimed_1_1 := comes_1 fun _ _ _ _ _ _ h hF => ⟨h.1, hF⟩
theorem main_1_2 : Claimed_1_2 := comes_1 fun _ _ _ _ _ _ h hF => ⟨h.2.1, hF⟩
end Jvm.Pilot.@@N@@
namespace Jvm.Pilot.@@N@@
open Jvm Jvm.ClassFile Sem Op Lib Jvm.Free Jvm.Stand Jvm.Pilot.@@N@@.Jvm.D
/-! MADE BY PROGRAM (witnessworld.py) out of the Statement's table words and the real class files: 20 classes; the members and pool entries that the words name. The judged class is class 1, her method 1. -/
namespace start1
open Jvm.ClassFile
def u (s : String) : CpInfo := .utf8 (stringToUtf16 s)
/-- a pool by its gaps: so many unusable entries, then the entry; so many at the end -/
def gap : Nat → List CpInfo → List CpInfo
  | 0, r => r
  | n + 1, r => .unusable :: gap n r
def poolList (es : List (Nat × CpInfo)) (last : Nat) : List CpInfo := es.foldr (fun e r => gap e.1 (e.2 :: r)) (gap last [])
def pool (es : List (Nat × CpInfo)) (last : Nat) : Array CpInfo := ⟨poolList es last⟩
def fileOf (pool : Array CpInfo) (this : Nat) (attrs : Array Attribute := #[]) (ms : Array MethodInfo := #[]) (fl : Nat := 33) (sup : Nat := 0) (ifs : Array Nat := #[]) (fds : Array FieldInfo := #[]) : ClassFile where
  minorVersion := 0
  majorVersion := 65
  constantPool := pool
  accessFlags := fl
  thisClass := this
  superClass := sup
  interfaces := ifs
  fields := fds
  methods := ms
  attributes := attrs
def plain (name : String) (sup : Option ClassId) : Class where
  name := name
  kind := .ordinary
  loader := none
  accessFlags := 33
  super := sup
  interfaces := #[]
  cf := none
  fields := #[]
  methods := #[]
  instanceTypes := #[]
  staticTypes := #[]
  resolved := #[]
  callSites := []
  init := .initialized
  statics := none
  mirror := none

def pool0 : Array CpInfo := pool [(5, u "<init>"), (0, u "()V"), (1, .class_ 10), (1, u "java/lang/Object")] 113

def k0c0 : Code := { maxStack := 0, maxLocals := 1, code := object_method_1_code, exceptionTable := #[], attributes := #[] }
def k0m0 : Method := { name := "<init>", desc := "()V", sig := { parameters := [], returnType := none }, accessFlags := 1, code := some k0c0 }
/-- java/lang/Object -/
def k0 : Class := { plain "java/lang/Object" none with
  accessFlags := 33
  interfaces := #[]
  cf := some (fileOf pool0 8 #[] #[{ accessFlags := 1, nameIndex := 5, descriptorIndex := 6, attributes := #[] }] 33 0 #[] #[])
  fields := #[]
  methods := #[k0m0]
  instanceTypes := #[]
  staticTypes := #[]
  resolved := Array.replicate 124 none
  statics := none }

def pool1 : Array CpInfo := pool [(2, .class_ 4), (1, u "java/lang/Object"), (0, u "<init>"), (0, u "()V"), (0, .integer 2147483647), (0, .class_ 9), (0, u "com/example/querent/querent/match/Automaton$Builder"), (2, .long 9223372036854775807), (1, .methodref 8 15), (0, .nameAndType 5 16), (0, u "(J)V"), (0, .methodref 18 19), (0, .class_ 20), (0, .nameAndType 21 22), (0, u "com/example/querent/querent/match/BuilderStatesFromPinLaw"), (0, u "part"), (0, u "(Lcom/example/querent/querent/match/Automaton$Builder;II)V"), (0, .methodref 8 24), (0, .nameAndType 25 26), (0, u "statesFrom"), (0, u "(I)J"), (0, .methodref 18 28), (0, .nameAndType 29 30), (0, u "term"), (0, u "(IIII)J"), (0, .methodref 8 32), (0, .nameAndType 33 34), (0, u "size"), (0, u "()I"), (0, .methodref 8 36), (0, .nameAndType 37 38), (0, u "literal"), (0, u "(I)V"), (0, .methodref 8 40), (0, .nameAndType 41 6), (0, u "concat"), (0, .methodref 8 43), (0, .nameAndType 44 6), (0, u "star"), (0, .methodref 8 46), (0, .nameAndType 47 6), (0, u "empty"), (2, u "law"), (0, u "(IIII)Z")] 7

def k1m0 : Method := { name := "<init>", desc := "()V", sig := { parameters := [], returnType := none }, accessFlags := 1, code := none }
def k1c1 : Code := { maxStack := 6, maxLocals := 15, code := code, exceptionTable := #[], attributes := #[] }
def k1m1 : Method := { name := "law", desc := "(IIII)Z", sig := { parameters := [.int, .int, .int, .int], returnType := some .boolean }, accessFlags := 9, code := some k1c1 }
def k1c2 : Code := { maxStack := 2, maxLocals := 3, code := method_3_code, exceptionTable := #[], attributes := #[] }
def k1m2 : Method := { name := "part", desc := "(Lcom/example/querent/querent/match/Automaton$Builder;II)V", sig := { parameters := [(.object "com/example/querent/querent/match/Automaton$Builder"), .int, .int], returnType := none }, accessFlags := 10, code := some k1c2 }
def k1c3 : Code := { maxStack := 2, maxLocals := 4, code := method_4_code, exceptionTable := #[], attributes := #[] }
def k1m3 : Method := { name := "term", desc := "(IIII)J", sig := { parameters := [.int, .int, .int, .int], returnType := some .long }, accessFlags := 10, code := some k1c3 }
/-- com/example/querent/querent/match/BuilderStatesFromPinLaw -/
def k1 : Class := { plain "com/example/querent/querent/match/BuilderStatesFromPinLaw" (some 0) with
  accessFlags := 49
  interfaces := #[]
  cf := some (fileOf pool1 18 #[] #[{ accessFlags := 1, nameIndex := 5, descriptorIndex := 6, attributes := #[] }, { accessFlags := 9, nameIndex := 50, descriptorIndex := 51, attributes := #[] }, { accessFlags := 10, nameIndex := 21, descriptorIndex := 22, attributes := #[] }, { accessFlags := 10, nameIndex := 29, descriptorIndex := 30, attributes := #[] }] 49 2 #[] #[])
  fields := #[]
  methods := #[k1m0, k1m1, k1m2, k1m3]
  instanceTypes := #[]
  staticTypes := #[]
  resolved := Array.replicate 59 none
  statics := none }

def pool2 : Array CpInfo := pool [(1, .class_ 2), (0, u "com/example/querent/querent/match/Automaton"), (0, .methodref 4 5), (0, .class_ 6), (0, .nameAndType 7 8), (0, u "java/lang/Object"), (0, u "<init>"), (0, u "()V"), (0, .fieldref 10 11), (0, .class_ 12), (0, .nameAndType 13 14), (0, u "com/example/querent/querent/match/Automaton$Postfix"), (0, u "maxStates"), (0, u "J"), (0, .methodref 10 16), (0, .nameAndType 17 18), (0, u "count"), (0, u "(J)V"), (0, .methodref 10 20), (0, .nameAndType 21 22), (0, u "writeSet"), (0, u "([I)V"), (0, .methodref 10 24), (0, .nameAndType 25 22), (0, u "set"), (2, u "ANY"), (0, u "[I"), (0, .methodref 10 31), (0, .nameAndType 32 33), (0, u "write"), (0, u "(I)V"), (18, u "empty"), (0, .fieldref 10 54), (0, .nameAndType 55 14), (0, u "states"), (12, u "CONCAT"), (0, u "I"), (2, u "ALTERNATE"), (1, u "STAR"), (1, u "PLUS"), (1, u "OPTIONAL"), (1, u "EMPTY"), (3, u "literal"), (1, u "concat"), (1, u "star")] 25

def k2c0 : Code := { maxStack := 3, maxLocals := 3, code := prog_19_method_1_code, exceptionTable := #[], attributes := #[] }
def k2m0 : Method := { name := "<init>", desc := "(J)V", sig := { parameters := [.long], returnType := none }, accessFlags := 0, code := some k2c0 }
def k2c1 : Code := { maxStack := 3, maxLocals := 2, code := prog_19_method_2_code, exceptionTable := #[], attributes := #[] }
def k2m1 : Method := { name := "set", desc := "([I)V", sig := { parameters := [(.array .int)], returnType := none }, accessFlags := 16, code := some k2c1 }
def k2c2 : Code := { maxStack := 5, maxLocals := 2, code := prog_19_method_3_code, exceptionTable := #[], attributes := #[] }
def k2m2 : Method := { name := "literal", desc := "(I)V", sig := { parameters := [.int], returnType := none }, accessFlags := 16, code := some k2c2 }
def k2c3 : Code := { maxStack := 3, maxLocals := 1, code := prog_19_method_5_code, exceptionTable := #[], attributes := #[] }
def k2m3 : Method := { name := "empty", desc := "()V", sig := { parameters := [], returnType := none }, accessFlags := 16, code := some k2c3 }
def k2c4 : Code := { maxStack := 2, maxLocals := 1, code := prog_19_method_6_code, exceptionTable := #[], attributes := #[] }
def k2m4 : Method := { name := "concat", desc := "()V", sig := { parameters := [], returnType := none }, accessFlags := 16, code := some k2c4 }
def k2c5 : Code := { maxStack := 3, maxLocals := 1, code := prog_19_method_8_code, exceptionTable := #[], attributes := #[] }
def k2m5 : Method := { name := "star", desc := "()V", sig := { parameters := [], returnType := none }, accessFlags := 16, code := some k2c5 }
def k2m6 : Method := { name := "write", desc := "(I)V", sig := { parameters := [.int], returnType := none }, accessFlags := 1024, code := none }
def k2m7 : Method := { name := "writeSet", desc := "([I)V", sig := { parameters := [(.array .int)], returnType := none }, accessFlags := 1024, code := none }
def k2c8 : Code := { maxStack := 5, maxLocals := 3, code := prog_19_method_17_code, exceptionTable := #[], attributes := #[] }
def k2m8 : Method := { name := "count", desc := "(J)V", sig := { parameters := [.long], returnType := none }, accessFlags := 2, code := some k2c8 }
/-- com/example/querent/querent/match/Automaton$Postfix -/
def k2 : Class := { plain "com/example/querent/querent/match/Automaton$Postfix" (some 0) with
  accessFlags := 1056
  interfaces := #[]
  cf := some (fileOf pool2 10 #[.nestHost 1] #[{ accessFlags := 0, nameIndex := 7, descriptorIndex := 18, attributes := #[] }, { accessFlags := 16, nameIndex := 25, descriptorIndex := 22, attributes := #[] }, { accessFlags := 16, nameIndex := 84, descriptorIndex := 33, attributes := #[] }, { accessFlags := 16, nameIndex := 52, descriptorIndex := 8, attributes := #[] }, { accessFlags := 16, nameIndex := 86, descriptorIndex := 8, attributes := #[] }, { accessFlags := 16, nameIndex := 88, descriptorIndex := 8, attributes := #[] }, { accessFlags := 1024, nameIndex := 32, descriptorIndex := 33, attributes := #[] }, { accessFlags := 1024, nameIndex := 21, descriptorIndex := 22, attributes := #[] }, { accessFlags := 2, nameIndex := 17, descriptorIndex := 18, attributes := #[] }] 1056 4 #[] #[{ accessFlags := 24, nameIndex := 68, descriptorIndex := 69, attributes := #[] }, { accessFlags := 24, nameIndex := 72, descriptorIndex := 69, attributes := #[] }, { accessFlags := 24, nameIndex := 74, descriptorIndex := 69, attributes := #[] }, { accessFlags := 24, nameIndex := 76, descriptorIndex := 69, attributes := #[] }, { accessFlags := 24, nameIndex := 78, descriptorIndex := 69, attributes := #[] }, { accessFlags := 24, nameIndex := 80, descriptorIndex := 69, attributes := #[] }, { accessFlags := 26, nameIndex := 28, descriptorIndex := 29, attributes := #[] }, { accessFlags := 18, nameIndex := 13, descriptorIndex := 14, attributes := #[] }, { accessFlags := 2, nameIndex := 55, descriptorIndex := 14, attributes := #[] }])
  fields := #[{ name := "CONCAT", type := .int, accessFlags := 24, slot := 0, constantValue := 0 }, { name := "ALTERNATE", type := .int, accessFlags := 24, slot := 1, constantValue := 0 }, { name := "STAR", type := .int, accessFlags := 24, slot := 2, constantValue := 0 }, { name := "PLUS", type := .int, accessFlags := 24, slot := 3, constantValue := 0 }, { name := "OPTIONAL", type := .int, accessFlags := 24, slot := 4, constantValue := 0 }, { name := "EMPTY", type := .int, accessFlags := 24, slot := 5, constantValue := 0 }, { name := "ANY", type := (.array .int), accessFlags := 26, slot := 6, constantValue := 0 }, { name := "maxStates", type := .long, accessFlags := 18, slot := 0, constantValue := 0 }, { name := "states", type := .long, accessFlags := 2, slot := 1, constantValue := 0 }]
  methods := #[k2m0, k2m1, k2m2, k2m3, k2m4, k2m5, k2m6, k2m7, k2m8]
  instanceTypes := #[.long, .long]
  staticTypes := #[.int, .int, .int, .int, .int, .int, (.array .int)]
  resolved := Array.replicate 114 none
  statics := none }

def pool3 : Array CpInfo := pool [(1, .class_ 2), (0, u "com/example/querent/querent/match/Automaton"), (0, .methodref 4 5), (0, .class_ 6), (0, .nameAndType 7 8), (0, u "com/example/querent/querent/match/Automaton$Postfix"), (0, u "<init>"), (0, u "(J)V"), (0, .class_ 10), (0, u "java/util/ArrayList"), (0, .methodref 9 12), (0, .nameAndType 7 13), (0, u "()V"), (0, .fieldref 15 16), (0, .class_ 17), (0, .nameAndType 18 19), (0, u "com/example/querent/querent/match/Automaton$Builder"), (0, u "sets"), (0, u "Ljava/util/List;"), (0, .fieldref 15 21), (0, .nameAndType 22 23), (0, u "postfix"), (0, u "[I"), (0, .fieldref 15 25), (0, .nameAndType 26 27), (0, u "size"), (0, u "I"), (6, .interfaceMethodref 35 36), (0, .class_ 37), (0, .nameAndType 38 39), (0, u "java/util/List"), (0, u "add"), (0, u "(Ljava/lang/Object;)Z"), (0, .interfaceMethodref 35 41), (0, .nameAndType 26 42), (0, u "()I"), (0, .methodref 15 44), (0, .nameAndType 45 46), (0, u "write"), (0, u "(I)V"), (7, u "([I)V"), (28, u "writeSet"), (0, u "statesFrom"), (0, u "(I)J")] 11

def k3c0 : Code := { maxStack := 3, maxLocals := 3, code := prog_17_method_1_code, exceptionTable := #[], attributes := #[] }
def k3m0 : Method := { name := "<init>", desc := "(J)V", sig := { parameters := [.long], returnType := none }, accessFlags := 0, code := some k3c0 }
def k3c1 : Code := { maxStack := 1, maxLocals := 1, code := prog_17_method_2_code, exceptionTable := #[], attributes := #[] }
def k3m1 : Method := { name := "size", desc := "()I", sig := { parameters := [], returnType := some .int }, accessFlags := 0, code := some k3c1 }
def k3c2 : Code := { maxStack := 5, maxLocals := 2, code := prog_17_method_3_code, exceptionTable := #[], attributes := #[] }
def k3m2 : Method := { name := "write", desc := "(I)V", sig := { parameters := [.int], returnType := none }, accessFlags := 0, code := some k3c2 }
def k3c3 : Code := { maxStack := 3, maxLocals := 2, code := prog_17_method_4_code, exceptionTable := #[], attributes := #[] }
def k3m3 : Method := { name := "writeSet", desc := "([I)V", sig := { parameters := [(.array .int)], returnType := none }, accessFlags := 0, code := some k3c3 }
def k3c4 : Code := { maxStack := 4, maxLocals := 5, code := prog_17_method_5_code, exceptionTable := #[], attributes := #[] }
def k3m4 : Method := { name := "statesFrom", desc := "(I)J", sig := { parameters := [.int], returnType := some .long }, accessFlags := 0, code := some k3c4 }
/-- com/example/querent/querent/match/Automaton$Builder -/
def k3 : Class := { plain "com/example/querent/querent/match/Automaton$Builder" (some 2) with
  accessFlags := 48
  interfaces := #[]
  cf := some (fileOf pool3 15 #[.nestHost 1] #[{ accessFlags := 0, nameIndex := 7, descriptorIndex := 8, attributes := #[] }, { accessFlags := 0, nameIndex := 26, descriptorIndex := 42, attributes := #[] }, { accessFlags := 0, nameIndex := 45, descriptorIndex := 46, attributes := #[] }, { accessFlags := 0, nameIndex := 83, descriptorIndex := 54, attributes := #[] }, { accessFlags := 0, nameIndex := 84, descriptorIndex := 85, attributes := #[] }] 48 4 #[] #[{ accessFlags := 18, nameIndex := 18, descriptorIndex := 19, attributes := #[] }, { accessFlags := 2, nameIndex := 22, descriptorIndex := 23, attributes := #[] }, { accessFlags := 2, nameIndex := 26, descriptorIndex := 27, attributes := #[] }])
  fields := #[{ name := "sets", type := (.object "java/util/List"), accessFlags := 18, slot := 2, constantValue := 0 }, { name := "postfix", type := (.array .int), accessFlags := 2, slot := 3, constantValue := 0 }, { name := "size", type := .int, accessFlags := 2, slot := 4, constantValue := 0 }]
  methods := #[k3m0, k3m1, k3m2, k3m3, k3m4]
  instanceTypes := #[.long, .long, (.object "java/util/List"), (.array .int), .int]
  staticTypes := #[]
  resolved := Array.replicate 97 none
  statics := none }

def pool4 : Array CpInfo := pool [(8, .class_ 10), (1, u "java/lang/Iterable"), (24, .class_ 36), (0, u "java/lang/Object")] 25

/-- java/lang/Iterable -/
def k4 : Class := { plain "java/lang/Iterable" (some 0) with
  accessFlags := 1537
  interfaces := #[]
  cf := some (fileOf pool4 8 #[] #[] 1537 35 #[] #[])
  fields := #[]
  methods := #[]
  instanceTypes := #[]
  staticTypes := #[]
  resolved := Array.replicate 62 none
  statics := none }

def pool5 : Array CpInfo := pool [(10, .class_ 12), (1, u "java/util/Collection"), (47, .class_ 61), (0, u "java/lang/Object"), (0, .class_ 63), (0, u "java/lang/Iterable")] 51

/-- java/util/Collection -/
def k5 : Class := { plain "java/util/Collection" (some 0) with
  accessFlags := 1537
  interfaces := #[4]
  cf := some (fileOf pool5 10 #[] #[] 1537 60 #[62] #[])
  fields := #[]
  methods := #[]
  instanceTypes := #[]
  staticTypes := #[]
  resolved := Array.replicate 115 none
  statics := none }

def pool6 : Array CpInfo := pool [(1, .methodref 2 3), (0, .class_ 4), (0, .nameAndType 5 6), (0, u "java/lang/Object"), (0, u "<init>"), (0, u "()V"), (1, .class_ 10), (1, u "java/util/AbstractCollection"), (66, .class_ 78), (0, u "java/util/Collection")] 81

def k6c0 : Code := { maxStack := 1, maxLocals := 1, code := jdk_22_method_1_code, exceptionTable := #[], attributes := #[] }
def k6m0 : Method := { name := "<init>", desc := "()V", sig := { parameters := [], returnType := none }, accessFlags := 4, code := some k6c0 }
/-- java/util/AbstractCollection -/
def k6 : Class := { plain "java/util/AbstractCollection" (some 0) with
  accessFlags := 1057
  interfaces := #[5]
  cf := some (fileOf pool6 8 #[] #[{ accessFlags := 4, nameIndex := 5, descriptorIndex := 6, attributes := #[] }] 1057 2 #[77] #[])
  fields := #[]
  methods := #[k6m0]
  instanceTypes := #[]
  staticTypes := #[]
  resolved := Array.replicate 160 none
  statics := none }

def pool7 : Array CpInfo := pool [(8, .class_ 10), (1, u "java/util/SequencedCollection"), (15, .class_ 27), (0, u "java/lang/Object"), (0, .class_ 29), (0, u "java/util/Collection")] 27

/-- java/util/SequencedCollection -/
def k7 : Class := { plain "java/util/SequencedCollection" (some 0) with
  accessFlags := 1537
  interfaces := #[5]
  cf := some (fileOf pool7 8 #[] #[] 1537 26 #[28] #[])
  fields := #[]
  methods := #[]
  instanceTypes := #[]
  staticTypes := #[]
  resolved := Array.replicate 57 none
  statics := none }

def pool8 : Array CpInfo := pool [(8, .class_ 10), (1, u "java/util/List"), (49, u "add"), (3, u "(Ljava/lang/Object;)Z"), (14, u "size"), (0, u "()I"), (22, .class_ 104), (0, u "java/lang/Object"), (15, .class_ 121), (0, u "java/util/SequencedCollection")] 129

def k8m0 : Method := { name := "size", desc := "()I", sig := { parameters := [], returnType := some .int }, accessFlags := 1025, code := none }
def k8m1 : Method := { name := "add", desc := "(Ljava/lang/Object;)Z", sig := { parameters := [(.object "java/lang/Object")], returnType := some .boolean }, accessFlags := 1025, code := none }
/-- java/util/List -/
def k8 : Class := { plain "java/util/List" (some 0) with
  accessFlags := 1537
  interfaces := #[7]
  cf := some (fileOf pool8 8 #[] #[{ accessFlags := 1025, nameIndex := 79, descriptorIndex := 80, attributes := #[] }, { accessFlags := 1025, nameIndex := 60, descriptorIndex := 64, attributes := #[] }] 1537 103 #[120] #[])
  fields := #[]
  methods := #[k8m0, k8m1]
  instanceTypes := #[]
  staticTypes := #[]
  resolved := Array.replicate 251 none
  statics := none }

def pool9 : Array CpInfo := pool [(1, .methodref 2 3), (0, .class_ 4), (0, .nameAndType 5 6), (0, u "java/util/AbstractCollection"), (0, u "<init>"), (0, u "()V"), (0, .fieldref 8 9), (0, .class_ 10), (0, .nameAndType 11 12), (0, u "java/util/AbstractList"), (0, u "modCount"), (0, u "I"), (64, .class_ 78), (0, u "java/util/AbstractList$Itr"), (3, .class_ 83), (0, u "java/util/AbstractList$ListItr"), (9, .class_ 94), (0, u "java/util/AbstractList$RandomAccessSubList"), (3, .class_ 99), (0, u "java/util/AbstractList$SubList"), (33, .class_ 134), (0, u "java/util/List"), (73, .class_ 209), (0, u "java/util/AbstractList$SubList$1"), (0, .class_ 211), (0, u "java/util/AbstractList$RandomAccessSpliterator")] 6

def k9c0 : Code := { maxStack := 2, maxLocals := 1, code := jdk_39_method_1_code, exceptionTable := #[], attributes := #[] }
def k9m0 : Method := { name := "<init>", desc := "()V", sig := { parameters := [], returnType := none }, accessFlags := 4, code := some k9c0 }
/-- java/util/AbstractList -/
def k9 : Class := { plain "java/util/AbstractList" (some 6) with
  accessFlags := 1057
  interfaces := #[8]
  cf := some (fileOf pool9 8 #[.nestMembers #[93, 98, 208, 210, 82, 77]] #[{ accessFlags := 4, nameIndex := 5, descriptorIndex := 6, attributes := #[] }] 1057 2 #[133] #[{ accessFlags := 132, nameIndex := 11, descriptorIndex := 12, attributes := #[] }])
  fields := #[{ name := "modCount", type := .int, accessFlags := 132, slot := 0, constantValue := 0 }]
  methods := #[k9m0]
  instanceTypes := #[.int]
  staticTypes := #[]
  resolved := Array.replicate 218 none
  statics := none }

def pool10 : Array CpInfo := pool [(1, .class_ 2), (0, u "java/util/RandomAccess"), (0, .class_ 4), (0, u "java/lang/Object")] 2

/-- java/util/RandomAccess -/
def k10 : Class := { plain "java/util/RandomAccess" (some 0) with
  accessFlags := 1537
  interfaces := #[]
  cf := some (fileOf pool10 1 #[] #[] 1537 3 #[] #[])
  fields := #[]
  methods := #[]
  instanceTypes := #[]
  staticTypes := #[]
  resolved := Array.replicate 7 none
  statics := none }

def pool11 : Array CpInfo := pool [(1, .class_ 2), (0, u "java/lang/Cloneable"), (0, .class_ 4), (0, u "java/lang/Object")] 2

/-- java/lang/Cloneable -/
def k11 : Class := { plain "java/lang/Cloneable" (some 0) with
  accessFlags := 1537
  interfaces := #[]
  cf := some (fileOf pool11 1 #[] #[] 1537 3 #[] #[])
  fields := #[]
  methods := #[]
  instanceTypes := #[]
  staticTypes := #[]
  resolved := Array.replicate 7 none
  statics := none }

def pool12 : Array CpInfo := pool [(1, .class_ 2), (0, u "java/io/Serializable"), (0, .class_ 4), (0, u "java/lang/Object")] 2

/-- java/io/Serializable -/
def k12 : Class := { plain "java/io/Serializable" (some 0) with
  accessFlags := 1537
  interfaces := #[]
  cf := some (fileOf pool12 1 #[] #[] 1537 3 #[] #[])
  fields := #[]
  methods := #[]
  instanceTypes := #[]
  staticTypes := #[]
  resolved := Array.replicate 7 none
  statics := none }

def pool13 : Array CpInfo := pool [(1, .methodref 2 3), (0, .class_ 4), (0, .nameAndType 5 6), (0, u "java/util/AbstractList"), (0, u "<init>"), (0, u "()V"), (0, .class_ 8), (0, u "java/lang/Object"), (0, .fieldref 10 11), (0, .class_ 12), (0, .nameAndType 13 14), (0, u "java/util/ArrayList"), (0, u "elementData"), (0, u "[Ljava/lang/Object;"), (2, u "EMPTY_ELEMENTDATA"), (21, .fieldref 10 40), (0, .nameAndType 41 14), (0, u "DEFAULTCAPACITY_EMPTY_ELEMENTDATA"), (5, u "()[Ljava/lang/Object;"), (0, .fieldref 10 49), (0, .nameAndType 50 51), (0, u "size"), (0, u "I"), (11, .fieldref 10 64), (0, .nameAndType 65 51), (0, u "modCount"), (3, .methodref 10 70), (0, .nameAndType 71 72), (0, u "grow"), (0, u "(I)[Ljava/lang/Object;"), (6, .methodref 80 81), (0, .class_ 82), (0, .nameAndType 83 84), (0, u "java/lang/Math"), (0, u "max"), (0, u "(II)I"), (11, u "(Ljava/lang/Object;)Z"), (32, .methodref 10 130), (0, .nameAndType 71 47), (0, .methodref 10 132), (0, .nameAndType 133 134), (0, u "add"), (0, u "(Ljava/lang/Object;[Ljava/lang/Object;I)V"), (13, .class_ 149), (0, u "java/util/List"), (36, u "()I"), (75, .class_ 263), (0, u "java/util/ArrayList$ListItr"), (3, .class_ 268), (0, u "java/util/ArrayList$Itr"), (7, .class_ 277), (0, u "java/util/ArrayList$SubList"), (12, .class_ 291), (0, u "java/util/ArrayList$ArrayListSpliterator"), (37, .class_ 330), (0, u "java/util/RandomAccess"), (0, .class_ 332), (0, u "java/lang/Cloneable"), (0, .class_ 334), (0, u "java/io/Serializable"), (0, u "serialVersionUID"), (0, u "J"), (3, u "DEFAULT_CAPACITY"), (159, .class_ 501), (0, u "java/util/ArrayList$SubList$2"), (0, .class_ 503), (0, u "java/util/ArrayList$SubList$1")] 5

def k13c0 : Code := { maxStack := 2, maxLocals := 1, code := jdk_38_method_2_code, exceptionTable := #[], attributes := #[] }
def k13m0 : Method := { name := "<init>", desc := "()V", sig := { parameters := [], returnType := none }, accessFlags := 1, code := some k13c0 }
def k13c1 : Code := { maxStack := 4, maxLocals := 4, code := jdk_38_method_6_code, exceptionTable := #[], attributes := #[] }
def k13m1 : Method := { name := "grow", desc := "(I)[Ljava/lang/Object;", sig := { parameters := [.int], returnType := some (.array (.object "java/lang/Object")) }, accessFlags := 2, code := some k13c1 }
def k13c2 : Code := { maxStack := 3, maxLocals := 1, code := jdk_38_method_7_code, exceptionTable := #[], attributes := #[] }
def k13m2 : Method := { name := "grow", desc := "()[Ljava/lang/Object;", sig := { parameters := [], returnType := some (.array (.object "java/lang/Object")) }, accessFlags := 2, code := some k13c2 }
def k13c3 : Code := { maxStack := 1, maxLocals := 1, code := jdk_38_method_8_code, exceptionTable := #[], attributes := #[] }
def k13m3 : Method := { name := "size", desc := "()I", sig := { parameters := [], returnType := some .int }, accessFlags := 1, code := some k13c3 }
def k13c4 : Code := { maxStack := 3, maxLocals := 4, code := jdk_38_method_24_code, exceptionTable := #[], attributes := #[] }
def k13m4 : Method := { name := "add", desc := "(Ljava/lang/Object;[Ljava/lang/Object;I)V", sig := { parameters := [(.object "java/lang/Object"), (.array (.object "java/lang/Object")), .int], returnType := none }, accessFlags := 2, code := some k13c4 }
def k13c5 : Code := { maxStack := 4, maxLocals := 2, code := jdk_38_method_25_code, exceptionTable := #[], attributes := #[] }
def k13m5 : Method := { name := "add", desc := "(Ljava/lang/Object;)Z", sig := { parameters := [(.object "java/lang/Object")], returnType := some .boolean }, accessFlags := 1, code := some k13c5 }
/-- java/util/ArrayList -/
def k13 : Class := { plain "java/util/ArrayList" (some 9) with
  accessFlags := 33
  interfaces := #[8, 10, 11, 12]
  cf := some (fileOf pool13 10 #[.nestMembers #[290, 276, 500, 502, 262, 267]] #[{ accessFlags := 1, nameIndex := 5, descriptorIndex := 6, attributes := #[] }, { accessFlags := 2, nameIndex := 71, descriptorIndex := 72, attributes := #[] }, { accessFlags := 2, nameIndex := 71, descriptorIndex := 47, attributes := #[] }, { accessFlags := 1, nameIndex := 50, descriptorIndex := 186, attributes := #[] }, { accessFlags := 2, nameIndex := 133, descriptorIndex := 134, attributes := #[] }, { accessFlags := 1, nameIndex := 133, descriptorIndex := 96, attributes := #[] }] 33 2 #[148, 329, 331, 333] #[{ accessFlags := 26, nameIndex := 335, descriptorIndex := 336, attributes := #[] }, { accessFlags := 26, nameIndex := 340, descriptorIndex := 51, attributes := #[] }, { accessFlags := 26, nameIndex := 17, descriptorIndex := 14, attributes := #[] }, { accessFlags := 26, nameIndex := 41, descriptorIndex := 14, attributes := #[] }, { accessFlags := 128, nameIndex := 13, descriptorIndex := 14, attributes := #[] }, { accessFlags := 2, nameIndex := 50, descriptorIndex := 51, attributes := #[] }])
  fields := #[{ name := "serialVersionUID", type := .long, accessFlags := 26, slot := 0, constantValue := 0 }, { name := "DEFAULT_CAPACITY", type := .int, accessFlags := 26, slot := 1, constantValue := 0 }, { name := "EMPTY_ELEMENTDATA", type := (.array (.object "java/lang/Object")), accessFlags := 26, slot := 2, constantValue := 0 }, { name := "DEFAULTCAPACITY_EMPTY_ELEMENTDATA", type := (.array (.object "java/lang/Object")), accessFlags := 26, slot := 3, constantValue := 0 }, { name := "elementData", type := (.array (.object "java/lang/Object")), accessFlags := 128, slot := 1, constantValue := 0 }, { name := "size", type := .int, accessFlags := 2, slot := 2, constantValue := 0 }]
  methods := #[k13m0, k13m1, k13m2, k13m3, k13m4, k13m5]
  instanceTypes := #[.int, (.array (.object "java/lang/Object")), .int]
  staticTypes := #[.long, .int, (.array (.object "java/lang/Object")), (.array (.object "java/lang/Object"))]
  resolved := Array.replicate 509 none
  statics := some 0 }

def pool14 : Array CpInfo := pool [(1, .class_ 2), (0, u "java/lang/Math"), (1, .class_ 6), (1, u "java/lang/Object"), (0, u "<init>"), (0, u "()V"), (89, .class_ 100), (1, u "java/lang/Math$RandomNumberGeneratorHolder"), (71, u "negativeZeroFloatBits"), (0, u "J"), (2, u "negativeZeroDoubleBits"), (21, u "max"), (46, u "$assertionsDisabled"), (0, u "Z"), (88, u "(II)I"), (2, u "twoToTheDoubleScaleDown"), (0, u "D"), (4, u "twoToTheDoubleScaleUp"), (9, u "E"), (3, u "PI"), (2, u "TAU"), (2, u "DEGREES_TO_RADIANS"), (0, u "RADIANS_TO_DEGREES")] 94

def k14m0 : Method := { name := "<init>", desc := "()V", sig := { parameters := [], returnType := none }, accessFlags := 2, code := none }
def k14c1 : Code := { maxStack := 2, maxLocals := 2, code := jdk_29_method_65_code, exceptionTable := #[], attributes := #[] }
def k14m1 : Method := { name := "max", desc := "(II)I", sig := { parameters := [.int, .int], returnType := some .int }, accessFlags := 9, code := some k14c1 }
/-- java/lang/Math -/
def k14 : Class := { plain "java/lang/Math" (some 0) with
  accessFlags := 49
  interfaces := #[]
  cf := some (fileOf pool14 1 #[.nestMembers #[98]] #[{ accessFlags := 2, nameIndex := 7, descriptorIndex := 8, attributes := #[] }, { accessFlags := 9, nameIndex := 198, descriptorIndex := 335, attributes := #[] }] 49 4 #[] #[{ accessFlags := 25, nameIndex := 354, descriptorIndex := 339, attributes := #[] }, { accessFlags := 25, nameIndex := 358, descriptorIndex := 339, attributes := #[] }, { accessFlags := 25, nameIndex := 361, descriptorIndex := 339, attributes := #[] }, { accessFlags := 26, nameIndex := 364, descriptorIndex := 339, attributes := #[] }, { accessFlags := 26, nameIndex := 365, descriptorIndex := 339, attributes := #[] }, { accessFlags := 26, nameIndex := 172, descriptorIndex := 173, attributes := #[] }, { accessFlags := 26, nameIndex := 176, descriptorIndex := 173, attributes := #[] }, { accessFlags := 8, nameIndex := 344, descriptorIndex := 339, attributes := #[] }, { accessFlags := 8, nameIndex := 338, descriptorIndex := 339, attributes := #[] }, { accessFlags := 4120, nameIndex := 245, descriptorIndex := 246, attributes := #[] }])
  fields := #[{ name := "E", type := .double, accessFlags := 25, slot := 0, constantValue := 0 }, { name := "PI", type := .double, accessFlags := 25, slot := 1, constantValue := 0 }, { name := "TAU", type := .double, accessFlags := 25, slot := 2, constantValue := 0 }, { name := "DEGREES_TO_RADIANS", type := .double, accessFlags := 26, slot := 3, constantValue := 0 }, { name := "RADIANS_TO_DEGREES", type := .double, accessFlags := 26, slot := 4, constantValue := 0 }, { name := "negativeZeroFloatBits", type := .long, accessFlags := 26, slot := 5, constantValue := 0 }, { name := "negativeZeroDoubleBits", type := .long, accessFlags := 26, slot := 6, constantValue := 0 }, { name := "twoToTheDoubleScaleUp", type := .double, accessFlags := 8, slot := 7, constantValue := 0 }, { name := "twoToTheDoubleScaleDown", type := .double, accessFlags := 8, slot := 8, constantValue := 0 }, { name := "$assertionsDisabled", type := .boolean, accessFlags := 4120, slot := 9, constantValue := 0 }]
  methods := #[k14m0, k14m1]
  instanceTypes := #[]
  staticTypes := #[.double, .double, .double, .double, .double, .long, .long, .double, .double, .boolean]
  resolved := Array.replicate 460 none
  statics := none }

/-- the primitive byte -/
def k15 : Class := { plain "byte" none with kind := .primitive 'B', accessFlags := 0x411 }
/-- [B -/
def k16 : Class := { plain "[B" (some 0) with kind := .array 15 .byte, interfaces := #[11, 12], accessFlags := 1041 }

/-- the primitive int -/
def k17 : Class := { plain "int" none with kind := .primitive 'I', accessFlags := 0x411 }
/-- [I -/
def k18 : Class := { plain "[I" (some 0) with kind := .array 17 .int, interfaces := #[11, 12], accessFlags := 1041 }

/-- [Ljava/lang/Object; -/
def k19 : Class := { plain "[Ljava/lang/Object;" (some 0) with kind := .array 0 (.object "java/lang/Object"), interfaces := #[11, 12], accessFlags := 1041 }

def heap : Heap := #[{ cls := 13, slots := #[.long 0, .int 0, .ref 1, .ref 2], vm := .statics 13 },
  { cls := 19, slots := #[], vm := .none },
  { cls := 19, slots := #[], vm := .none }]
def classes : Array Class := #[k0, k1, k2, k3, k4, k5, k6, k7, k8, k9, k10, k11, k12, k13, k14, k15, k16, k17, k18, k19]
def interned : List (Array UInt16 × Addr) := []
def slotsUsed : Nat := 4
def theMethod : MethodId := ⟨1, 1⟩
def args0 : Array Value := #[.int 3, .int 5, .int 9, .int 1]
def aboutOver (below : List Frame) : State where
  vm := { classes := classes, interned := interned.toArray }
  heap := heap
  slotsUsed := slotsUsed
  threads := #[{ frames := .invoking theMethod args0 :: below }]
def below0 : List Frame := [.native { method := ⟨0, 0⟩, args := #[] }]
def about1 : State := aboutOver below0
def p0 : Program := .bare "" "" ""
def e0 : Env := launch0.env 0 0 0
theorem w_frames : about1.frames = Frame.invoking theMethod args0 :: below0 := rfl
set_option maxRecDepth 65536 in
theorem w_args : argsFit about1.vm theMethod args0 = true := by decide +kernel
set_option maxRecDepth 65536 in
theorem w_heap : heapFits about1 = true := by decide +kernel
set_option maxRecDepth 65536 in
theorem w_runnable : about1.curStatus? = some .runnable := by decide +kernel
set_option maxRecDepth 65536 in
theorem w_alone : about1.alone = true := by decide +kernel
set_option maxRecDepth 65536 in
theorem w_named : about1.methodNamed? x = some theMethod := by decide +kernel
set_option maxRecDepth 65536 in
theorem w_hears : about1.hears theMethod below0 = true := by decide +kernel
set_option maxRecDepth 65536 in
theorem w_ripe : about1.ripe theMethod args0 below0 = true := by decide +kernel
theorem w_running : about1.status = .running := rfl
set_option maxRecDepth 65536 in
theorem w_room : about1.hasRoom e0.platform room_1 = true :=
  launch0.hasRoom_least _ room_1 (by decide +kernel) (by decide +kernel) (by decide +kernel) (by decide +kernel) (by decide +kernel) (by decide +kernel)
theorem allAtoms_all (ts : List Jvm.Cond) (a : Array Jvm.Value) (st : Jvm.State) : (allAtoms ts).before a st = ts.all (fun c => c.before a st) := by
  induction ts with
  | nil => rfl
  | cons c t ih =>
    show (Jvm.Cond.and c (allAtoms t)).before a st = _
    rw [Jvm.Cond.before_and, ih, List.all_cons]
def words1 : List Jvm.Cond := Jvm.Cond.code x code maxLocals ret :: tables_1
/-- a 'code' word, met by the world's own term for the bytes: nothing is compared byte by byte -/
theorem code_word {y : MethodName} {bytes : ByteArray} {mx : Nat} {rt : Option FieldType} {a : Array Value} {s : State} {m : MethodId} {meth : Method} {c : Code} (h1 : s.methodNamed? y = some m) (h2 : s.vm.method? m = some meth) (h3 : meth.code = some c) (h4 : c.code = bytes)
    (h5 : (c.maxLocals == mx && c.exceptionTable.isEmpty && decide (c.maxStack ≤ mostOperands) && decide (meth.sig.returnType = rt) && !meth.locks && decide (parseMethodDescriptor y.desc = some meth.sig)) = true) : (Jvm.Cond.code y bytes mx rt).before a s = true := by
  simp only [Bool.and_eq_true, beq_iff_eq, Bool.not_eq_true', decide_eq_true_eq] at h5
  obtain ⟨⟨⟨⟨⟨g1, g2⟩, g3⟩, g4⟩, g5⟩, g6⟩ := h5
  simp [Cond.before, Cond.holds, Cond.value, h1, h2, h3, h4, g1, g2, g3, g4, g5, g6]
def isCode : Jvm.Cond → Bool
  | .code _ _ _ _ => true
  | _ => false
theorem all_split {L : List Jvm.Cond} {P : Jvm.Cond → Bool} (h1 : L.all (fun c => isCode c || P c) = true) (h2 : ∀ c ∈ L.filter isCode, P c = true) : L.all P = true := by
  refine List.all_eq_true.mpr fun c hc => ?_
  have h := List.all_eq_true.mp h1 c hc
  rcases Bool.eq_false_or_eq_true (isCode c) with hi | hi
  · exact h2 c (List.mem_filter.mpr ⟨hc, hi⟩)
  · simpa [hi] using h
set_option maxRecDepth 65536 in
theorem w_c0 : (Jvm.Cond.code x code maxLocals ret).before args0 about1 = true := code_word (m := ⟨1, 1⟩) (meth := k1m1) (c := k1c1) (by decide +kernel) rfl rfl rfl (by decide +kernel)
set_option maxRecDepth 65536 in
theorem w_c1 : (Jvm.Cond.code ({ cls := "com/example/querent/querent/match/Automaton$Builder", name := "<init>", desc := "(J)V" } : Jvm.MethodName) prog_17_method_1_code (3 : Nat) (Option.none : Option Jvm.ClassFile.FieldType)).before args0 about1 = true := code_word (m := ⟨3, 0⟩) (meth := k3m0) (c := k3c0) (by decide +kernel) rfl rfl rfl (by decide +kernel)
set_option maxRecDepth 65536 in
theorem w_c2 : (Jvm.Cond.code ({ cls := "com/example/querent/querent/match/Automaton$Postfix", name := "<init>", desc := "(J)V" } : Jvm.MethodName) prog_19_method_1_code (3 : Nat) (Option.none : Option Jvm.ClassFile.FieldType)).before args0 about1 = true := code_word (m := ⟨2, 0⟩) (meth := k2m0) (c := k2c0) (by decide +kernel) rfl rfl rfl (by decide +kernel)
set_option maxRecDepth 65536 in
theorem w_c3 : (Jvm.Cond.code ({ cls := "java/lang/Object", name := "<init>", desc := "()V" } : Jvm.MethodName) object_method_1_code (1 : Nat) (Option.none : Option Jvm.ClassFile.FieldType)).before args0 about1 = true := code_word (m := ⟨0, 0⟩) (meth := k0m0) (c := k0c0) (by decide +kernel) rfl rfl rfl (by decide +kernel)
set_option maxRecDepth 65536 in
theorem w_c4 : (Jvm.Cond.code ({ cls := "java/util/ArrayList", name := "<init>", desc := "()V" } : Jvm.MethodName) jdk_38_method_2_code (1 : Nat) (Option.none : Option Jvm.ClassFile.FieldType)).before args0 about1 = true := code_word (m := ⟨13, 0⟩) (meth := k13m0) (c := k13c0) (by decide +kernel) rfl rfl rfl (by decide +kernel)
set_option maxRecDepth 65536 in
theorem w_c5 : (Jvm.Cond.code ({ cls := "java/util/AbstractList", name := "<init>", desc := "()V" } : Jvm.MethodName) jdk_39_method_1_code (1 : Nat) (Option.none : Option Jvm.ClassFile.FieldType)).before args0 about1 = true := code_word (m := ⟨9, 0⟩) (meth := k9m0) (c := k9c0) (by decide +kernel) rfl rfl rfl (by decide +kernel)
set_option maxRecDepth 65536 in
theorem w_c6 : (Jvm.Cond.code ({ cls := "java/util/AbstractCollection", name := "<init>", desc := "()V" } : Jvm.MethodName) jdk_22_method_1_code (1 : Nat) (Option.none : Option Jvm.ClassFile.FieldType)).before args0 about1 = true := code_word (m := ⟨6, 0⟩) (meth := k6m0) (c := k6c0) (by decide +kernel) rfl rfl rfl (by decide +kernel)
set_option maxRecDepth 65536 in
theorem w_c7 : (Jvm.Cond.code ({ cls := "com/example/querent/querent/match/Automaton$Builder", name := "statesFrom", desc := "(I)J" } : Jvm.MethodName) prog_17_method_5_code (5 : Nat) (Option.some Jvm.ClassFile.FieldType.long)).before args0 about1 = true := code_word (m := ⟨3, 4⟩) (meth := k3m4) (c := k3c4) (by decide +kernel) rfl rfl rfl (by decide +kernel)
set_option maxRecDepth 65536 in
theorem w_c8 : (Jvm.Cond.code ({ cls := "com/example/querent/querent/match/BuilderStatesFromPinLaw", name := "term", desc := "(IIII)J" } : Jvm.MethodName) method_4_code (4 : Nat) (Option.some Jvm.ClassFile.FieldType.long)).before args0 about1 = true := code_word (m := ⟨1, 3⟩) (meth := k1m3) (c := k1c3) (by decide +kernel) rfl rfl rfl (by decide +kernel)
set_option maxRecDepth 65536 in
theorem w_c9 : (Jvm.Cond.code ({ cls := "com/example/querent/querent/match/Automaton$Builder", name := "size", desc := "()I" } : Jvm.MethodName) prog_17_method_2_code (1 : Nat) (Option.some Jvm.ClassFile.FieldType.int)).before args0 about1 = true := code_word (m := ⟨3, 1⟩) (meth := k3m1) (c := k3c1) (by decide +kernel) rfl rfl rfl (by decide +kernel)
set_option maxRecDepth 65536 in
theorem w_c10 : (Jvm.Cond.code ({ cls := "com/example/querent/querent/match/BuilderStatesFromPinLaw", name := "part", desc := "(Lcom/example/querent/querent/match/Automaton$Builder;II)V" } : Jvm.MethodName) method_3_code (3 : Nat) (Option.none : Option Jvm.ClassFile.FieldType)).before args0 about1 = true := code_word (m := ⟨1, 2⟩) (meth := k1m2) (c := k1c2) (by decide +kernel) rfl rfl rfl (by decide +kernel)
set_option maxRecDepth 65536 in
theorem w_c11 : (Jvm.Cond.code ({ cls := "com/example/querent/querent/match/Automaton$Postfix", name := "literal", desc := "(I)V" } : Jvm.MethodName) prog_19_method_3_code (2 : Nat) (Option.none : Option Jvm.ClassFile.FieldType)).before args0 about1 = true := code_word (m := ⟨2, 2⟩) (meth := k2m2) (c := k2c2) (by decide +kernel) rfl rfl rfl (by decide +kernel)
set_option maxRecDepth 65536 in
theorem w_c12 : (Jvm.Cond.code ({ cls := "com/example/querent/querent/match/Automaton$Postfix", name := "set", desc := "([I)V" } : Jvm.MethodName) prog_19_method_2_code (2 : Nat) (Option.none : Option Jvm.ClassFile.FieldType)).before args0 about1 = true := code_word (m := ⟨2, 1⟩) (meth := k2m1) (c := k2c1) (by decide +kernel) rfl rfl rfl (by decide +kernel)
set_option maxRecDepth 65536 in
theorem w_c13 : (Jvm.Cond.code ({ cls := "com/example/querent/querent/match/Automaton$Postfix", name := "count", desc := "(J)V" } : Jvm.MethodName) prog_19_method_17_code (3 : Nat) (Option.none : Option Jvm.ClassFile.FieldType)).before args0 about1 = true := code_word (m := ⟨2, 8⟩) (meth := k2m8) (c := k2c8) (by decide +kernel) rfl rfl rfl (by decide +kernel)
set_option maxRecDepth 65536 in
theorem w_c14 : (Jvm.Cond.code ({ cls := "com/example/querent/querent/match/Automaton$Builder", name := "writeSet", desc := "([I)V" } : Jvm.MethodName) prog_17_method_4_code (2 : Nat) (Option.none : Option Jvm.ClassFile.FieldType)).before args0 about1 = true := code_word (m := ⟨3, 3⟩) (meth := k3m3) (c := k3c3) (by decide +kernel) rfl rfl rfl (by decide +kernel)
set_option maxRecDepth 65536 in
theorem w_c15 : (Jvm.Cond.code ({ cls := "java/util/ArrayList", name := "add", desc := "(Ljava/lang/Object;)Z" } : Jvm.MethodName) jdk_38_method_25_code (2 : Nat) (Option.some Jvm.ClassFile.FieldType.boolean)).before args0 about1 = true := code_word (m := ⟨13, 5⟩) (meth := k13m5) (c := k13c5) (by decide +kernel) rfl rfl rfl (by decide +kernel)
set_option maxRecDepth 65536 in
theorem w_c16 : (Jvm.Cond.code ({ cls := "java/util/ArrayList", name := "add", desc := "(Ljava/lang/Object;[Ljava/lang/Object;I)V" } : Jvm.MethodName) jdk_38_method_24_code (4 : Nat) (Option.none : Option Jvm.ClassFile.FieldType)).before args0 about1 = true := code_word (m := ⟨13, 4⟩) (meth := k13m4) (c := k13c4) (by decide +kernel) rfl rfl rfl (by decide +kernel)
set_option maxRecDepth 65536 in
theorem w_c17 : (Jvm.Cond.code ({ cls := "java/util/ArrayList", name := "grow", desc := "()[Ljava/lang/Object;" } : Jvm.MethodName) jdk_38_method_7_code (1 : Nat) (Option.some (Jvm.ClassFile.FieldType.array (Jvm.ClassFile.FieldType.object "java/lang/Object")))).before args0 about1 = true := code_word (m := ⟨13, 2⟩) (meth := k13m2) (c := k13c2) (by decide +kernel) rfl rfl rfl (by decide +kernel)
set_option maxRecDepth 65536 in
theorem w_c18 : (Jvm.Cond.code ({ cls := "java/util/ArrayList", name := "grow", desc := "(I)[Ljava/lang/Object;" } : Jvm.MethodName) jdk_38_method_6_code (4 : Nat) (Option.some (Jvm.ClassFile.FieldType.array (Jvm.ClassFile.FieldType.object "java/lang/Object")))).before args0 about1 = true := code_word (m := ⟨13, 1⟩) (meth := k13m1) (c := k13c1) (by decide +kernel) rfl rfl rfl (by decide +kernel)
set_option maxRecDepth 65536 in
theorem w_c19 : (Jvm.Cond.code ({ cls := "java/lang/Math", name := "max", desc := "(II)I" } : Jvm.MethodName) jdk_29_method_65_code (2 : Nat) (Option.some Jvm.ClassFile.FieldType.int)).before args0 about1 = true := code_word (m := ⟨14, 1⟩) (meth := k14m1) (c := k14c1) (by decide +kernel) rfl rfl rfl (by decide +kernel)
set_option maxRecDepth 65536 in
theorem w_c20 : (Jvm.Cond.code ({ cls := "java/util/ArrayList", name := "size", desc := "()I" } : Jvm.MethodName) jdk_38_method_8_code (1 : Nat) (Option.some Jvm.ClassFile.FieldType.int)).before args0 about1 = true := code_word (m := ⟨13, 3⟩) (meth := k13m3) (c := k13c3) (by decide +kernel) rfl rfl rfl (by decide +kernel)
set_option maxRecDepth 65536 in
theorem w_c21 : (Jvm.Cond.code ({ cls := "com/example/querent/querent/match/Automaton$Builder", name := "write", desc := "(I)V" } : Jvm.MethodName) prog_17_method_3_code (2 : Nat) (Option.none : Option Jvm.ClassFile.FieldType)).before args0 about1 = true := code_word (m := ⟨3, 2⟩) (meth := k3m2) (c := k3c2) (by decide +kernel) rfl rfl rfl (by decide +kernel)
set_option maxRecDepth 65536 in
theorem w_c22 : (Jvm.Cond.code ({ cls := "com/example/querent/querent/match/Automaton$Postfix", name := "concat", desc := "()V" } : Jvm.MethodName) prog_19_method_6_code (1 : Nat) (Option.none : Option Jvm.ClassFile.FieldType)).before args0 about1 = true := code_word (m := ⟨2, 4⟩) (meth := k2m4) (c := k2c4) (by decide +kernel) rfl rfl rfl (by decide +kernel)
set_option maxRecDepth 65536 in
theorem w_c23 : (Jvm.Cond.code ({ cls := "com/example/querent/querent/match/Automaton$Postfix", name := "star", desc := "()V" } : Jvm.MethodName) prog_19_method_8_code (1 : Nat) (Option.none : Option Jvm.ClassFile.FieldType)).before args0 about1 = true := code_word (m := ⟨2, 5⟩) (meth := k2m5) (c := k2c5) (by decide +kernel) rfl rfl rfl (by decide +kernel)
set_option maxRecDepth 65536 in
theorem w_c24 : (Jvm.Cond.code ({ cls := "com/example/querent/querent/match/Automaton$Postfix", name := "empty", desc := "()V" } : Jvm.MethodName) prog_19_method_5_code (1 : Nat) (Option.none : Option Jvm.ClassFile.FieldType)).before args0 about1 = true := code_word (m := ⟨2, 3⟩) (meth := k2m3) (c := k2c3) (by decide +kernel) rfl rfl rfl (by decide +kernel)
def codes1 : List Jvm.Cond := [Jvm.Cond.code x code maxLocals ret, Jvm.Cond.code ({ cls := "com/example/querent/querent/match/Automaton$Builder", name := "<init>", desc := "(J)V" } : Jvm.MethodName) prog_17_method_1_code (3 : Nat) (Option.none : Option Jvm.ClassFile.FieldType), Jvm.Cond.code ({ cls := "com/example/querent/querent/match/Automaton$Postfix", name := "<init>", desc := "(J)V" } : Jvm.MethodName) prog_19_method_1_code (3 : Nat) (Option.none : Option Jvm.ClassFile.FieldType), Jvm.Cond.code ({ cls := "java/lang/Object", name := "<init>", desc := "()V" } : Jvm.MethodName) object_method_1_code (1 : Nat) (Option.none : Option Jvm.ClassFile.FieldType), Jvm.Cond.code ({ cls := "java/util/ArrayList", name := "<init>", desc := "()V" } : Jvm.MethodName) jdk_38_method_2_code (1 : Nat) (Option.none : Option Jvm.ClassFile.FieldType), Jvm.Cond.code ({ cls := "java/util/AbstractList", name := "<init>", desc := "()V" } : Jvm.MethodName) jdk_39_method_1_code (1 : Nat) (Option.none : Option Jvm.ClassFile.FieldType), Jvm.Cond.code ({ cls := "java/util/AbstractCollection", name := "<init>", desc := "()V" } : Jvm.MethodName) jdk_22_method_1_code (1 : Nat) (Option.none : Option Jvm.ClassFile.FieldType), Jvm.Cond.code ({ cls := "com/example/querent/querent/match/Automaton$Builder", name := "statesFrom", desc := "(I)J" } : Jvm.MethodName) prog_17_method_5_code (5 : Nat) (Option.some Jvm.ClassFile.FieldType.long), Jvm.Cond.code ({ cls := "com/example/querent/querent/match/BuilderStatesFromPinLaw", name := "term", desc := "(IIII)J" } : Jvm.MethodName) method_4_code (4 : Nat) (Option.some Jvm.ClassFile.FieldType.long), Jvm.Cond.code ({ cls := "com/example/querent/querent/match/Automaton$Builder", name := "size", desc := "()I" } : Jvm.MethodName) prog_17_method_2_code (1 : Nat) (Option.some Jvm.ClassFile.FieldType.int), Jvm.Cond.code ({ cls := "com/example/querent/querent/match/BuilderStatesFromPinLaw", name := "part", desc := "(Lcom/example/querent/querent/match/Automaton$Builder;II)V" } : Jvm.MethodName) method_3_code (3 : Nat) (Option.none : Option Jvm.ClassFile.FieldType), Jvm.Cond.code ({ cls := "com/example/querent/querent/match/Automaton$Postfix", name := "literal", desc := "(I)V" } : Jvm.MethodName) prog_19_method_3_code (2 : Nat) (Option.none : Option Jvm.ClassFile.FieldType), Jvm.Cond.code ({ cls := "com/example/querent/querent/match/Automaton$Postfix", name := "set", desc := "([I)V" } : Jvm.MethodName) prog_19_method_2_code (2 : Nat) (Option.none : Option Jvm.ClassFile.FieldType), Jvm.Cond.code ({ cls := "com/example/querent/querent/match/Automaton$Postfix", name := "count", desc := "(J)V" } : Jvm.MethodName) prog_19_method_17_code (3 : Nat) (Option.none : Option Jvm.ClassFile.FieldType), Jvm.Cond.code ({ cls := "com/example/querent/querent/match/Automaton$Builder", name := "writeSet", desc := "([I)V" } : Jvm.MethodName) prog_17_method_4_code (2 : Nat) (Option.none : Option Jvm.ClassFile.FieldType), Jvm.Cond.code ({ cls := "java/util/ArrayList", name := "add", desc := "(Ljava/lang/Object;)Z" } : Jvm.MethodName) jdk_38_method_25_code (2 : Nat) (Option.some Jvm.ClassFile.FieldType.boolean), Jvm.Cond.code ({ cls := "java/util/ArrayList", name := "add", desc := "(Ljava/lang/Object;[Ljava/lang/Object;I)V" } : Jvm.MethodName) jdk_38_method_24_code (4 : Nat) (Option.none : Option Jvm.ClassFile.FieldType), Jvm.Cond.code ({ cls := "java/util/ArrayList", name := "grow", desc := "()[Ljava/lang/Object;" } : Jvm.MethodName) jdk_38_method_7_code (1 : Nat) (Option.some (Jvm.ClassFile.FieldType.array (Jvm.ClassFile.FieldType.object "java/lang/Object"))), Jvm.Cond.code ({ cls := "java/util/ArrayList", name := "grow", desc := "(I)[Ljava/lang/Object;" } : Jvm.MethodName) jdk_38_method_6_code (4 : Nat) (Option.some (Jvm.ClassFile.FieldType.array (Jvm.ClassFile.FieldType.object "java/lang/Object"))), Jvm.Cond.code ({ cls := "java/lang/Math", name := "max", desc := "(II)I" } : Jvm.MethodName) jdk_29_method_65_code (2 : Nat) (Option.some Jvm.ClassFile.FieldType.int), Jvm.Cond.code ({ cls := "java/util/ArrayList", name := "size", desc := "()I" } : Jvm.MethodName) jdk_38_method_8_code (1 : Nat) (Option.some Jvm.ClassFile.FieldType.int), Jvm.Cond.code ({ cls := "com/example/querent/querent/match/Automaton$Builder", name := "write", desc := "(I)V" } : Jvm.MethodName) prog_17_method_3_code (2 : Nat) (Option.none : Option Jvm.ClassFile.FieldType), Jvm.Cond.code ({ cls := "com/example/querent/querent/match/Automaton$Postfix", name := "concat", desc := "()V" } : Jvm.MethodName) prog_19_method_6_code (1 : Nat) (Option.none : Option Jvm.ClassFile.FieldType), Jvm.Cond.code ({ cls := "com/example/querent/querent/match/Automaton$Postfix", name := "star", desc := "()V" } : Jvm.MethodName) prog_19_method_8_code (1 : Nat) (Option.none : Option Jvm.ClassFile.FieldType), Jvm.Cond.code ({ cls := "com/example/querent/querent/match/Automaton$Postfix", name := "empty", desc := "()V" } : Jvm.MethodName) prog_19_method_5_code (1 : Nat) (Option.none : Option Jvm.ClassFile.FieldType)]
set_option maxRecDepth 65536 in
theorem codes_eq : words1.filter isCode = codes1 := rfl
theorem w_codes : ∀ c ∈ words1.filter isCode, c.before args0 about1 = true := by
  rw [codes_eq]
  intro c hc
  simp only [codes1, List.mem_cons, List.not_mem_nil, or_false] at hc
  rcases hc with rfl | rfl | rfl | rfl | rfl | rfl | rfl | rfl | rfl | rfl | rfl | rfl | rfl | rfl | rfl | rfl | rfl | rfl | rfl | rfl | rfl | rfl | rfl | rfl | rfl
  · exact w_c0
  · exact w_c1
  · exact w_c2
  · exact w_c3
  · exact w_c4
  · exact w_c5
  · exact w_c6
  · exact w_c7
  · exact w_c8
  · exact w_c9
  · exact w_c10
  · exact w_c11
  · exact w_c12
  · exact w_c13
  · exact w_c14
  · exact w_c15
  · exact w_c16
  · exact w_c17
  · exact w_c18
  · exact w_c19
  · exact w_c20
  · exact w_c21
  · exact w_c22
  · exact w_c23
  · exact w_c24
set_option maxRecDepth 65536 in
theorem w_t1 : (words1.take 24).all (fun c => isCode c || c.before args0 about1) = true := by decide +kernel
set_option maxRecDepth 65536 in
theorem w_t2 : ((words1.drop 24).take 24).all (fun c => isCode c || c.before args0 about1) = true := by decide +kernel
set_option maxRecDepth 65536 in
theorem w_t3 : (((words1.drop 24).drop 24).take 24).all (fun c => isCode c || c.before args0 about1) = true := by decide +kernel
set_option maxRecDepth 65536 in
theorem w_t4 : ((((words1.drop 24).drop 24).drop 24).take 24).all (fun c => isCode c || c.before args0 about1) = true := by decide +kernel
set_option maxRecDepth 65536 in
theorem w_t5 : (((((words1.drop 24).drop 24).drop 24).drop 24).take 24).all (fun c => isCode c || c.before args0 about1) = true := by decide +kernel
set_option maxRecDepth 65536 in
theorem w_t6 : ((((((words1.drop 24).drop 24).drop 24).drop 24).drop 24).take 24).all (fun c => isCode c || c.before args0 about1) = true := by decide +kernel
set_option maxRecDepth 65536 in
theorem w_t7 : ((((((words1.drop 24).drop 24).drop 24).drop 24).drop 24).drop 24).all (fun c => isCode c || c.before args0 about1) = true := by decide +kernel
theorem w_tables : (allAtoms (Jvm.Cond.code x code maxLocals ret :: tables_1)).before args0 about1 = true := by
  rw [allAtoms_all]
  show words1.all (fun c => c.before args0 about1) = true
  refine all_split ?_ w_codes
  rw [← List.take_append_drop 24 words1, List.all_append, w_t1, ← List.take_append_drop 24 (words1.drop 24), List.all_append, w_t2, ← List.take_append_drop 24 ((words1.drop 24).drop 24), List.all_append, w_t3, ← List.take_append_drop 24 (((words1.drop 24).drop 24).drop 24), List.all_append, w_t4, ← List.take_append_drop 24 ((((words1.drop 24).drop 24).drop 24).drop 24), List.all_append, w_t5, ← List.take_append_drop 24 (((((words1.drop 24).drop 24).drop 24).drop 24).drop 24), List.all_append, w_t6, w_t7]
  rfl
set_option maxRecDepth 65536 in
theorem w_rest : rest_1_c.before args0 about1 = true := by decide +kernel
set_option maxRecDepth 65536 in
theorem w_case : (Jvm.Cond.and given_1 narrow_1).before args0 about1 = true := by decide +kernel
theorem w_applies : (headSpec (Jvm.Cond.code x code maxLocals ret :: tables_1) room_1).applies x e0.platform about1 = true :=
  (Spec.applies_iff w_frames).mpr ⟨w_running, w_runnable, w_alone, w_named, w_hears, w_ripe, w_room, w_tables⟩
theorem atStart : AtStart classFile x code maxLocals ret World_1 tables_1 room_1 Calls_1 rest_1 Pre_1 launch0 p0 e0 about1 theMethod args0 below0 :=
  ⟨lists_1, trivial, launch0.admits_env _ _ _, launch0.least_env, fairChoices_fair.cas, fairChoices_fair.clock, w_frames, w_args, w_heap, w_applies, trivial, w_rest, w_case⟩
end start1
theorem witness_1 : WitnessClaimed_1 := ⟨start1.p0, start1.e0, start1.about1, start1.theMethod, start1.args0, start1.below0, start1.atStart⟩
end Jvm.Pilot.@@N@@
