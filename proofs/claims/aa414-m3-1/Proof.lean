import JvmDerived
import JvmDerived.Pilot.@@N@@Statement
import JvmDerived.Pilot.@@N@@Code
set_option linter.unusedVariables false
set_option linter.unusedSimpArgs false
namespace Jvm.OwnKit
open Sem ClassFile Op Lib Jvm.Stand Jvm.Free Jvm.LawKit Jvm.RoadKit
section Kit
variable {p : Program} {l : Launch} {e : Env} {R : Room} {s : State} {m : MethodId} {args : Array Value} {below : List Frame} {meth : Method} {c : Code} {T : State} {locs : List Loc} {cells slots : Nat} {Z : State} {a0 : Array Value} {h : Heap} {C S : Nat} {Q : Option Value → Heap → List Loc → Prop} {Ls Ls' : Array Slot} {st st' rest : List Value} {pc pc' : Nat}
/-- from here the invocation ends by a return, with Q -/
def OwnEnds (p : Program) (e : Env) (below : List Frame) (s : State) (C S : Nat) (Q : Option Value → Heap → List Loc → Prop) (T : State) (m : MethodId) (pc : Nat) (Ls : Array Slot) (st : List Value) : Prop :=
  ∃ t o, Steps p.tables e below (T.setTop (mkF m pc Ls st)) t ∧ t.status = .running ∧ Ended t below o ∧ ∃ v L, o = .returned v ∧ Q v t.heap L ∧ FrameEnd s o t L C S
theorem OwnEnds.of {T' : State} (k : ∀ t, Steps p.tables e below (T'.setTop (mkF m pc' Ls' st')) t → Steps p.tables e below (T.setTop (mkF m pc Ls st)) t) (h : OwnEnds p e below s C S Q T' m pc' Ls' st') : OwnEnds p e below s C S Q T m pc Ls st := by
  obtain ⟨t, o, h1, h2⟩ := h
  exact ⟨t, o, k t h1, h2⟩
theorem OwnEnds.mono {Q' : Option Value → Heap → List Loc → Prop} (h : OwnEnds p e below s C S Q T m pc Ls st) (q : ∀ v h L, Q v h L → Q' v h L) : OwnEnds p e below s C S Q' T m pc Ls st := by
  obtain ⟨t, o, h1, h2, h3, v, L, h4, h5, h6⟩ := h
  exact ⟨t, o, h1, h2, h3, v, L, h4, q _ _ _ h5, h6⟩
/-- what a walk knows of its method -/
def Cx (p : Program) (s : State) (m : MethodId) (meth : Method) (c : Code) (Z : State) (y : MethodName) (bytes : ByteArray) (maxL : Nat) (ret : Option FieldType) : Prop :=
  p.tables.exec = Jvm.exec ∧ c.code = bytes ∧ c.maxLocals = maxL ∧ meth.sig.returnType = ret ∧ meth.locks = false ∧ meth.name = y.name ∧ s.vm.findClass y.cls = some m.cls ∧ Z.Warmed39 s.vm
/-- a contract: called with these arguments at the heap h0, the method returns with Q -/
def OwnMeets (l : Launch) (Z : State) (y : MethodName) (bytes : ByteArray) (maxL : Nat) (ret : Option FieldType) (ws : List Jvm.Cond) (rm : Room) (as' : Array Value) (h0 : Heap) (Q : Option Value → Heap → List Loc → Prop) : Prop :=
  MetFree l y (head1 (Jvm.Cond.code y bytes maxL ret :: ws) rm) (fun a U => a = as' ∧ Z.Warmed39 U.vm ∧ U.heap = h0) (fun _ _ _ _ _ => True) (fun _ U o U' => ∃ v L, o = .returned v ∧ Q v U'.heap L ∧ FrameEnd U o U' L rm.cells rm.slots)
theorem OwnMeets.of_walk {y : MethodName} {bytes : ByteArray} {maxL : Nat} {ret : Option FieldType} {ws : List Jvm.Cond} {rm : Room} {as' : Array Value} {h0 : Heap} (hpl : plainFor y = true) (hent : ∀ m, entryFrame m as' maxL = mkF m 0 Ls [])
    (body : ∀ (p : Program) (e : Env) (s : State) (m : MethodId) (below : List Frame) (meth : Method) (c : Code) (T : State), Stand p l e rm s m as' below meth c T [] 0 0 → Cx p s m meth c Z y bytes maxL ret → T.heap = h0 → OwnEnds p e below s rm.cells rm.slots Q T m 0 Ls []) :
    OwnMeets l Z y bytes maxL ret ws rm as' h0 Q := by
  refine MetFree.of_bodySF hpl hisR ?_
  intro p e s m args below meth c s₁ Bd hml0 hP hK
  obtain ⟨rfl, hZ, hh⟩ := hP
  have X0 : Stand p l e rm s m _ below meth c s₁ [] 0 0 := Stand.of_body Bd
  have e0 : s₁.heap = h0 := by rw [← hh, Bd.state]; rfl
  obtain ⟨t, o, h1, h2, h3, v, L, h4, h5, h6⟩ := body p e s m below meth c s₁ X0 ⟨Bd.exec, Bd.bytes, hml0, Bd.returns, BodyLoose.notSynchronized Bd, (name_of_methodNamed Bd.named Bd.method).1, findClass_of_methodNamed Bd.named, hZ⟩ e0
  exact ⟨t, o, castTop (hent m) h1, h2, h3, v, L, h4, h5, h6⟩
theorem tw {W : List Jvm.Cond} (hw : ∀ d ∈ W, d.before a0 Z = true) (i : Nat) {d : Jvm.Cond} (q : W[i]? = some d) : d.before a0 Z = true := hw d (List.mem_of_getElem? q)
theorem pick {P : Prop} [Decidable P] {α : Type} {A B : α} {F : α → Prop} {G : Prop} (k : F (if P then A else B)) (k1 : P → F A → G) (k2 : ¬ P → F B → G) : G := by
  by_cases q : P
  · exact k1 q (by rwa [if_pos q] at k)
  · exact k2 q (by rwa [if_neg q] at k)
theorem pickR {P : Prop} [Decidable P] {α : Type} {A B : α} {F : α → Prop} (k1 : P → F A) (k2 : ¬ P → F B) : F (if P then A else B) := by
  by_cases q : P
  · rw [if_pos q]; exact k1 q
  · rw [if_neg q]; exact k2 q
theorem en_iloadN (X : Stand p l e R s m args below meth c T locs cells slots) (hx : p.tables.exec = Jvm.exec) {k : Fin 4} {v : Int32} (hd : decode c.code pc = .ok (.iload_n k, 1)) (hl : Ls[k.val]? = some (.val (.int v))) (k : OwnEnds p e below s C S Q T m pc' Ls (.int v :: st)) (hp : pc + 1 = pc' := by rfl) : OwnEnds p e below s C S Q T m pc Ls st := by
  subst hp
  exact OwnEnds.of (fun _ k => XS.iloadN X.here hx (g := mkF m pc Ls st) rfl hd hl k) k
theorem en_iload (X : Stand p l e R s m args below meth c T locs cells slots) (hx : p.tables.exec = Jvm.exec) {k : Nat} {v : Int32} (hd : decode c.code pc = .ok (.iload k, 2)) (hl : Ls[k]? = some (.val (.int v))) (k : OwnEnds p e below s C S Q T m pc' Ls (.int v :: st)) (hp : pc + 2 = pc' := by rfl) : OwnEnds p e below s C S Q T m pc Ls st := by
  subst hp
  exact OwnEnds.of (fun _ k => XS.iload X.here hx (g := mkF m pc Ls st) rfl hd hl k) k
theorem en_istoreN (X : Stand p l e R s m args below meth c T locs cells slots) (hx : p.tables.exec = Jvm.exec) {k : Fin 4} {v : Int32} (hd : decode c.code pc = .ok (.istore_n k, 1)) (hl : storeLocals Ls k.val (.int v) = some Ls') (k : OwnEnds p e below s C S Q T m pc' Ls' st) (hp : pc + 1 = pc' := by rfl) : OwnEnds p e below s C S Q T m pc Ls (.int v :: st) := by
  subst hp
  exact OwnEnds.of (fun _ k => XS.istoreN X.here hx (g := mkF m pc Ls (.int v :: st)) rfl hd rfl hl k) k
theorem en_istore (X : Stand p l e R s m args below meth c T locs cells slots) (hx : p.tables.exec = Jvm.exec) {k : Nat} {v : Int32} (hd : decode c.code pc = .ok (.istore k, 2)) (hl : storeLocals Ls k (.int v) = some Ls') (k : OwnEnds p e below s C S Q T m pc' Ls' st) (hp : pc + 2 = pc' := by rfl) : OwnEnds p e below s C S Q T m pc Ls (.int v :: st) := by
  subst hp
  exact OwnEnds.of (fun _ k => XS.istore X.here hx (g := mkF m pc Ls (.int v :: st)) rfl hd rfl hl k) k
theorem en_lloadN (X : Stand p l e R s m args below meth c T locs cells slots) (hx : p.tables.exec = Jvm.exec) {k : Fin 4} {v : Int64} (hd : decode c.code pc = .ok (.lload_n k, 1)) (hl : Ls[k.val]? = some (.val (.long v))) (k : OwnEnds p e below s C S Q T m pc' Ls (.long v :: st)) (hp : pc + 1 = pc' := by rfl) : OwnEnds p e below s C S Q T m pc Ls st := by
  subst hp
  exact OwnEnds.of (fun _ k => XS.lloadN X.here hx (g := mkF m pc Ls st) rfl hd hl k) k
theorem en_lload (X : Stand p l e R s m args below meth c T locs cells slots) (hx : p.tables.exec = Jvm.exec) {k : Nat} {v : Int64} (hd : decode c.code pc = .ok (.lload k, 2)) (hl : Ls[k]? = some (.val (.long v))) (k : OwnEnds p e below s C S Q T m pc' Ls (.long v :: st)) (hp : pc + 2 = pc' := by rfl) : OwnEnds p e below s C S Q T m pc Ls st := by
  subst hp
  exact OwnEnds.of (fun _ k => XS.lload X.here hx (g := mkF m pc Ls st) rfl hd hl k) k
theorem en_lstoreN (X : Stand p l e R s m args below meth c T locs cells slots) (hx : p.tables.exec = Jvm.exec) {k : Fin 4} {v : Int64} (hd : decode c.code pc = .ok (.lstore_n k, 1)) (hl : storeLocals Ls k.val (.long v) = some Ls') (k : OwnEnds p e below s C S Q T m pc' Ls' st) (hp : pc + 1 = pc' := by rfl) : OwnEnds p e below s C S Q T m pc Ls (.long v :: st) := by
  subst hp
  exact OwnEnds.of (fun _ k => XS.lstoreN X.here hx (g := mkF m pc Ls (.long v :: st)) rfl hd rfl hl k) k
theorem en_lstore (X : Stand p l e R s m args below meth c T locs cells slots) (hx : p.tables.exec = Jvm.exec) {k : Nat} {v : Int64} (hd : decode c.code pc = .ok (.lstore k, 2)) (hl : storeLocals Ls k (.long v) = some Ls') (k : OwnEnds p e below s C S Q T m pc' Ls' st) (hp : pc + 2 = pc' := by rfl) : OwnEnds p e below s C S Q T m pc Ls (.long v :: st) := by
  subst hp
  exact OwnEnds.of (fun _ k => XS.lstore X.here hx (g := mkF m pc Ls (.long v :: st)) rfl hd rfl hl k) k
theorem en_aloadN (X : Stand p l e R s m args below meth c T locs cells slots) (hx : p.tables.exec = Jvm.exec) {k : Fin 4} {v : Value} (hd : decode c.code pc = .ok (.aload_n k, 1)) (hl : Ls[k.val]? = some (.val v)) (hv : v.isRef = true) (k : OwnEnds p e below s C S Q T m pc' Ls (v :: st)) (hp : pc + 1 = pc' := by rfl) : OwnEnds p e below s C S Q T m pc Ls st := by
  subst hp
  exact OwnEnds.of (fun _ k => XS.aloadN X.here hx (g := mkF m pc Ls st) rfl hd hl hv k) k
theorem en_aload (X : Stand p l e R s m args below meth c T locs cells slots) (hx : p.tables.exec = Jvm.exec) {k : Nat} {v : Value} (hd : decode c.code pc = .ok (.aload k, 2)) (hl : Ls[k]? = some (.val v)) (hv : v.isRef = true) (k : OwnEnds p e below s C S Q T m pc' Ls (v :: st)) (hp : pc + 2 = pc' := by rfl) : OwnEnds p e below s C S Q T m pc Ls st := by
  subst hp
  exact OwnEnds.of (fun _ k => XS.aload X.here hx (g := mkF m pc Ls st) rfl hd hl hv k) k
theorem en_astoreN (X : Stand p l e R s m args below meth c T locs cells slots) (hx : p.tables.exec = Jvm.exec) {k : Fin 4} {v : Value} (hd : decode c.code pc = .ok (.astore_n k, 1)) (hv : v.isRef = true) (hl : storeLocals Ls k.val v = some Ls') (k : OwnEnds p e below s C S Q T m pc' Ls' st) (hp : pc + 1 = pc' := by rfl) : OwnEnds p e below s C S Q T m pc Ls (v :: st) := by
  subst hp
  exact OwnEnds.of (fun _ k => XS.astoreN X.here hx (g := mkF m pc Ls (v :: st)) rfl hd rfl hv hl k) k
theorem en_astore (X : Stand p l e R s m args below meth c T locs cells slots) (hx : p.tables.exec = Jvm.exec) {k : Nat} {v : Value} (hd : decode c.code pc = .ok (.astore k, 2)) (hv : v.isRef = true) (hl : storeLocals Ls k v = some Ls') (k : OwnEnds p e below s C S Q T m pc' Ls' st) (hp : pc + 2 = pc' := by rfl) : OwnEnds p e below s C S Q T m pc Ls (v :: st) := by
  subst hp
  exact OwnEnds.of (fun _ k => XS.astore X.here hx (g := mkF m pc Ls (v :: st)) rfl hd rfl hv hl k) k
theorem en_dload (X : Stand p l e R s m args below meth c T locs cells slots) (hx : p.tables.exec = Jvm.exec) {k : Nat} {v : UInt64} (hd : decode c.code pc = .ok (.dload k, 2)) (hl : Ls[k]? = some (.val (.double v))) (k : OwnEnds p e below s C S Q T m pc' Ls (.double v :: st)) (hp : pc + 2 = pc' := by rfl) : OwnEnds p e below s C S Q T m pc Ls st := by
  subst hp
  exact OwnEnds.of (fun _ k => XS.dload X.here hx (g := mkF m pc Ls st) rfl hd hl k) k
theorem en_iconst (X : Stand p l e R s m args below meth c T locs cells slots) (hx : p.tables.exec = Jvm.exec) {i : Int} (v : Int32) (hd : decode c.code pc = .ok (.iconst i, 1)) (k : OwnEnds p e below s C S Q T m pc' Ls (.int v :: st)) (hv : Int32.ofInt i = v := by rfl) (hp : pc + 1 = pc' := by rfl) : OwnEnds p e below s C S Q T m pc Ls st := by
  subst hp hv
  exact OwnEnds.of (fun _ k => XS.iconst X.here hx (g := mkF m pc Ls st) rfl hd k) k
theorem en_bipush (X : Stand p l e R s m args below meth c T locs cells slots) (hx : p.tables.exec = Jvm.exec) {i : Int} (v : Int32) (hd : decode c.code pc = .ok (.bipush i, 2)) (k : OwnEnds p e below s C S Q T m pc' Ls (.int v :: st)) (hv : (Int8.ofInt i).toInt32 = v := by rfl) (hp : pc + 2 = pc' := by rfl) : OwnEnds p e below s C S Q T m pc Ls st := by
  subst hp hv
  exact OwnEnds.of (fun _ k => XS.bipush X.here hx (g := mkF m pc Ls st) rfl hd k) k
theorem en_sipush (X : Stand p l e R s m args below meth c T locs cells slots) (hx : p.tables.exec = Jvm.exec) {i : Int} (v : Int32) (hd : decode c.code pc = .ok (.sipush i, 3)) (k : OwnEnds p e below s C S Q T m pc' Ls (.int v :: st)) (hv : (Int16.ofInt i).toInt32 = v := by rfl) (hp : pc + 3 = pc' := by rfl) : OwnEnds p e below s C S Q T m pc Ls st := by
  subst hp hv
  exact OwnEnds.of (fun _ k => XS.sipush X.here hx (g := mkF m pc Ls st) rfl hd k) k
theorem en_lconst (X : Stand p l e R s m args below meth c T locs cells slots) (hx : p.tables.exec = Jvm.exec) {i : Fin 2} (v : Int64) (hd : decode c.code pc = .ok (.lconst i, 1)) (k : OwnEnds p e below s C S Q T m pc' Ls (.long v :: st)) (hv : Int64.ofNat i = v := by rfl) (hp : pc + 1 = pc' := by rfl) : OwnEnds p e below s C S Q T m pc Ls st := by
  subst hp hv
  exact OwnEnds.of (fun _ k => XS.lconst X.here hx (g := mkF m pc Ls st) rfl hd k) k
theorem en_dconst0 (X : Stand p l e R s m args below meth c T locs cells slots) (hx : p.tables.exec = Jvm.exec) (hd : decode c.code pc = .ok (.dconst 0, 1)) (k : OwnEnds p e below s C S Q T m pc' Ls (.double FP.dconst0 :: st)) (hp : pc + 1 = pc' := by rfl) : OwnEnds p e below s C S Q T m pc Ls st := by
  subst hp
  exact OwnEnds.of (fun _ k => XS.dconst0 X.here hx (g := mkF m pc Ls st) rfl hd rfl k) k
theorem en_ldc (X : Stand p l e R s m args below meth c T locs cells slots) (hx : p.tables.exec = Jvm.exec) (hZ : Z.Warmed39 s.vm) {own : String} {index : Nat} {v : Int32} (hown : s.vm.findClass own = some m.cls) (w : (Jvm.Cond.constant own index v).before a0 Z = true) (hd : decode c.code pc = .ok (.ldc index, 2)) (k : OwnEnds p e below s C S Q T m pc' Ls (.int v :: st)) (hp : pc + 2 = pc' := by rfl) : OwnEnds p e below s C S Q T m pc Ls st := by
  subst hp
  exact OwnEnds.of (X.ldcInt hx hown (mvT hZ w) (g := mkF m pc Ls st) rfl hd) k
theorem en_ldc2 (X : Stand p l e R s m args below meth c T locs cells slots) (hx : p.tables.exec = Jvm.exec) (hZ : Z.Warmed39 s.vm) {own : String} {index : Nat} {v : Int64} (hown : s.vm.findClass own = some m.cls) (w : (Jvm.Cond.constantLong own index v).before a0 Z = true) (hd : decode c.code pc = .ok (.ldc2_w index, 3)) (k : OwnEnds p e below s C S Q T m pc' Ls (.long v :: st)) (hp : pc + 3 = pc' := by rfl) : OwnEnds p e below s C S Q T m pc Ls st := by
  subst hp
  exact OwnEnds.of (X.ldc2Long hx hown (mvT hZ w) (g := mkF m pc Ls st) rfl hd) k
theorem en_iadd (X : Stand p l e R s m args below meth c T locs cells slots) (hx : p.tables.exec = Jvm.exec) {x y : Int32} (hd : decode c.code pc = .ok (.iadd, 1))  (k : OwnEnds p e below s C S Q T m pc' Ls (.int (x + y) :: st)) (hp : pc + 1 = pc' := by rfl) : OwnEnds p e below s C S Q T m pc Ls (.int y :: .int x :: st) := by
  subst hp
  exact OwnEnds.of (fun _ k => XS.iadd X.here hx (g := mkF m pc Ls (.int y :: .int x :: st)) rfl hd rfl k) k
theorem en_isub (X : Stand p l e R s m args below meth c T locs cells slots) (hx : p.tables.exec = Jvm.exec) {x y : Int32} (hd : decode c.code pc = .ok (.isub, 1))  (k : OwnEnds p e below s C S Q T m pc' Ls (.int (x - y) :: st)) (hp : pc + 1 = pc' := by rfl) : OwnEnds p e below s C S Q T m pc Ls (.int y :: .int x :: st) := by
  subst hp
  exact OwnEnds.of (fun _ k => XS.isub X.here hx (g := mkF m pc Ls (.int y :: .int x :: st)) rfl hd rfl k) k
theorem en_imul (X : Stand p l e R s m args below meth c T locs cells slots) (hx : p.tables.exec = Jvm.exec) {x y : Int32} (hd : decode c.code pc = .ok (.imul, 1))  (k : OwnEnds p e below s C S Q T m pc' Ls (.int (x * y) :: st)) (hp : pc + 1 = pc' := by rfl) : OwnEnds p e below s C S Q T m pc Ls (.int y :: .int x :: st) := by
  subst hp
  exact OwnEnds.of (fun _ k => XS.imul X.here hx (g := mkF m pc Ls (.int y :: .int x :: st)) rfl hd rfl k) k
theorem en_iand (X : Stand p l e R s m args below meth c T locs cells slots) (hx : p.tables.exec = Jvm.exec) {x y : Int32} (hd : decode c.code pc = .ok (.iand, 1))  (k : OwnEnds p e below s C S Q T m pc' Ls (.int (x &&& y) :: st)) (hp : pc + 1 = pc' := by rfl) : OwnEnds p e below s C S Q T m pc Ls (.int y :: .int x :: st) := by
  subst hp
  exact OwnEnds.of (fun _ k => XS.iand X.here hx (g := mkF m pc Ls (.int y :: .int x :: st)) rfl hd rfl k) k
theorem en_ior (X : Stand p l e R s m args below meth c T locs cells slots) (hx : p.tables.exec = Jvm.exec) {x y : Int32} (hd : decode c.code pc = .ok (.ior, 1))  (k : OwnEnds p e below s C S Q T m pc' Ls (.int (x ||| y) :: st)) (hp : pc + 1 = pc' := by rfl) : OwnEnds p e below s C S Q T m pc Ls (.int y :: .int x :: st) := by
  subst hp
  exact OwnEnds.of (fun _ k => XS.ior X.here hx (g := mkF m pc Ls (.int y :: .int x :: st)) rfl hd rfl k) k
theorem en_ixor (X : Stand p l e R s m args below meth c T locs cells slots) (hx : p.tables.exec = Jvm.exec) {x y : Int32} (hd : decode c.code pc = .ok (.ixor, 1))  (k : OwnEnds p e below s C S Q T m pc' Ls (.int (x ^^^ y) :: st)) (hp : pc + 1 = pc' := by rfl) : OwnEnds p e below s C S Q T m pc Ls (.int y :: .int x :: st) := by
  subst hp
  exact OwnEnds.of (fun _ k => XS.ixor X.here hx (g := mkF m pc Ls (.int y :: .int x :: st)) rfl hd rfl k) k
theorem en_ishl (X : Stand p l e R s m args below meth c T locs cells slots) (hx : p.tables.exec = Jvm.exec) {x y : Int32} (hd : decode c.code pc = .ok (.ishl, 1))  (k : OwnEnds p e below s C S Q T m pc' Ls (.int (x <<< (y &&& 31)) :: st)) (hp : pc + 1 = pc' := by rfl) : OwnEnds p e below s C S Q T m pc Ls (.int y :: .int x :: st) := by
  subst hp
  exact OwnEnds.of (fun _ k => XS.ishl X.here hx (g := mkF m pc Ls (.int y :: .int x :: st)) rfl hd rfl k) k
theorem en_ishr (X : Stand p l e R s m args below meth c T locs cells slots) (hx : p.tables.exec = Jvm.exec) {x y : Int32} (hd : decode c.code pc = .ok (.ishr, 1))  (k : OwnEnds p e below s C S Q T m pc' Ls (.int (x >>> (y &&& 31)) :: st)) (hp : pc + 1 = pc' := by rfl) : OwnEnds p e below s C S Q T m pc Ls (.int y :: .int x :: st) := by
  subst hp
  exact OwnEnds.of (fun _ k => XS.ishr X.here hx (g := mkF m pc Ls (.int y :: .int x :: st)) rfl hd rfl k) k
theorem en_iushr (X : Stand p l e R s m args below meth c T locs cells slots) (hx : p.tables.exec = Jvm.exec) {x y : Int32} (hd : decode c.code pc = .ok (.iushr, 1))  (k : OwnEnds p e below s C S Q T m pc' Ls (.int ((x.toUInt32 >>> (y &&& 31).toUInt32).toInt32) :: st)) (hp : pc + 1 = pc' := by rfl) : OwnEnds p e below s C S Q T m pc Ls (.int y :: .int x :: st) := by
  subst hp
  exact OwnEnds.of (fun _ k => XS.iushr X.here hx (g := mkF m pc Ls (.int y :: .int x :: st)) rfl hd rfl k) k
theorem en_ladd (X : Stand p l e R s m args below meth c T locs cells slots) (hx : p.tables.exec = Jvm.exec) {x y : Int64} (hd : decode c.code pc = .ok (.ladd, 1))  (k : OwnEnds p e below s C S Q T m pc' Ls (.long (x + y) :: st)) (hp : pc + 1 = pc' := by rfl) : OwnEnds p e below s C S Q T m pc Ls (.long y :: .long x :: st) := by
  subst hp
  exact OwnEnds.of (fun _ k => XS.ladd X.here hx (g := mkF m pc Ls (.long y :: .long x :: st)) rfl hd rfl k) k
theorem en_lsub (X : Stand p l e R s m args below meth c T locs cells slots) (hx : p.tables.exec = Jvm.exec) {x y : Int64} (hd : decode c.code pc = .ok (.lsub, 1))  (k : OwnEnds p e below s C S Q T m pc' Ls (.long (x - y) :: st)) (hp : pc + 1 = pc' := by rfl) : OwnEnds p e below s C S Q T m pc Ls (.long y :: .long x :: st) := by
  subst hp
  exact OwnEnds.of (fun _ k => XS.lsub X.here hx (g := mkF m pc Ls (.long y :: .long x :: st)) rfl hd rfl k) k
theorem en_lmul (X : Stand p l e R s m args below meth c T locs cells slots) (hx : p.tables.exec = Jvm.exec) {x y : Int64} (hd : decode c.code pc = .ok (.lmul, 1))  (k : OwnEnds p e below s C S Q T m pc' Ls (.long (x * y) :: st)) (hp : pc + 1 = pc' := by rfl) : OwnEnds p e below s C S Q T m pc Ls (.long y :: .long x :: st) := by
  subst hp
  exact OwnEnds.of (fun _ k => XS.lmul X.here hx (g := mkF m pc Ls (.long y :: .long x :: st)) rfl hd rfl k) k
theorem en_land (X : Stand p l e R s m args below meth c T locs cells slots) (hx : p.tables.exec = Jvm.exec) {x y : Int64} (hd : decode c.code pc = .ok (.land, 1))  (k : OwnEnds p e below s C S Q T m pc' Ls (.long (x &&& y) :: st)) (hp : pc + 1 = pc' := by rfl) : OwnEnds p e below s C S Q T m pc Ls (.long y :: .long x :: st) := by
  subst hp
  exact OwnEnds.of (fun _ k => XS.land X.here hx (g := mkF m pc Ls (.long y :: .long x :: st)) rfl hd rfl k) k
theorem en_lor (X : Stand p l e R s m args below meth c T locs cells slots) (hx : p.tables.exec = Jvm.exec) {x y : Int64} (hd : decode c.code pc = .ok (.lor, 1))  (k : OwnEnds p e below s C S Q T m pc' Ls (.long (x ||| y) :: st)) (hp : pc + 1 = pc' := by rfl) : OwnEnds p e below s C S Q T m pc Ls (.long y :: .long x :: st) := by
  subst hp
  exact OwnEnds.of (fun _ k => XS.lor X.here hx (g := mkF m pc Ls (.long y :: .long x :: st)) rfl hd rfl k) k
theorem en_lxor (X : Stand p l e R s m args below meth c T locs cells slots) (hx : p.tables.exec = Jvm.exec) {x y : Int64} (hd : decode c.code pc = .ok (.lxor, 1))  (k : OwnEnds p e below s C S Q T m pc' Ls (.long (x ^^^ y) :: st)) (hp : pc + 1 = pc' := by rfl) : OwnEnds p e below s C S Q T m pc Ls (.long y :: .long x :: st) := by
  subst hp
  exact OwnEnds.of (fun _ k => XS.lxor X.here hx (g := mkF m pc Ls (.long y :: .long x :: st)) rfl hd rfl k) k
theorem en_lshl (X : Stand p l e R s m args below meth c T locs cells slots) (hx : p.tables.exec = Jvm.exec) {x : Int64} {y : Int32} (hd : decode c.code pc = .ok (.lshl, 1))  (k : OwnEnds p e below s C S Q T m pc' Ls (.long (x <<< (y &&& 0x3f).toInt64) :: st)) (hp : pc + 1 = pc' := by rfl) : OwnEnds p e below s C S Q T m pc Ls (.int y :: .long x :: st) := by
  subst hp
  exact OwnEnds.of (fun _ k => XS.lshl X.here hx (g := mkF m pc Ls (.int y :: .long x :: st)) rfl hd rfl k) k
theorem en_lshr (X : Stand p l e R s m args below meth c T locs cells slots) (hx : p.tables.exec = Jvm.exec) {x : Int64} {y : Int32} (hd : decode c.code pc = .ok (.lshr, 1))  (k : OwnEnds p e below s C S Q T m pc' Ls (.long (x >>> (y &&& 0x3f).toInt64) :: st)) (hp : pc + 1 = pc' := by rfl) : OwnEnds p e below s C S Q T m pc Ls (.int y :: .long x :: st) := by
  subst hp
  exact OwnEnds.of (fun _ k => XS.lshr X.here hx (g := mkF m pc Ls (.int y :: .long x :: st)) rfl hd rfl k) k
theorem en_lushr (X : Stand p l e R s m args below meth c T locs cells slots) (hx : p.tables.exec = Jvm.exec) {x : Int64} {y : Int32} (hd : decode c.code pc = .ok (.lushr, 1))  (k : OwnEnds p e below s C S Q T m pc' Ls (.long ((x.toUInt64 >>> (y &&& 0x3f).toInt64.toUInt64).toInt64) :: st)) (hp : pc + 1 = pc' := by rfl) : OwnEnds p e below s C S Q T m pc Ls (.int y :: .long x :: st) := by
  subst hp
  exact OwnEnds.of (fun _ k => XS.lushr X.here hx (g := mkF m pc Ls (.int y :: .long x :: st)) rfl hd rfl k) k
theorem en_lcmp (X : Stand p l e R s m args below meth c T locs cells slots) (hx : p.tables.exec = Jvm.exec) {x y : Int64} (hd : decode c.code pc = .ok (.lcmp, 1))  (k : OwnEnds p e below s C S Q T m pc' Ls (.int (lcmpW x y) :: st)) (hp : pc + 1 = pc' := by rfl) : OwnEnds p e below s C S Q T m pc Ls (.long y :: .long x :: st) := by
  subst hp
  exact OwnEnds.of (fun _ k => XS.lcmp X.here hx (g := mkF m pc Ls (.long y :: .long x :: st)) rfl hd rfl k) k
theorem en_i2l (X : Stand p l e R s m args below meth c T locs cells slots) (hx : p.tables.exec = Jvm.exec) {x : Int32} (hd : decode c.code pc = .ok (.i2l, 1))  (k : OwnEnds p e below s C S Q T m pc' Ls (.long (x.toInt64) :: st)) (hp : pc + 1 = pc' := by rfl) : OwnEnds p e below s C S Q T m pc Ls (.int x :: st) := by
  subst hp
  exact OwnEnds.of (fun _ k => XS.i2l X.here hx (g := mkF m pc Ls (.int x :: st)) rfl hd rfl k) k
theorem en_l2i (X : Stand p l e R s m args below meth c T locs cells slots) (hx : p.tables.exec = Jvm.exec) {x : Int64} (hd : decode c.code pc = .ok (.l2i, 1))  (k : OwnEnds p e below s C S Q T m pc' Ls (.int (x.toInt32) :: st)) (hp : pc + 1 = pc' := by rfl) : OwnEnds p e below s C S Q T m pc Ls (.long x :: st) := by
  subst hp
  exact OwnEnds.of (fun _ k => XS.l2i X.here hx (g := mkF m pc Ls (.long x :: st)) rfl hd rfl k) k
theorem en_i2b (X : Stand p l e R s m args below meth c T locs cells slots) (hx : p.tables.exec = Jvm.exec) {x : Int32} (hd : decode c.code pc = .ok (.i2b, 1))  (k : OwnEnds p e below s C S Q T m pc' Ls (.int (x.toInt8.toInt32) :: st)) (hp : pc + 1 = pc' := by rfl) : OwnEnds p e below s C S Q T m pc Ls (.int x :: st) := by
  subst hp
  exact OwnEnds.of (fun _ k => XS.i2b X.here hx (g := mkF m pc Ls (.int x :: st)) rfl hd rfl k) k
theorem en_i2c (X : Stand p l e R s m args below meth c T locs cells slots) (hx : p.tables.exec = Jvm.exec) {x : Int32} (hd : decode c.code pc = .ok (.i2c, 1))  (k : OwnEnds p e below s C S Q T m pc' Ls (.int (x.toUInt32.toUInt16.toUInt32.toInt32) :: st)) (hp : pc + 1 = pc' := by rfl) : OwnEnds p e below s C S Q T m pc Ls (.int x :: st) := by
  subst hp
  exact OwnEnds.of (fun _ k => XS.i2c X.here hx (g := mkF m pc Ls (.int x :: st)) rfl hd rfl k) k
theorem en_i2s (X : Stand p l e R s m args below meth c T locs cells slots) (hx : p.tables.exec = Jvm.exec) {x : Int32} (hd : decode c.code pc = .ok (.i2s, 1))  (k : OwnEnds p e below s C S Q T m pc' Ls (.int (x.toInt16.toInt32) :: st)) (hp : pc + 1 = pc' := by rfl) : OwnEnds p e below s C S Q T m pc Ls (.int x :: st) := by
  subst hp
  exact OwnEnds.of (fun _ k => XS.i2s X.here hx (g := mkF m pc Ls (.int x :: st)) rfl hd rfl k) k
theorem en_ineg (X : Stand p l e R s m args below meth c T locs cells slots) (hx : p.tables.exec = Jvm.exec) {x : Int32} (hd : decode c.code pc = .ok (.ineg, 1))  (k : OwnEnds p e below s C S Q T m pc' Ls (.int (-x) :: st)) (hp : pc + 1 = pc' := by rfl) : OwnEnds p e below s C S Q T m pc Ls (.int x :: st) := by
  subst hp
  exact OwnEnds.of (fun _ k => XS.ineg X.here hx (g := mkF m pc Ls (.int x :: st)) rfl hd rfl k) k
theorem en_lneg (X : Stand p l e R s m args below meth c T locs cells slots) (hx : p.tables.exec = Jvm.exec) {x : Int64} (hd : decode c.code pc = .ok (.lneg, 1))  (k : OwnEnds p e below s C S Q T m pc' Ls (.long (-x) :: st)) (hp : pc + 1 = pc' := by rfl) : OwnEnds p e below s C S Q T m pc Ls (.long x :: st) := by
  subst hp
  exact OwnEnds.of (fun _ k => XS.lneg X.here hx (g := mkF m pc Ls (.long x :: st)) rfl hd rfl k) k
theorem en_idiv (X : Stand p l e R s m args below meth c T locs cells slots) (hx : p.tables.exec = Jvm.exec) {x y : Int32} (hd : decode c.code pc = .ok (.idiv, 1)) (hy : y ≠ 0) (k : OwnEnds p e below s C S Q T m pc' Ls (.int (x / y) :: st)) (hp : pc + 1 = pc' := by rfl) : OwnEnds p e below s C S Q T m pc Ls (.int y :: .int x :: st) := by
  subst hp
  exact OwnEnds.of (fun _ k => XS.idiv X.here hx (g := mkF m pc Ls (.int y :: .int x :: st)) rfl hd rfl hy k) k
theorem en_irem (X : Stand p l e R s m args below meth c T locs cells slots) (hx : p.tables.exec = Jvm.exec) {x y : Int32} (hd : decode c.code pc = .ok (.irem, 1)) (hy : y ≠ 0) (k : OwnEnds p e below s C S Q T m pc' Ls (.int (x % y) :: st)) (hp : pc + 1 = pc' := by rfl) : OwnEnds p e below s C S Q T m pc Ls (.int y :: .int x :: st) := by
  subst hp
  exact OwnEnds.of (fun _ k => iremM (g := mkF m pc Ls (.int y :: .int x :: st)) X hx rfl hd rfl hy k) k
theorem en_lrem (X : Stand p l e R s m args below meth c T locs cells slots) (hx : p.tables.exec = Jvm.exec) {x y : Int64} (hd : decode c.code pc = .ok (.lrem, 1)) (hy : y ≠ 0) (k : OwnEnds p e below s C S Q T m pc' Ls (.long (x % y) :: st)) (hp : pc + 1 = pc' := by rfl) : OwnEnds p e below s C S Q T m pc Ls (.long y :: .long x :: st) := by
  subst hp
  rw [← lrem_mod x y] at k
  exact OwnEnds.of (fun _ k => XS.lrem X.here hx (g := mkF m pc Ls (.long y :: .long x :: st)) rfl hd rfl hy k) k
theorem en_dup (X : Stand p l e R s m args below meth c T locs cells slots) (hx : p.tables.exec = Jvm.exec) {v : Value} (hd : decode c.code pc = .ok (.dup, 1)) (hc : v.category = 1) (k : OwnEnds p e below s C S Q T m pc' Ls (v :: v :: st)) (hp : pc + 1 = pc' := by rfl) : OwnEnds p e below s C S Q T m pc Ls (v :: st) := by
  subst hp
  exact OwnEnds.of (fun _ k => XS.dup X.here hx (g := mkF m pc Ls (v :: st)) rfl hd rfl hc k) k
theorem en_pop (X : Stand p l e R s m args below meth c T locs cells slots) (hx : p.tables.exec = Jvm.exec) {v : Value} (hd : decode c.code pc = .ok (.pop, 1)) (hc : v.category = 1) (k : OwnEnds p e below s C S Q T m pc' Ls st) (hp : pc + 1 = pc' := by rfl) : OwnEnds p e below s C S Q T m pc Ls (v :: st) := by
  subst hp
  exact OwnEnds.of (fun _ k => XS.pop X.here hx (g := mkF m pc Ls (v :: st)) rfl hd rfl hc k) k
theorem en_dupX1 (X : Stand p l e R s m args below meth c T locs cells slots) (hx : p.tables.exec = Jvm.exec) {v w : Value} (hd : decode c.code pc = .ok (.dup_x1, 1)) (hc : v.category = 1) (hc2 : w.category = 1) (k : OwnEnds p e below s C S Q T m pc' Ls (v :: w :: v :: st)) (hp : pc + 1 = pc' := by rfl) : OwnEnds p e below s C S Q T m pc Ls (v :: w :: st) := by
  subst hp
  exact OwnEnds.of (fun _ k => XS.dupX1 X.here hx (g := mkF m pc Ls (v :: w :: st)) rfl hd rfl hc hc2 k) k
theorem en_iinc (X : Stand p l e R s m args below meth c T locs cells slots) (hx : p.tables.exec = Jvm.exec) {k : Nat} {q : Int} {x : Int32} (hd : decode c.code pc = .ok (.iinc k q, 3)) (hl : Ls[k]? = some (.val (.int x))) (hl' : storeLocals Ls k (.int (x + Int32.ofInt q)) = some Ls') (k : OwnEnds p e below s C S Q T m pc' Ls' st) (hp : pc + 3 = pc' := by rfl) : OwnEnds p e below s C S Q T m pc Ls st := by
  subst hp
  exact OwnEnds.of (fun _ k => XS.iinc X.here hx (g := mkF m pc Ls st) rfl hd hl hl' k) k
theorem en_goto (X : Stand p l e R s m args below meth c T locs cells slots) (hx : p.tables.exec = Jvm.exec) {o : Int} (hd : decode c.code pc = .ok (.goto o, 3)) (k : OwnEnds p e below s C S Q T m pc' Ls st) (ho : 0 ≤ (pc : Int) + o := by decide) (hp : ((pc : Int) + o).toNat = pc' := by decide) : OwnEnds p e below s C S Q T m pc Ls st := by
  exact OwnEnds.of (fun _ k => XS.goto X.here hx (g := mkF m pc Ls st) rfl rfl hd ho hp k) k
theorem en_ifYes (X : Stand p l e R s m args below meth c T locs cells slots) (hx : p.tables.exec = Jvm.exec) {cd : ClassFile.Cond} {o : Int} {x : Int32} (hd : decode c.code pc = .ok (.ifCond cd o, 3)) (hc : ifCond.holds cd x = true) (k : OwnEnds p e below s C S Q T m pc' Ls st) (ho : 0 ≤ (pc : Int) + o := by decide) (hp : ((pc : Int) + o).toNat = pc' := by decide) : OwnEnds p e below s C S Q T m pc Ls (.int x :: st) := by
  exact OwnEnds.of (fun _ k => XS.ifYes X.here hx (g := mkF m pc Ls (.int x :: st)) rfl rfl hd rfl hc ho hp k) k
theorem en_ifNo (X : Stand p l e R s m args below meth c T locs cells slots) (hx : p.tables.exec = Jvm.exec) {cd : ClassFile.Cond} {o : Int} {x : Int32} (hd : decode c.code pc = .ok (.ifCond cd o, 3)) (hc : ifCond.holds cd x = false) (k : OwnEnds p e below s C S Q T m pc' Ls st) (hp : pc + 3 = pc' := by rfl) : OwnEnds p e below s C S Q T m pc Ls (.int x :: st) := by
  subst hp
  exact OwnEnds.of (fun _ k => XS.ifNo X.here hx (g := mkF m pc Ls (.int x :: st)) rfl hd rfl hc k) k
theorem en_icmpYes (X : Stand p l e R s m args below meth c T locs cells slots) (hx : p.tables.exec = Jvm.exec) {cd : ClassFile.Cond} {o : Int} {x y : Int32} (hd : decode c.code pc = .ok (.if_icmp cd o, 3)) (hc : if_icmp.holds cd x y = true) (k : OwnEnds p e below s C S Q T m pc' Ls st) (ho : 0 ≤ (pc : Int) + o := by decide) (hp : ((pc : Int) + o).toNat = pc' := by decide) : OwnEnds p e below s C S Q T m pc Ls (.int y :: .int x :: st) := by
  exact OwnEnds.of (fun _ k => XS.icmpYes X.here hx (g := mkF m pc Ls (.int y :: .int x :: st)) rfl rfl hd rfl hc ho hp k) k
theorem en_icmpNo (X : Stand p l e R s m args below meth c T locs cells slots) (hx : p.tables.exec = Jvm.exec) {cd : ClassFile.Cond} {o : Int} {x y : Int32} (hd : decode c.code pc = .ok (.if_icmp cd o, 3)) (hc : if_icmp.holds cd x y = false) (k : OwnEnds p e below s C S Q T m pc' Ls st) (hp : pc + 3 = pc' := by rfl) : OwnEnds p e below s C S Q T m pc Ls (.int y :: .int x :: st) := by
  subst hp
  exact OwnEnds.of (fun _ k => XS.icmpNo X.here hx (g := mkF m pc Ls (.int y :: .int x :: st)) rfl hd rfl hc k) k
theorem wlt {x y : Int64} (h : x < y) : ifCond.holds .lt (lcmpW x y) = true ∧ ifCond.holds .ge (lcmpW x y) = false := by
  have q := (lw_lt x y).mpr h
  exact ⟨(if0 _ _).trans (tlt q).1, (if0 _ _).trans (tlt q).2.1⟩
theorem nwlt {x y : Int64} (h : ¬ x < y) : ifCond.holds .lt (lcmpW x y) = false ∧ ifCond.holds .ge (lcmpW x y) = true := by
  have q : ¬ lcmpW x y < 0 := fun z => h ((lw_lt x y).mp z)
  exact ⟨(if0 _ _).trans (flt q).1, (if0 _ _).trans (flt q).2.1⟩
theorem wgt {x y : Int64} (h : y < x) : ifCond.holds .gt (lcmpW x y) = true ∧ ifCond.holds .le (lcmpW x y) = false := by
  have q := (lw_gt x y).mpr h
  exact ⟨(if0 _ _).trans (tlt q).2.2.1, (if0 _ _).trans (tlt q).2.2.2⟩
theorem nwgt {x y : Int64} (h : ¬ y < x) : ifCond.holds .gt (lcmpW x y) = false ∧ ifCond.holds .le (lcmpW x y) = true := by
  have q : ¬ 0 < lcmpW x y := fun z => h ((lw_gt x y).mp z)
  exact ⟨(if0 _ _).trans (flt q).2.2.1, (if0 _ _).trans (flt q).2.2.2⟩
theorem weq {x y : Int64} (h : x = y) : ifCond.holds .eq (lcmpW x y) = true ∧ ifCond.holds .ne (lcmpW x y) = false := by
  have q := (lw_eq x y).mpr h
  exact ⟨(if0 _ _).trans (teq q).1, (if0 _ _).trans (teq q).2⟩
theorem nweq {x y : Int64} (h : ¬ x = y) : ifCond.holds .eq (lcmpW x y) = false ∧ ifCond.holds .ne (lcmpW x y) = true := by
  have q : ¬ lcmpW x y = 0 := fun z => h ((lw_eq x y).mp z)
  exact ⟨(if0 _ _).trans (feq q).1, (if0 _ _).trans (feq q).2⟩
theorem en_ret {t : FieldType} {w : Value} {i : Instr} (X : Stand p l e R s m args below meth c T locs cells slots) (hx : p.tables.exec = Jvm.exec) (hret : meth.sig.returnType = some t) (hlk : meth.locks = false) (hd : decode c.code pc = .ok (i, 1)) (hn : narrow t w = w)
    (hi : (i = .ireturn ∧ (t = .int ∨ t = .boolean ∨ t = .byte ∨ t = .char ∨ t = .short) ∧ ∃ z, w = .int z) ∨ (i = .lreturn ∧ t = .long ∧ ∃ z, w = .long z) ∨ (i = .dreturn ∧ t = .double ∧ ∃ z, w = .double z) ∨ (i = .freturn ∧ t = .float ∧ ∃ z, w = .float z) ∨ (i = .areturn ∧ t.isReference = true ∧ w.isRef = true))
    (hc : cells ≤ C) (hs : slots ≤ S) (hq : Q (some w) T.heap locs) : OwnEnds p e below s C S Q T m pc Ls (w :: st) := by
  obtain ⟨fs, hr, hrun, hended, hW, hsame⟩ := X.leave (v := some w) (fun q => by rw [hret] at q; cases q) hlk
  exact ⟨_, _, retOut X hx hret hn hi hd hr, hrun, hended, _, _, rfl, hq, ⟨_, rfl⟩, hW, hsame.mono hc hs⟩
theorem en_retI {z : Int32} (X : Stand p l e R s m args below meth c T locs cells slots) (hx : p.tables.exec = Jvm.exec) (hret : meth.sig.returnType = some .int) (hlk : meth.locks = false) (hd : decode c.code pc = .ok (.ireturn, 1)) (hc : cells ≤ C) (hs : slots ≤ S) (hq : Q (some (.int z)) T.heap locs) : OwnEnds p e below s C S Q T m pc Ls (.int z :: st) :=
  en_ret X hx hret hlk hd rfl (Or.inl ⟨rfl, Or.inl rfl, _, rfl⟩) hc hs hq
theorem en_retZ {z : Int32} (X : Stand p l e R s m args below meth c T locs cells slots) (hx : p.tables.exec = Jvm.exec) (hret : meth.sig.returnType = some .boolean) (hlk : meth.locks = false) (hd : decode c.code pc = .ok (.ireturn, 1)) (hn : narrow .boolean (.int z) = .int z) (hc : cells ≤ C) (hs : slots ≤ S) (hq : Q (some (.int z)) T.heap locs) : OwnEnds p e below s C S Q T m pc Ls (.int z :: st) :=
  en_ret X hx hret hlk hd hn (Or.inl ⟨rfl, Or.inr (Or.inl rfl), _, rfl⟩) hc hs hq
theorem en_retL {z : Int64} (X : Stand p l e R s m args below meth c T locs cells slots) (hx : p.tables.exec = Jvm.exec) (hret : meth.sig.returnType = some .long) (hlk : meth.locks = false) (hd : decode c.code pc = .ok (.lreturn, 1)) (hc : cells ≤ C) (hs : slots ≤ S) (hq : Q (some (.long z)) T.heap locs) : OwnEnds p e below s C S Q T m pc Ls (.long z :: st) :=
  en_ret X hx hret hlk hd rfl (Or.inr (Or.inl ⟨rfl, rfl, _, rfl⟩)) hc hs hq
theorem en_retA {a : Addr} {t : FieldType} (X : Stand p l e R s m args below meth c T locs cells slots) (hx : p.tables.exec = Jvm.exec) (hret : meth.sig.returnType = some t) (ht : t.isReference = true) (hn : narrow t (.ref a) = .ref a) (hlk : meth.locks = false) (hd : decode c.code pc = .ok (.areturn, 1)) (hc : cells ≤ C) (hs : slots ≤ S) (hq : Q (some (.ref a)) T.heap locs) : OwnEnds p e below s C S Q T m pc Ls (.ref a :: st) :=
  en_ret X hx hret hlk hd hn (Or.inr (Or.inr (Or.inr (Or.inr ⟨rfl, ht, rfl⟩)))) hc hs hq
theorem en_ret0 (X : Stand p l e R s m args below meth c T locs cells slots) (hx : p.tables.exec = Jvm.exec) (hret : meth.sig.returnType = none) (hlk : meth.locks = false) (hd : decode c.code pc = .ok (.return_, 1)) (hc : cells ≤ C) (hs : slots ≤ S) (hq : Q none T.heap locs) : OwnEnds p e below s C S Q T m pc Ls [] := by
  obtain ⟨fs, hr, hrun, hended, hW, hsame⟩ := X.leave (v := none) (fun _ => rfl) hlk
  exact ⟨_, _, X.returnOut hx hret hd hr, hrun, hended, _, _, rfl, hq, ⟨_, rfl⟩, hW, hsame.mono hc hs⟩
theorem en_getF (X : Stand p l e R s m args below meth c T locs cells slots) (hx : p.tables.exec = Jvm.exec) (hZ : Z.Warmed39 s.vm) {own R0 O n d host : String} {index : Nat} (hown : s.vm.findClass own = some m.cls) (w : (Jvm.Cond.fieldLink own index R0 n d).before a0 Z = true ∨ (Jvm.Cond.fieldLinkNest own index R0 n d host).before a0 Z = true) (via : Via Z R0 O n d) (eT : T.heap = h) {a : Addr} {v : Value} (F : Fld Z h a O n d v) (hd : decode c.code pc = .ok (.getfield index, 3)) (k : ∀ T', Stand p l e R s m args below meth c T' locs cells slots → T'.heap = h → OwnEnds p e below s C S Q T' m pc' Ls (v :: st)) (hp : pc + 3 = pc' := by rfl) : OwnEnds p e below s C S Q T m pc Ls (.ref a :: st) := by
  subst hp
  obtain ⟨T', X', e', st'⟩ := getF X hx hZ hown w via eT F (g := mkF m pc Ls (.ref a :: st)) rfl rfl hd
  exact OwnEnds.of st' (k T' X' e')
theorem en_getS (X : Stand p l e R s m args below meth c T locs cells slots) (hx : p.tables.exec = Jvm.exec) (hZ : Z.Warmed39 s.vm) {own R0 O n d host : String} {index : Nat} (hown : s.vm.findClass own = some m.cls) (w : (Jvm.Cond.fieldLink own index R0 n d).before a0 Z = true ∨ (Jvm.Cond.fieldLinkNest own index R0 n d host).before a0 Z = true) (via : Via Z R0 O n d) (eT : T.heap = h) {v : Value} (F : Sta Z h O n d v) (hd : decode c.code pc = .ok (.getstatic index, 3)) (k : ∀ T', Stand p l e R s m args below meth c T' locs cells slots → T'.heap = h → OwnEnds p e below s C S Q T' m pc' Ls (v :: st)) (hp : pc + 3 = pc' := by rfl) : OwnEnds p e below s C S Q T m pc Ls st := by
  subst hp
  obtain ⟨T', X', e', st'⟩ := getS2 X hx hZ hown w via eT F (g := mkF m pc Ls st) rfl hd
  exact OwnEnds.of st' (k T' X' e')
theorem en_putF (X : Stand p l e R s m args below meth c T locs cells slots) (hx : p.tables.exec = Jvm.exec) (hZ : Z.Warmed39 s.vm) {own R0 O n d host K : String} {index kk : Nat} {ty : FieldType} (hown : s.vm.findClass own = some m.cls) (w : (Jvm.Cond.fieldLink own index R0 n d).before a0 Z = true ∨ (Jvm.Cond.fieldLinkNest own index R0 n d host).before a0 Z = true) (via : Via Z R0 O n d) (eT : T.heap = h) {a : Addr} {v old : Value} (F : Fld Z h a O n d old) (E : Exa Z h a K) (L : (Jvm.Cond.lays K O n d).before a0 Z = true ∨ ((Jvm.Cond.laysFinal K O n d).before a0 Z = true ∧ own = O ∧ meth.name = "<init>")) (wi : (Jvm.Cond.instantiable K kk).before a0 Z = true) (hty : parseFieldDescriptor d = some ty) (hn : narrow ty v = v) (hf : fits ty v = true) (hd : decode c.code pc = .ok (.putfield index, 3))
    (k : ∀ T' h', Stand p l e R s m args below meth c T' (locs ++ [⟨a, Jvm.RoadKit.slotOf Z O n d⟩]) cells slots → T'.heap = h' → Wr h h' a (Jvm.RoadKit.slotOf Z O n d) v → OwnEnds p e below s C S Q T' m pc' Ls st) (hp : pc + 3 = pc' := by rfl) : OwnEnds p e below s C S Q T m pc Ls (v :: .ref a :: st) := by
  subst hp
  obtain ⟨T', h', X', e', W', st'⟩ := putF X hx hZ hown w via eT F E L wi hty hn hf (g := mkF m pc Ls (v :: .ref a :: st)) rfl rfl hd
  exact OwnEnds.of st' (k T' h' X' e' W')
theorem en_newO (X : Stand p l e R s m args below meth c T locs cells slots) (hx : p.tables.exec = Jvm.exec) (hZ : Z.Warmed39 s.vm) {own K : String} {index n : Nat} (hown : s.vm.findClass own = some m.cls) (w : (Jvm.Cond.classLink own index K).before a0 Z = true) (wi : (Jvm.Cond.instantiable K n).before a0 Z = true) (wz : (Jvm.Cond.initialized K).before a0 Z = true) (eT : T.heap = h) (hd : decode c.code pc = .ok (.new index, 3)) (hc : cells + 1 ≤ R.cells) (hl : slots + n ≤ R.slots)
    (k : ∀ T' h' a, a = h.size → Stand p l e R s m args below meth c T' locs (cells + 1) (slots + n) → T'.heap = h' → Ext h h' → Exa Z h' a K → (∀ {O nm d : String} {ty : FieldType}, Laid Z a0 K O nm d → parseFieldDescriptor d = some ty → Fld Z h' a O nm d (defaultValue ty)) → OwnEnds p e below s C S Q T' m pc' Ls (.ref a :: st)) (hp : pc + 3 = pc' := by rfl) : OwnEnds p e below s C S Q T m pc Ls st := by
  subst hp
  obtain ⟨T', h', X', e', E', A', D', -, st'⟩ := newO X hx hZ hown w wi wz eT (g := mkF m pc Ls st) rfl hd hc hl
  exact OwnEnds.of st' (k T' h' _ rfl X' e' E' A' D')
theorem en_newP (X : Stand p l e R s m args below meth c T locs cells slots) (hx : p.tables.exec = Jvm.exec) (hZ : Z.Warmed39 s.vm) {aty : ArrayType} (w : (Jvm.Cond.arrayClass (newarray.typeOf aty)).before a0 Z = true) (eT : T.heap = h) (hd : decode c.code pc = .ok (.newarray aty, 2)) {n : Int32} (hn : ¬ n < 0) (cap : Nat) (hcap : n.toNatClampNeg ≤ cap) (hb : cap * 8 ≤ 536870912) (hc : cells + 1 ≤ R.cells) (hl : slots + cap ≤ R.slots)
    (k : ∀ T' h' a kA, a = h.size → Stand p l e R s m args below meth c T' locs (cells + 1) (slots + cap) → T'.heap = h' → Ext h h' → Arv Z h' a kA (newarray.typeOf aty) n [] (defaultValue (newarray.typeOf aty)) → OwnEnds p e below s C S Q T' m pc' Ls (.ref a :: st)) (hp : pc + 2 = pc' := by rfl) : OwnEnds p e below s C S Q T m pc Ls (.int n :: st) := by
  subst hp
  obtain ⟨T', h', kA, X', e', E', A', st'⟩ := newP X hx hZ w eT (g := mkF m pc Ls (.int n :: st)) rfl hd rfl hn hcap hb hc hl
  exact OwnEnds.of st' (k T' h' _ kA rfl X' e' E' (Arv.new A' hn))
theorem en_initO (X : Stand p l e R s m args below meth c T locs cells slots) (hx : p.tables.exec = Jvm.exec) (hZ : Z.Warmed39 s.vm) {own : String} {idx : Nat} (hown : s.vm.findClass own = some m.cls) (w1 : (Jvm.Cond.methodLink own idx Lib.objectInit).before a0 Z = true) (w2 : (Jvm.Cond.instanceMethod Lib.objectInit).before a0 Z = true) (w3 : (Jvm.Cond.code Lib.objectInit Lib.objCode 1 none).before a0 Z = true) (eT : T.heap = h) (hsize : Ls.size = c.maxLocals) {a : Addr} (hd : decode c.code pc = .ok (.invokespecial idx, 3)) (hf : 1 ≤ R.frames) (W : Nat) (hW : (st.map fun v => v.category).sum = W) (hl : W + 12 ≤ R.locals) (k : ∀ T', Stand p l e R s m args below meth c T' locs cells slots → T'.heap = h → OwnEnds p e below s C S Q T' m pc' Ls st) (hp : pc + 3 = pc' := by rfl) : OwnEnds p e below s C S Q T m pc Ls (.ref a :: st) := by
  subst hp
  obtain ⟨T', X', e', st'⟩ := initO X hx hZ hown w1 w2 w3 eT (g := mkF m pc Ls (.ref a :: st)) rfl hsize rfl hd hf (W := W) (by show 2 * 0 + _ ≤ _; rw [hW]; omega) hl
  exact OwnEnds.of st' (k T' X' e')
theorem en_iaload (X : Stand p l e R s m args below meth c T locs cells slots) (hx : p.tables.exec = Jvm.exec) (hZ : Z.Warmed39 s.vm) (eT : T.heap = h) {a : Addr} {kA : ClassId} {n j : Int32} {vs : List Value} {dv : Value} (V : Arv Z h a kA .int n vs dv) (hj : ¬ j < 0 ∧ j < n) {x : Int32} (hv : vs.getD j.toNatClampNeg dv = .int x) (hd : decode c.code pc = .ok (.iaload, 1)) (k : OwnEnds p e below s C S Q T m pc' Ls (.int x :: st)) (hp : pc + 1 = pc' := by rfl) : OwnEnds p e below s C S Q T m pc Ls (.int j :: .ref a :: st) := by
  subst hp
  obtain ⟨cl, Ar, -, Sz, -, Hs, -⟩ := V
  have hin := inb_of Sz hj
  exact OwnEnds.of (X.iaload hx (by rw [eT]; exact Ar.1) (State.isArrayOf_alike hZ.alike Ar.2.1) Ar.2.2 hin (Hs.at hin hv) (g := mkF m pc Ls (.int j :: .ref a :: st)) rfl rfl hd) k
theorem en_laload (X : Stand p l e R s m args below meth c T locs cells slots) (hx : p.tables.exec = Jvm.exec) (hZ : Z.Warmed39 s.vm) (eT : T.heap = h) {a : Addr} {kA : ClassId} {n j : Int32} {vs : List Value} {dv : Value} (V : Arv Z h a kA .long n vs dv) (hj : ¬ j < 0 ∧ j < n) {x : Int64} (hv : vs.getD j.toNatClampNeg dv = .long x) (hd : decode c.code pc = .ok (.laload, 1)) (k : OwnEnds p e below s C S Q T m pc' Ls (.long x :: st)) (hp : pc + 1 = pc' := by rfl) : OwnEnds p e below s C S Q T m pc Ls (.int j :: .ref a :: st) := by
  subst hp
  obtain ⟨cl, Ar, -, Sz, -, Hs, -⟩ := V
  have hin := inb_of Sz hj
  exact OwnEnds.of (X.laload hx (by rw [eT]; exact Ar.1) (State.isArrayOf_alike hZ.alike Ar.2.1) Ar.2.2 hin (Hs.at hin hv) (g := mkF m pc Ls (.int j :: .ref a :: st)) rfl rfl hd) k
theorem en_len (X : Stand p l e R s m args below meth c T locs cells slots) (hx : p.tables.exec = Jvm.exec) (hZ : Z.Warmed39 s.vm) (eT : T.heap = h) {a : Addr} {kA : ClassId} {ty : FieldType} {n : Int32} {vs : List Value} {dv : Value} (V : Arv Z h a kA ty n vs dv) (hd : decode c.code pc = .ok (.arraylength, 1)) (k : OwnEnds p e below s C S Q T m pc' Ls (.int n :: st)) (hp : pc + 1 = pc' := by rfl) : OwnEnds p e below s C S Q T m pc Ls (.ref a :: st) := by
  subst hp
  obtain ⟨cl, Ar, -, Sz, Nn, -⟩ := V
  rw [← len_of Sz Nn] at k
  exact OwnEnds.of (X.arraylength hx (by rw [eT]; exact Ar.1) (State.isArrayOf_alike hZ.alike Ar.2.1) (g := mkF m pc Ls (.ref a :: st)) rfl rfl hd) k
theorem en_iastore (X : Stand p l e R s m args below meth c T locs cells slots) (hx : p.tables.exec = Jvm.exec) (hZ : Z.Warmed39 s.vm) (eT : T.heap = h) {a : Addr} {kA : ClassId} {n j : Int32} {x : Int32} {vs : List Value} {dv : Value} (V : Arv Z h a kA .int n vs dv) (hj : ¬ j < 0 ∧ j < n) (i : Nat) (hi : j.toNatClampNeg = i) (hil : i < vs.length) (hd : decode c.code pc = .ok (.iastore, 1))
    (k : ∀ T' h', Stand p l e R s m args below meth c T' (locs ++ [⟨a, j.toNatClampNeg⟩]) cells slots → T'.heap = h' → Wr h h' a j.toNatClampNeg (.int x) → Arv Z h' a kA .int n (vs.set i (.int x)) dv → OwnEnds p e below s C S Q T' m pc' Ls st) (hp : pc + 1 = pc' := by rfl) : OwnEnds p e below s C S Q T m pc Ls (.int x :: .int j :: .ref a :: st) := by
  subst hp
  obtain ⟨cl, Ar, q1, Sz, Nn, Hs, G⟩ := V
  have hin := inb_of Sz hj
  obtain ⟨T', h', X', e', W', st'⟩ := stI X hx hZ eT Ar hin (g := mkF m pc Ls (.int x :: .int j :: .ref a :: st)) rfl rfl hd
  exact OwnEnds.of st' (k T' h' X' e' W' (Arv.set Ar q1 Sz Nn Hs G rfl W' i hi hil))
theorem en_lastore (X : Stand p l e R s m args below meth c T locs cells slots) (hx : p.tables.exec = Jvm.exec) (hZ : Z.Warmed39 s.vm) (eT : T.heap = h) {a : Addr} {kA : ClassId} {n j : Int32} {x : Int64} {vs : List Value} {dv : Value} (V : Arv Z h a kA .long n vs dv) (hj : ¬ j < 0 ∧ j < n) (i : Nat) (hi : j.toNatClampNeg = i) (hil : i < vs.length) (hd : decode c.code pc = .ok (.lastore, 1))
    (k : ∀ T' h', Stand p l e R s m args below meth c T' (locs ++ [⟨a, j.toNatClampNeg⟩]) cells slots → T'.heap = h' → Wr h h' a j.toNatClampNeg (.long x) → Arv Z h' a kA .long n (vs.set i (.long x)) dv → OwnEnds p e below s C S Q T' m pc' Ls st) (hp : pc + 1 = pc' := by rfl) : OwnEnds p e below s C S Q T m pc Ls (.long x :: .int j :: .ref a :: st) := by
  subst hp
  obtain ⟨cl, Ar, q1, Sz, Nn, Hs, G⟩ := V
  have hin := inb_of Sz hj
  obtain ⟨T', h', X', e', W', st'⟩ := stJ X hx hZ eT Ar hin (g := mkF m pc Ls (.long x :: .int j :: .ref a :: st)) rfl rfl hd
  exact OwnEnds.of st' (k T' h' X' e' W' (Arv.set Ar q1 Sz Nn Hs G rfl W' i hi hil))
theorem en_callS (X : Stand p l e R s m args below meth c T locs cells slots) (hx : p.tables.exec = Jvm.exec) (hZ : Z.Warmed39 s.vm) {y : MethodName} {bytes : ByteArray} {maxL : Nat} {ret : Option FieldType} {rm : Room} {Qc : Option Value → Heap → List Loc → Prop} {argsL : List Value}  {own : String} {index : Nat} (hown : s.vm.findClass own = some m.cls) (w1 : (Jvm.Cond.methodLink own index y).before a0 Z = true) (w2 : (Jvm.Cond.static y).before a0 Z = true) (wz : (Jvm.Cond.initialized y.cls).before a0 Z = true) (wc : (Jvm.Cond.code y bytes maxL ret).before a0 Z = true) (hy : y.cls ≠ "java/lang/invoke/MethodHandle" ∧ y.cls ≠ "java/lang/invoke/VarHandle") (hM : OwnMeets l Z y bytes maxL ret [] rm argsL.toArray h Qc) (eT : T.heap = h) (hf : rm.frames + 1 ≤ R.frames) (W : Nat) (hW : (rest.map fun v => v.category).sum = W) (hl : W + (maxL + 11) + rm.locals ≤ R.locals) (hcl : cells + rm.cells ≤ R.cells) (hsl : slots + rm.slots ≤ R.slots) (hsz : Ls.size = c.maxLocals) (hlen : ∀ sig, parseMethodDescriptor y.desc = some sig → argsL.length = sig.parameters.length) (hst : st = argsL.reverse ++ rest) (hd : decode c.code pc = .ok (.invokestatic index, 3)) (k : ∀ v T' L, Stand p l e R s m args below meth c T' (locs ++ L) (cells + rm.cells) (slots + rm.slots) → Qc v T'.heap L → OwnEnds p e below s C S Q T' m pc' Ls (v.toList ++ rest)) (hp : pc + 3 = pc' := by rfl) : OwnEnds p e below s C S Q T m pc Ls st := by
  subst hp hst
  obtain ⟨v, vm', ⟨T', L', k', n'⟩, -, X', ⟨Lc, hQ, l1, l2, l3⟩, st'⟩ := Jvm.LawKit.callS X hx (y := y) hown (mvT hZ w1) (mvT hZ w2) (mvT hZ wz) (mvT hZ wc) hy (backOf (W := W) hM hZ wc wz hf hl)  (g := mkF m pc Ls (argsL.reverse ++ rest)) rfl hsz  (argsL := argsL) (rest := rest) hlen rfl (by show 2 * 0 + _ ≤ _; rw [hW]; omega) hd (fun _ _ => ⟨rfl, eT, hcl, hsl⟩)
  dsimp only [Pt.U, Pt.locs, Pt.cells, Pt.slots] at X' l1 l2 l3 st' hQ
  subst l1 l2 l3
  exact OwnEnds.of st' (k v T' Lc X' hQ)
theorem en_callN (X : Stand p l e R s m args below meth c T locs cells slots) (hx : p.tables.exec = Jvm.exec) (hZ : Z.Warmed39 s.vm) {y : MethodName} {bytes : ByteArray} {maxL : Nat} {rm : Room} {Qc : Option Value → Heap → List Loc → Prop} {argsL : List Value} {a : Addr}  {own : String} {index : Nat} (hown : s.vm.findClass own = some m.cls) (hin : y.name = "<init>") (w1 : (Jvm.Cond.methodLink own index y).before a0 Z = true) (w2 : (Jvm.Cond.instanceMethod y).before a0 Z = true) (wz : (Jvm.Cond.initialized y.cls).before a0 Z = true) (wc : (Jvm.Cond.code y bytes maxL none).before a0 Z = true) (hy : y.cls ≠ "java/lang/invoke/MethodHandle" ∧ y.cls ≠ "java/lang/invoke/VarHandle") (hM : OwnMeets l Z y bytes maxL none [] rm (.ref a :: argsL).toArray h Qc) (eT : T.heap = h) (hf : rm.frames + 1 ≤ R.frames) (W : Nat) (hW : (rest.map fun v => v.category).sum = W) (hl : W + (maxL + 11) + rm.locals ≤ R.locals) (hcl : cells + rm.cells ≤ R.cells) (hsl : slots + rm.slots ≤ R.slots) (hsz : Ls.size = c.maxLocals) (hlen : ∀ sig, parseMethodDescriptor y.desc = some sig → argsL.length = sig.parameters.length) (hst : st = argsL.reverse ++ .ref a :: rest) (hd : decode c.code pc = .ok (.invokespecial index, 3)) (k : ∀ v T' L, Stand p l e R s m args below meth c T' (locs ++ L) (cells + rm.cells) (slots + rm.slots) → Qc v T'.heap L → OwnEnds p e below s C S Q T' m pc' Ls (v.toList ++ rest)) (hp : pc + 3 = pc' := by rfl) : OwnEnds p e below s C S Q T m pc Ls st := by
  subst hp hst
  obtain ⟨v, vm', ⟨T', L', k', n'⟩, -, X', ⟨Lc, hQ, l1, l2, l3⟩, st'⟩ := X.specialBack hx (y := y) hin hown (mvT hZ w1) (mvT hZ w2) (mvT hZ wc) hy (backOf (W := W) hM hZ wc wz hf hl)  (g := mkF m pc Ls (argsL.reverse ++ .ref a :: rest)) rfl hsz (Steps.refl _) (a := a) (argsL := argsL) (rest := rest) hlen rfl (by show 2 * 0 + _ ≤ _; rw [hW]; omega) hd (fun _ _ => ⟨rfl, eT, hcl, hsl⟩)
  dsimp only [Pt.U, Pt.locs, Pt.cells, Pt.slots] at X' l1 l2 l3 st' hQ
  subst l1 l2 l3
  exact OwnEnds.of (fun _ k => st'.trans k) (k v T' Lc X' hQ)
theorem en_callV (X : Stand p l e R s m args below meth c T locs cells slots) (hx : p.tables.exec = Jvm.exec) (hZ : Z.Warmed39 s.vm) {y : MethodName} {bytes : ByteArray} {maxL : Nat} {ret : Option FieldType} {rm : Room} {Qc : Option Value → Heap → List Loc → Prop} {argsL : List Value} {a : Addr} {z : MethodName} {K : String} {own : String} {index : Nat} (hown : s.vm.findClass own = some m.cls) (w1 : (Jvm.Cond.methodLink own index y).before a0 Z = true) (w2 : (Jvm.Cond.declares y).before a0 Z = true) (nf : NotFace s y) (w3 : (Jvm.Cond.selects K y z).before a0 Z = true) (w4 : (Jvm.Cond.instanceMethod z).before a0 Z = true) (wz : (Jvm.Cond.initialized z.cls).before a0 Z = true) (wc : (Jvm.Cond.code z bytes maxL ret).before a0 Z = true) (Ex : Exa Z h a K) (hy : y.cls ≠ "java/lang/invoke/MethodHandle" ∧ y.cls ≠ "java/lang/invoke/VarHandle") (hM : OwnMeets l Z z bytes maxL ret [] rm (.ref a :: argsL).toArray h Qc) (eT : T.heap = h) (hf : rm.frames + 1 ≤ R.frames) (W : Nat) (hW : (rest.map fun v => v.category).sum = W) (hl : W + (maxL + 11) + rm.locals ≤ R.locals) (hcl : cells + rm.cells ≤ R.cells) (hsl : slots + rm.slots ≤ R.slots) (hsz : Ls.size = c.maxLocals) (hlen : ∀ sig, parseMethodDescriptor y.desc = some sig → argsL.length = sig.parameters.length) (hst : st = argsL.reverse ++ .ref a :: rest) (hd : decode c.code pc = .ok (.invokevirtual index, 3)) (k : ∀ v T' L, Stand p l e R s m args below meth c T' (locs ++ L) (cells + rm.cells) (slots + rm.slots) → Qc v T'.heap L → OwnEnds p e below s C S Q T' m pc' Ls (v.toList ++ rest)) (hp : pc + 3 = pc' := by rfl) : OwnEnds p e below s C S Q T m pc Ls st := by
  subst hp hst
  obtain ⟨cq, kq, qa, qb, qc⟩ := isOf hZ eT Ex
  obtain ⟨v, vm', ⟨T', L', k', n'⟩, -, X', ⟨Lc, hQ, l1, l2, l3⟩, st'⟩ := X.virtualBack hx (y := y) (z := z) hown (mvT hZ w1) (mvT hZ w2) nf (mvT hZ w3) (mvT hZ w4) hy (backOf (W := W) hM hZ wc wz hf hl) qa qc (g := mkF m pc Ls (argsL.reverse ++ .ref a :: rest)) rfl hsz (Steps.refl _) (argsL := argsL) (rest := rest) hlen rfl (by show 2 * 0 + _ ≤ _; rw [hW]; omega) hd (fun _ _ => ⟨rfl, eT, hcl, hsl⟩)
  dsimp only [Pt.U, Pt.locs, Pt.cells, Pt.slots] at X' l1 l2 l3 st' hQ
  subst l1 l2 l3
  exact OwnEnds.of (fun _ k => st'.trans k) (k v T' Lc X' hQ)
theorem en_callU (X : Stand p l e R s m args below meth c T locs cells slots) (hx : p.tables.exec = Jvm.exec) (hZ : Z.Warmed39 s.vm) {y : MethodName} {bytes : ByteArray} {maxL : Nat} {ret : Option FieldType} {rm : Room} {Qc : Option Value → Heap → List Loc → Prop} {argsL : List Value} {a : Addr} {z : MethodName} {K owner : String} {own : String} {index : Nat} (hown : s.vm.findClass own = some m.cls) (w1 : (Jvm.Cond.methodLink own index y).before a0 Z = true) (w2 : (Jvm.Cond.sameMethod y.cls owner y.name y.desc).before a0 Z = true) (w2' : (Jvm.Cond.declares ⟨owner, y.name, y.desc⟩).before a0 Z = true) (w3 : (Jvm.Cond.selects K y z).before a0 Z = true) (w4 : (Jvm.Cond.instanceMethod z).before a0 Z = true) (wz : (Jvm.Cond.initialized z.cls).before a0 Z = true) (wc : (Jvm.Cond.code z bytes maxL ret).before a0 Z = true) (Ex : Exa Z h a K) (hy : owner ≠ "java/lang/invoke/MethodHandle" ∧ owner ≠ "java/lang/invoke/VarHandle") (hM : OwnMeets l Z z bytes maxL ret [] rm (.ref a :: argsL).toArray h Qc) (eT : T.heap = h) (hf : rm.frames + 1 ≤ R.frames) (W : Nat) (hW : (rest.map fun v => v.category).sum = W) (hl : W + (maxL + 11) + rm.locals ≤ R.locals) (hcl : cells + rm.cells ≤ R.cells) (hsl : slots + rm.slots ≤ R.slots) (hsz : Ls.size = c.maxLocals) (hlen : ∀ sig, parseMethodDescriptor y.desc = some sig → argsL.length = sig.parameters.length) (hst : st = argsL.reverse ++ .ref a :: rest) (hd : decode c.code pc = .ok (.invokevirtual index, 3)) (k : ∀ v T' L, Stand p l e R s m args below meth c T' (locs ++ L) (cells + rm.cells) (slots + rm.slots) → Qc v T'.heap L → OwnEnds p e below s C S Q T' m pc' Ls (v.toList ++ rest)) (hp : pc + 3 = pc' := by rfl) : OwnEnds p e below s C S Q T m pc Ls st := by
  subst hp hst
  obtain ⟨cq, kq, qa, qb, qc⟩ := isOf hZ eT Ex
  obtain ⟨v, vm', ⟨T', L', k', n'⟩, -, X', ⟨Lc, hQ, l1, l2, l3⟩, st'⟩ := X.virtualBackUp hx (owner := owner) (x := y) (y := z) hown (mvT hZ w1) (mvT hZ w2) (mvT hZ w2') hy (mvT hZ w3) (mvT hZ w4) (backOf (W := W) hM hZ wc wz hf hl) qa qc (g := mkF m pc Ls (argsL.reverse ++ .ref a :: rest)) rfl hsz (Steps.refl _) (argsL := argsL) (rest := rest) hlen rfl (by show 2 * 0 + _ ≤ _; rw [hW]; omega) hd (fun _ _ => ⟨rfl, eT, hcl, hsl⟩)
  dsimp only [Pt.U, Pt.locs, Pt.cells, Pt.slots] at X' l1 l2 l3 st' hQ
  subst l1 l2 l3
  exact OwnEnds.of (fun _ k => st'.trans k) (k v T' Lc X' hQ)
theorem en_callI (X : Stand p l e R s m args below meth c T locs cells slots) (hx : p.tables.exec = Jvm.exec) (hZ : Z.Warmed39 s.vm) {y : MethodName} {bytes : ByteArray} {maxL : Nat} {ret : Option FieldType} {rm : Room} {Qc : Option Value → Heap → List Loc → Prop} {argsL : List Value} {a : Addr} {z : MethodName} {K : String} {own : String} {index count : Nat} (hown : s.vm.findClass own = some m.cls) (w1 : (Jvm.Cond.methodLink own index y).before a0 Z = true) (w2 : (Jvm.Cond.declares y).before a0 Z = true) (w3 : (Jvm.Cond.interfaceMethod y.cls y.cls y.name y.desc).before args s = true) (w4 : (Jvm.Cond.selects K y z).before a0 Z = true) (w5 : (Jvm.Cond.instanceMethod z).before a0 Z = true) (w6 : (Jvm.Cond.publicMethod z).before a0 Z = true) (w7 : (Jvm.Cond.unhidden K y.name y.desc).before a0 Z = true) (w8 : (Jvm.Cond.castable K y.cls).before a0 Z = true) (wz : (Jvm.Cond.initialized z.cls).before a0 Z = true) (wc : (Jvm.Cond.code z bytes maxL ret).before a0 Z = true) (Ex : Exa Z h a K) (hy : y.cls ≠ "java/lang/invoke/MethodHandle" ∧ y.cls ≠ "java/lang/invoke/VarHandle") (hM : OwnMeets l Z z bytes maxL ret [] rm (.ref a :: argsL).toArray h Qc) (eT : T.heap = h) (hf : rm.frames + 1 ≤ R.frames) (W : Nat) (hW : (rest.map fun v => v.category).sum = W) (hl : W + (maxL + 11) + rm.locals ≤ R.locals) (hcl : cells + rm.cells ≤ R.cells) (hsl : slots + rm.slots ≤ R.slots) (hsz : Ls.size = c.maxLocals) (hlen : ∀ sig, parseMethodDescriptor y.desc = some sig → argsL.length = sig.parameters.length) (hst : st = argsL.reverse ++ .ref a :: rest) (hd : decode c.code pc = .ok (.invokeinterface index count, 5)) (k : ∀ v T' L, Stand p l e R s m args below meth c T' (locs ++ L) (cells + rm.cells) (slots + rm.slots) → Qc v T'.heap L → OwnEnds p e below s C S Q T' m pc' Ls (v.toList ++ rest)) (hp : pc + 5 = pc' := by rfl) : OwnEnds p e below s C S Q T m pc Ls st := by
  subst hp hst
  obtain ⟨cq, kq, qa, qb, qc⟩ := isOf hZ eT Ex
  obtain ⟨v, vm', ⟨T', L', k', n'⟩, -, X', ⟨Lc, hQ, l1, l2, l3⟩, st'⟩ := X.interfaceBack hx (xi := y) (y := z) hown (mvT hZ w1) (mvT hZ w2) w3 (mvT hZ w4) (mvT hZ w5) (mvT hZ w6) (mvT hZ w7) (mvT hZ w8) hy (backOf (W := W) hM hZ wc wz hf hl) qa qb qc (g := mkF m pc Ls (argsL.reverse ++ .ref a :: rest)) rfl hsz (Steps.refl _) (argsL := argsL) (rest := rest) hlen rfl (by show 2 * 0 + _ ≤ _; rw [hW]; omega) hd (fun _ _ => ⟨rfl, eT, hcl, hsl⟩)
  dsimp only [Pt.U, Pt.locs, Pt.cells, Pt.slots] at X' l1 l2 l3 st' hQ
  subst l1 l2 l3
  exact OwnEnds.of (fun _ k => st'.trans k) (k v T' Lc X' hQ)
theorem self_private {y x1 y1 : MethodName} {K : String} (hp : s.PrivateAt y) (hinst : (Jvm.Cond.instanceMethod y).before args s = true) (hy : y.cls ≠ "java/lang/invoke/MethodHandle" ∧ y.cls ≠ "java/lang/invoke/VarHandle") (hsel : (Jvm.Cond.selects K x1 y1).before args s = true) (hc : y1.cls = y.cls) : (Jvm.Cond.selects y.cls y y).before args s = true := by
  obtain ⟨c, r, m, q1, q2, q3, q4, k, hk, hki⟩ := Cond.selects_spec hsel
  have q := findClass_of_methodNamed q3
  rw [hc] at q
  exact selects_self_of_private q hk hki hp hinst hy
theorem nf_by {y x1 y1 : MethodName} {K : String} (hsel : (Jvm.Cond.selects K x1 y1).before args s = true) (hc : y1.cls = y.cls) : NotFace s y := fun r0 h0 => by
  obtain ⟨c, r, m, q1, q2, q3, q4, k, hk, hki⟩ := Cond.selects_spec hsel
  have q := findClass_of_methodNamed q3
  rw [hc, findClass_of_methodNamed h0] at q
  exact ⟨k, by rw [Option.some.inj q]; exact hk, hki⟩
theorem en_callQ (X : Stand p l e R s m args below meth c T locs cells slots) (hx : p.tables.exec = Jvm.exec) (hZ : Z.Warmed39 s.vm) {y : MethodName} {bytes : ByteArray} {maxL : Nat} {ret : Option FieldType} {rm : Room} {Qc : Option Value → Heap → List Loc → Prop} {argsL : List Value} {a : Addr} {K C1 : String} {x1 y1 : MethodName} {own : String} {index : Nat} (hown : s.vm.findClass own = some m.cls) (w1 : (Jvm.Cond.methodLink own index y).before a0 Z = true) (w2 : (Jvm.Cond.instanceMethod y).before a0 Z = true) (w3 : (Jvm.Cond.privateMethod y).before a0 Z = true) (w4 : (Jvm.Cond.selects C1 x1 y1).before a0 Z = true) (hc1 : y1.cls = y.cls) (wz : (Jvm.Cond.initialized y.cls).before a0 Z = true) (wc : (Jvm.Cond.code y bytes maxL ret).before a0 Z = true) (Ex : Exa Z h a K) (hy : y.cls ≠ "java/lang/invoke/MethodHandle" ∧ y.cls ≠ "java/lang/invoke/VarHandle") (hM : OwnMeets l Z y bytes maxL ret [] rm (.ref a :: argsL).toArray h Qc) (eT : T.heap = h) (hf : rm.frames + 1 ≤ R.frames) (W : Nat) (hW : (rest.map fun v => v.category).sum = W) (hl : W + (maxL + 11) + rm.locals ≤ R.locals) (hcl : cells + rm.cells ≤ R.cells) (hsl : slots + rm.slots ≤ R.slots) (hsz : Ls.size = c.maxLocals) (hlen : ∀ sig, parseMethodDescriptor y.desc = some sig → argsL.length = sig.parameters.length) (hst : st = argsL.reverse ++ .ref a :: rest) (hd : decode c.code pc = .ok (.invokevirtual index, 3)) (k : ∀ v T' L, Stand p l e R s m args below meth c T' (locs ++ L) (cells + rm.cells) (slots + rm.slots) → Qc v T'.heap L → OwnEnds p e below s C S Q T' m pc' Ls (v.toList ++ rest)) (hp : pc + 3 = pc' := by rfl) : OwnEnds p e below s C S Q T m pc Ls st := by
  subst hp hst
  obtain ⟨cq, q1, q2⟩ := Ex.cell
  obtain ⟨v, vm', ⟨T', L', k', n'⟩, -, X', ⟨Lc, hQ, l1, l2, l3⟩, st'⟩ := X.privateBack hx (y := y) hown (mvT hZ w1) (mvT hZ w2) (self_private (Cond.privateMethod_at (mvP hZ w3 (args := #[]))) (mvT hZ w2) hy (mvT hZ w4) hc1) (Cond.privateMethod_at (mvP hZ w3 (args := #[]))) (mvT hZ wc) hy (backOf (W := W) hM hZ wc wz hf hl)  (g := mkF m pc Ls (argsL.reverse ++ .ref a :: rest)) rfl hsz (Steps.refl _) (a := a) (by rw [eT]; exact q1) q2 (argsL := argsL) (rest := rest) hlen rfl (by show 2 * 0 + _ ≤ _; rw [hW]; omega) hd (fun _ _ => ⟨rfl, eT, hcl, hsl⟩)
  dsimp only [Pt.U, Pt.locs, Pt.cells, Pt.slots] at X' l1 l2 l3 st' hQ
  subst l1 l2 l3
  exact OwnEnds.of (fun _ k => st'.trans k) (k v T' Lc X' hQ)
def PQ (w : Value) (h : Heap) : Option Value → Heap → List Loc → Prop := fun v h' L => v = some w ∧ h' = h ∧ L = []
theorem en_callP (X : Stand p l e R s m args below meth c T locs cells slots) (hx : p.tables.exec = Jvm.exec) (hZ : Z.Warmed39 s.vm) {y : MethodName} {bytes : ByteArray} {maxL : Nat} {ret : Option FieldType} {fr lo : Nat} {w : Value} {argsL : List Value} {own : String} {index : Nat} (hown : s.vm.findClass own = some m.cls) (w1 : (Jvm.Cond.methodLink own index y).before a0 Z = true) (w2 : (Jvm.Cond.static y).before a0 Z = true) (wz : (Jvm.Cond.initialized y.cls).before a0 Z = true) (wc : (Jvm.Cond.code y bytes maxL ret).before a0 Z = true) (hy : y.cls ≠ "java/lang/invoke/MethodHandle" ∧ y.cls ≠ "java/lang/invoke/VarHandle") (hM : OwnMeets l Z y bytes maxL ret [] ({ frames := fr, cells := 0, slots := 0, locals := lo } : Room) argsL.toArray h (PQ w h)) (eT : T.heap = h) (hf : fr + 1 ≤ R.frames) (W : Nat) (hW : (rest.map fun v => v.category).sum = W) (hl : W + (maxL + 11) + lo ≤ R.locals) (hcl : cells ≤ R.cells) (hsl : slots ≤ R.slots) (hsz : Ls.size = c.maxLocals) (hlen : ∀ sig, parseMethodDescriptor y.desc = some sig → argsL.length = sig.parameters.length) (hst : st = argsL.reverse ++ rest) (hd : decode c.code pc = .ok (.invokestatic index, 3)) (k : ∀ T', Stand p l e R s m args below meth c T' locs cells slots → T'.heap = h → OwnEnds p e below s C S Q T' m pc' Ls (w :: rest)) (hp : pc + 3 = pc' := by rfl) : OwnEnds p e below s C S Q T m pc Ls st := by
  refine en_callS X hx hZ hown w1 w2 wz wc hy hM eT hf W hW hl hcl hsl hsz hlen hst hd (fun v T' L X' q => ?_) hp
  obtain ⟨rfl, q2, rfl⟩ := q
  rw [List.append_nil] at X'
  exact k T' X' q2
theorem en_callVP (X : Stand p l e R s m args below meth c T locs cells slots) (hx : p.tables.exec = Jvm.exec) (hZ : Z.Warmed39 s.vm) {y z : MethodName} {K : String} {bytes : ByteArray} {maxL : Nat} {ret : Option FieldType} {fr lo : Nat} {w : Value} {a : Addr} {argsL : List Value} {own : String} {index : Nat} (hown : s.vm.findClass own = some m.cls) (w1 : (Jvm.Cond.methodLink own index y).before a0 Z = true) (w2 : (Jvm.Cond.declares y).before a0 Z = true) (nf : NotFace s y) (w3 : (Jvm.Cond.selects K y z).before a0 Z = true) (w4 : (Jvm.Cond.instanceMethod z).before a0 Z = true) (wz : (Jvm.Cond.initialized z.cls).before a0 Z = true) (wc : (Jvm.Cond.code z bytes maxL ret).before a0 Z = true) (Ex : Exa Z h a K) (hy : y.cls ≠ "java/lang/invoke/MethodHandle" ∧ y.cls ≠ "java/lang/invoke/VarHandle") (hM : OwnMeets l Z z bytes maxL ret [] ({ frames := fr, cells := 0, slots := 0, locals := lo } : Room) (.ref a :: argsL).toArray h (PQ w h)) (eT : T.heap = h) (hf : fr + 1 ≤ R.frames) (W : Nat) (hW : (rest.map fun v => v.category).sum = W) (hl : W + (maxL + 11) + lo ≤ R.locals) (hcl : cells ≤ R.cells) (hsl : slots ≤ R.slots) (hsz : Ls.size = c.maxLocals) (hlen : ∀ sig, parseMethodDescriptor y.desc = some sig → argsL.length = sig.parameters.length) (hst : st = argsL.reverse ++ .ref a :: rest) (hd : decode c.code pc = .ok (.invokevirtual index, 3)) (k : ∀ T', Stand p l e R s m args below meth c T' locs cells slots → T'.heap = h → OwnEnds p e below s C S Q T' m pc' Ls (w :: rest)) (hp : pc + 3 = pc' := by rfl) : OwnEnds p e below s C S Q T m pc Ls st := by
  refine en_callV X hx hZ hown w1 w2 nf w3 w4 wz wc Ex hy hM eT hf W hW hl hcl hsl hsz hlen hst hd (fun v T' L X' q => ?_) hp
  obtain ⟨rfl, q2, rfl⟩ := q
  rw [List.append_nil] at X'
  exact k T' X' q2
theorem en_newPE (X : Stand p l e R s m args below meth c T locs cells slots) (hx : p.tables.exec = Jvm.exec) (hZ : Z.Warmed39 s.vm) {aty : ArrayType} (w : (Jvm.Cond.arrayClass (newarray.typeOf aty)).before a0 Z = true) (eT : T.heap = h) (hd : decode c.code pc = .ok (.newarray aty, 2)) {n : Int32} (hn : ¬ n < 0) (cap : Nat) (hcap : n.toNatClampNeg ≤ cap) (hb : cap * 8 ≤ 536870912) (hc : cells + 1 ≤ R.cells) (hl : slots + cap ≤ R.slots) {ad : String} (had : "[" ++ (newarray.typeOf aty).toString = ad)
    (k : ∀ T' h' a kA, a = h.size → Stand p l e R s m args below meth c T' locs (cells + 1) (slots + cap) → T'.heap = h' → Ext h h' → Arv Z h' a kA (newarray.typeOf aty) n [] (defaultValue (newarray.typeOf aty)) → Exa Z h' a ad → OwnEnds p e below s C S Q T' m pc' Ls (.ref a :: st)) (hp : pc + 2 = pc' := by rfl) : OwnEnds p e below s C S Q T m pc Ls (.int n :: st) := by
  subst hp
  obtain ⟨T', h', kA, X', e', E', A', Ex', st'⟩ := newPE X hx hZ w eT (g := mkF m pc Ls (.int n :: st)) rfl hd rfl hn hcap hb hc hl had
  exact OwnEnds.of st' (k T' h' _ kA rfl X' e' E' (Arv.new A' hn) Ex')
theorem en_newR (X : Stand p l e R s m args below meth c T locs cells slots) (hx : p.tables.exec = Jvm.exec) (hZ : Z.Warmed39 s.vm) {own K : String} {index : Nat} (hown : s.vm.findClass own = some m.cls) (w1 : (Jvm.Cond.classLink own index K).before a0 Z = true) (w2 : (Jvm.Cond.arrayOver (.object K)).before a0 Z = true) (eT : T.heap = h) (hd : decode c.code pc = .ok (.anewarray index, 3)) {n : Int32} (hn : ¬ n < 0) (cap : Nat) (hcap : n.toNatClampNeg ≤ cap) (hb : cap * 8 ≤ 536870912) (hc : cells + 1 ≤ R.cells) (hl : slots + cap ≤ R.slots)
    (k : ∀ T' h' a kA, a = h.size → Stand p l e R s m args below meth c T' locs (cells + 1) (slots + cap) → T'.heap = h' → Ext h h' → Arv Z h' a kA (.object K) n [] (defaultValue (.object K)) → Ovr Z kA K → OwnEnds p e below s C S Q T' m pc' Ls (.ref a :: st)) (hp : pc + 3 = pc' := by rfl) : OwnEnds p e below s C S Q T m pc Ls (.int n :: st) := by
  subst hp
  obtain ⟨T', h', kA, X', e', E', A', O', st'⟩ := newR X hx hZ hown w1 w2 eT (g := mkF m pc Ls (.int n :: st)) rfl hd rfl hn hcap hb hc hl
  exact OwnEnds.of st' (k T' h' _ kA rfl X' e' E' (Arv.new A' hn) O')
theorem en_aastore (X : Stand p l e R s m args below meth c T locs cells slots) (hx : p.tables.exec = Jvm.exec) (hZ : Z.Warmed39 s.vm) (eT : T.heap = h) {a y : Addr} {kA : ClassId} {K : String} {n j : Int32} {vs : List Value} {dv : Value} (V : Arv Z h a kA (.object K) n vs dv) (O : Ovr Z kA K) (I : Ins Z h y K true) (hj : ¬ j < 0 ∧ j < n) (i : Nat) (hi : j.toNatClampNeg = i) (hil : i < vs.length) (hd : decode c.code pc = .ok (.aastore, 1))
    (k : ∀ T' h', Stand p l e R s m args below meth c T' (locs ++ [⟨a, j.toNatClampNeg⟩]) cells slots → T'.heap = h' → Wr h h' a j.toNatClampNeg (.ref y) → Arv Z h' a kA (.object K) n (vs.set i (.ref y)) dv → OwnEnds p e below s C S Q T' m pc' Ls st) (hp : pc + 1 = pc' := by rfl) : OwnEnds p e below s C S Q T m pc Ls (.ref y :: .int j :: .ref a :: st) := by
  subst hp
  obtain ⟨cl, Ar, q1, Sz, Nn, Hs, G⟩ := V
  have hin := inb_of Sz hj
  obtain ⟨T', h', X', e', W', st'⟩ := stR X hx hZ eT Ar hin rfl (Sto.ofV Ar q1 O I) (g := mkF m pc Ls (.ref y :: .int j :: .ref a :: st)) rfl rfl hd
  exact OwnEnds.of st' (k T' h' X' e' W' (Arv.set Ar q1 Sz Nn Hs G rfl W' i hi hil))
theorem en_acmpYes (X : Stand p l e R s m args below meth c T locs cells slots) (hx : p.tables.exec = Jvm.exec) {cd : ClassFile.ACond} {o : Int} {a b : Addr} (hd : decode c.code pc = .ok (.if_acmp cd o, 3)) (hc : if_acmp.holds cd (some a) (some b) = true) (k : OwnEnds p e below s C S Q T m pc' Ls st) (ho : 0 ≤ (pc : Int) + o := by decide) (hp : ((pc : Int) + o).toNat = pc' := by decide) : OwnEnds p e below s C S Q T m pc Ls (.ref b :: .ref a :: st) :=
  OwnEnds.of (fun _ k => XS.acmpYes X.here hx (g := mkF m pc Ls (.ref b :: .ref a :: st)) rfl rfl hd rfl hc ho hp k) k
theorem en_callIP (X : Stand p l e R s m args below meth c T locs cells slots) (hx : p.tables.exec = Jvm.exec) (hZ : Z.Warmed39 s.vm) {y z : MethodName} {K : String} {bytes : ByteArray} {maxL : Nat} {ret : Option FieldType} {fr lo : Nat} {w : Value} {a : Addr} {argsL : List Value} {own : String} {index count : Nat} (hown : s.vm.findClass own = some m.cls) (w1 : (Jvm.Cond.methodLink own index y).before a0 Z = true) (w2 : (Jvm.Cond.declares y).before a0 Z = true) (w3 : (Jvm.Cond.interfaceMethod y.cls y.cls y.name y.desc).before args s = true) (w4 : (Jvm.Cond.selects K y z).before a0 Z = true) (w5 : (Jvm.Cond.instanceMethod z).before a0 Z = true) (w6 : (Jvm.Cond.publicMethod z).before a0 Z = true) (w7 : (Jvm.Cond.unhidden K y.name y.desc).before a0 Z = true) (w8 : (Jvm.Cond.castable K y.cls).before a0 Z = true) (wz : (Jvm.Cond.initialized z.cls).before a0 Z = true) (wc : (Jvm.Cond.code z bytes maxL ret).before a0 Z = true) (Ex : Exa Z h a K) (hy : y.cls ≠ "java/lang/invoke/MethodHandle" ∧ y.cls ≠ "java/lang/invoke/VarHandle") (hM : OwnMeets l Z z bytes maxL ret [] ({ frames := fr, cells := 0, slots := 0, locals := lo } : Room) (.ref a :: argsL).toArray h (PQ w h)) (eT : T.heap = h) (hf : fr + 1 ≤ R.frames) (W : Nat) (hW : (rest.map fun v => v.category).sum = W) (hl : W + (maxL + 11) + lo ≤ R.locals) (hcl : cells ≤ R.cells) (hsl : slots ≤ R.slots) (hsz : Ls.size = c.maxLocals) (hlen : ∀ sig, parseMethodDescriptor y.desc = some sig → argsL.length = sig.parameters.length) (hst : st = argsL.reverse ++ .ref a :: rest) (hd : decode c.code pc = .ok (.invokeinterface index count, 5)) (k : ∀ T', Stand p l e R s m args below meth c T' locs cells slots → T'.heap = h → OwnEnds p e below s C S Q T' m pc' Ls (w :: rest)) (hp : pc + 5 = pc' := by rfl) : OwnEnds p e below s C S Q T m pc Ls st := by
  refine en_callI X hx hZ hown w1 w2 w3 w4 w5 w6 w7 w8 wz wc Ex hy hM eT hf W hW hl hcl hsl hsz hlen hst hd (fun v T' L X' q => ?_) hp
  obtain ⟨rfl, q2, rfl⟩ := q
  rw [List.append_nil] at X'
  exact k T' X' q2
end Kit
end Jvm.OwnKit
namespace Jvm.Pilot.@@N@@
open Jvm Jvm.ClassFile Sem Op Lib Jvm.Free Jvm.Stand Jvm.LawKit Jvm.RoadKit Bundle Jvm.OwnKit Jvm.Pilot.@@N@@.Jvm.D
def own_SC (Z : State) (n0 : Nat) (a b : Addr) (k : ClassId) (st : Int64) (sz : Int32) (vs : List Int64) (h : Heap) : Prop :=
  Exa Z h a "com/example/querent/querent/match/Automaton$StateCount" ∧ Fld Z h a "com/example/querent/querent/match/Automaton$Postfix" "maxStates" "J" (.long (9223372036854775807 : Int64)) ∧ Fld Z h a "com/example/querent/querent/match/Automaton$Postfix" "states" "J" (.long st) ∧ Fld Z h a "com/example/querent/querent/match/Automaton$StateCount" "parts" "[J" (.ref b) ∧ Fld Z h a "com/example/querent/querent/match/Automaton$StateCount" "size" "I" (.int sz) ∧ Arv Z h b k .long (16 : Int32) (vs.map Value.long) (.long (0 : Int64)) ∧ vs.length = 16 ∧ a ≠ b ∧ n0 ≤ a ∧ n0 ≤ b
theorem own_get (vs : List Int64) (i : Nat) : (vs.map Value.long).getD i (.long (0 : Int64)) = .long (vs.getD i 0) := by
  simp only [List.getD_eq_getElem?_getD, List.getElem?_map]
  cases vs[i]? <;> rfl
theorem own_nn {q : Int32} (h : 0 ≤ q.toInt) : ¬ q < 0 := by
  rw [Int32.lt_iff_toInt_lt]; show ¬ q.toInt < 0; omega
theorem own_e1 : (1 : Int32).toInt = 1 := rfl
theorem own_e16 : (16 : Int32).toInt = 16 := rfl
theorem own_clamp {q : Int32} {k : Nat} (h : q.toInt = k) : q.toNatClampNeg = k := by
  have := nat_of (own_nn (show 0 ≤ q.toInt by omega)); omega
theorem own_in {q : Int32} {k : Nat} (h : q.toInt = k) (h4 : k < 16) : ¬ q < 0 ∧ q < 16 := ⟨own_nn (by omega), by rw [Int32.lt_iff_toInt_lt, own_e16]; omega⟩
theorem own_inc {q : Int32} {k : Nat} (h : q.toInt = k) (h4 : k < 16) : (q + (1 : Int32)).toInt = ((k + 1 : Nat) : Int) := by
  have h1 := c_iadd q 1
  have h2 := rng32 (q + 1)
  rw [own_e1] at h1
  omega
theorem own_ne16 {q : Int32} {k : Nat} (h : q.toInt = k) (h4 : k < 16) : ¬ q = 16 := fun e => by rw [e, own_e16] at h; omega
theorem own_top (x : Int64) : ¬ (9223372036854775807 : Int64) < x := by
  have := rng64 x
  have e : (9223372036854775807 : Int64).toInt = 9223372036854775807 := rfl
  rw [Int64.lt_iff_toInt_lt]; omega
def own_acc (acc : Int64) (vs : List Int64) (i : Nat) : Nat → Int64
  | 0 => acc
  | k + 1 => own_acc (acc + vs.getD i 0) vs (i + 1) k
theorem d7_0 : decode prog_19_method_17_code 0 = .ok (.aload_n 0, 1) := by decide +kernel
theorem d7_1 : decode prog_19_method_17_code 1 = .ok (.dup, 1) := by decide +kernel
theorem d7_2 : decode prog_19_method_17_code 2 = .ok (.getfield 53, 3) := by decide +kernel
theorem d7_5 : decode prog_19_method_17_code 5 = .ok (.lload_n 1, 1) := by decide +kernel
theorem d7_6 : decode prog_19_method_17_code 6 = .ok (.ladd, 1) := by decide +kernel
theorem d7_7 : decode prog_19_method_17_code 7 = .ok (.putfield 53, 3) := by decide +kernel
theorem d7_10 : decode prog_19_method_17_code 10 = .ok (.aload_n 0, 1) := by decide +kernel
theorem d7_11 : decode prog_19_method_17_code 11 = .ok (.getfield 53, 3) := by decide +kernel
theorem d7_14 : decode prog_19_method_17_code 14 = .ok (.aload_n 0, 1) := by decide +kernel
theorem d7_15 : decode prog_19_method_17_code 15 = .ok (.getfield 9, 3) := by decide +kernel
theorem d7_18 : decode prog_19_method_17_code 18 = .ok (.lcmp, 1) := by decide +kernel
theorem d7_19 : decode prog_19_method_17_code 19 = .ok (.ifCond .le 20, 3) := by decide +kernel
theorem d7_22 : decode prog_19_method_17_code 22 = .ok (.new 56, 3) := by decide +kernel
theorem d7_25 : decode prog_19_method_17_code 25 = .ok (.dup, 1) := by decide +kernel
theorem d7_26 : decode prog_19_method_17_code 26 = .ok (.aload_n 0, 1) := by decide +kernel
theorem d7_27 : decode prog_19_method_17_code 27 = .ok (.getfield 9, 3) := by decide +kernel
theorem d7_30 : decode prog_19_method_17_code 30 = .ok (.invokedynamic 58, 5) := by decide +kernel
theorem d7_35 : decode prog_19_method_17_code 35 = .ok (.invokespecial 62, 3) := by decide +kernel
theorem d7_38 : decode prog_19_method_17_code 38 = .ok (.athrow, 1) := by decide +kernel
theorem d7_39 : decode prog_19_method_17_code 39 = .ok (.return_, 1) := by decide +kernel
theorem ef_7 (m : MethodId) (o0 : Addr) (x1 : Int64) : entryFrame m #[(.ref o0), (.long x1)] 3 = mkF m 0 #[.val (.ref o0), .val (.long x1), .second] [] := by first | (simp [entryFrame, mkF, argsToLocals, Value.category]; done) | rfl
theorem pn_0 : plainName "com/example/querent/querent/match/Automaton$Postfix" = true := by first | (simp [plainName, overriddenIn]; done) | decide +kernel
set_option maxRecDepth 65536 in
set_option maxHeartbeats 40000000 in
theorem rm7 (l : Launch) (Z : State) (a0 : Array Value) (hw : ∀ d ∈ tables_1, d.before a0 Z = true) (ws : List Jvm.Cond) (o0 : Addr) (x1 : Int64) (b : Addr) (kA : ClassId) (st : Int64) (sz : Int32) (vs : List Int64) (h0 : Heap) (n0 : Nat) (Z0 : n0 ≤ h0.size) (H0 : own_SC Z n0 o0 b kA st sz vs h0) : OwnMeets l Z (⟨"com/example/querent/querent/match/Automaton$Postfix", "count", "(J)V"⟩ : MethodName) prog_19_method_17_code 3 none ws ({ frames := 0, cells := 0, slots := 0, locals := 0 } : Room) #[(.ref o0), (.long x1)] h0 (fun v h L => v = none ∧ Fr n0 L ∧ Keep h0 h [o0, b] ∧ own_SC Z n0 o0 b kA (st + x1) sz vs h) := by
  refine OwnMeets.of_walk (plainFor_of_name pn_0) (fun m => ef_7 m o0 x1) ?_
  intro p e s m below meth c T0 X0 K e0
  obtain ⟨hx, hby, hml, hret, hlk, hnm, hown, hZ⟩ := id K
  have N0 := Fr.nil n0
  obtain ⟨cE1, cM1, cS1, cP1, cZ1, cV1, cL1, cN1, cA1, cB1⟩ := H0
  refine en_aloadN X0 hx (hb hby d7_0) (pc' := 1) rfl rfl ?_
  refine en_dup X0 hx (hb hby d7_1) (pc' := 2) rfl ?_
  refine en_getF X0 hx hZ hown (host := "") (Or.inl (tw hw 42 rfl)) Via.refl e0 cS1 (hb hby d7_2) (pc' := 5) (fun T2 X2 e2 => ?_)
  refine en_lloadN X2 hx (hb hby d7_5) (pc' := 6) rfl ?_
  refine en_ladd X2 hx (hb hby d7_6) (pc' := 7) ?_
  refine en_putF X2 hx hZ hown (host := "") (Or.inl (tw hw 42 rfl)) Via.refl e2 cS1 cE1 (Or.inl (tw hw 43 rfl)) (tw hw 7 rfl) (ty := .long) (by decide) rfl rfl (hb hby d7_7) (pc' := 10) (fun T3 h3 X3 e3 W3 => ?_)
  have F3_o0_maxStates := cM1.other W3 (Or.inr (slot_ne (Or.inr (tw hw 22 rfl)) (Or.inl (tw hw 43 rfl)) (by decide) (t := .long) (t' := .long) (by decide) (by decide)))
  have F3_o0_parts := cP1.other W3 (Or.inr (slot_ne (Or.inl (tw hw 25 rfl)) (Or.inl (tw hw 43 rfl)) (by decide) (t := (.array .long)) (t' := .long) (by decide) (by decide)))
  have F3_o0_size := cZ1.other W3 (Or.inr (slot_ne (Or.inl (tw hw 54 rfl)) (Or.inl (tw hw 43 rfl)) (by decide) (t := .int) (t' := .long) (by decide) (by decide)))
  have E3_o0 := cE1.wr W3
  have V3_b := cV1.other W3 (Ne.symm cN1)
  have K3 : Keep h0 h3 [o0, b] := (Keep.refl h0 [o0, b]).wr W3 (Or.inl (List.mem_of_getElem? (i := 0) rfl))
  have Z3 : n0 ≤ h3.size := Nat.le_trans Z0 (Keep.of_wr W3).1
  have N3 := Fr.snoc X3 N0 cA1
  have F3_o0_states := cS1.same W3
  refine en_aloadN X3 hx (hb hby d7_10) (pc' := 11) rfl rfl ?_
  refine en_getF X3 hx hZ hown (host := "") (Or.inl (tw hw 42 rfl)) Via.refl e3 F3_o0_states (hb hby d7_11) (pc' := 14) (fun T4 X4 e4 => ?_)
  refine en_aloadN X4 hx (hb hby d7_14) (pc' := 15) rfl rfl ?_
  refine en_getF X4 hx hZ hown (host := "") (Or.inl (tw hw 21 rfl)) Via.refl e4 F3_o0_maxStates (hb hby d7_15) (pc' := 18) (fun T5 X5 e5 => ?_)
  refine en_lcmp X5 hx (hb hby d7_18) (pc' := 19) ?_
  refine en_ifYes X5 hx (hb hby d7_19) (nwgt (own_top _)).2 (pc' := 39) ?_
  exact en_ret0 X5 hx hret hlk (hb hby d7_39) (by decide) (by decide) (by first | (rw [e5]; exact ⟨rfl, N3, K3, ⟨E3_o0, F3_o0_maxStates, F3_o0_states, F3_o0_parts, F3_o0_size, V3_b, cL1, cN1, cA1, cB1⟩⟩) | exact ⟨rfl, N3, K3, ⟨E3_o0, F3_o0_maxStates, F3_o0_states, F3_o0_parts, F3_o0_size, V3_b, cL1, cN1, cA1, cB1⟩⟩)
theorem d9_0 : decode prog_21_method_7_code 0 = .ok (.aload_n 0, 1) := by decide +kernel
theorem d9_1 : decode prog_21_method_7_code 1 = .ok (.getfield 13, 3) := by decide +kernel
theorem d9_4 : decode prog_21_method_7_code 4 = .ok (.aload_n 0, 1) := by decide +kernel
theorem d9_5 : decode prog_21_method_7_code 5 = .ok (.getfield 7, 3) := by decide +kernel
theorem d9_8 : decode prog_21_method_7_code 8 = .ok (.arraylength, 1) := by decide +kernel
theorem d9_9 : decode prog_21_method_7_code 9 = .ok (.if_icmp .ne 20, 3) := by decide +kernel
theorem d9_12 : decode prog_21_method_7_code 12 = .ok (.aload_n 0, 1) := by decide +kernel
theorem d9_13 : decode prog_21_method_7_code 13 = .ok (.aload_n 0, 1) := by decide +kernel
theorem d9_14 : decode prog_21_method_7_code 14 = .ok (.getfield 7, 3) := by decide +kernel
theorem d9_17 : decode prog_21_method_7_code 17 = .ok (.iconst 2, 1) := by decide +kernel
theorem d9_18 : decode prog_21_method_7_code 18 = .ok (.aload_n 0, 1) := by decide +kernel
theorem d9_19 : decode prog_21_method_7_code 19 = .ok (.getfield 13, 3) := by decide +kernel
theorem d9_22 : decode prog_21_method_7_code 22 = .ok (.imul, 1) := by decide +kernel
theorem d9_23 : decode prog_21_method_7_code 23 = .ok (.invokestatic 20, 3) := by decide +kernel
theorem d9_26 : decode prog_21_method_7_code 26 = .ok (.putfield 7, 3) := by decide +kernel
theorem d9_29 : decode prog_21_method_7_code 29 = .ok (.aload_n 0, 1) := by decide +kernel
theorem d9_30 : decode prog_21_method_7_code 30 = .ok (.getfield 7, 3) := by decide +kernel
theorem d9_33 : decode prog_21_method_7_code 33 = .ok (.aload_n 0, 1) := by decide +kernel
theorem d9_34 : decode prog_21_method_7_code 34 = .ok (.dup, 1) := by decide +kernel
theorem d9_35 : decode prog_21_method_7_code 35 = .ok (.getfield 13, 3) := by decide +kernel
theorem d9_38 : decode prog_21_method_7_code 38 = .ok (.dup_x1, 1) := by decide +kernel
theorem d9_39 : decode prog_21_method_7_code 39 = .ok (.iconst 1, 1) := by decide +kernel
theorem d9_40 : decode prog_21_method_7_code 40 = .ok (.iadd, 1) := by decide +kernel
theorem d9_41 : decode prog_21_method_7_code 41 = .ok (.putfield 13, 3) := by decide +kernel
theorem d9_44 : decode prog_21_method_7_code 44 = .ok (.lload_n 1, 1) := by decide +kernel
theorem d9_45 : decode prog_21_method_7_code 45 = .ok (.lastore, 1) := by decide +kernel
theorem d9_46 : decode prog_21_method_7_code 46 = .ok (.return_, 1) := by decide +kernel
theorem ef_9 (m : MethodId) (o0 : Addr) (x1 : Int64) : entryFrame m #[(.ref o0), (.long x1)] 3 = mkF m 0 #[.val (.ref o0), .val (.long x1), .second] [] := by first | (simp [entryFrame, mkF, argsToLocals, Value.category]; done) | rfl
theorem pn_1 : plainName "com/example/querent/querent/match/Automaton$StateCount" = true := by first | (simp [plainName, overriddenIn]; done) | decide +kernel
set_option maxRecDepth 65536 in
set_option maxHeartbeats 40000000 in
theorem rm9 (l : Launch) (Z : State) (a0 : Array Value) (hw : ∀ d ∈ tables_1, d.before a0 Z = true) (ws : List Jvm.Cond) (o0 : Addr) (x1 : Int64) (n : Nat) (b : Addr) (kA : ClassId) (st : Int64) (sz : Int32) (vs : List Int64) (h0 : Heap) (n0 : Nat) (Z0 : n0 ≤ h0.size) (H0 : own_SC Z n0 o0 b kA st sz vs h0) (hs : sz.toInt = n) (hn : n < 16) : OwnMeets l Z (⟨"com/example/querent/querent/match/Automaton$StateCount", "add", "(J)V"⟩ : MethodName) prog_21_method_7_code 3 none ws ({ frames := 0, cells := 0, slots := 0, locals := 0 } : Room) #[(.ref o0), (.long x1)] h0 (fun v h L => v = none ∧ Fr n0 L ∧ Keep h0 h [o0, b] ∧ own_SC Z n0 o0 b kA st (sz + (1 : Int32)) (vs.set n x1) h) := by
  refine OwnMeets.of_walk (plainFor_of_name pn_1) (fun m => ef_9 m o0 x1) ?_
  intro p e s m below meth c T0 X0 K e0
  obtain ⟨hx, hby, hml, hret, hlk, hnm, hown, hZ⟩ := id K
  have N0 := Fr.nil n0
  obtain ⟨cE1, cM1, cS1, cP1, cZ1, cV1, cL1, cN1, cA1, cB1⟩ := H0
  refine en_aloadN X0 hx (hb hby d9_0) (pc' := 1) rfl rfl ?_
  refine en_getF X0 hx hZ hown (host := "") (Or.inl (tw hw 53 rfl)) Via.refl e0 cZ1 (hb hby d9_1) (pc' := 4) (fun T2 X2 e2 => ?_)
  refine en_aloadN X2 hx (hb hby d9_4) (pc' := 5) rfl rfl ?_
  refine en_getF X2 hx hZ hown (host := "") (Or.inl (tw hw 24 rfl)) Via.refl e2 cP1 (hb hby d9_5) (pc' := 8) (fun T3 X3 e3 => ?_)
  refine en_len X3 hx hZ e3 cV1 (hb hby d9_8) (pc' := 9) ?_
  refine en_icmpYes X3 hx (hb hby d9_9) (feq (own_ne16 hs hn)).2 (pc' := 29) ?_
  refine en_aloadN X3 hx (hb hby d9_29) (pc' := 30) rfl rfl ?_
  refine en_getF X3 hx hZ hown (host := "") (Or.inl (tw hw 24 rfl)) Via.refl e3 cP1 (hb hby d9_30) (pc' := 33) (fun T4 X4 e4 => ?_)
  refine en_aloadN X4 hx (hb hby d9_33) (pc' := 34) rfl rfl ?_
  refine en_dup X4 hx (hb hby d9_34) (pc' := 35) rfl ?_
  refine en_getF X4 hx hZ hown (host := "") (Or.inl (tw hw 53 rfl)) Via.refl e4 cZ1 (hb hby d9_35) (pc' := 38) (fun T5 X5 e5 => ?_)
  refine en_dupX1 X5 hx (hb hby d9_38) (pc' := 39) rfl rfl ?_
  refine en_iconst X5 hx (1 : Int32) (hb hby d9_39) (pc' := 40) ?_
  refine en_iadd X5 hx (hb hby d9_40) (pc' := 41) ?_
  refine en_putF X5 hx hZ hown (host := "") (Or.inl (tw hw 53 rfl)) Via.refl e5 cZ1 cE1 (Or.inl (tw hw 54 rfl)) (tw hw 7 rfl) (ty := .int) (by decide) rfl rfl (hb hby d9_41) (pc' := 44) (fun T6 h6 X6 e6 W6 => ?_)
  have F6_o0_maxStates := cM1.other W6 (Or.inr (slot_ne (Or.inr (tw hw 22 rfl)) (Or.inl (tw hw 54 rfl)) (by decide) (t := .long) (t' := .int) (by decide) (by decide)))
  have F6_o0_states := cS1.other W6 (Or.inr (slot_ne (Or.inl (tw hw 43 rfl)) (Or.inl (tw hw 54 rfl)) (by decide) (t := .long) (t' := .int) (by decide) (by decide)))
  have F6_o0_parts := cP1.other W6 (Or.inr (slot_ne (Or.inl (tw hw 25 rfl)) (Or.inl (tw hw 54 rfl)) (by decide) (t := (.array .long)) (t' := .int) (by decide) (by decide)))
  have E6_o0 := cE1.wr W6
  have V6_b := cV1.other W6 (Ne.symm cN1)
  have K6 : Keep h0 h6 [o0, b] := (Keep.refl h0 [o0, b]).wr W6 (Or.inl (List.mem_of_getElem? (i := 0) rfl))
  have Z6 : n0 ≤ h6.size := Nat.le_trans Z0 (Keep.of_wr W6).1
  have N6 := Fr.snoc X6 N0 cA1
  have F6_o0_size := cZ1.same W6
  refine en_lloadN X6 hx (hb hby d9_44) (pc' := 45) rfl ?_
  refine en_lastore X6 hx hZ e6 V6_b (own_in hs hn) n (own_clamp hs) (by simp [cL1]; omega) (hb hby d9_45) (pc' := 46) (fun T7 h7 X7 e7 W7 V70 => ?_)
  have F7_o0_maxStates := F6_o0_maxStates.other W7 (Or.inl cN1)
  have F7_o0_states := F6_o0_states.other W7 (Or.inl cN1)
  have F7_o0_parts := F6_o0_parts.other W7 (Or.inl cN1)
  have F7_o0_size := F6_o0_size.other W7 (Or.inl cN1)
  have E7_o0 := E6_o0.wr W7
  have K7 : Keep h0 h7 [o0, b] := K6.wr W7 (Or.inl (List.mem_of_getElem? (i := 1) rfl))
  have Z7 : n0 ≤ h7.size := Nat.le_trans Z6 (Keep.of_wr W7).1
  have N7 := Fr.snoc X7 N6 cB1
  have V7 : Arv Z h7 b kA .long (16 : Int32) ((vs.set n x1).map Value.long) (.long (0 : Int64)) := by rw [List.map_set]; exact V70
  exact en_ret0 X7 hx hret hlk (hb hby d9_46) (by decide) (by decide) (by first | (rw [e7]; exact ⟨rfl, N7, K7, ⟨E7_o0, F7_o0_maxStates, F7_o0_states, F7_o0_parts, F7_o0_size, V7, (by simp [cL1]), cN1, cA1, cB1⟩⟩) | exact ⟨rfl, N7, K7, ⟨E7_o0, F7_o0_maxStates, F7_o0_states, F7_o0_parts, F7_o0_size, V7, (by simp [cL1]), cN1, cA1, cB1⟩⟩)
theorem d15_0 : decode prog_21_method_3_code 0 = .ok (.iload_n 1, 1) := by decide +kernel
theorem d15_1 : decode prog_21_method_3_code 1 = .ok (.iconst (-1), 1) := by decide +kernel
theorem d15_2 : decode prog_21_method_3_code 2 = .ok (.if_icmp .eq 8, 3) := by decide +kernel
theorem d15_5 : decode prog_21_method_3_code 5 = .ok (.aload_n 0, 1) := by decide +kernel
theorem d15_6 : decode prog_21_method_3_code 6 = .ok (.lconst 1, 1) := by decide +kernel
theorem d15_7 : decode prog_21_method_3_code 7 = .ok (.invokevirtual 17, 3) := by decide +kernel
theorem d15_10 : decode prog_21_method_3_code 10 = .ok (.return_, 1) := by decide +kernel
theorem ef_15 (m : MethodId) (o0 : Addr) (x1 : Int32) : entryFrame m #[(.ref o0), (.int x1)] 2 = mkF m 0 #[.val (.ref o0), .val (.int x1)] [] := by first | (simp [entryFrame, mkF, argsToLocals, Value.category]; done) | rfl
theorem pd_0 : parseMethodDescriptor "(J)V" = some ⟨[.long], none⟩ := by decide +kernel
set_option maxRecDepth 65536 in
set_option maxHeartbeats 40000000 in
theorem rm15 (l : Launch) (Z : State) (a0 : Array Value) (hw : ∀ d ∈ tables_1, d.before a0 Z = true) (ws : List Jvm.Cond) (o0 : Addr) (x1 : Int32) (n : Nat) (b : Addr) (kA : ClassId) (st : Int64) (sz : Int32) (vs : List Int64) (h0 : Heap) (n0 : Nat) (Z0 : n0 ≤ h0.size) (H0 : own_SC Z n0 o0 b kA st sz vs h0) (hs : sz.toInt = n) (hn : n < 16) (hx1 : ¬ x1 = (-1 : Int32)) : OwnMeets l Z (⟨"com/example/querent/querent/match/Automaton$StateCount", "write", "(I)V"⟩ : MethodName) prog_21_method_3_code 2 none ws ({ frames := 1, cells := 0, slots := 0, locals := 14 } : Room) #[(.ref o0), (.int x1)] h0 (fun v h L => v = none ∧ Fr n0 L ∧ Keep h0 h [o0, b] ∧ own_SC Z n0 o0 b kA st (sz + (1 : Int32)) (vs.set n (1 : Int64)) h) := by
  refine OwnMeets.of_walk (plainFor_of_name pn_1) (fun m => ef_15 m o0 x1) ?_
  intro p e s m below meth c T0 X0 K e0
  obtain ⟨hx, hby, hml, hret, hlk, hnm, hown, hZ⟩ := id K
  have N0 := Fr.nil n0
  obtain ⟨cE1, cM1, cS1, cP1, cZ1, cV1, cL1, cN1, cA1, cB1⟩ := H0
  refine en_iloadN X0 hx (hb hby d15_0) (pc' := 1) rfl ?_
  refine en_iconst X0 hx (-1 : Int32) (hb hby d15_1) (pc' := 2) ?_
  refine en_icmpNo X0 hx (hb hby d15_2) (feq hx1).1 (pc' := 5) ?_
  refine en_aloadN X0 hx (hb hby d15_5) (pc' := 6) rfl rfl ?_
  refine en_lconst X0 hx (1 : Int64) (hb hby d15_6) (pc' := 7) ?_
  have H2x : own_SC Z n0 o0 b kA st sz vs h0 := ⟨cE1, cM1, cS1, cP1, cZ1, cV1, cL1, cN1, cA1, cB1⟩
  refine en_callQ X0 hx hZ (rm := ({ frames := 0, cells := 0, slots := 0, locals := 0 } : Room)) (y := (⟨"com/example/querent/querent/match/Automaton$StateCount", "add", "(J)V"⟩ : MethodName)) (K := "com/example/querent/querent/match/Automaton$StateCount") hown (tw hw 49 rfl) (tw hw 50 rfl) (tw hw 51 rfl) (tw hw 46 rfl) rfl (tw hw 8 rfl) (tw hw 52 rfl) cE1 (by decide) (rm9 l Z a0 hw [] o0 (1 : Int64) n b kA st sz vs h0 n0 Z0 H2x hs hn) e0 (by decide) 0 rfl (by decide) (by decide) (by decide) (by rw [hml]; rfl) (argsL := [(.long (1 : Int64))]) (rest := []) (lenOf pd_0 rfl) rfl (hb hby d15_7) (pc' := 10) (fun v3 T3 Lq3 X3 hQ3 => ?_)
  obtain ⟨h3, e3⟩ : ∃ q, T3.heap = q := ⟨_, rfl⟩
  rw [e3] at hQ3
  obtain ⟨rfl, Nq3, Kq3, Hq2⟩ := hQ3
  have N3 := Fr.app N0 Nq3
  show OwnEnds p e below s _ _ _ T3 m 10 #[.val (.ref o0), .val (.int x1)] []
  have E3_o0 := cE1.keep Kq3
  have K3 : Keep h0 h3 [o0, b] := Keep.trans (Keep.refl h0 [o0, b]) Kq3 (allS (Or.inl (List.mem_of_getElem? (i := 0) rfl)) (allS (Or.inl (List.mem_of_getElem? (i := 1) rfl)) all0))
  have Z3 : n0 ≤ h3.size := Nat.le_trans Z0 Kq3.1
  obtain ⟨cE4, cM4, cS4, cP4, cZ4, cV4, cL4, cN4, cA4, cB4⟩ := Hq2
  exact en_ret0 X3 hx hret hlk (hb hby d15_10) (by decide) (by decide) (by first | (rw [e3]; exact ⟨rfl, N3, K3, ⟨cE4, cM4, cS4, cP4, cZ4, cV4, cL4, cN4, cA4, cB4⟩⟩) | exact ⟨rfl, N3, K3, ⟨cE4, cM4, cS4, cP4, cZ4, cV4, cL4, cN4, cA4, cB4⟩⟩)
theorem d8_0 : decode prog_21_method_4_code 0 = .ok (.aload_n 0, 1) := by decide +kernel
theorem d8_1 : decode prog_21_method_4_code 1 = .ok (.lconst 1, 1) := by decide +kernel
theorem d8_2 : decode prog_21_method_4_code 2 = .ok (.invokevirtual 17, 3) := by decide +kernel
theorem d8_5 : decode prog_21_method_4_code 5 = .ok (.return_, 1) := by decide +kernel
theorem ef_8 (m : MethodId) (o0 : Addr) (o1 : Addr) : entryFrame m #[(.ref o0), (.ref o1)] 2 = mkF m 0 #[.val (.ref o0), .val (.ref o1)] [] := by first | (simp [entryFrame, mkF, argsToLocals, Value.category]; done) | rfl
set_option maxRecDepth 65536 in
set_option maxHeartbeats 40000000 in
theorem rm8 (l : Launch) (Z : State) (a0 : Array Value) (hw : ∀ d ∈ tables_1, d.before a0 Z = true) (ws : List Jvm.Cond) (o0 : Addr) (o1 : Addr) (n : Nat) (b : Addr) (kA : ClassId) (st : Int64) (sz : Int32) (vs : List Int64) (h0 : Heap) (n0 : Nat) (Z0 : n0 ≤ h0.size) (H0 : own_SC Z n0 o0 b kA st sz vs h0) (hs : sz.toInt = n) (hn : n < 16) : OwnMeets l Z (⟨"com/example/querent/querent/match/Automaton$StateCount", "writeSet", "([I)V"⟩ : MethodName) prog_21_method_4_code 2 none ws ({ frames := 1, cells := 0, slots := 0, locals := 14 } : Room) #[(.ref o0), (.ref o1)] h0 (fun v h L => v = none ∧ Fr n0 L ∧ Keep h0 h [o0, b] ∧ own_SC Z n0 o0 b kA st (sz + (1 : Int32)) (vs.set n (1 : Int64)) h) := by
  refine OwnMeets.of_walk (plainFor_of_name pn_1) (fun m => ef_8 m o0 o1) ?_
  intro p e s m below meth c T0 X0 K e0
  obtain ⟨hx, hby, hml, hret, hlk, hnm, hown, hZ⟩ := id K
  have N0 := Fr.nil n0
  obtain ⟨cE1, cM1, cS1, cP1, cZ1, cV1, cL1, cN1, cA1, cB1⟩ := H0
  refine en_aloadN X0 hx (hb hby d8_0) (pc' := 1) rfl rfl ?_
  refine en_lconst X0 hx (1 : Int64) (hb hby d8_1) (pc' := 2) ?_
  have H2x : own_SC Z n0 o0 b kA st sz vs h0 := ⟨cE1, cM1, cS1, cP1, cZ1, cV1, cL1, cN1, cA1, cB1⟩
  refine en_callQ X0 hx hZ (rm := ({ frames := 0, cells := 0, slots := 0, locals := 0 } : Room)) (y := (⟨"com/example/querent/querent/match/Automaton$StateCount", "add", "(J)V"⟩ : MethodName)) (K := "com/example/querent/querent/match/Automaton$StateCount") hown (tw hw 49 rfl) (tw hw 50 rfl) (tw hw 51 rfl) (tw hw 46 rfl) rfl (tw hw 8 rfl) (tw hw 52 rfl) cE1 (by decide) (rm9 l Z a0 hw [] o0 (1 : Int64) n b kA st sz vs h0 n0 Z0 H2x hs hn) e0 (by decide) 0 rfl (by decide) (by decide) (by decide) (by rw [hml]; rfl) (argsL := [(.long (1 : Int64))]) (rest := []) (lenOf pd_0 rfl) rfl (hb hby d8_2) (pc' := 5) (fun v3 T3 Lq3 X3 hQ3 => ?_)
  obtain ⟨h3, e3⟩ : ∃ q, T3.heap = q := ⟨_, rfl⟩
  rw [e3] at hQ3
  obtain ⟨rfl, Nq3, Kq3, Hq2⟩ := hQ3
  have N3 := Fr.app N0 Nq3
  show OwnEnds p e below s _ _ _ T3 m 5 #[.val (.ref o0), .val (.ref o1)] []
  have E3_o0 := cE1.keep Kq3
  have K3 : Keep h0 h3 [o0, b] := Keep.trans (Keep.refl h0 [o0, b]) Kq3 (allS (Or.inl (List.mem_of_getElem? (i := 0) rfl)) (allS (Or.inl (List.mem_of_getElem? (i := 1) rfl)) all0))
  have Z3 : n0 ≤ h3.size := Nat.le_trans Z0 Kq3.1
  obtain ⟨cE4, cM4, cS4, cP4, cZ4, cV4, cL4, cN4, cA4, cB4⟩ := Hq2
  exact en_ret0 X3 hx hret hlk (hb hby d8_5) (by decide) (by decide) (by first | (rw [e3]; exact ⟨rfl, N3, K3, ⟨cE4, cM4, cS4, cP4, cZ4, cV4, cL4, cN4, cA4, cB4⟩⟩) | exact ⟨rfl, N3, K3, ⟨cE4, cM4, cS4, cP4, cZ4, cV4, cL4, cN4, cA4, cB4⟩⟩)
theorem d6_0 : decode prog_19_method_2_code 0 = .ok (.aload_n 0, 1) := by decide +kernel
theorem d6_1 : decode prog_19_method_2_code 1 = .ok (.lconst 1, 1) := by decide +kernel
theorem d6_2 : decode prog_19_method_2_code 2 = .ok (.invokevirtual 15, 3) := by decide +kernel
theorem d6_5 : decode prog_19_method_2_code 5 = .ok (.aload_n 0, 1) := by decide +kernel
theorem d6_6 : decode prog_19_method_2_code 6 = .ok (.aload_n 1, 1) := by decide +kernel
theorem d6_7 : decode prog_19_method_2_code 7 = .ok (.invokevirtual 19, 3) := by decide +kernel
theorem d6_10 : decode prog_19_method_2_code 10 = .ok (.return_, 1) := by decide +kernel
theorem ef_6 (m : MethodId) (o0 : Addr) (o1 : Addr) : entryFrame m #[(.ref o0), (.ref o1)] 2 = mkF m 0 #[.val (.ref o0), .val (.ref o1)] [] := by first | (simp [entryFrame, mkF, argsToLocals, Value.category]; done) | rfl
theorem pd_1 : parseMethodDescriptor "([I)V" = some ⟨[(.array .int)], none⟩ := by decide +kernel
set_option maxRecDepth 65536 in
set_option maxHeartbeats 40000000 in
theorem rm6 (l : Launch) (Z : State) (a0 : Array Value) (hw : ∀ d ∈ tables_1, d.before a0 Z = true) (ws : List Jvm.Cond) (o0 : Addr) (o1 : Addr) (n : Nat) (b : Addr) (kA : ClassId) (st : Int64) (sz : Int32) (vs : List Int64) (h0 : Heap) (n0 : Nat) (Z0 : n0 ≤ h0.size) (H0 : own_SC Z n0 o0 b kA st sz vs h0) (hs : sz.toInt = n) (hn : n < 16) : OwnMeets l Z (⟨"com/example/querent/querent/match/Automaton$Postfix", "set", "([I)V"⟩ : MethodName) prog_19_method_2_code 2 none ws ({ frames := 2, cells := 0, slots := 0, locals := 27 } : Room) #[(.ref o0), (.ref o1)] h0 (fun v h L => v = none ∧ Fr n0 L ∧ Keep h0 h [o0, b] ∧ own_SC Z n0 o0 b kA (st + (1 : Int64)) (sz + (1 : Int32)) (vs.set n (1 : Int64)) h) := by
  refine OwnMeets.of_walk (plainFor_of_name pn_0) (fun m => ef_6 m o0 o1) ?_
  intro p e s m below meth c T0 X0 K e0
  obtain ⟨hx, hby, hml, hret, hlk, hnm, hown, hZ⟩ := id K
  have N0 := Fr.nil n0
  obtain ⟨cE1, cM1, cS1, cP1, cZ1, cV1, cL1, cN1, cA1, cB1⟩ := H0
  refine en_aloadN X0 hx (hb hby d6_0) (pc' := 1) rfl rfl ?_
  refine en_lconst X0 hx (1 : Int64) (hb hby d6_1) (pc' := 2) ?_
  have H2x : own_SC Z n0 o0 b kA st sz vs h0 := ⟨cE1, cM1, cS1, cP1, cZ1, cV1, cL1, cN1, cA1, cB1⟩
  refine en_callQ X0 hx hZ (rm := ({ frames := 0, cells := 0, slots := 0, locals := 0 } : Room)) (y := (⟨"com/example/querent/querent/match/Automaton$Postfix", "count", "(J)V"⟩ : MethodName)) (K := "com/example/querent/querent/match/Automaton$StateCount") hown (tw hw 38 rfl) (tw hw 39 rfl) (tw hw 40 rfl) (tw hw 30 rfl) rfl (tw hw 16 rfl) (tw hw 41 rfl) cE1 (by decide) (rm7 l Z a0 hw [] o0 (1 : Int64) b kA st sz vs h0 n0 Z0 H2x) e0 (by decide) 0 rfl (by decide) (by decide) (by decide) (by rw [hml]; rfl) (argsL := [(.long (1 : Int64))]) (rest := []) (lenOf pd_0 rfl) rfl (hb hby d6_2) (pc' := 5) (fun v3 T3 Lq3 X3 hQ3 => ?_)
  obtain ⟨h3, e3⟩ : ∃ q, T3.heap = q := ⟨_, rfl⟩
  rw [e3] at hQ3
  obtain ⟨rfl, Nq3, Kq3, Hq2⟩ := hQ3
  have N3 := Fr.app N0 Nq3
  show OwnEnds p e below s _ _ _ T3 m 5 #[.val (.ref o0), .val (.ref o1)] []
  have E3_o0 := cE1.keep Kq3
  have K3 : Keep h0 h3 [o0, b] := Keep.trans (Keep.refl h0 [o0, b]) Kq3 (allS (Or.inl (List.mem_of_getElem? (i := 0) rfl)) (allS (Or.inl (List.mem_of_getElem? (i := 1) rfl)) all0))
  have Z3 : n0 ≤ h3.size := Nat.le_trans Z0 Kq3.1
  obtain ⟨cE4, cM4, cS4, cP4, cZ4, cV4, cL4, cN4, cA4, cB4⟩ := Hq2
  refine en_aloadN X3 hx (hb hby d6_5) (pc' := 6) rfl rfl ?_
  refine en_aloadN X3 hx (hb hby d6_6) (pc' := 7) rfl rfl ?_
  have H5x : own_SC Z n0 o0 b kA (st + (1 : Int64)) sz vs h3 := ⟨cE4, cM4, cS4, cP4, cZ4, cV4, cL4, cN4, cA4, cB4⟩
  refine en_callV X3 hx hZ (rm := ({ frames := 1, cells := 0, slots := 0, locals := 14 } : Room)) (y := (⟨"com/example/querent/querent/match/Automaton$Postfix", "writeSet", "([I)V"⟩ : MethodName)) (z := (⟨"com/example/querent/querent/match/Automaton$StateCount", "writeSet", "([I)V"⟩ : MethodName)) (K := "com/example/querent/querent/match/Automaton$StateCount") hown (tw hw 44 rfl) (tw hw 45 rfl) (nf_by (args := #[]) (mvT hZ (tw hw 30 rfl)) rfl) (tw hw 46 rfl) (tw hw 47 rfl) (tw hw 8 rfl) (tw hw 48 rfl) cE4 (by decide) (rm8 l Z a0 hw [] o0 o1 n b kA (st + (1 : Int64)) sz vs h3 n0 Z3 H5x hs hn) e3 (by decide) 0 rfl (by decide) (by decide) (by decide) (by rw [hml]; rfl) (argsL := [(.ref o1)]) (rest := []) (lenOf pd_1 rfl) rfl (hb hby d6_7) (pc' := 10) (fun v6 T6 Lq6 X6 hQ6 => ?_)
  obtain ⟨h6, e6⟩ : ∃ q, T6.heap = q := ⟨_, rfl⟩
  rw [e6] at hQ6
  obtain ⟨rfl, Nq6, Kq6, Hq5⟩ := hQ6
  have N6 := Fr.app N3 Nq6
  show OwnEnds p e below s _ _ _ T6 m 10 #[.val (.ref o0), .val (.ref o1)] []
  have E6_o0 := cE4.keep Kq6
  have K6 : Keep h0 h6 [o0, b] := Keep.trans K3 Kq6 (allS (Or.inl (List.mem_of_getElem? (i := 0) rfl)) (allS (Or.inl (List.mem_of_getElem? (i := 1) rfl)) all0))
  have Z6 : n0 ≤ h6.size := Nat.le_trans Z3 Kq6.1
  obtain ⟨cE7, cM7, cS7, cP7, cZ7, cV7, cL7, cN7, cA7, cB7⟩ := Hq5
  exact en_ret0 X6 hx hret hlk (hb hby d6_10) (by decide) (by decide) (by first | (rw [e6]; exact ⟨rfl, N6, K6, ⟨cE7, cM7, cS7, cP7, cZ7, cV7, cL7, cN7, cA7, cB7⟩⟩) | exact ⟨rfl, N6, K6, ⟨cE7, cM7, cS7, cP7, cZ7, cV7, cL7, cN7, cA7, cB7⟩⟩)
theorem d5_0 : decode prog_19_method_3_code 0 = .ok (.aload_n 0, 1) := by decide +kernel
theorem d5_1 : decode prog_19_method_3_code 1 = .ok (.iconst 2, 1) := by decide +kernel
theorem d5_2 : decode prog_19_method_3_code 2 = .ok (.newarray .int, 2) := by decide +kernel
theorem d5_4 : decode prog_19_method_3_code 4 = .ok (.dup, 1) := by decide +kernel
theorem d5_5 : decode prog_19_method_3_code 5 = .ok (.iconst 0, 1) := by decide +kernel
theorem d5_6 : decode prog_19_method_3_code 6 = .ok (.iload_n 1, 1) := by decide +kernel
theorem d5_7 : decode prog_19_method_3_code 7 = .ok (.iastore, 1) := by decide +kernel
theorem d5_8 : decode prog_19_method_3_code 8 = .ok (.dup, 1) := by decide +kernel
theorem d5_9 : decode prog_19_method_3_code 9 = .ok (.iconst 1, 1) := by decide +kernel
theorem d5_10 : decode prog_19_method_3_code 10 = .ok (.iload_n 1, 1) := by decide +kernel
theorem d5_11 : decode prog_19_method_3_code 11 = .ok (.iastore, 1) := by decide +kernel
theorem d5_12 : decode prog_19_method_3_code 12 = .ok (.invokevirtual 23, 3) := by decide +kernel
theorem d5_15 : decode prog_19_method_3_code 15 = .ok (.return_, 1) := by decide +kernel
theorem ef_5 (m : MethodId) (o0 : Addr) (x1 : Int32) : entryFrame m #[(.ref o0), (.int x1)] 2 = mkF m 0 #[.val (.ref o0), .val (.int x1)] [] := by first | (simp [entryFrame, mkF, argsToLocals, Value.category]; done) | rfl
set_option maxRecDepth 65536 in
set_option maxHeartbeats 40000000 in
theorem rm5 (l : Launch) (Z : State) (a0 : Array Value) (hw : ∀ d ∈ tables_1, d.before a0 Z = true) (ws : List Jvm.Cond) (o0 : Addr) (x1 : Int32) (n : Nat) (b : Addr) (kA : ClassId) (st : Int64) (sz : Int32) (vs : List Int64) (h0 : Heap) (n0 : Nat) (Z0 : n0 ≤ h0.size) (H0 : own_SC Z n0 o0 b kA st sz vs h0) (hs : sz.toInt = n) (hn : n < 16) : OwnMeets l Z (⟨"com/example/querent/querent/match/Automaton$Postfix", "literal", "(I)V"⟩ : MethodName) prog_19_method_3_code 2 none ws ({ frames := 3, cells := 1, slots := 2, locals := 40 } : Room) #[(.ref o0), (.int x1)] h0 (fun v h L => v = none ∧ Fr n0 L ∧ Keep h0 h [o0, b] ∧ own_SC Z n0 o0 b kA (st + (1 : Int64)) (sz + (1 : Int32)) (vs.set n (1 : Int64)) h) := by
  refine OwnMeets.of_walk (plainFor_of_name pn_0) (fun m => ef_5 m o0 x1) ?_
  intro p e s m below meth c T0 X0 K e0
  obtain ⟨hx, hby, hml, hret, hlk, hnm, hown, hZ⟩ := id K
  have N0 := Fr.nil n0
  obtain ⟨cE1, cM1, cS1, cP1, cZ1, cV1, cL1, cN1, cA1, cB1⟩ := H0
  refine en_aloadN X0 hx (hb hby d5_0) (pc' := 1) rfl rfl ?_
  refine en_iconst X0 hx (2 : Int32) (hb hby d5_1) (pc' := 2) ?_
  refine en_newP X0 hx hZ (tw hw 32 rfl) e0 (hb hby d5_2) (by decide) 2 (by decide) (by decide) (by decide) (by decide) (pc' := 4) (fun T2 h2 b2 k2 g2 X2 e2 E2 V20 => ?_)
  have ne2_o0 : o0 ≠ b2 := by rw [g2]; exact Nat.ne_of_lt cE1.lt
  have ne2_b : b ≠ b2 := by rw [g2]; exact Nat.ne_of_lt cV1.lt
  have g_b2 : n0 ≤ b2 := by rw [g2]; exact Z0
  have sz_b2 : h0.size ≤ b2 := by rw [g2]; exact (Keep.refl h0 [o0, b]).1
  have F2_o0_maxStates := cM1.ext E2
  have F2_o0_states := cS1.ext E2
  have F2_o0_parts := cP1.ext E2
  have F2_o0_size := cZ1.ext E2
  have E2_o0 := cE1.ext E2
  have V2_b := cV1.ext E2
  have K2 : Keep h0 h2 [o0, b] := (Keep.refl h0 [o0, b]).ext E2
  have Z2 : n0 ≤ h2.size := Nat.le_trans Z0 E2.1
  have V2 : Arv Z h2 b2 k2 .int (2 : Int32) [(.int (0 : Int32)), (.int (0 : Int32))] (.int (0 : Int32)) := V20.pad (pad_rep [] (.int (0 : Int32)) 2)
  refine en_dup X2 hx (hb hby d5_4) (pc' := 5) rfl ?_
  refine en_iconst X2 hx (0 : Int32) (hb hby d5_5) (pc' := 6) ?_
  refine en_iloadN X2 hx (hb hby d5_6) (pc' := 7) rfl ?_
  refine en_iastore X2 hx hZ e2 V2 ⟨by decide, by decide⟩ 0 rfl (Nat.le_of_ble_eq_true rfl) (hb hby d5_7) (pc' := 8) (fun T3 h3 X3 e3 W3 V30 => ?_)
  have F3_o0_maxStates := F2_o0_maxStates.other W3 (Or.inl ne2_o0)
  have F3_o0_states := F2_o0_states.other W3 (Or.inl ne2_o0)
  have F3_o0_parts := F2_o0_parts.other W3 (Or.inl ne2_o0)
  have F3_o0_size := F2_o0_size.other W3 (Or.inl ne2_o0)
  have E3_o0 := E2_o0.wr W3
  have V3_b := V2_b.other W3 ne2_b
  have K3 : Keep h0 h3 [o0, b] := K2.wr W3 (Or.inr sz_b2)
  have Z3 : n0 ≤ h3.size := Nat.le_trans Z2 (Keep.of_wr W3).1
  have N3 := Fr.snoc X3 N0 g_b2
  have V3 : Arv Z h3 b2 k2 .int (2 : Int32) [(.int x1), (.int (0 : Int32))] (.int (0 : Int32)) := V30
  refine en_dup X3 hx (hb hby d5_8) (pc' := 9) rfl ?_
  refine en_iconst X3 hx (1 : Int32) (hb hby d5_9) (pc' := 10) ?_
  refine en_iloadN X3 hx (hb hby d5_10) (pc' := 11) rfl ?_
  refine en_iastore X3 hx hZ e3 V3 ⟨by decide, by decide⟩ 1 rfl (Nat.le_of_ble_eq_true rfl) (hb hby d5_11) (pc' := 12) (fun T4 h4 X4 e4 W4 V40 => ?_)
  have F4_o0_maxStates := F3_o0_maxStates.other W4 (Or.inl ne2_o0)
  have F4_o0_states := F3_o0_states.other W4 (Or.inl ne2_o0)
  have F4_o0_parts := F3_o0_parts.other W4 (Or.inl ne2_o0)
  have F4_o0_size := F3_o0_size.other W4 (Or.inl ne2_o0)
  have E4_o0 := E3_o0.wr W4
  have V4_b := V3_b.other W4 ne2_b
  have K4 : Keep h0 h4 [o0, b] := K3.wr W4 (Or.inr sz_b2)
  have Z4 : n0 ≤ h4.size := Nat.le_trans Z3 (Keep.of_wr W4).1
  have N4 := Fr.snoc X4 N3 g_b2
  have V4 : Arv Z h4 b2 k2 .int (2 : Int32) [(.int x1), (.int x1)] (.int (0 : Int32)) := V40
  have H5x : own_SC Z n0 o0 b kA st sz vs h4 := ⟨E4_o0, F4_o0_maxStates, F4_o0_states, F4_o0_parts, F4_o0_size, V4_b, cL1, cN1, cA1, cB1⟩
  refine en_callV X4 hx hZ (rm := ({ frames := 2, cells := 0, slots := 0, locals := 27 } : Room)) (y := (⟨"com/example/querent/querent/match/Automaton$Postfix", "set", "([I)V"⟩ : MethodName)) (z := (⟨"com/example/querent/querent/match/Automaton$Postfix", "set", "([I)V"⟩ : MethodName)) (K := "com/example/querent/querent/match/Automaton$StateCount") hown (tw hw 33 rfl) (tw hw 34 rfl) (notFace_of_selects (args := #[]) (mvT hZ (tw hw 36 rfl))) (tw hw 36 rfl) (tw hw 35 rfl) (tw hw 16 rfl) (tw hw 37 rfl) E4_o0 (by decide) (rm6 l Z a0 hw [] o0 b2 n b kA st sz vs h4 n0 Z4 H5x hs hn) e4 (by decide) 0 rfl (by decide) (by decide) (by decide) (by rw [hml]; rfl) (argsL := [(.ref b2)]) (rest := []) (lenOf pd_1 rfl) rfl (hb hby d5_12) (pc' := 15) (fun v6 T6 Lq6 X6 hQ6 => ?_)
  obtain ⟨h6, e6⟩ : ∃ q, T6.heap = q := ⟨_, rfl⟩
  rw [e6] at hQ6
  obtain ⟨rfl, Nq6, Kq6, Hq5⟩ := hQ6
  have N6 := Fr.app N4 Nq6
  show OwnEnds p e below s _ _ _ T6 m 15 #[.val (.ref o0), .val (.int x1)] []
  have E6_o0 := E4_o0.keep Kq6
  have V6_b2 := V4.keep Kq6 (ninS (Ne.symm ne2_o0) (ninS (Ne.symm ne2_b) nin0))
  have K6 : Keep h0 h6 [o0, b] := Keep.trans K4 Kq6 (allS (Or.inl (List.mem_of_getElem? (i := 0) rfl)) (allS (Or.inl (List.mem_of_getElem? (i := 1) rfl)) all0))
  have Z6 : n0 ≤ h6.size := Nat.le_trans Z4 Kq6.1
  obtain ⟨cE7, cM7, cS7, cP7, cZ7, cV7, cL7, cN7, cA7, cB7⟩ := Hq5
  exact en_ret0 X6 hx hret hlk (hb hby d5_15) (by decide) (by decide) (by first | (rw [e6]; exact ⟨rfl, N6, K6, ⟨cE7, cM7, cS7, cP7, cZ7, cV7, cL7, cN7, cA7, cB7⟩⟩) | exact ⟨rfl, N6, K6, ⟨cE7, cM7, cS7, cP7, cZ7, cV7, cL7, cN7, cA7, cB7⟩⟩)
theorem d14_0 : decode prog_19_method_5_code 0 = .ok (.aload_n 0, 1) := by decide +kernel
theorem d14_1 : decode prog_19_method_5_code 1 = .ok (.lconst 1, 1) := by decide +kernel
theorem d14_2 : decode prog_19_method_5_code 2 = .ok (.invokevirtual 15, 3) := by decide +kernel
theorem d14_5 : decode prog_19_method_5_code 5 = .ok (.aload_n 0, 1) := by decide +kernel
theorem d14_6 : decode prog_19_method_5_code 6 = .ok (.bipush (-6), 2) := by decide +kernel
theorem d14_8 : decode prog_19_method_5_code 8 = .ok (.invokevirtual 30, 3) := by decide +kernel
theorem d14_11 : decode prog_19_method_5_code 11 = .ok (.return_, 1) := by decide +kernel
theorem ef_14 (m : MethodId) (o0 : Addr) : entryFrame m #[(.ref o0)] 1 = mkF m 0 #[.val (.ref o0)] [] := by first | (simp [entryFrame, mkF, argsToLocals, Value.category]; done) | rfl
theorem pd_2 : parseMethodDescriptor "(I)V" = some ⟨[.int], none⟩ := by decide +kernel
set_option maxRecDepth 65536 in
set_option maxHeartbeats 40000000 in
theorem rm14 (l : Launch) (Z : State) (a0 : Array Value) (hw : ∀ d ∈ tables_1, d.before a0 Z = true) (ws : List Jvm.Cond) (o0 : Addr) (n : Nat) (b : Addr) (kA : ClassId) (st : Int64) (sz : Int32) (vs : List Int64) (h0 : Heap) (n0 : Nat) (Z0 : n0 ≤ h0.size) (H0 : own_SC Z n0 o0 b kA st sz vs h0) (hs : sz.toInt = n) (hn : n < 16) : OwnMeets l Z (⟨"com/example/querent/querent/match/Automaton$Postfix", "empty", "()V"⟩ : MethodName) prog_19_method_5_code 1 none ws ({ frames := 2, cells := 0, slots := 0, locals := 27 } : Room) #[(.ref o0)] h0 (fun v h L => v = none ∧ Fr n0 L ∧ Keep h0 h [o0, b] ∧ own_SC Z n0 o0 b kA (st + (1 : Int64)) (sz + (1 : Int32)) (vs.set n (1 : Int64)) h) := by
  refine OwnMeets.of_walk (plainFor_of_name pn_0) (fun m => ef_14 m o0) ?_
  intro p e s m below meth c T0 X0 K e0
  obtain ⟨hx, hby, hml, hret, hlk, hnm, hown, hZ⟩ := id K
  have N0 := Fr.nil n0
  obtain ⟨cE1, cM1, cS1, cP1, cZ1, cV1, cL1, cN1, cA1, cB1⟩ := H0
  refine en_aloadN X0 hx (hb hby d14_0) (pc' := 1) rfl rfl ?_
  refine en_lconst X0 hx (1 : Int64) (hb hby d14_1) (pc' := 2) ?_
  have H2x : own_SC Z n0 o0 b kA st sz vs h0 := ⟨cE1, cM1, cS1, cP1, cZ1, cV1, cL1, cN1, cA1, cB1⟩
  refine en_callQ X0 hx hZ (rm := ({ frames := 0, cells := 0, slots := 0, locals := 0 } : Room)) (y := (⟨"com/example/querent/querent/match/Automaton$Postfix", "count", "(J)V"⟩ : MethodName)) (K := "com/example/querent/querent/match/Automaton$StateCount") hown (tw hw 38 rfl) (tw hw 39 rfl) (tw hw 40 rfl) (tw hw 30 rfl) rfl (tw hw 16 rfl) (tw hw 41 rfl) cE1 (by decide) (rm7 l Z a0 hw [] o0 (1 : Int64) b kA st sz vs h0 n0 Z0 H2x) e0 (by decide) 0 rfl (by decide) (by decide) (by decide) (by rw [hml]; rfl) (argsL := [(.long (1 : Int64))]) (rest := []) (lenOf pd_0 rfl) rfl (hb hby d14_2) (pc' := 5) (fun v3 T3 Lq3 X3 hQ3 => ?_)
  obtain ⟨h3, e3⟩ : ∃ q, T3.heap = q := ⟨_, rfl⟩
  rw [e3] at hQ3
  obtain ⟨rfl, Nq3, Kq3, Hq2⟩ := hQ3
  have N3 := Fr.app N0 Nq3
  show OwnEnds p e below s _ _ _ T3 m 5 #[.val (.ref o0)] []
  have E3_o0 := cE1.keep Kq3
  have K3 : Keep h0 h3 [o0, b] := Keep.trans (Keep.refl h0 [o0, b]) Kq3 (allS (Or.inl (List.mem_of_getElem? (i := 0) rfl)) (allS (Or.inl (List.mem_of_getElem? (i := 1) rfl)) all0))
  have Z3 : n0 ≤ h3.size := Nat.le_trans Z0 Kq3.1
  obtain ⟨cE4, cM4, cS4, cP4, cZ4, cV4, cL4, cN4, cA4, cB4⟩ := Hq2
  refine en_aloadN X3 hx (hb hby d14_5) (pc' := 6) rfl rfl ?_
  refine en_bipush X3 hx (-6 : Int32) (hb hby d14_6) (pc' := 8) ?_
  have H5x : own_SC Z n0 o0 b kA (st + (1 : Int64)) sz vs h3 := ⟨cE4, cM4, cS4, cP4, cZ4, cV4, cL4, cN4, cA4, cB4⟩
  refine en_callV X3 hx hZ (rm := ({ frames := 1, cells := 0, slots := 0, locals := 14 } : Room)) (y := (⟨"com/example/querent/querent/match/Automaton$Postfix", "write", "(I)V"⟩ : MethodName)) (z := (⟨"com/example/querent/querent/match/Automaton$StateCount", "write", "(I)V"⟩ : MethodName)) (K := "com/example/querent/querent/match/Automaton$StateCount") hown (tw hw 80 rfl) (tw hw 81 rfl) (nf_by (args := #[]) (mvT hZ (tw hw 30 rfl)) rfl) (tw hw 82 rfl) (tw hw 83 rfl) (tw hw 8 rfl) (tw hw 84 rfl) cE4 (by decide) (rm15 l Z a0 hw [] o0 (-6 : Int32) n b kA (st + (1 : Int64)) sz vs h3 n0 Z3 H5x hs hn (by decide)) e3 (by decide) 0 rfl (by decide) (by decide) (by decide) (by rw [hml]; rfl) (argsL := [(.int (-6 : Int32))]) (rest := []) (lenOf pd_2 rfl) rfl (hb hby d14_8) (pc' := 11) (fun v6 T6 Lq6 X6 hQ6 => ?_)
  obtain ⟨h6, e6⟩ : ∃ q, T6.heap = q := ⟨_, rfl⟩
  rw [e6] at hQ6
  obtain ⟨rfl, Nq6, Kq6, Hq5⟩ := hQ6
  have N6 := Fr.app N3 Nq6
  show OwnEnds p e below s _ _ _ T6 m 11 #[.val (.ref o0)] []
  have E6_o0 := cE4.keep Kq6
  have K6 : Keep h0 h6 [o0, b] := Keep.trans K3 Kq6 (allS (Or.inl (List.mem_of_getElem? (i := 0) rfl)) (allS (Or.inl (List.mem_of_getElem? (i := 1) rfl)) all0))
  have Z6 : n0 ≤ h6.size := Nat.le_trans Z3 Kq6.1
  obtain ⟨cE7, cM7, cS7, cP7, cZ7, cV7, cL7, cN7, cA7, cB7⟩ := Hq5
  exact en_ret0 X6 hx hret hlk (hb hby d14_11) (by decide) (by decide) (by first | (rw [e6]; exact ⟨rfl, N6, K6, ⟨cE7, cM7, cS7, cP7, cZ7, cV7, cL7, cN7, cA7, cB7⟩⟩) | exact ⟨rfl, N6, K6, ⟨cE7, cM7, cS7, cP7, cZ7, cV7, cL7, cN7, cA7, cB7⟩⟩)
theorem d16_0 : decode prog_19_method_7_code 0 = .ok (.aload_n 0, 1) := by decide +kernel
theorem d16_1 : decode prog_19_method_7_code 1 = .ok (.lconst 1, 1) := by decide +kernel
theorem d16_2 : decode prog_19_method_7_code 2 = .ok (.invokevirtual 15, 3) := by decide +kernel
theorem d16_5 : decode prog_19_method_7_code 5 = .ok (.aload_n 0, 1) := by decide +kernel
theorem d16_6 : decode prog_19_method_7_code 6 = .ok (.bipush (-2), 2) := by decide +kernel
theorem d16_8 : decode prog_19_method_7_code 8 = .ok (.invokevirtual 30, 3) := by decide +kernel
theorem d16_11 : decode prog_19_method_7_code 11 = .ok (.return_, 1) := by decide +kernel
theorem ef_16 (m : MethodId) (o0 : Addr) : entryFrame m #[(.ref o0)] 1 = mkF m 0 #[.val (.ref o0)] [] := by first | (simp [entryFrame, mkF, argsToLocals, Value.category]; done) | rfl
set_option maxRecDepth 65536 in
set_option maxHeartbeats 40000000 in
theorem rm16 (l : Launch) (Z : State) (a0 : Array Value) (hw : ∀ d ∈ tables_1, d.before a0 Z = true) (ws : List Jvm.Cond) (o0 : Addr) (n : Nat) (b : Addr) (kA : ClassId) (st : Int64) (sz : Int32) (vs : List Int64) (h0 : Heap) (n0 : Nat) (Z0 : n0 ≤ h0.size) (H0 : own_SC Z n0 o0 b kA st sz vs h0) (hs : sz.toInt = n) (hn : n < 16) : OwnMeets l Z (⟨"com/example/querent/querent/match/Automaton$Postfix", "alternate", "()V"⟩ : MethodName) prog_19_method_7_code 1 none ws ({ frames := 2, cells := 0, slots := 0, locals := 27 } : Room) #[(.ref o0)] h0 (fun v h L => v = none ∧ Fr n0 L ∧ Keep h0 h [o0, b] ∧ own_SC Z n0 o0 b kA (st + (1 : Int64)) (sz + (1 : Int32)) (vs.set n (1 : Int64)) h) := by
  refine OwnMeets.of_walk (plainFor_of_name pn_0) (fun m => ef_16 m o0) ?_
  intro p e s m below meth c T0 X0 K e0
  obtain ⟨hx, hby, hml, hret, hlk, hnm, hown, hZ⟩ := id K
  have N0 := Fr.nil n0
  obtain ⟨cE1, cM1, cS1, cP1, cZ1, cV1, cL1, cN1, cA1, cB1⟩ := H0
  refine en_aloadN X0 hx (hb hby d16_0) (pc' := 1) rfl rfl ?_
  refine en_lconst X0 hx (1 : Int64) (hb hby d16_1) (pc' := 2) ?_
  have H2x : own_SC Z n0 o0 b kA st sz vs h0 := ⟨cE1, cM1, cS1, cP1, cZ1, cV1, cL1, cN1, cA1, cB1⟩
  refine en_callQ X0 hx hZ (rm := ({ frames := 0, cells := 0, slots := 0, locals := 0 } : Room)) (y := (⟨"com/example/querent/querent/match/Automaton$Postfix", "count", "(J)V"⟩ : MethodName)) (K := "com/example/querent/querent/match/Automaton$StateCount") hown (tw hw 38 rfl) (tw hw 39 rfl) (tw hw 40 rfl) (tw hw 30 rfl) rfl (tw hw 16 rfl) (tw hw 41 rfl) cE1 (by decide) (rm7 l Z a0 hw [] o0 (1 : Int64) b kA st sz vs h0 n0 Z0 H2x) e0 (by decide) 0 rfl (by decide) (by decide) (by decide) (by rw [hml]; rfl) (argsL := [(.long (1 : Int64))]) (rest := []) (lenOf pd_0 rfl) rfl (hb hby d16_2) (pc' := 5) (fun v3 T3 Lq3 X3 hQ3 => ?_)
  obtain ⟨h3, e3⟩ : ∃ q, T3.heap = q := ⟨_, rfl⟩
  rw [e3] at hQ3
  obtain ⟨rfl, Nq3, Kq3, Hq2⟩ := hQ3
  have N3 := Fr.app N0 Nq3
  show OwnEnds p e below s _ _ _ T3 m 5 #[.val (.ref o0)] []
  have E3_o0 := cE1.keep Kq3
  have K3 : Keep h0 h3 [o0, b] := Keep.trans (Keep.refl h0 [o0, b]) Kq3 (allS (Or.inl (List.mem_of_getElem? (i := 0) rfl)) (allS (Or.inl (List.mem_of_getElem? (i := 1) rfl)) all0))
  have Z3 : n0 ≤ h3.size := Nat.le_trans Z0 Kq3.1
  obtain ⟨cE4, cM4, cS4, cP4, cZ4, cV4, cL4, cN4, cA4, cB4⟩ := Hq2
  refine en_aloadN X3 hx (hb hby d16_5) (pc' := 6) rfl rfl ?_
  refine en_bipush X3 hx (-2 : Int32) (hb hby d16_6) (pc' := 8) ?_
  have H5x : own_SC Z n0 o0 b kA (st + (1 : Int64)) sz vs h3 := ⟨cE4, cM4, cS4, cP4, cZ4, cV4, cL4, cN4, cA4, cB4⟩
  refine en_callV X3 hx hZ (rm := ({ frames := 1, cells := 0, slots := 0, locals := 14 } : Room)) (y := (⟨"com/example/querent/querent/match/Automaton$Postfix", "write", "(I)V"⟩ : MethodName)) (z := (⟨"com/example/querent/querent/match/Automaton$StateCount", "write", "(I)V"⟩ : MethodName)) (K := "com/example/querent/querent/match/Automaton$StateCount") hown (tw hw 80 rfl) (tw hw 81 rfl) (nf_by (args := #[]) (mvT hZ (tw hw 30 rfl)) rfl) (tw hw 82 rfl) (tw hw 83 rfl) (tw hw 8 rfl) (tw hw 84 rfl) cE4 (by decide) (rm15 l Z a0 hw [] o0 (-2 : Int32) n b kA (st + (1 : Int64)) sz vs h3 n0 Z3 H5x hs hn (by decide)) e3 (by decide) 0 rfl (by decide) (by decide) (by decide) (by rw [hml]; rfl) (argsL := [(.int (-2 : Int32))]) (rest := []) (lenOf pd_2 rfl) rfl (hb hby d16_8) (pc' := 11) (fun v6 T6 Lq6 X6 hQ6 => ?_)
  obtain ⟨h6, e6⟩ : ∃ q, T6.heap = q := ⟨_, rfl⟩
  rw [e6] at hQ6
  obtain ⟨rfl, Nq6, Kq6, Hq5⟩ := hQ6
  have N6 := Fr.app N3 Nq6
  show OwnEnds p e below s _ _ _ T6 m 11 #[.val (.ref o0)] []
  have E6_o0 := cE4.keep Kq6
  have K6 : Keep h0 h6 [o0, b] := Keep.trans K3 Kq6 (allS (Or.inl (List.mem_of_getElem? (i := 0) rfl)) (allS (Or.inl (List.mem_of_getElem? (i := 1) rfl)) all0))
  have Z6 : n0 ≤ h6.size := Nat.le_trans Z3 Kq6.1
  obtain ⟨cE7, cM7, cS7, cP7, cZ7, cV7, cL7, cN7, cA7, cB7⟩ := Hq5
  exact en_ret0 X6 hx hret hlk (hb hby d16_11) (by decide) (by decide) (by first | (rw [e6]; exact ⟨rfl, N6, K6, ⟨cE7, cM7, cS7, cP7, cZ7, cV7, cL7, cN7, cA7, cB7⟩⟩) | exact ⟨rfl, N6, K6, ⟨cE7, cM7, cS7, cP7, cZ7, cV7, cL7, cN7, cA7, cB7⟩⟩)
theorem d13_0 : decode prog_21_method_6_code 0 = .ok (.aload_n 0, 1) := by decide +kernel
theorem d13_1 : decode prog_21_method_6_code 1 = .ok (.iload_n 1, 1) := by decide +kernel
theorem d13_2 : decode prog_21_method_6_code 2 = .ok (.putfield 13, 3) := by decide +kernel
theorem d13_5 : decode prog_21_method_6_code 5 = .ok (.aload_n 0, 1) := by decide +kernel
theorem d13_6 : decode prog_21_method_6_code 6 = .ok (.lload 4, 2) := by decide +kernel
theorem d13_8 : decode prog_21_method_6_code 8 = .ok (.invokevirtual 17, 3) := by decide +kernel
theorem d13_11 : decode prog_21_method_6_code 11 = .ok (.return_, 1) := by decide +kernel
theorem ef_13 (m : MethodId) (o0 : Addr) (x1 : Int32) (x2 : Int32) (x3 : Int32) (x4 : Int64) : entryFrame m #[(.ref o0), (.int x1), (.int x2), (.int x3), (.long x4)] 6 = mkF m 0 #[.val (.ref o0), .val (.int x1), .val (.int x2), .val (.int x3), .val (.long x4), .second] [] := by first | (simp [entryFrame, mkF, argsToLocals, Value.category]; done) | rfl
set_option maxRecDepth 65536 in
set_option maxHeartbeats 40000000 in
theorem rm13 (l : Launch) (Z : State) (a0 : Array Value) (hw : ∀ d ∈ tables_1, d.before a0 Z = true) (ws : List Jvm.Cond) (o0 : Addr) (x1 : Int32) (x2 : Int32) (x3 : Int32) (x4 : Int64) (n : Nat) (b : Addr) (kA : ClassId) (st : Int64) (sz : Int32) (vs : List Int64) (h0 : Heap) (n0 : Nat) (Z0 : n0 ≤ h0.size) (H0 : own_SC Z n0 o0 b kA st sz vs h0) (hs1 : x1.toInt = n) (hn : n < 16) : OwnMeets l Z (⟨"com/example/querent/querent/match/Automaton$StateCount", "writeCopies", "(IIIJ)V"⟩ : MethodName) prog_21_method_6_code 6 none ws ({ frames := 1, cells := 0, slots := 0, locals := 14 } : Room) #[(.ref o0), (.int x1), (.int x2), (.int x3), (.long x4)] h0 (fun v h L => v = none ∧ Fr n0 L ∧ Keep h0 h [o0, b] ∧ own_SC Z n0 o0 b kA st (x1 + (1 : Int32)) (vs.set n x4) h) := by
  refine OwnMeets.of_walk (plainFor_of_name pn_1) (fun m => ef_13 m o0 x1 x2 x3 x4) ?_
  intro p e s m below meth c T0 X0 K e0
  obtain ⟨hx, hby, hml, hret, hlk, hnm, hown, hZ⟩ := id K
  have N0 := Fr.nil n0
  obtain ⟨cE1, cM1, cS1, cP1, cZ1, cV1, cL1, cN1, cA1, cB1⟩ := H0
  refine en_aloadN X0 hx (hb hby d13_0) (pc' := 1) rfl rfl ?_
  refine en_iloadN X0 hx (hb hby d13_1) (pc' := 2) rfl ?_
  refine en_putF X0 hx hZ hown (host := "") (Or.inl (tw hw 53 rfl)) Via.refl e0 cZ1 cE1 (Or.inl (tw hw 54 rfl)) (tw hw 7 rfl) (ty := .int) (by decide) rfl rfl (hb hby d13_2) (pc' := 5) (fun T2 h2 X2 e2 W2 => ?_)
  have F2_o0_maxStates := cM1.other W2 (Or.inr (slot_ne (Or.inr (tw hw 22 rfl)) (Or.inl (tw hw 54 rfl)) (by decide) (t := .long) (t' := .int) (by decide) (by decide)))
  have F2_o0_states := cS1.other W2 (Or.inr (slot_ne (Or.inl (tw hw 43 rfl)) (Or.inl (tw hw 54 rfl)) (by decide) (t := .long) (t' := .int) (by decide) (by decide)))
  have F2_o0_parts := cP1.other W2 (Or.inr (slot_ne (Or.inl (tw hw 25 rfl)) (Or.inl (tw hw 54 rfl)) (by decide) (t := (.array .long)) (t' := .int) (by decide) (by decide)))
  have E2_o0 := cE1.wr W2
  have V2_b := cV1.other W2 (Ne.symm cN1)
  have K2 : Keep h0 h2 [o0, b] := (Keep.refl h0 [o0, b]).wr W2 (Or.inl (List.mem_of_getElem? (i := 0) rfl))
  have Z2 : n0 ≤ h2.size := Nat.le_trans Z0 (Keep.of_wr W2).1
  have N2 := Fr.snoc X2 N0 cA1
  have F2_o0_size := cZ1.same W2
  refine en_aloadN X2 hx (hb hby d13_5) (pc' := 6) rfl rfl ?_
  refine en_lload X2 hx (hb hby d13_6) (pc' := 8) rfl ?_
  have H3x : own_SC Z n0 o0 b kA st x1 vs h2 := ⟨E2_o0, F2_o0_maxStates, F2_o0_states, F2_o0_parts, F2_o0_size, V2_b, cL1, cN1, cA1, cB1⟩
  refine en_callQ X2 hx hZ (rm := ({ frames := 0, cells := 0, slots := 0, locals := 0 } : Room)) (y := (⟨"com/example/querent/querent/match/Automaton$StateCount", "add", "(J)V"⟩ : MethodName)) (K := "com/example/querent/querent/match/Automaton$StateCount") hown (tw hw 49 rfl) (tw hw 50 rfl) (tw hw 51 rfl) (tw hw 46 rfl) rfl (tw hw 8 rfl) (tw hw 52 rfl) E2_o0 (by decide) (rm9 l Z a0 hw [] o0 x4 n b kA st x1 vs h2 n0 Z2 H3x hs1 hn) e2 (by decide) 0 rfl (by decide) (by decide) (by decide) (by rw [hml]; rfl) (argsL := [(.long x4)]) (rest := []) (lenOf pd_0 rfl) rfl (hb hby d13_8) (pc' := 11) (fun v4 T4 Lq4 X4 hQ4 => ?_)
  obtain ⟨h4, e4⟩ : ∃ q, T4.heap = q := ⟨_, rfl⟩
  rw [e4] at hQ4
  obtain ⟨rfl, Nq4, Kq4, Hq3⟩ := hQ4
  have N4 := Fr.app N2 Nq4
  show OwnEnds p e below s _ _ _ T4 m 11 #[.val (.ref o0), .val (.int x1), .val (.int x2), .val (.int x3), .val (.long x4), .second] []
  have E4_o0 := E2_o0.keep Kq4
  have K4 : Keep h0 h4 [o0, b] := Keep.trans K2 Kq4 (allS (Or.inl (List.mem_of_getElem? (i := 0) rfl)) (allS (Or.inl (List.mem_of_getElem? (i := 1) rfl)) all0))
  have Z4 : n0 ≤ h4.size := Nat.le_trans Z2 Kq4.1
  obtain ⟨cE5, cM5, cS5, cP5, cZ5, cV5, cL5, cN5, cA5, cB5⟩ := Hq3
  exact en_ret0 X4 hx hret hlk (hb hby d13_11) (by decide) (by decide) (by first | (rw [e4]; exact ⟨rfl, N4, K4, ⟨cE5, cM5, cS5, cP5, cZ5, cV5, cL5, cN5, cA5, cB5⟩⟩) | exact ⟨rfl, N4, K4, ⟨cE5, cM5, cS5, cP5, cZ5, cV5, cL5, cN5, cA5, cB5⟩⟩)
theorem d12_0 : decode prog_19_method_16_code 0 = .ok (.iload_n 3, 1) := by decide +kernel
theorem d12_1 : decode prog_19_method_16_code 1 = .ok (.ifCond .ne 9, 3) := by decide +kernel
theorem d12_4 : decode prog_19_method_16_code 4 = .ok (.lconst 1, 1) := by decide +kernel
theorem d12_5 : decode prog_19_method_16_code 5 = .ok (.lstore 4, 2) := by decide +kernel
theorem d12_7 : decode prog_19_method_16_code 7 = .ok (.goto 35, 3) := by decide +kernel
theorem d12_10 : decode prog_19_method_16_code 10 = .ok (.iload_n 3, 1) := by decide +kernel
theorem d12_11 : decode prog_19_method_16_code 11 = .ok (.iconst (-1), 1) := by decide +kernel
theorem d12_12 : decode prog_19_method_16_code 12 = .ok (.if_icmp .ne 14, 3) := by decide +kernel
theorem d12_15 : decode prog_19_method_16_code 15 = .ok (.iload_n 2, 1) := by decide +kernel
theorem d12_16 : decode prog_19_method_16_code 16 = .ok (.i2l, 1) := by decide +kernel
theorem d12_17 : decode prog_19_method_16_code 17 = .ok (.lload_n 0, 1) := by decide +kernel
theorem d12_18 : decode prog_19_method_16_code 18 = .ok (.lmul, 1) := by decide +kernel
theorem d12_19 : decode prog_19_method_16_code 19 = .ok (.lconst 1, 1) := by decide +kernel
theorem d12_20 : decode prog_19_method_16_code 20 = .ok (.ladd, 1) := by decide +kernel
theorem d12_21 : decode prog_19_method_16_code 21 = .ok (.lstore 4, 2) := by decide +kernel
theorem d12_23 : decode prog_19_method_16_code 23 = .ok (.goto 19, 3) := by decide +kernel
theorem d12_26 : decode prog_19_method_16_code 26 = .ok (.iload_n 2, 1) := by decide +kernel
theorem d12_27 : decode prog_19_method_16_code 27 = .ok (.i2l, 1) := by decide +kernel
theorem d12_28 : decode prog_19_method_16_code 28 = .ok (.lload_n 0, 1) := by decide +kernel
theorem d12_29 : decode prog_19_method_16_code 29 = .ok (.lmul, 1) := by decide +kernel
theorem d12_30 : decode prog_19_method_16_code 30 = .ok (.iload_n 3, 1) := by decide +kernel
theorem d12_31 : decode prog_19_method_16_code 31 = .ok (.i2l, 1) := by decide +kernel
theorem d12_32 : decode prog_19_method_16_code 32 = .ok (.iload_n 2, 1) := by decide +kernel
theorem d12_33 : decode prog_19_method_16_code 33 = .ok (.i2l, 1) := by decide +kernel
theorem d12_34 : decode prog_19_method_16_code 34 = .ok (.lsub, 1) := by decide +kernel
theorem d12_35 : decode prog_19_method_16_code 35 = .ok (.lload_n 0, 1) := by decide +kernel
theorem d12_36 : decode prog_19_method_16_code 36 = .ok (.lconst 1, 1) := by decide +kernel
theorem d12_37 : decode prog_19_method_16_code 37 = .ok (.ladd, 1) := by decide +kernel
theorem d12_38 : decode prog_19_method_16_code 38 = .ok (.lmul, 1) := by decide +kernel
theorem d12_39 : decode prog_19_method_16_code 39 = .ok (.ladd, 1) := by decide +kernel
theorem d12_40 : decode prog_19_method_16_code 40 = .ok (.lstore 4, 2) := by decide +kernel
theorem d12_42 : decode prog_19_method_16_code 42 = .ok (.lload 4, 2) := by decide +kernel
theorem d12_44 : decode prog_19_method_16_code 44 = .ok (.lreturn, 1) := by decide +kernel
theorem ef_12 (m : MethodId) (x0 : Int64) (x2 : Int32) (x3 : Int32) : entryFrame m #[(.long x0), (.int x2), (.int x3)] 6 = mkF m 0 #[.val (.long x0), .second, .val (.int x2), .val (.int x3), .unset, .unset] [] := by first | (simp [entryFrame, mkF, argsToLocals, Value.category]; done) | rfl
def f12 (x0 : Int64) (x2 : Int32) (x3 : Int32) : Int64 := (if x3 = (0 : Int32) then (1 : Int64) else (if x3 = (-1 : Int32) then (((x2.toInt64) * x0) + (1 : Int64)) else (((x2.toInt64) * x0) + (((x3.toInt64) - (x2.toInt64)) * (x0 + (1 : Int64))))))
theorem b12_0 {p : Program} {l : Launch} {e : Env} {s : State} {m : MethodId} {args : Array Value} {below : List Frame} {meth : Method} {c : Code} {T : State} {Z : State} {a0 : Array Value} {h : Heap} {C S : Nat} (hw : ∀ d ∈ tables_1, d.before a0 Z = true) (K : Cx p s m meth c Z (⟨"com/example/querent/querent/match/Automaton$Postfix", "copies", "(JII)J"⟩ : MethodName) prog_19_method_16_code 6 (some .long)) (X : Stand p l e ({ frames := 0, cells := 0, slots := 0, locals := 0 } : Room) s m args below meth c T [] 0 0) (eT : T.heap = h) (x0 : Int64) (x2 : Int32) (x3 : Int32)  : OwnEnds p e below s C S (PQ (.long (f12 x0 x2 x3)) h) T m 0 #[.val (.long x0), .second, .val (.int x2), .val (.int x3), .unset, .unset] [] := by
  obtain ⟨hx, hby, hml, hret, hlk, hnm, hown, hZ⟩ := id K
  unfold f12
  refine en_iloadN X hx (hb hby d12_0) (pc' := 1) rfl ?_
  by_cases hc1_0 : x3 = (0 : Int32)
  · rw [if_pos hc1_0]
    refine en_ifNo X hx (hb hby d12_1) ((if0 _ _).trans (teq hc1_0).2) (pc' := 4) ?_
    refine en_lconst X hx (1 : Int64) (hb hby d12_4) (pc' := 5) ?_
    refine en_lstore X hx (hb hby d12_5) (pc' := 7) (Ls' := #[.val (.long x0), .second, .val (.int x2), .val (.int x3), .val (.long (1 : Int64)), .second]) rfl ?_
    refine en_goto X hx (hb hby d12_7) (pc' := 42) ?_
    refine en_lload X hx (hb hby d12_42) (pc' := 44) rfl ?_
    exact en_retL X hx hret hlk (hb hby d12_44) (Nat.zero_le _) (Nat.zero_le _) ⟨rfl, eT, rfl⟩
  · rw [if_neg hc1_0]
    refine en_ifYes X hx (hb hby d12_1) ((if0 _ _).trans (feq hc1_0).2) (pc' := 10) ?_
    refine en_iloadN X hx (hb hby d12_10) (pc' := 11) rfl ?_
    refine en_iconst X hx (-1 : Int32) (hb hby d12_11) (pc' := 12) ?_
    by_cases hc12_1 : x3 = (-1 : Int32)
    · rw [if_pos hc12_1]
      refine en_icmpNo X hx (hb hby d12_12) (teq hc12_1).2 (pc' := 15) ?_
      refine en_iloadN X hx (hb hby d12_15) (pc' := 16) rfl ?_
      refine en_i2l X hx (hb hby d12_16) (pc' := 17) ?_
      refine en_lloadN X hx (hb hby d12_17) (pc' := 18) rfl ?_
      refine en_lmul X hx (hb hby d12_18) (pc' := 19) ?_
      refine en_lconst X hx (1 : Int64) (hb hby d12_19) (pc' := 20) ?_
      refine en_ladd X hx (hb hby d12_20) (pc' := 21) ?_
      refine en_lstore X hx (hb hby d12_21) (pc' := 23) (Ls' := #[.val (.long x0), .second, .val (.int x2), .val (.int x3), .val (.long (((x2.toInt64) * x0) + (1 : Int64))), .second]) rfl ?_
      refine en_goto X hx (hb hby d12_23) (pc' := 42) ?_
      refine en_lload X hx (hb hby d12_42) (pc' := 44) rfl ?_
      exact en_retL X hx hret hlk (hb hby d12_44) (Nat.zero_le _) (Nat.zero_le _) ⟨rfl, eT, rfl⟩
    · rw [if_neg hc12_1]
      refine en_icmpYes X hx (hb hby d12_12) (feq hc12_1).2 (pc' := 26) ?_
      refine en_iloadN X hx (hb hby d12_26) (pc' := 27) rfl ?_
      refine en_i2l X hx (hb hby d12_27) (pc' := 28) ?_
      refine en_lloadN X hx (hb hby d12_28) (pc' := 29) rfl ?_
      refine en_lmul X hx (hb hby d12_29) (pc' := 30) ?_
      refine en_iloadN X hx (hb hby d12_30) (pc' := 31) rfl ?_
      refine en_i2l X hx (hb hby d12_31) (pc' := 32) ?_
      refine en_iloadN X hx (hb hby d12_32) (pc' := 33) rfl ?_
      refine en_i2l X hx (hb hby d12_33) (pc' := 34) ?_
      refine en_lsub X hx (hb hby d12_34) (pc' := 35) ?_
      refine en_lloadN X hx (hb hby d12_35) (pc' := 36) rfl ?_
      refine en_lconst X hx (1 : Int64) (hb hby d12_36) (pc' := 37) ?_
      refine en_ladd X hx (hb hby d12_37) (pc' := 38) ?_
      refine en_lmul X hx (hb hby d12_38) (pc' := 39) ?_
      refine en_ladd X hx (hb hby d12_39) (pc' := 40) ?_
      refine en_lstore X hx (hb hby d12_40) (pc' := 42) (Ls' := #[.val (.long x0), .second, .val (.int x2), .val (.int x3), .val (.long (((x2.toInt64) * x0) + (((x3.toInt64) - (x2.toInt64)) * (x0 + (1 : Int64))))), .second]) rfl ?_
      refine en_lload X hx (hb hby d12_42) (pc' := 44) rfl ?_
      exact en_retL X hx hret hlk (hb hby d12_44) (Nat.zero_le _) (Nat.zero_le _) ⟨rfl, eT, rfl⟩
theorem rm12 (l : Launch) (Z : State) (a0 : Array Value) (hw : ∀ d ∈ tables_1, d.before a0 Z = true) (ws : List Jvm.Cond) (x0 : Int64) (x2 : Int32) (x3 : Int32) (h0 : Heap) : OwnMeets l Z (⟨"com/example/querent/querent/match/Automaton$Postfix", "copies", "(JII)J"⟩ : MethodName) prog_19_method_16_code 6 (some .long) ws ({ frames := 0, cells := 0, slots := 0, locals := 0 } : Room) #[(.long x0), (.int x2), (.int x3)] h0 (PQ (.long (f12 x0 x2 x3)) h0) :=
  OwnMeets.of_walk (plainFor_of_name pn_0) (fun m => ef_12 m x0 x2 x3) (fun p e s m below meth c T X K eT => b12_0 hw K X eT x0 x2 x3)
theorem d1_0 : decode jdk_29_method_65_code 0 = .ok (.iload_n 0, 1) := by decide +kernel
theorem d1_1 : decode jdk_29_method_65_code 1 = .ok (.iload_n 1, 1) := by decide +kernel
theorem d1_2 : decode jdk_29_method_65_code 2 = .ok (.if_icmp .lt 7, 3) := by decide +kernel
theorem d1_5 : decode jdk_29_method_65_code 5 = .ok (.iload_n 0, 1) := by decide +kernel
theorem d1_6 : decode jdk_29_method_65_code 6 = .ok (.goto 4, 3) := by decide +kernel
theorem d1_9 : decode jdk_29_method_65_code 9 = .ok (.iload_n 1, 1) := by decide +kernel
theorem d1_10 : decode jdk_29_method_65_code 10 = .ok (.ireturn, 1) := by decide +kernel
theorem ef_1 (m : MethodId) (x0 : Int32) (x1 : Int32) : entryFrame m #[(.int x0), (.int x1)] 2 = mkF m 0 #[.val (.int x0), .val (.int x1)] [] := by first | (simp [entryFrame, mkF, argsToLocals, Value.category]; done) | rfl
def f1 (x0 : Int32) (x1 : Int32) : Int32 := (if x0 < x1 then x1 else x0)
theorem b1_0 {p : Program} {l : Launch} {e : Env} {s : State} {m : MethodId} {args : Array Value} {below : List Frame} {meth : Method} {c : Code} {T : State} {Z : State} {a0 : Array Value} {h : Heap} {C S : Nat} (hw : ∀ d ∈ tables_1, d.before a0 Z = true) (K : Cx p s m meth c Z (⟨"java/lang/Math", "max", "(II)I"⟩ : MethodName) jdk_29_method_65_code 2 (some .int)) (X : Stand p l e ({ frames := 0, cells := 0, slots := 0, locals := 0 } : Room) s m args below meth c T [] 0 0) (eT : T.heap = h) (x0 : Int32) (x1 : Int32)  : OwnEnds p e below s C S (PQ (.int (f1 x0 x1)) h) T m 0 #[.val (.int x0), .val (.int x1)] [] := by
  obtain ⟨hx, hby, hml, hret, hlk, hnm, hown, hZ⟩ := id K
  unfold f1
  refine en_iloadN X hx (hb hby d1_0) (pc' := 1) rfl ?_
  refine en_iloadN X hx (hb hby d1_1) (pc' := 2) rfl ?_
  by_cases hc2_0 : x0 < x1
  · rw [if_pos hc2_0]
    refine en_icmpYes X hx (hb hby d1_2) (tlt hc2_0).1 (pc' := 9) ?_
    refine en_iloadN X hx (hb hby d1_9) (pc' := 10) rfl ?_
    exact en_retI X hx hret hlk (hb hby d1_10) (Nat.zero_le _) (Nat.zero_le _) ⟨rfl, eT, rfl⟩
  · rw [if_neg hc2_0]
    refine en_icmpNo X hx (hb hby d1_2) (flt hc2_0).1 (pc' := 5) ?_
    refine en_iloadN X hx (hb hby d1_5) (pc' := 6) rfl ?_
    refine en_goto X hx (hb hby d1_6) (pc' := 10) ?_
    exact en_retI X hx hret hlk (hb hby d1_10) (Nat.zero_le _) (Nat.zero_le _) ⟨rfl, eT, rfl⟩
theorem rm1 (l : Launch) (Z : State) (a0 : Array Value) (hw : ∀ d ∈ tables_1, d.before a0 Z = true) (ws : List Jvm.Cond) (x0 : Int32) (x1 : Int32) (h0 : Heap) : OwnMeets l Z (⟨"java/lang/Math", "max", "(II)I"⟩ : MethodName) jdk_29_method_65_code 2 (some .int) ws ({ frames := 0, cells := 0, slots := 0, locals := 0 } : Room) #[(.int x0), (.int x1)] h0 (PQ (.int (f1 x0 x1)) h0) :=
  OwnMeets.of_walk (Jvm.Free.JP.mathPlain rfl (by decide +kernel)) (fun m => ef_1 m x0 x1) (fun p e s m below meth c T X K eT => b1_0 hw K X eT x0 x1)
theorem d11_0 : decode prog_21_method_5_code 0 = .ok (.lconst 0, 1) := by decide +kernel
theorem d11_1 : decode prog_21_method_5_code 1 = .ok (.lstore_n 2, 1) := by decide +kernel
theorem d11_2 : decode prog_21_method_5_code 2 = .ok (.iload_n 1, 1) := by decide +kernel
theorem d11_3 : decode prog_21_method_5_code 3 = .ok (.istore 4, 2) := by decide +kernel
theorem d11_5 : decode prog_21_method_5_code 5 = .ok (.iload 4, 2) := by decide +kernel
theorem d11_7 : decode prog_21_method_5_code 7 = .ok (.aload_n 0, 1) := by decide +kernel
theorem d11_8 : decode prog_21_method_5_code 8 = .ok (.getfield 13, 3) := by decide +kernel
theorem d11_11 : decode prog_21_method_5_code 11 = .ok (.if_icmp .ge 19, 3) := by decide +kernel
theorem d11_14 : decode prog_21_method_5_code 14 = .ok (.lload_n 2, 1) := by decide +kernel
theorem d11_15 : decode prog_21_method_5_code 15 = .ok (.aload_n 0, 1) := by decide +kernel
theorem d11_16 : decode prog_21_method_5_code 16 = .ok (.getfield 7, 3) := by decide +kernel
theorem d11_19 : decode prog_21_method_5_code 19 = .ok (.iload 4, 2) := by decide +kernel
theorem d11_21 : decode prog_21_method_5_code 21 = .ok (.laload, 1) := by decide +kernel
theorem d11_22 : decode prog_21_method_5_code 22 = .ok (.ladd, 1) := by decide +kernel
theorem d11_23 : decode prog_21_method_5_code 23 = .ok (.lstore_n 2, 1) := by decide +kernel
theorem d11_24 : decode prog_21_method_5_code 24 = .ok (.iinc 4 1, 3) := by decide +kernel
theorem d11_27 : decode prog_21_method_5_code 27 = .ok (.goto (-22), 3) := by decide +kernel
theorem d11_30 : decode prog_21_method_5_code 30 = .ok (.lload_n 2, 1) := by decide +kernel
theorem d11_31 : decode prog_21_method_5_code 31 = .ok (.lreturn, 1) := by decide +kernel
set_option maxHeartbeats 4000000 in
theorem loop11 {p : Program} {l : Launch} {e : Env} {s : State} {m : MethodId} {args : Array Value} {below : List Frame} {meth : Method} {c : Code} {Z : State} {a0 : Array Value} {h : Heap} {n0 : Nat} {kA : ClassId} {o0 b : Addr} {x1 sz : Int32} {st : Int64} {vs : List Int64} {n : Nat} (hw : ∀ d ∈ tables_1, d.before a0 Z = true) (K : Cx p s m meth c Z (⟨"com/example/querent/querent/match/Automaton$StateCount", "statesFrom", "(I)J"⟩ : MethodName) prog_21_method_5_code 5 (some .long)) (H0 : own_SC Z n0 o0 b kA st sz vs h) (hs : sz.toInt = n) (hn16 : n ≤ 16) (k : Nat) :
    ∀ (i : Nat) (iI : Int32) (acc : Int64) (T : State) (X : Stand p l e ({ frames := 0, cells := 0, slots := 0, locals := 0 } : Room) s m args below meth c T [] 0 0) (eT : T.heap = h), n - i ≤ k → iI.toInt = i → OwnEnds p e below s ({ frames := 0, cells := 0, slots := 0, locals := 0 } : Room).cells ({ frames := 0, cells := 0, slots := 0, locals := 0 } : Room).slots (PQ (.long (own_acc acc vs i (n - i))) h) T m 5 #[.val (.ref o0), .val (.int x1), .val (.long acc), .second, .val (.int iI)] [] := by
  obtain ⟨hx, hby, hml, hret, hlk, hnm, hown, hZ⟩ := id K
  induction k with
  | zero =>
    intro i iI acc T X eT hk hi
    obtain ⟨cE1, cM1, cS1, cP1, cZ1, cV1, cL1, cN1, cA1, cB1⟩ := H0
    refine en_iload X hx (hb hby d11_5) (pc' := 7) rfl ?_
    refine en_aloadN X hx (hb hby d11_7) (pc' := 8) rfl rfl ?_
    refine en_getF X hx hZ hown (host := "") (Or.inl (tw hw 53 rfl)) Via.refl eT cZ1 (hb hby d11_8) (pc' := 11) (fun T2 X2 e2 => ?_)
    by_cases hlt : iI < sz
    · refine en_icmpNo X2 hx (hb hby d11_11) (tlt hlt).2.1 (pc' := 14) ?_
      have hil : i < n := by rw [Int32.lt_iff_toInt_lt, hi, hs] at hlt; omega
      exact absurd hil (by omega)
    · refine en_icmpYes X2 hx (hb hby d11_11) (flt hlt).2.1 (pc' := 30) ?_
      have hge : n - i = 0 := by rw [Int32.lt_iff_toInt_lt, hi, hs] at hlt; omega
      rw [hge]
      refine en_lloadN X2 hx (hb hby d11_30) (pc' := 31) rfl ?_
      exact en_retL X2 hx hret hlk (hb hby d11_31) (by decide) (by decide) (by first | (rw [e2]; exact ⟨rfl, rfl, rfl⟩) | exact ⟨rfl, rfl, rfl⟩)
  | succ k ih =>
    intro i iI acc T X eT hk hi
    obtain ⟨cE1, cM1, cS1, cP1, cZ1, cV1, cL1, cN1, cA1, cB1⟩ := H0
    refine en_iload X hx (hb hby d11_5) (pc' := 7) rfl ?_
    refine en_aloadN X hx (hb hby d11_7) (pc' := 8) rfl rfl ?_
    refine en_getF X hx hZ hown (host := "") (Or.inl (tw hw 53 rfl)) Via.refl eT cZ1 (hb hby d11_8) (pc' := 11) (fun T2 X2 e2 => ?_)
    by_cases hlt : iI < sz
    · refine en_icmpNo X2 hx (hb hby d11_11) (tlt hlt).2.1 (pc' := 14) ?_
      have hil : i < n := by rw [Int32.lt_iff_toInt_lt, hi, hs] at hlt; omega
      have hq : n - i = (n - (i + 1)) + 1 := by omega
      rw [hq]
      refine en_lloadN X2 hx (hb hby d11_14) (pc' := 15) rfl ?_
      refine en_aloadN X2 hx (hb hby d11_15) (pc' := 16) rfl rfl ?_
      refine en_getF X2 hx hZ hown (host := "") (Or.inl (tw hw 24 rfl)) Via.refl e2 cP1 (hb hby d11_16) (pc' := 19) (fun T3 X3 e3 => ?_)
      refine en_iload X3 hx (hb hby d11_19) (pc' := 21) rfl ?_
      refine en_laload X3 hx hZ e3 cV1 (own_in hi (by omega)) (x := (vs.getD i 0)) (by rw [own_clamp hi]; exact own_get vs i) (hb hby d11_21) (pc' := 22) ?_
      refine en_ladd X3 hx (hb hby d11_22) (pc' := 23) ?_
      refine en_lstoreN X3 hx (hb hby d11_23) (pc' := 24) (Ls' := #[.val (.ref o0), .val (.int x1), .val (.long (acc + (vs.getD i 0))), .second, .val (.int iI)]) rfl ?_
      refine en_iinc X3 hx (hb hby d11_24) (pc' := 27) (Ls' := #[.val (.ref o0), .val (.int x1), .val (.long (acc + (vs.getD i 0))), .second, .val (.int (iI + (1 : Int32)))]) rfl rfl ?_
      refine en_goto X3 hx (hb hby d11_27) (pc' := 5) ?_
      exact ih (i + 1) _ _ _ X3 e3 (by omega) (own_inc hi (by omega))
    · refine en_icmpYes X2 hx (hb hby d11_11) (flt hlt).2.1 (pc' := 30) ?_
      have hge : n - i = 0 := by rw [Int32.lt_iff_toInt_lt, hi, hs] at hlt; omega
      rw [hge]
      refine en_lloadN X2 hx (hb hby d11_30) (pc' := 31) rfl ?_
      exact en_retL X2 hx hret hlk (hb hby d11_31) (by decide) (by decide) (by first | (rw [e2]; exact ⟨rfl, rfl, rfl⟩) | exact ⟨rfl, rfl, rfl⟩)
theorem ef_11 (m : MethodId) (o0 : Addr) (x1 : Int32) : entryFrame m #[(.ref o0), (.int x1)] 5 = mkF m 0 #[.val (.ref o0), .val (.int x1), .unset, .unset, .unset] [] := by first | (simp [entryFrame, mkF, argsToLocals, Value.category]; done) | rfl
set_option maxRecDepth 65536 in
set_option maxHeartbeats 40000000 in
theorem rm11 (l : Launch) (Z : State) (a0 : Array Value) (hw : ∀ d ∈ tables_1, d.before a0 Z = true) (ws : List Jvm.Cond) (o0 : Addr) (x1 : Int32) (i : Nat) (n : Nat) (b : Addr) (kA : ClassId) (st : Int64) (sz : Int32) (vs : List Int64) (h0 : Heap) (n0 : Nat) (Z0 : n0 ≤ h0.size) (H0 : own_SC Z n0 o0 b kA st sz vs h0) (hi : x1.toInt = i) (hs : sz.toInt = n) (hn16 : n ≤ 16) : OwnMeets l Z (⟨"com/example/querent/querent/match/Automaton$StateCount", "statesFrom", "(I)J"⟩ : MethodName) prog_21_method_5_code 5 (some .long) ws ({ frames := 0, cells := 0, slots := 0, locals := 0 } : Room) #[(.ref o0), (.int x1)] h0 (PQ (.long (own_acc (0 : Int64) vs i (n - i))) h0) := by
  refine OwnMeets.of_walk (plainFor_of_name pn_1) (fun m => ef_11 m o0 x1) ?_
  intro p e s m below meth c T0 X0 K e0
  obtain ⟨hx, hby, hml, hret, hlk, hnm, hown, hZ⟩ := id K
  have N0 := Fr.nil n0
  have H0' := H0
  refine en_lconst X0 hx (0 : Int64) (hb hby d11_0) (pc' := 1) ?_
  refine en_lstoreN X0 hx (hb hby d11_1) (pc' := 2) (Ls' := #[.val (.ref o0), .val (.int x1), .val (.long (0 : Int64)), .second, .unset]) rfl ?_
  refine en_iloadN X0 hx (hb hby d11_2) (pc' := 3) rfl ?_
  refine en_istore X0 hx (hb hby d11_3) (pc' := 5) (Ls' := #[.val (.ref o0), .val (.int x1), .val (.long (0 : Int64)), .second, .val (.int x1)]) rfl ?_
  exact loop11 hw K H0' hs hn16 n i _ _ _ X0 e0 (by omega) hi
theorem d10_0 : decode prog_19_method_10_code 0 = .ok (.iload_n 3, 1) := by decide +kernel
theorem d10_1 : decode prog_19_method_10_code 1 = .ok (.iconst (-1), 1) := by decide +kernel
theorem d10_2 : decode prog_19_method_10_code 2 = .ok (.if_icmp .ne 31, 3) := by decide +kernel
theorem d10_5 : decode prog_19_method_10_code 5 = .ok (.iload_n 2, 1) := by decide +kernel
theorem d10_6 : decode prog_19_method_10_code 6 = .ok (.iconst 1, 1) := by decide +kernel
theorem d10_7 : decode prog_19_method_10_code 7 = .ok (.if_icmp .gt 26, 3) := by decide +kernel
theorem d10_10 : decode prog_19_method_10_code 10 = .ok (.aload_n 0, 1) := by decide +kernel
theorem d10_11 : decode prog_19_method_10_code 11 = .ok (.lconst 1, 1) := by decide +kernel
theorem d10_12 : decode prog_19_method_10_code 12 = .ok (.invokevirtual 15, 3) := by decide +kernel
theorem d10_15 : decode prog_19_method_10_code 15 = .ok (.aload_n 0, 1) := by decide +kernel
theorem d10_16 : decode prog_19_method_10_code 16 = .ok (.iload_n 2, 1) := by decide +kernel
theorem d10_17 : decode prog_19_method_10_code 17 = .ok (.ifCond .ne 8, 3) := by decide +kernel
theorem d10_20 : decode prog_19_method_10_code 20 = .ok (.bipush (-3), 2) := by decide +kernel
theorem d10_22 : decode prog_19_method_10_code 22 = .ok (.goto 5, 3) := by decide +kernel
theorem d10_25 : decode prog_19_method_10_code 25 = .ok (.bipush (-4), 2) := by decide +kernel
theorem d10_27 : decode prog_19_method_10_code 27 = .ok (.invokevirtual 30, 3) := by decide +kernel
theorem d10_30 : decode prog_19_method_10_code 30 = .ok (.goto 60, 3) := by decide +kernel
theorem d10_33 : decode prog_19_method_10_code 33 = .ok (.iload_n 3, 1) := by decide +kernel
theorem d10_34 : decode prog_19_method_10_code 34 = .ok (.iconst 1, 1) := by decide +kernel
theorem d10_35 : decode prog_19_method_10_code 35 = .ok (.if_icmp .ne 21, 3) := by decide +kernel
theorem d10_38 : decode prog_19_method_10_code 38 = .ok (.iload_n 2, 1) := by decide +kernel
theorem d10_39 : decode prog_19_method_10_code 39 = .ok (.ifCond .ne 51, 3) := by decide +kernel
theorem d10_42 : decode prog_19_method_10_code 42 = .ok (.aload_n 0, 1) := by decide +kernel
theorem d10_43 : decode prog_19_method_10_code 43 = .ok (.lconst 1, 1) := by decide +kernel
theorem d10_44 : decode prog_19_method_10_code 44 = .ok (.invokevirtual 15, 3) := by decide +kernel
theorem d10_47 : decode prog_19_method_10_code 47 = .ok (.aload_n 0, 1) := by decide +kernel
theorem d10_48 : decode prog_19_method_10_code 48 = .ok (.bipush (-5), 2) := by decide +kernel
theorem d10_50 : decode prog_19_method_10_code 50 = .ok (.invokevirtual 30, 3) := by decide +kernel
theorem d10_53 : decode prog_19_method_10_code 53 = .ok (.goto 37, 3) := by decide +kernel
theorem d10_56 : decode prog_19_method_10_code 56 = .ok (.aload_n 0, 1) := by decide +kernel
theorem d10_57 : decode prog_19_method_10_code 57 = .ok (.iload_n 1, 1) := by decide +kernel
theorem d10_58 : decode prog_19_method_10_code 58 = .ok (.invokevirtual 34, 3) := by decide +kernel
theorem d10_61 : decode prog_19_method_10_code 61 = .ok (.lstore 4, 2) := by decide +kernel
theorem d10_63 : decode prog_19_method_10_code 63 = .ok (.lload 4, 2) := by decide +kernel
theorem d10_65 : decode prog_19_method_10_code 65 = .ok (.iload_n 2, 1) := by decide +kernel
theorem d10_66 : decode prog_19_method_10_code 66 = .ok (.iload_n 3, 1) := by decide +kernel
theorem d10_67 : decode prog_19_method_10_code 67 = .ok (.invokestatic 38, 3) := by decide +kernel
theorem d10_70 : decode prog_19_method_10_code 70 = .ok (.lstore 6, 2) := by decide +kernel
theorem d10_72 : decode prog_19_method_10_code 72 = .ok (.aload_n 0, 1) := by decide +kernel
theorem d10_73 : decode prog_19_method_10_code 73 = .ok (.lload 6, 2) := by decide +kernel
theorem d10_75 : decode prog_19_method_10_code 75 = .ok (.lload 4, 2) := by decide +kernel
theorem d10_77 : decode prog_19_method_10_code 77 = .ok (.lsub, 1) := by decide +kernel
theorem d10_78 : decode prog_19_method_10_code 78 = .ok (.invokevirtual 15, 3) := by decide +kernel
theorem d10_81 : decode prog_19_method_10_code 81 = .ok (.aload_n 0, 1) := by decide +kernel
theorem d10_82 : decode prog_19_method_10_code 82 = .ok (.iload_n 1, 1) := by decide +kernel
theorem d10_83 : decode prog_19_method_10_code 83 = .ok (.iload_n 2, 1) := by decide +kernel
theorem d10_84 : decode prog_19_method_10_code 84 = .ok (.iload_n 3, 1) := by decide +kernel
theorem d10_85 : decode prog_19_method_10_code 85 = .ok (.lload 6, 2) := by decide +kernel
theorem d10_87 : decode prog_19_method_10_code 87 = .ok (.invokevirtual 42, 3) := by decide +kernel
theorem d10_90 : decode prog_19_method_10_code 90 = .ok (.return_, 1) := by decide +kernel
theorem ef_10 (m : MethodId) (o0 : Addr) (x1 : Int32) (x2 : Int32) (x3 : Int32) : entryFrame m #[(.ref o0), (.int x1), (.int x2), (.int x3)] 8 = mkF m 0 #[.val (.ref o0), .val (.int x1), .val (.int x2), .val (.int x3), .unset, .unset, .unset, .unset] [] := by first | (simp [entryFrame, mkF, argsToLocals, Value.category]; done) | rfl
theorem pd_3 : parseMethodDescriptor "(I)J" = some ⟨[.int], some .long⟩ := by decide +kernel
theorem pd_4 : parseMethodDescriptor "(JII)J" = some ⟨[.long, .int, .int], some .long⟩ := by decide +kernel
theorem pd_5 : parseMethodDescriptor "(IIIJ)V" = some ⟨[.int, .int, .int, .long], none⟩ := by decide +kernel
set_option maxRecDepth 65536 in
set_option maxHeartbeats 40000000 in
theorem rm10 (l : Launch) (Z : State) (a0 : Array Value) (hw : ∀ d ∈ tables_1, d.before a0 Z = true) (ws : List Jvm.Cond) (o0 : Addr) (x1 : Int32) (x2 : Int32) (x3 : Int32) (i : Nat) (n : Nat) (b : Addr) (kA : ClassId) (st : Int64) (sz : Int32) (vs : List Int64) (h0 : Heap) (n0 : Nat) (Z0 : n0 ≤ h0.size) (H0 : own_SC Z n0 o0 b kA st sz vs h0) (hi : x1.toInt = i) (hi16 : i < 16) (hs : sz.toInt = n) (hn16 : n ≤ 16) (h2 : x3 = (-1 : Int32) → (1 : Int32) < x2) (h3 : ¬ x3 = (1 : Int32)) : OwnMeets l Z (⟨"com/example/querent/querent/match/Automaton$Postfix", "repeat", "(III)V"⟩ : MethodName) prog_19_method_10_code 8 none ws ({ frames := 5, cells := 0, slots := 0, locals := 100 } : Room) #[(.ref o0), (.int x1), (.int x2), (.int x3)] h0 (fun v h L => v = none ∧ Fr n0 L ∧ Keep h0 h [o0, b] ∧ own_SC Z n0 o0 b kA (st + ((f12 (own_acc (0 : Int64) vs i (n - i)) x2 x3) - (own_acc (0 : Int64) vs i (n - i)))) (x1 + (1 : Int32)) (vs.set i (f12 (own_acc (0 : Int64) vs i (n - i)) x2 x3)) h) := by
  refine OwnMeets.of_walk (plainFor_of_name pn_0) (fun m => ef_10 m o0 x1 x2 x3) ?_
  intro p e s m below meth c T0 X0 K e0
  obtain ⟨hx, hby, hml, hret, hlk, hnm, hown, hZ⟩ := id K
  have N0 := Fr.nil n0
  obtain ⟨cE1, cM1, cS1, cP1, cZ1, cV1, cL1, cN1, cA1, cB1⟩ := H0
  refine en_iloadN X0 hx (hb hby d10_0) (pc' := 1) rfl ?_
  refine en_iconst X0 hx (-1 : Int32) (hb hby d10_1) (pc' := 2) ?_
  have J : OwnEnds p e below s ({ frames := 5, cells := 0, slots := 0, locals := 100 } : Room).cells ({ frames := 5, cells := 0, slots := 0, locals := 100 } : Room).slots (fun v h L => v = none ∧ Fr n0 L ∧ Keep h0 h [o0, b] ∧ own_SC Z n0 o0 b kA (st + ((f12 (own_acc (0 : Int64) vs i (n - i)) x2 x3) - (own_acc (0 : Int64) vs i (n - i)))) (x1 + (1 : Int32)) (vs.set i (f12 (own_acc (0 : Int64) vs i (n - i)) x2 x3)) h) T0 m 33 #[.val (.ref o0), .val (.int x1), .val (.int x2), .val (.int x3), .unset, .unset, .unset, .unset] [] := by
    refine en_iloadN X0 hx (hb hby d10_33) (pc' := 34) rfl ?_
    refine en_iconst X0 hx (1 : Int32) (hb hby d10_34) (pc' := 35) ?_
    refine en_icmpYes X0 hx (hb hby d10_35) (feq h3).2 (pc' := 56) ?_
    refine en_aloadN X0 hx (hb hby d10_56) (pc' := 57) rfl rfl ?_
    refine en_iloadN X0 hx (hb hby d10_57) (pc' := 58) rfl ?_
    have H2x : own_SC Z n0 o0 b kA st sz vs h0 := ⟨cE1, cM1, cS1, cP1, cZ1, cV1, cL1, cN1, cA1, cB1⟩
    refine en_callVP X0 hx hZ (y := (⟨"com/example/querent/querent/match/Automaton$Postfix", "statesFrom", "(I)J"⟩ : MethodName)) (z := (⟨"com/example/querent/querent/match/Automaton$StateCount", "statesFrom", "(I)J"⟩ : MethodName)) (K := "com/example/querent/querent/match/Automaton$StateCount") (fr := 0) (lo := 0) hown (tw hw 61 rfl) (tw hw 62 rfl) (nf_by (args := #[]) (mvT hZ (tw hw 30 rfl)) rfl) (tw hw 63 rfl) (tw hw 64 rfl) (tw hw 8 rfl) (tw hw 65 rfl) cE1 (by decide) (rm11 l Z a0 hw [] o0 x1 i n b kA st sz vs _ n0 Z0 H2x hi hs hn16) e0 (by decide) 0 rfl (by decide) (by decide) (by decide) (by rw [hml]; rfl) (argsL := [(.int x1)]) (rest := []) (lenOf pd_3 rfl) rfl (hb hby d10_58) (pc' := 61) (fun T3 X3 e3 => ?_)
    refine en_lstore X3 hx (hb hby d10_61) (pc' := 63) (Ls' := #[.val (.ref o0), .val (.int x1), .val (.int x2), .val (.int x3), .val (.long (own_acc (0 : Int64) vs i (n - i))), .second, .unset, .unset]) rfl ?_
    refine en_lload X3 hx (hb hby d10_63) (pc' := 65) rfl ?_
    refine en_iloadN X3 hx (hb hby d10_65) (pc' := 66) rfl ?_
    refine en_iloadN X3 hx (hb hby d10_66) (pc' := 67) rfl ?_
    refine en_callP X3 hx hZ hown (tw hw 66 rfl) (tw hw 67 rfl) (tw hw 16 rfl) (tw hw 68 rfl) (by decide) (rm12 l Z a0 hw [] (own_acc (0 : Int64) vs i (n - i)) x2 x3 _) e3 (by decide) 0 rfl (by decide) (by decide) (by decide) (by rw [hml]; rfl) (argsL := [(.long (own_acc (0 : Int64) vs i (n - i))), (.int x2), (.int x3)]) (rest := []) (lenOf pd_4 rfl) rfl (hb hby d10_67) (pc' := 70) (fun T4 X4 e4 => ?_)
    refine en_lstore X4 hx (hb hby d10_70) (pc' := 72) (Ls' := #[.val (.ref o0), .val (.int x1), .val (.int x2), .val (.int x3), .val (.long (own_acc (0 : Int64) vs i (n - i))), .second, .val (.long (f12 (own_acc (0 : Int64) vs i (n - i)) x2 x3)), .second]) rfl ?_
    refine en_aloadN X4 hx (hb hby d10_72) (pc' := 73) rfl rfl ?_
    refine en_lload X4 hx (hb hby d10_73) (pc' := 75) rfl ?_
    refine en_lload X4 hx (hb hby d10_75) (pc' := 77) rfl ?_
    refine en_lsub X4 hx (hb hby d10_77) (pc' := 78) ?_
    have H5x : own_SC Z n0 o0 b kA st sz vs h0 := ⟨cE1, cM1, cS1, cP1, cZ1, cV1, cL1, cN1, cA1, cB1⟩
    refine en_callQ X4 hx hZ (rm := ({ frames := 0, cells := 0, slots := 0, locals := 0 } : Room)) (y := (⟨"com/example/querent/querent/match/Automaton$Postfix", "count", "(J)V"⟩ : MethodName)) (K := "com/example/querent/querent/match/Automaton$StateCount") hown (tw hw 38 rfl) (tw hw 39 rfl) (tw hw 40 rfl) (tw hw 30 rfl) rfl (tw hw 16 rfl) (tw hw 41 rfl) cE1 (by decide) (rm7 l Z a0 hw [] o0 ((f12 (own_acc (0 : Int64) vs i (n - i)) x2 x3) - (own_acc (0 : Int64) vs i (n - i))) b kA st sz vs h0 n0 Z0 H5x) e4 (by decide) 0 rfl (by decide) (by decide) (by decide) (by rw [hml]; rfl) (argsL := [(.long ((f12 (own_acc (0 : Int64) vs i (n - i)) x2 x3) - (own_acc (0 : Int64) vs i (n - i))))]) (rest := []) (lenOf pd_0 rfl) rfl (hb hby d10_78) (pc' := 81) (fun v6 T6 Lq6 X6 hQ6 => ?_)
    obtain ⟨h6, e6⟩ : ∃ q, T6.heap = q := ⟨_, rfl⟩
    rw [e6] at hQ6
    obtain ⟨rfl, Nq6, Kq6, Hq5⟩ := hQ6
    have N6 := Fr.app N0 Nq6
    show OwnEnds p e below s _ _ _ T6 m 81 #[.val (.ref o0), .val (.int x1), .val (.int x2), .val (.int x3), .val (.long (own_acc (0 : Int64) vs i (n - i))), .second, .val (.long (f12 (own_acc (0 : Int64) vs i (n - i)) x2 x3)), .second] []
    have E6_o0 := cE1.keep Kq6
    have K6 : Keep h0 h6 [o0, b] := Keep.trans (Keep.refl h0 [o0, b]) Kq6 (allS (Or.inl (List.mem_of_getElem? (i := 0) rfl)) (allS (Or.inl (List.mem_of_getElem? (i := 1) rfl)) all0))
    have Z6 : n0 ≤ h6.size := Nat.le_trans Z0 Kq6.1
    obtain ⟨cE7, cM7, cS7, cP7, cZ7, cV7, cL7, cN7, cA7, cB7⟩ := Hq5
    refine en_aloadN X6 hx (hb hby d10_81) (pc' := 82) rfl rfl ?_
    refine en_iloadN X6 hx (hb hby d10_82) (pc' := 83) rfl ?_
    refine en_iloadN X6 hx (hb hby d10_83) (pc' := 84) rfl ?_
    refine en_iloadN X6 hx (hb hby d10_84) (pc' := 85) rfl ?_
    refine en_lload X6 hx (hb hby d10_85) (pc' := 87) rfl ?_
    have H8x : own_SC Z n0 o0 b kA (st + ((f12 (own_acc (0 : Int64) vs i (n - i)) x2 x3) - (own_acc (0 : Int64) vs i (n - i)))) sz vs h6 := ⟨cE7, cM7, cS7, cP7, cZ7, cV7, cL7, cN7, cA7, cB7⟩
    refine en_callV X6 hx hZ (rm := ({ frames := 1, cells := 0, slots := 0, locals := 14 } : Room)) (y := (⟨"com/example/querent/querent/match/Automaton$Postfix", "writeCopies", "(IIIJ)V"⟩ : MethodName)) (z := (⟨"com/example/querent/querent/match/Automaton$StateCount", "writeCopies", "(IIIJ)V"⟩ : MethodName)) (K := "com/example/querent/querent/match/Automaton$StateCount") hown (tw hw 69 rfl) (tw hw 70 rfl) (nf_by (args := #[]) (mvT hZ (tw hw 30 rfl)) rfl) (tw hw 71 rfl) (tw hw 72 rfl) (tw hw 8 rfl) (tw hw 73 rfl) cE7 (by decide) (rm13 l Z a0 hw [] o0 x1 x2 x3 (f12 (own_acc (0 : Int64) vs i (n - i)) x2 x3) i b kA (st + ((f12 (own_acc (0 : Int64) vs i (n - i)) x2 x3) - (own_acc (0 : Int64) vs i (n - i)))) sz vs h6 n0 Z6 H8x hi hi16) e6 (by decide) 0 rfl (by decide) (by decide) (by decide) (by rw [hml]; rfl) (argsL := [(.int x1), (.int x2), (.int x3), (.long (f12 (own_acc (0 : Int64) vs i (n - i)) x2 x3))]) (rest := []) (lenOf pd_5 rfl) rfl (hb hby d10_87) (pc' := 90) (fun v9 T9 Lq9 X9 hQ9 => ?_)
    obtain ⟨h9, e9⟩ : ∃ q, T9.heap = q := ⟨_, rfl⟩
    rw [e9] at hQ9
    obtain ⟨rfl, Nq9, Kq9, Hq8⟩ := hQ9
    have N9 := Fr.app N6 Nq9
    show OwnEnds p e below s _ _ _ T9 m 90 #[.val (.ref o0), .val (.int x1), .val (.int x2), .val (.int x3), .val (.long (own_acc (0 : Int64) vs i (n - i))), .second, .val (.long (f12 (own_acc (0 : Int64) vs i (n - i)) x2 x3)), .second] []
    have E9_o0 := cE7.keep Kq9
    have K9 : Keep h0 h9 [o0, b] := Keep.trans K6 Kq9 (allS (Or.inl (List.mem_of_getElem? (i := 0) rfl)) (allS (Or.inl (List.mem_of_getElem? (i := 1) rfl)) all0))
    have Z9 : n0 ≤ h9.size := Nat.le_trans Z6 Kq9.1
    obtain ⟨cE10, cM10, cS10, cP10, cZ10, cV10, cL10, cN10, cA10, cB10⟩ := Hq8
    exact en_ret0 X9 hx hret hlk (hb hby d10_90) (by decide) (by decide) (by first | (rw [e9]; exact ⟨rfl, N9, K9, ⟨cE10, cM10, cS10, cP10, cZ10, cV10, cL10, cN10, cA10, cB10⟩⟩) | exact ⟨rfl, N9, K9, ⟨cE10, cM10, cS10, cP10, cZ10, cV10, cL10, cN10, cA10, cB10⟩⟩)
  by_cases hm1 : x3 = (-1 : Int32)
  · refine en_icmpNo X0 hx (hb hby d10_2) (teq hm1).2 (pc' := 5) ?_
    refine en_iloadN X0 hx (hb hby d10_5) (pc' := 6) rfl ?_
    refine en_iconst X0 hx (1 : Int32) (hb hby d10_6) (pc' := 7) ?_
    refine en_icmpYes X0 hx (hb hby d10_7) (tlt (h2 hm1)).2.2.1 (pc' := 33) ?_
    exact J
  · refine en_icmpYes X0 hx (hb hby d10_2) (feq hm1).2 (pc' := 33) ?_
    exact J
theorem d17_0 : decode prog_21_method_2_code 0 = .ok (.aload_n 0, 1) := by decide +kernel
theorem d17_1 : decode prog_21_method_2_code 1 = .ok (.getfield 13, 3) := by decide +kernel
theorem d17_4 : decode prog_21_method_2_code 4 = .ok (.ireturn, 1) := by decide +kernel
theorem ef_17 (m : MethodId) (o0 : Addr) : entryFrame m #[(.ref o0)] 1 = mkF m 0 #[.val (.ref o0)] [] := by first | (simp [entryFrame, mkF, argsToLocals, Value.category]; done) | rfl
set_option maxRecDepth 65536 in
set_option maxHeartbeats 40000000 in
theorem rm17 (l : Launch) (Z : State) (a0 : Array Value) (hw : ∀ d ∈ tables_1, d.before a0 Z = true) (ws : List Jvm.Cond) (o0 : Addr) (b : Addr) (kA : ClassId) (st : Int64) (sz : Int32) (vs : List Int64) (h0 : Heap) (n0 : Nat) (Z0 : n0 ≤ h0.size) (H0 : own_SC Z n0 o0 b kA st sz vs h0) : OwnMeets l Z (⟨"com/example/querent/querent/match/Automaton$StateCount", "size", "()I"⟩ : MethodName) prog_21_method_2_code 1 (some .int) ws ({ frames := 0, cells := 0, slots := 0, locals := 0 } : Room) #[(.ref o0)] h0 (PQ (.int sz) h0) := by
  refine OwnMeets.of_walk (plainFor_of_name pn_1) (fun m => ef_17 m o0) ?_
  intro p e s m below meth c T0 X0 K e0
  obtain ⟨hx, hby, hml, hret, hlk, hnm, hown, hZ⟩ := id K
  have N0 := Fr.nil n0
  obtain ⟨cE1, cM1, cS1, cP1, cZ1, cV1, cL1, cN1, cA1, cB1⟩ := H0
  refine en_aloadN X0 hx (hb hby d17_0) (pc' := 1) rfl rfl ?_
  refine en_getF X0 hx hZ hown (host := "") (Or.inl (tw hw 53 rfl)) Via.refl e0 cZ1 (hb hby d17_1) (pc' := 4) (fun T2 X2 e2 => ?_)
  exact en_retI X2 hx hret hlk (hb hby d17_4) (by decide) (by decide) (by first | (rw [e2]; exact ⟨rfl, rfl, rfl⟩) | exact ⟨rfl, rfl, rfl⟩)
theorem d3_0 : decode prog_19_method_1_code 0 = .ok (.aload_n 0, 1) := by decide +kernel
theorem d3_1 : decode prog_19_method_1_code 1 = .ok (.invokespecial 3, 3) := by decide +kernel
theorem d3_4 : decode prog_19_method_1_code 4 = .ok (.aload_n 0, 1) := by decide +kernel
theorem d3_5 : decode prog_19_method_1_code 5 = .ok (.lload_n 1, 1) := by decide +kernel
theorem d3_6 : decode prog_19_method_1_code 6 = .ok (.putfield 9, 3) := by decide +kernel
theorem d3_9 : decode prog_19_method_1_code 9 = .ok (.return_, 1) := by decide +kernel
theorem ef_3 (m : MethodId) (o0 : Addr) (x1 : Int64) : entryFrame m #[(.ref o0), (.long x1)] 3 = mkF m 0 #[.val (.ref o0), .val (.long x1), .second] [] := by first | (simp [entryFrame, mkF, argsToLocals, Value.category]; done) | rfl
set_option maxRecDepth 65536 in
set_option maxHeartbeats 40000000 in
theorem rm3 (l : Launch) (Z : State) (a0 : Array Value) (hw : ∀ d ∈ tables_1, d.before a0 Z = true) (ws : List Jvm.Cond) (o0 : Addr) (x1 : Int64) (h0 : Heap) (n0 : Nat) (Z0 : n0 ≤ h0.size) (E0 : Exa Z h0 o0 "com/example/querent/querent/match/Automaton$StateCount") (F_maxStates : Fld Z h0 o0 "com/example/querent/querent/match/Automaton$Postfix" "maxStates" "J" (.long (0 : Int64))) (F_states : Fld Z h0 o0 "com/example/querent/querent/match/Automaton$Postfix" "states" "J" (.long (0 : Int64))) (F_parts : Fld Z h0 o0 "com/example/querent/querent/match/Automaton$StateCount" "parts" "[J" .null) (F_size : Fld Z h0 o0 "com/example/querent/querent/match/Automaton$StateCount" "size" "I" (.int (0 : Int32))) (g0 : n0 ≤ o0) : OwnMeets l Z (⟨"com/example/querent/querent/match/Automaton$Postfix", "<init>", "(J)V"⟩ : MethodName) prog_19_method_1_code 3 none ws ({ frames := 1, cells := 0, slots := 0, locals := 12 } : Room) #[(.ref o0), (.long x1)] h0 (fun v h L => v = none ∧ Fr n0 L ∧ Keep h0 h [o0] ∧ Fld Z h o0 "com/example/querent/querent/match/Automaton$Postfix" "maxStates" "J" (.long x1) ∧ Fld Z h o0 "com/example/querent/querent/match/Automaton$Postfix" "states" "J" (.long (0 : Int64)) ∧ Fld Z h o0 "com/example/querent/querent/match/Automaton$StateCount" "parts" "[J" .null ∧ Fld Z h o0 "com/example/querent/querent/match/Automaton$StateCount" "size" "I" (.int (0 : Int32))) := by
  refine OwnMeets.of_walk (plainFor_of_name pn_0) (fun m => ef_3 m o0 x1) ?_
  intro p e s m below meth c T0 X0 K e0
  obtain ⟨hx, hby, hml, hret, hlk, hnm, hown, hZ⟩ := id K
  have N0 := Fr.nil n0
  refine en_aloadN X0 hx (hb hby d3_0) (pc' := 1) rfl rfl ?_
  refine en_initO X0 hx hZ hown (tw hw 18 rfl) (tw hw 19 rfl) (tw hw 20 rfl) e0 (by rw [hml]; rfl) (hb hby d3_1) (by decide) 0 rfl (by decide) (pc' := 4) (fun T1 X1 e1 => ?_)
  refine en_aloadN X1 hx (hb hby d3_4) (pc' := 5) rfl rfl ?_
  refine en_lloadN X1 hx (hb hby d3_5) (pc' := 6) rfl ?_
  refine en_putF X1 hx hZ hown (host := "") (Or.inl (tw hw 21 rfl)) Via.refl e1 F_maxStates E0 (Or.inr ⟨(tw hw 22 rfl), rfl, hnm⟩) (tw hw 7 rfl) (ty := .long) (by decide) rfl rfl (hb hby d3_6) (pc' := 9) (fun T2 h2 X2 e2 W2 => ?_)
  have F2_o0_states := F_states.other W2 (Or.inr (slot_ne (Or.inl (tw hw 43 rfl)) (Or.inr (tw hw 22 rfl)) (by decide) (t := .long) (t' := .long) (by decide) (by decide)))
  have F2_o0_parts := F_parts.other W2 (Or.inr (slot_ne (Or.inl (tw hw 25 rfl)) (Or.inr (tw hw 22 rfl)) (by decide) (t := (.array .long)) (t' := .long) (by decide) (by decide)))
  have F2_o0_size := F_size.other W2 (Or.inr (slot_ne (Or.inl (tw hw 54 rfl)) (Or.inr (tw hw 22 rfl)) (by decide) (t := .int) (t' := .long) (by decide) (by decide)))
  have E2_o0 := E0.wr W2
  have K2 : Keep h0 h2 [o0] := (Keep.refl h0 [o0]).wr W2 (Or.inl (List.mem_of_getElem? (i := 0) rfl))
  have Z2 : n0 ≤ h2.size := Nat.le_trans Z0 (Keep.of_wr W2).1
  have N2 := Fr.snoc X2 N0 g0
  have F2_o0_maxStates := F_maxStates.same W2
  exact en_ret0 X2 hx hret hlk (hb hby d3_9) (by decide) (by decide) (by first | (rw [e2]; exact ⟨rfl, N2, K2, F2_o0_maxStates, F2_o0_states, F2_o0_parts, F2_o0_size⟩) | exact ⟨rfl, N2, K2, F2_o0_maxStates, F2_o0_states, F2_o0_parts, F2_o0_size⟩)
def own_zero : List Int64 := [0, 0, 0, 0, 0, 0, 0, 0, 0, 0, 0, 0, 0, 0, 0, 0]
theorem d2_0 : decode prog_21_method_1_code 0 = .ok (.aload_n 0, 1) := by decide +kernel
theorem d2_1 : decode prog_21_method_1_code 1 = .ok (.lload_n 1, 1) := by decide +kernel
theorem d2_2 : decode prog_21_method_1_code 2 = .ok (.invokespecial 1, 3) := by decide +kernel
theorem d2_5 : decode prog_21_method_1_code 5 = .ok (.aload_n 0, 1) := by decide +kernel
theorem d2_6 : decode prog_21_method_1_code 6 = .ok (.bipush 16, 2) := by decide +kernel
theorem d2_8 : decode prog_21_method_1_code 8 = .ok (.newarray .long, 2) := by decide +kernel
theorem d2_10 : decode prog_21_method_1_code 10 = .ok (.putfield 7, 3) := by decide +kernel
theorem d2_13 : decode prog_21_method_1_code 13 = .ok (.return_, 1) := by decide +kernel
theorem ef_2 (m : MethodId) (o0 : Addr) (x1 : Int64) : entryFrame m #[(.ref o0), (.long x1)] 3 = mkF m 0 #[.val (.ref o0), .val (.long x1), .second] [] := by first | (simp [entryFrame, mkF, argsToLocals, Value.category]; done) | rfl
set_option maxRecDepth 65536 in
set_option maxHeartbeats 40000000 in
theorem rm2 (l : Launch) (Z : State) (a0 : Array Value) (hw : ∀ d ∈ tables_1, d.before a0 Z = true) (ws : List Jvm.Cond) (o0 : Addr) (h0 : Heap) (n0 : Nat) (Z0 : n0 ≤ h0.size) (E0 : Exa Z h0 o0 "com/example/querent/querent/match/Automaton$StateCount") (F_maxStates : Fld Z h0 o0 "com/example/querent/querent/match/Automaton$Postfix" "maxStates" "J" (.long (0 : Int64))) (F_states : Fld Z h0 o0 "com/example/querent/querent/match/Automaton$Postfix" "states" "J" (.long (0 : Int64))) (F_parts : Fld Z h0 o0 "com/example/querent/querent/match/Automaton$StateCount" "parts" "[J" .null) (F_size : Fld Z h0 o0 "com/example/querent/querent/match/Automaton$StateCount" "size" "I" (.int (0 : Int32))) (g0 : n0 ≤ o0) : OwnMeets l Z (⟨"com/example/querent/querent/match/Automaton$StateCount", "<init>", "(J)V"⟩ : MethodName) prog_21_method_1_code 3 none ws ({ frames := 2, cells := 1, slots := 16, locals := 26 } : Room) #[(.ref o0), (.long (9223372036854775807 : Int64))] h0 (fun v h L => ∃ b kA, v = none ∧ Fr n0 L ∧ Keep h0 h [o0] ∧ h0.size ≤ b ∧ own_SC Z n0 o0 b kA (0 : Int64) (0 : Int32) own_zero h) := by
  refine OwnMeets.of_walk (plainFor_of_name pn_1) (fun m => ef_2 m o0 (9223372036854775807 : Int64)) ?_
  intro p e s m below meth c T0 X0 K e0
  obtain ⟨hx, hby, hml, hret, hlk, hnm, hown, hZ⟩ := id K
  have N0 := Fr.nil n0
  refine en_aloadN X0 hx (hb hby d2_0) (pc' := 1) rfl rfl ?_
  refine en_lloadN X0 hx (hb hby d2_1) (pc' := 2) rfl ?_
  refine en_callN X0 hx hZ (rm := ({ frames := 1, cells := 0, slots := 0, locals := 12 } : Room)) (y := (⟨"com/example/querent/querent/match/Automaton$Postfix", "<init>", "(J)V"⟩ : MethodName)) hown rfl (tw hw 13 rfl) (tw hw 14 rfl) (tw hw 16 rfl) (tw hw 17 rfl) (by decide) (rm3 l Z a0 hw [] o0 (9223372036854775807 : Int64) h0 n0 Z0 E0 F_maxStates F_states F_parts F_size g0) e0 (by decide) 0 rfl (by decide) (by decide) (by decide) (by rw [hml]; rfl) (argsL := [(.long (9223372036854775807 : Int64))]) (rest := []) (lenOf pd_0 rfl) rfl (hb hby d2_2) (pc' := 5) (fun v1 T1 Lq1 X1 hQ1 => ?_)
  obtain ⟨h1, e1⟩ : ∃ q, T1.heap = q := ⟨_, rfl⟩
  rw [e1] at hQ1
  obtain ⟨rfl, Nq1, Kq1, G0, G1, G2, G3⟩ := hQ1
  have N1 := Fr.app N0 Nq1
  show OwnEnds p e below s _ _ _ T1 m 5 #[.val (.ref o0), .val (.long (9223372036854775807 : Int64)), .second] []
  have E1_o0 := E0.keep Kq1
  have K1 : Keep h0 h1 [o0] := Keep.trans (Keep.refl h0 [o0]) Kq1 (allS (Or.inl (List.mem_of_getElem? (i := 0) rfl)) all0)
  have Z1 : n0 ≤ h1.size := Nat.le_trans Z0 Kq1.1
  refine en_aloadN X1 hx (hb hby d2_5) (pc' := 6) rfl rfl ?_
  refine en_bipush X1 hx (16 : Int32) (hb hby d2_6) (pc' := 8) ?_
  refine en_newP X1 hx hZ (tw hw 23 rfl) e1 (hb hby d2_8) (by decide) 16 (by decide) (by decide) (by decide) (by decide) (pc' := 10) (fun T2 h2 b2 k2 g2 X2 e2 E2 V20 => ?_)
  have ne2_o0 : o0 ≠ b2 := by rw [g2]; exact Nat.ne_of_lt E1_o0.lt
  have g_b2 : n0 ≤ b2 := by rw [g2]; exact Z1
  have sz_b2 : h0.size ≤ b2 := by rw [g2]; exact K1.1
  have F2_o0_maxStates := G0.ext E2
  have F2_o0_states := G1.ext E2
  have F2_o0_parts := G2.ext E2
  have F2_o0_size := G3.ext E2
  have E2_o0 := E1_o0.ext E2
  have K2 : Keep h0 h2 [o0] := K1.ext E2
  have Z2 : n0 ≤ h2.size := Nat.le_trans Z1 E2.1
  have V2 : Arv Z h2 b2 k2 .long (16 : Int32) [(.long (0 : Int64)), (.long (0 : Int64)), (.long (0 : Int64)), (.long (0 : Int64)), (.long (0 : Int64)), (.long (0 : Int64)), (.long (0 : Int64)), (.long (0 : Int64)), (.long (0 : Int64)), (.long (0 : Int64)), (.long (0 : Int64)), (.long (0 : Int64)), (.long (0 : Int64)), (.long (0 : Int64)), (.long (0 : Int64)), (.long (0 : Int64))] (.long (0 : Int64)) := V20.pad (pad_rep [] (.long (0 : Int64)) 16)
  refine en_putF X2 hx hZ hown (host := "") (Or.inl (tw hw 24 rfl)) Via.refl e2 F2_o0_parts E2_o0 (Or.inl (tw hw 25 rfl)) (tw hw 7 rfl) (ty := (.array .long)) (by decide) rfl rfl (hb hby d2_10) (pc' := 13) (fun T3 h3 X3 e3 W3 => ?_)
  have F3_o0_maxStates := F2_o0_maxStates.other W3 (Or.inr (slot_ne (Or.inr (tw hw 22 rfl)) (Or.inl (tw hw 25 rfl)) (by decide) (t := .long) (t' := (.array .long)) (by decide) (by decide)))
  have F3_o0_states := F2_o0_states.other W3 (Or.inr (slot_ne (Or.inl (tw hw 43 rfl)) (Or.inl (tw hw 25 rfl)) (by decide) (t := .long) (t' := (.array .long)) (by decide) (by decide)))
  have F3_o0_size := F2_o0_size.other W3 (Or.inr (slot_ne (Or.inl (tw hw 54 rfl)) (Or.inl (tw hw 25 rfl)) (by decide) (t := .int) (t' := (.array .long)) (by decide) (by decide)))
  have E3_o0 := E2_o0.wr W3
  have V3_b2 := V2.other W3 (Ne.symm ne2_o0)
  have K3 : Keep h0 h3 [o0] := K2.wr W3 (Or.inl (List.mem_of_getElem? (i := 0) rfl))
  have Z3 : n0 ≤ h3.size := Nat.le_trans Z2 (Keep.of_wr W3).1
  have N3 := Fr.snoc X3 N1 g0
  have F3_o0_parts := F2_o0_parts.same W3
  have Vz : Arv Z h3 b2 k2 .long (16 : Int32) (own_zero.map Value.long) (.long (0 : Int64)) := V3_b2
  exact en_ret0 X3 hx hret hlk (hb hby d2_13) (by decide) (by decide) (by first | (rw [e3]; exact ⟨b2, k2, rfl, N3, K3, sz_b2, ⟨E3_o0, F3_o0_maxStates, F3_o0_states, F3_o0_parts, F3_o0_size, Vz, rfl, ne2_o0, g0, g_b2⟩⟩) | exact ⟨b2, k2, rfl, N3, K3, sz_b2, ⟨E3_o0, F3_o0_maxStates, F3_o0_states, F3_o0_parts, F3_o0_size, Vz, rfl, ne2_o0, g0, g_b2⟩⟩)
def g0_117_148_l14 (y8 : Int32) (y10 : Int64) (y12 : Int64) : Int64 := (if y8 = (0 : Int32) then (y10 + y12) else (if y8 = (1 : Int32) then y12 else (0 : Int64)))
theorem r0_117_148 {p : Program} {l : Launch} {e : Env} {R : Room} {s : State} {m : MethodId} {args : Array Value} {below : List Frame} {meth : Method} {c : Code} {T : State} {locs : List Loc} {cells slots : Nat} {Z : State} {a0 : Array Value} {C S : Nat} {Q : Option Value → Heap → List Loc → Prop} (hw : ∀ d ∈ tables_1, d.before a0 Z = true) (K : Cx p s m meth c Z x code maxLocals ret) (X : Stand p l e R s m args below meth c T locs cells slots) (y0 : Int32) (y1 : Int32) (y2 : Int32) (y3 : Int32) (y4 : Int32) (y5 : Int32) (y6 : Int32) (y7 : Int32) (y8 : Int32) (y9 : Addr) (y10 : Int64) (y12 : Int64) (k : OwnEnds p e below s C S Q T m 148 #[.val (.int y0), .val (.int y1), .val (.int y2), .val (.int y3), .val (.int y4), .val (.int y5), .val (.int y6), .val (.int y7), .val (.int y8), .val (.ref y9), .val (.long y10), .second, .val (.long y12), .second, .val (.long (g0_117_148_l14 y8 y10 y12)), .second] []) : OwnEnds p e below s C S Q T m 117 #[.val (.int y0), .val (.int y1), .val (.int y2), .val (.int y3), .val (.int y4), .val (.int y5), .val (.int y6), .val (.int y7), .val (.int y8), .val (.ref y9), .val (.long y10), .second, .val (.long y12), .second, .unset, .unset] [] := by
  obtain ⟨hx, hby, hml, hret, hlk, hnm, hown, hZ⟩ := id K
  unfold g0_117_148_l14 at k
  refine en_iload X hx (hb hby at_117) (pc' := 119) rfl ?_
  by_cases hc119_0 : y8 = (0 : Int32)
  · simp only [if_pos hc119_0] at k
    refine en_ifNo X hx (hb hby at_119) ((if0 _ _).trans (teq hc119_0).2) (pc' := 122) ?_
    refine en_lload X hx (hb hby at_122) (pc' := 124) rfl ?_
    refine en_lload X hx (hb hby at_124) (pc' := 126) rfl ?_
    refine en_ladd X hx (hb hby at_126) (pc' := 127) ?_
    refine en_lstore X hx (hb hby at_127) (pc' := 129) (Ls' := #[.val (.int y0), .val (.int y1), .val (.int y2), .val (.int y3), .val (.int y4), .val (.int y5), .val (.int y6), .val (.int y7), .val (.int y8), .val (.ref y9), .val (.long y10), .second, .val (.long y12), .second, .val (.long (y10 + y12)), .second]) rfl ?_
    refine en_goto X hx (hb hby at_129) (pc' := 148) ?_
    exact k
  · simp only [if_neg hc119_0] at k
    refine en_ifYes X hx (hb hby at_119) ((if0 _ _).trans (feq hc119_0).2) (pc' := 132) ?_
    refine en_iload X hx (hb hby at_132) (pc' := 134) rfl ?_
    refine en_iconst X hx (1 : Int32) (hb hby at_134) (pc' := 135) ?_
    by_cases hc135_1 : y8 = (1 : Int32)
    · simp only [if_pos hc135_1] at k
      refine en_icmpNo X hx (hb hby at_135) (teq hc135_1).2 (pc' := 138) ?_
      refine en_lload X hx (hb hby at_138) (pc' := 140) rfl ?_
      refine en_lstore X hx (hb hby at_140) (pc' := 142) (Ls' := #[.val (.int y0), .val (.int y1), .val (.int y2), .val (.int y3), .val (.int y4), .val (.int y5), .val (.int y6), .val (.int y7), .val (.int y8), .val (.ref y9), .val (.long y10), .second, .val (.long y12), .second, .val (.long y12), .second]) rfl ?_
      refine en_goto X hx (hb hby at_142) (pc' := 148) ?_
      exact k
    · simp only [if_neg hc135_1] at k
      refine en_icmpYes X hx (hb hby at_135) (feq hc135_1).2 (pc' := 145) ?_
      refine en_lconst X hx (0 : Int64) (hb hby at_145) (pc' := 146) ?_
      refine en_lstore X hx (hb hby at_146) (pc' := 148) (Ls' := #[.val (.int y0), .val (.int y1), .val (.int y2), .val (.int y3), .val (.int y4), .val (.int y5), .val (.int y6), .val (.int y7), .val (.int y8), .val (.ref y9), .val (.long y10), .second, .val (.long y12), .second, .val (.long (0 : Int64)), .second]) rfl ?_
      exact k
theorem own_m (p : Int32) {m : Int32} (h : f1 (2 : Int32) (p &&& (2147483647 : Int32)) = m) : 2 ≤ m.toInt := by
  subst h
  have e2 : (2 : Int32).toInt = 2 := rfl
  unfold f1
  by_cases c : (2 : Int32) < (p &&& (2147483647 : Int32))
  · rw [if_pos c]; rw [Int32.lt_iff_toInt_lt] at c; omega
  · rw [if_neg c]; omega
theorem own_n (x : Int32) {n : Int32} (h : (x &&& (65535 : Int32)) = n) : 0 ≤ n.toInt ∧ n.toInt ≤ 65535 := by
  subst h; exact c_and x 65535 (by decide)
theorem own_d (x : Int32) {d : Int32} (h : ((2 : Int32) + (x &&& (255 : Int32))) = d) : 2 ≤ d.toInt ∧ d.toInt ≤ 257 := by
  subst h
  have h1 := c_and x 255 (by decide)
  have e255 : (255 : Int32).toInt = 255 := rfl
  have e2 : (2 : Int32).toInt = 2 := rfl
  have h2 := c_iadd 2 (x &&& 255)
  have h3 := rng32 ((2 : Int32) + (x &&& (255 : Int32)))
  rw [e2] at h2
  omega
theorem own_fr (x : Int32) {q : Int32} (h : ((x &&& (2147483647 : Int32)) % (3 : Int32)) = q) : q = 0 ∨ q = 1 ∨ q = 2 := by
  subst h
  have h1 := (c_iremV (x &&& (2147483647 : Int32)) 3).1 ((c_and x 2147483647 (by decide)).1) (by decide)
  have e3 : (3 : Int32).toInt = 3 := rfl
  rcases (by omega : ((x &&& (2147483647 : Int32)) % (3 : Int32)).toInt = 0 ∨ ((x &&& (2147483647 : Int32)) % (3 : Int32)).toInt = 1 ∨ ((x &&& (2147483647 : Int32)) % (3 : Int32)).toInt = 2) with q | q | q
  · exact Or.inl (Int32.toInt_inj.mp q)
  · exact Or.inr (Or.inl (Int32.toInt_inj.mp q))
  · exact Or.inr (Or.inr (Int32.toInt_inj.mp q))
theorem own_nd {n d : Int32} (hn : 0 ≤ n.toInt ∧ n.toInt ≤ 65535) (hd : 2 ≤ d.toInt ∧ d.toInt ≤ 257) : (n + d).toInt = n.toInt + d.toInt := by
  have h2 := c_iadd n d
  have h3 := rng32 (n + d)
  omega
theorem own_nd1 {n d k : Int32} (hk : k.toInt < 2) (hn : 0 ≤ n.toInt ∧ n.toInt ≤ 65535) (hd : 2 ≤ d.toInt ∧ d.toInt ≤ 257) : ¬ (n + d) = k := fun q => by
  have := own_nd hn hd
  rw [q] at this; omega
theorem own_gt {m : Int32} (h : 2 ≤ m.toInt) : (1 : Int32) < m := by rw [Int32.lt_iff_toInt_lt, own_e1]; omega
theorem own_cp1 (m : Int32) : f12 (1 : Int64) m (-1 : Int32) = m.toInt64 + (1 : Int64) := by
  unfold f12
  simp
theorem own_cp2 {n d : Int32} (hn : 0 ≤ n.toInt ∧ n.toInt ≤ 65535) (hd : 2 ≤ d.toInt ∧ d.toInt ≤ 257) : f12 (3 : Int64) n (n + d) = ((3 : Int64) * n.toInt64) + ((4 : Int64) * d.toInt64) := by
  have h0 : ¬ (n + d) = (0 : Int32) := own_nd1 (by decide) hn hd
  have h1 : ¬ (n + d) = (-1 : Int32) := own_nd1 (by decide) hn hd
  have e : (n + d).toInt64 - n.toInt64 = d.toInt64 := by
    apply Int64.toInt_inj.mp
    have a1 := c_lsub (n + d).toInt64 n.toInt64
    have a2 := rng64 ((n + d).toInt64 - n.toInt64)
    have a3 := c_i2l (n + d)
    have a4 := c_i2l n
    have a5 := c_i2l d
    have a6 := own_nd hn hd
    omega
  unfold f12
  simp only [if_neg h0, if_neg h1, e]
  rw [Int64.mul_comm n.toInt64 3, Int64.mul_comm d.toInt64 (3 + 1)]
  rfl
theorem own_fin0 (mm nn dd : Int32) (hn : 0 ≤ nn.toInt ∧ nn.toInt ≤ 65535) (hd : 2 ≤ dd.toInt ∧ dd.toInt ≤ 257) : (own_acc (0 : Int64) ((((((own_zero.set 0 (1 : Int64)).set 0 (f12 (own_acc (0 : Int64) (own_zero.set 0 (1 : Int64)) 0 (1 - 0)) mm (-1 : Int32))).set 1 (1 : Int64)).set 2 (1 : Int64)).set 3 (1 : Int64)).set 1 (f12 (own_acc (0 : Int64) (((((own_zero.set 0 (1 : Int64)).set 0 (f12 (own_acc (0 : Int64) (own_zero.set 0 (1 : Int64)) 0 (1 - 0)) mm (-1 : Int32))).set 1 (1 : Int64)).set 2 (1 : Int64)).set 3 (1 : Int64)) 1 (4 - 1)) nn (nn + dd))) 0 (2 - 0)) = (g0_117_148_l14 (0 : Int32) ((mm.toInt64) + (1 : Int64)) (((3 : Int64) * (nn.toInt64)) + ((4 : Int64) * (dd.toInt64)))) := by
  have a1 : (own_acc (0 : Int64) (own_zero.set 0 (1 : Int64)) 0 (1 - 0)) = 1 := by decide
  rw [a1, own_cp1]
  have a2 : ∀ q : Int64, (own_acc (0 : Int64) (((((own_zero.set 0 (1 : Int64)).set 0 q).set 1 (1 : Int64)).set 2 (1 : Int64)).set 3 (1 : Int64)) 1 (4 - 1)) = 3 := fun q => rfl
  rw [a2, own_cp2 hn hd]
  have b0 : ∀ x y : Int64, (own_acc (0 : Int64) ((((((own_zero.set 0 (1 : Int64)).set 0 x).set 1 (1 : Int64)).set 2 (1 : Int64)).set 3 (1 : Int64)).set 1 y) 0 (2 - 0)) = ((0 + x) + y) := fun x y => rfl
  rw [b0]
  unfold g0_117_148_l14
  simp
theorem own_fin1 (mm nn dd : Int32) (hn : 0 ≤ nn.toInt ∧ nn.toInt ≤ 65535) (hd : 2 ≤ dd.toInt ∧ dd.toInt ≤ 257) : (own_acc (0 : Int64) ((((((own_zero.set 0 (1 : Int64)).set 0 (f12 (own_acc (0 : Int64) (own_zero.set 0 (1 : Int64)) 0 (1 - 0)) mm (-1 : Int32))).set 1 (1 : Int64)).set 2 (1 : Int64)).set 3 (1 : Int64)).set 1 (f12 (own_acc (0 : Int64) (((((own_zero.set 0 (1 : Int64)).set 0 (f12 (own_acc (0 : Int64) (own_zero.set 0 (1 : Int64)) 0 (1 - 0)) mm (-1 : Int32))).set 1 (1 : Int64)).set 2 (1 : Int64)).set 3 (1 : Int64)) 1 (4 - 1)) nn (nn + dd))) 1 (2 - 1)) = (g0_117_148_l14 (1 : Int32) ((mm.toInt64) + (1 : Int64)) (((3 : Int64) * (nn.toInt64)) + ((4 : Int64) * (dd.toInt64)))) := by
  have a1 : (own_acc (0 : Int64) (own_zero.set 0 (1 : Int64)) 0 (1 - 0)) = 1 := by decide
  rw [a1, own_cp1]
  have a2 : ∀ q : Int64, (own_acc (0 : Int64) (((((own_zero.set 0 (1 : Int64)).set 0 q).set 1 (1 : Int64)).set 2 (1 : Int64)).set 3 (1 : Int64)) 1 (4 - 1)) = 3 := fun q => rfl
  rw [a2, own_cp2 hn hd]
  have b0 : ∀ x y : Int64, (own_acc (0 : Int64) ((((((own_zero.set 0 (1 : Int64)).set 0 x).set 1 (1 : Int64)).set 2 (1 : Int64)).set 3 (1 : Int64)).set 1 y) 1 (2 - 1)) = (0 + y) := fun x y => rfl
  rw [b0]
  unfold g0_117_148_l14
  simp
theorem own_fin2 (mm nn dd : Int32) (hn : 0 ≤ nn.toInt ∧ nn.toInt ≤ 65535) (hd : 2 ≤ dd.toInt ∧ dd.toInt ≤ 257) : (own_acc (0 : Int64) ((((((own_zero.set 0 (1 : Int64)).set 0 (f12 (own_acc (0 : Int64) (own_zero.set 0 (1 : Int64)) 0 (1 - 0)) mm (-1 : Int32))).set 1 (1 : Int64)).set 2 (1 : Int64)).set 3 (1 : Int64)).set 1 (f12 (own_acc (0 : Int64) (((((own_zero.set 0 (1 : Int64)).set 0 (f12 (own_acc (0 : Int64) (own_zero.set 0 (1 : Int64)) 0 (1 - 0)) mm (-1 : Int32))).set 1 (1 : Int64)).set 2 (1 : Int64)).set 3 (1 : Int64)) 1 (4 - 1)) nn (nn + dd))) 2 (2 - 2)) = (g0_117_148_l14 (2 : Int32) ((mm.toInt64) + (1 : Int64)) (((3 : Int64) * (nn.toInt64)) + ((4 : Int64) * (dd.toInt64)))) := by
  have a1 : (own_acc (0 : Int64) (own_zero.set 0 (1 : Int64)) 0 (1 - 0)) = 1 := by decide
  rw [a1, own_cp1]
  have a2 : ∀ q : Int64, (own_acc (0 : Int64) (((((own_zero.set 0 (1 : Int64)).set 0 q).set 1 (1 : Int64)).set 2 (1 : Int64)).set 3 (1 : Int64)) 1 (4 - 1)) = 3 := fun q => rfl
  rw [a2, own_cp2 hn hd]
  have b0 : ∀ x y : Int64, (own_acc (0 : Int64) ((((((own_zero.set 0 (1 : Int64)).set 0 x).set 1 (1 : Int64)).set 2 (1 : Int64)).set 3 (1 : Int64)).set 1 y) 2 (2 - 2)) = 0 := fun x y => rfl
  rw [b0]
  unfold g0_117_148_l14
  simp
theorem ef_0 (m : MethodId) (x0 : Int32) (x1 : Int32) (x2 : Int32) (x3 : Int32) (x4 : Int32) : entryFrame m #[(.int x0), (.int x1), (.int x2), (.int x3), (.int x4)] maxLocals = mkF m 0 #[.val (.int x0), .val (.int x1), .val (.int x2), .val (.int x3), .val (.int x4), .unset, .unset, .unset, .unset, .unset, .unset, .unset, .unset, .unset, .unset, .unset] [] := by first | (simp [entryFrame, mkF, argsToLocals, Value.category, maxLocals]; done) | rfl
theorem pn_2 : plainName "com/example/querent/querent/match/StateCountStatesFromPinLaw" = true := by first | (simp [plainName, overriddenIn]; done) | decide +kernel
theorem pd_6 : parseMethodDescriptor "(II)I" = some ⟨[.int, .int], some .int⟩ := by decide +kernel
theorem pd_7 : parseMethodDescriptor "(III)V" = some ⟨[.int, .int, .int], none⟩ := by decide +kernel
theorem pd_8 : parseMethodDescriptor "()V" = some ⟨[], none⟩ := by decide +kernel
theorem pd_9 : parseMethodDescriptor "()I" = some ⟨[], some .int⟩ := by decide +kernel
set_option maxRecDepth 65536 in
set_option maxHeartbeats 40000000 in
theorem rm0 (l : Launch) (Z : State) (a0 : Array Value) (hw : ∀ d ∈ tables_1, d.before a0 Z = true) (ws : List Jvm.Cond) (x0 : Int32) (x1 : Int32) (x2 : Int32) (x3 : Int32) (x4 : Int32) (h0 : Heap) (n0 : Nat) (Z0 : n0 ≤ h0.size)  : OwnMeets l Z x code maxLocals ret ws room_1 #[(.int x0), (.int x1), (.int x2), (.int x3), (.int x4)] h0 (fun v h L => v = some (.int (1 : Int32)) ∧ Fr n0 L) := by
  refine OwnMeets.of_walk (plainFor_of_name pn_2) (fun m => ef_0 m x0 x1 x2 x3 x4) ?_
  intro p e s m below meth c T0 X0 K e0
  obtain ⟨hx, hby, hml, hret, hlk, hnm, hown, hZ⟩ := id K
  have N0 := Fr.nil n0
  refine en_iconst X0 hx (2 : Int32) (hb hby at_0) (pc' := 1) ?_
  refine en_iloadN X0 hx (hb hby at_1) (pc' := 2) rfl ?_
  refine en_ldc X0 hx hZ hown (tw hw 0 rfl) (hb hby at_2) (pc' := 4) ?_
  refine en_iand X0 hx (hb hby at_4) (pc' := 5) ?_
  refine en_callP X0 hx hZ hown (tw hw 1 rfl) (tw hw 2 rfl) (tw hw 3 rfl) (tw hw 4 rfl) (by decide) (rm1 l Z a0 hw [] (2 : Int32) (x2 &&& (2147483647 : Int32)) _) e0 (by decide) 0 rfl (by decide) (by decide) (by decide) (by rw [hml]; rfl) (argsL := [(.int (2 : Int32)), (.int (x2 &&& (2147483647 : Int32)))]) (rest := []) (lenOf pd_6 rfl) rfl (hb hby at_5) (pc' := 8) (fun T1 X1 e1 => ?_)
  generalize hmm : (f1 (2 : Int32) (x2 &&& (2147483647 : Int32))) = mm
  have hm2 := own_m x2 hmm
  refine en_istore X1 hx (hb hby at_8) (pc' := 10) (Ls' := #[.val (.int x0), .val (.int x1), .val (.int x2), .val (.int x3), .val (.int x4), .val (.int mm), .unset, .unset, .unset, .unset, .unset, .unset, .unset, .unset, .unset, .unset]) rfl ?_
  refine en_iloadN X1 hx (hb hby at_10) (pc' := 11) rfl ?_
  refine en_ldc X1 hx hZ hown (tw hw 5 rfl) (hb hby at_11) (pc' := 13) ?_
  refine en_iand X1 hx (hb hby at_13) (pc' := 14) ?_
  generalize hnn : (x3 &&& (65535 : Int32)) = nn
  have hn2 := own_n x3 hnn
  refine en_istore X1 hx (hb hby at_14) (pc' := 16) (Ls' := #[.val (.int x0), .val (.int x1), .val (.int x2), .val (.int x3), .val (.int x4), .val (.int mm), .val (.int nn), .unset, .unset, .unset, .unset, .unset, .unset, .unset, .unset, .unset]) rfl ?_
  refine en_iconst X1 hx (2 : Int32) (hb hby at_16) (pc' := 17) ?_
  refine en_iloadN X1 hx (hb hby at_17) (pc' := 18) rfl ?_
  refine en_bipush X1 hx (16 : Int32) (hb hby at_18) (pc' := 20) ?_
  refine en_iushr X1 hx (hb hby at_20) (pc' := 21) ?_
  refine en_sipush X1 hx (255 : Int32) (hb hby at_21) (pc' := 24) ?_
  refine en_iand X1 hx (hb hby at_24) (pc' := 25) ?_
  refine en_iadd X1 hx (hb hby at_25) (pc' := 26) ?_
  generalize hdd : ((2 : Int32) + (((x3.toUInt32 >>> ((16 : Int32) &&& 31).toUInt32).toInt32) &&& (255 : Int32))) = dd
  have hd2 := own_d _ hdd
  refine en_istore X1 hx (hb hby at_26) (pc' := 28) (Ls' := #[.val (.int x0), .val (.int x1), .val (.int x2), .val (.int x3), .val (.int x4), .val (.int mm), .val (.int nn), .val (.int dd), .unset, .unset, .unset, .unset, .unset, .unset, .unset, .unset]) rfl ?_
  refine en_iload X1 hx (hb hby at_28) (pc' := 30) rfl ?_
  refine en_ldc X1 hx hZ hown (tw hw 0 rfl) (hb hby at_30) (pc' := 32) ?_
  refine en_iand X1 hx (hb hby at_32) (pc' := 33) ?_
  refine en_iconst X1 hx (3 : Int32) (hb hby at_33) (pc' := 34) ?_
  refine en_irem X1 hx (hb hby at_34) (pc' := 35) (by decide) ?_
  generalize hfr : ((x4 &&& (2147483647 : Int32)) % (3 : Int32)) = fr
  have hf2 := own_fr x4 hfr
  refine en_istore X1 hx (hb hby at_35) (pc' := 37) (Ls' := #[.val (.int x0), .val (.int x1), .val (.int x2), .val (.int x3), .val (.int x4), .val (.int mm), .val (.int nn), .val (.int dd), .val (.int fr), .unset, .unset, .unset, .unset, .unset, .unset, .unset]) rfl ?_
  refine en_newO X1 hx hZ hown (tw hw 6 rfl) (tw hw 7 rfl) (tw hw 8 rfl) e1 (hb hby at_37) (by decide) (by decide) (pc' := 40) (fun T2 h2 b2 g2 X2 e2 E2 A2 D2 => ?_)
  have g_b2 : n0 ≤ b2 := by rw [g2]; exact Z0
  have Z2 : n0 ≤ h2.size := Nat.le_trans Z0 E2.1
  have F2_b2_maxStates : Fld Z h2 b2 "com/example/querent/querent/match/Automaton$Postfix" "maxStates" "J" (.long (0 : Int64)) := D2 (Or.inr (tw hw 22 rfl)) (ty := .long) (by decide)
  have F2_b2_parts : Fld Z h2 b2 "com/example/querent/querent/match/Automaton$StateCount" "parts" "[J" .null := D2 (Or.inl (tw hw 25 rfl)) (ty := (.array .long)) (by decide)
  have F2_b2_states : Fld Z h2 b2 "com/example/querent/querent/match/Automaton$Postfix" "states" "J" (.long (0 : Int64)) := D2 (Or.inl (tw hw 43 rfl)) (ty := .long) (by decide)
  have F2_b2_size : Fld Z h2 b2 "com/example/querent/querent/match/Automaton$StateCount" "size" "I" (.int (0 : Int32)) := D2 (Or.inl (tw hw 54 rfl)) (ty := .int) (by decide)
  refine en_dup X2 hx (hb hby at_40) (pc' := 41) rfl ?_
  refine en_ldc2 X2 hx hZ hown (tw hw 9 rfl) (hb hby at_41) (pc' := 44) ?_
  refine en_callN X2 hx hZ (rm := ({ frames := 2, cells := 1, slots := 16, locals := 26 } : Room)) (y := (⟨"com/example/querent/querent/match/Automaton$StateCount", "<init>", "(J)V"⟩ : MethodName)) hown rfl (tw hw 10 rfl) (tw hw 11 rfl) (tw hw 8 rfl) (tw hw 12 rfl) (by decide) (rm2 l Z a0 hw [] b2 h2 n0 Z2 A2 F2_b2_maxStates F2_b2_states F2_b2_parts F2_b2_size g_b2) e2 (by decide) 1 rfl (by decide) (by decide) (by decide) (by rw [hml]; rfl) (argsL := [(.long (9223372036854775807 : Int64))]) (rest := [(.ref b2)]) (lenOf pd_0 rfl) rfl (hb hby at_44) (pc' := 47) (fun v3 T3 Lq3 X3 hQ3 => ?_)
  obtain ⟨h3, e3⟩ : ∃ q, T3.heap = q := ⟨_, rfl⟩
  rw [e3] at hQ3
  obtain ⟨bb, kb, rfl, Nq3, Kq3, szb, Hc⟩ := hQ3
  have N3 := Fr.app N0 Nq3
  show OwnEnds p e below s _ _ _ T3 m 47 #[.val (.int x0), .val (.int x1), .val (.int x2), .val (.int x3), .val (.int x4), .val (.int mm), .val (.int nn), .val (.int dd), .val (.int fr), .unset, .unset, .unset, .unset, .unset, .unset, .unset] [(.ref b2)]
  have E3_b2 := A2.keep Kq3
  have Z3 : n0 ≤ h3.size := Nat.le_trans Z2 Kq3.1
  refine en_astore X3 hx (hb hby at_47) (pc' := 49) (Ls' := #[.val (.int x0), .val (.int x1), .val (.int x2), .val (.int x3), .val (.int x4), .val (.int mm), .val (.int nn), .val (.int dd), .val (.int fr), .val (.ref b2), .unset, .unset, .unset, .unset, .unset, .unset]) rfl rfl ?_
  refine en_aload X3 hx (hb hby at_49) (pc' := 51) rfl rfl ?_
  refine en_iloadN X3 hx (hb hby at_51) (pc' := 52) rfl ?_
  refine en_callU X3 hx hZ (rm := ({ frames := 3, cells := 1, slots := 2, locals := 40 } : Room)) (y := (⟨"com/example/querent/querent/match/Automaton$StateCount", "literal", "(I)V"⟩ : MethodName)) (z := (⟨"com/example/querent/querent/match/Automaton$Postfix", "literal", "(I)V"⟩ : MethodName)) (K := "com/example/querent/querent/match/Automaton$StateCount") (owner := "com/example/querent/querent/match/Automaton$Postfix") hown (tw hw 26 rfl) (tw hw 27 rfl) (tw hw 28 rfl) (tw hw 30 rfl) (tw hw 29 rfl) (tw hw 16 rfl) (tw hw 31 rfl) Hc.1 (by decide) (rm5 l Z a0 hw [] b2 x0 0 bb kb (0 : Int64) (0 : Int32) own_zero h3 n0 Z3 Hc rfl (by decide)) e3 (by decide) 0 rfl (by decide) (by decide) (by decide) (by rw [hml]; rfl) (argsL := [(.int x0)]) (rest := []) (lenOf pd_2 rfl) rfl (hb hby at_52) (pc' := 55) (fun v5 T5 Lq5 X5 hQ5 => ?_)
  obtain ⟨h5, e5⟩ : ∃ q, T5.heap = q := ⟨_, rfl⟩
  rw [e5] at hQ5
  obtain ⟨rfl, Nq5, Kq5, Hq4⟩ := hQ5
  have N5 := Fr.app N3 Nq5
  show OwnEnds p e below s _ _ _ T5 m 55 #[.val (.int x0), .val (.int x1), .val (.int x2), .val (.int x3), .val (.int x4), .val (.int mm), .val (.int nn), .val (.int dd), .val (.int fr), .val (.ref b2), .unset, .unset, .unset, .unset, .unset, .unset] []
  have E5_b2 := Hc.1.keep Kq5
  have Z5 : n0 ≤ h5.size := Nat.le_trans Z3 Kq5.1
  have hE4 := Hq4.1
  refine en_aload X5 hx (hb hby at_55) (pc' := 57) rfl rfl ?_
  refine en_iconst X5 hx (0 : Int32) (hb hby at_57) (pc' := 58) ?_
  refine en_iload X5 hx (hb hby at_58) (pc' := 60) rfl ?_
  refine en_iconst X5 hx (-1 : Int32) (hb hby at_60) (pc' := 61) ?_
  refine en_callU X5 hx hZ (rm := ({ frames := 5, cells := 0, slots := 0, locals := 100 } : Room)) (y := (⟨"com/example/querent/querent/match/Automaton$StateCount", "repeat", "(III)V"⟩ : MethodName)) (z := (⟨"com/example/querent/querent/match/Automaton$Postfix", "repeat", "(III)V"⟩ : MethodName)) (K := "com/example/querent/querent/match/Automaton$StateCount") (owner := "com/example/querent/querent/match/Automaton$Postfix") hown (tw hw 55 rfl) (tw hw 56 rfl) (tw hw 57 rfl) (tw hw 59 rfl) (tw hw 58 rfl) (tw hw 16 rfl) (tw hw 60 rfl) hE4 (by decide) (rm10 l Z a0 hw [] b2 (0 : Int32) mm (-1 : Int32) 0 1 bb kb ((0 : Int64) + (1 : Int64)) ((0 : Int32) + (1 : Int32)) (own_zero.set 0 (1 : Int64)) h5 n0 Z5 Hq4 rfl (by decide) rfl (by decide) (fun _ => own_gt hm2) (by decide)) e5 (by decide) 0 rfl (by decide) (by decide) (by decide) (by rw [hml]; rfl) (argsL := [(.int (0 : Int32)), (.int mm), (.int (-1 : Int32))]) (rest := []) (lenOf pd_7 rfl) rfl (hb hby at_61) (pc' := 64) (fun v7 T7 Lq7 X7 hQ7 => ?_)
  obtain ⟨h7, e7⟩ : ∃ q, T7.heap = q := ⟨_, rfl⟩
  rw [e7] at hQ7
  obtain ⟨rfl, Nq7, Kq7, Hq6⟩ := hQ7
  have N7 := Fr.app N5 Nq7
  show OwnEnds p e below s _ _ _ T7 m 64 #[.val (.int x0), .val (.int x1), .val (.int x2), .val (.int x3), .val (.int x4), .val (.int mm), .val (.int nn), .val (.int dd), .val (.int fr), .val (.ref b2), .unset, .unset, .unset, .unset, .unset, .unset] []
  have E7_b2 := hE4.keep Kq7
  have Z7 : n0 ≤ h7.size := Nat.le_trans Z5 Kq7.1
  have hE6 := Hq6.1
  refine en_aload X7 hx (hb hby at_64) (pc' := 66) rfl rfl ?_
  refine en_iloadN X7 hx (hb hby at_66) (pc' := 67) rfl ?_
  refine en_callU X7 hx hZ (rm := ({ frames := 3, cells := 1, slots := 2, locals := 40 } : Room)) (y := (⟨"com/example/querent/querent/match/Automaton$StateCount", "literal", "(I)V"⟩ : MethodName)) (z := (⟨"com/example/querent/querent/match/Automaton$Postfix", "literal", "(I)V"⟩ : MethodName)) (K := "com/example/querent/querent/match/Automaton$StateCount") (owner := "com/example/querent/querent/match/Automaton$Postfix") hown (tw hw 26 rfl) (tw hw 27 rfl) (tw hw 28 rfl) (tw hw 30 rfl) (tw hw 29 rfl) (tw hw 16 rfl) (tw hw 31 rfl) hE6 (by decide) (rm5 l Z a0 hw [] b2 x1 1 bb kb (((0 : Int64) + (1 : Int64)) + ((f12 (own_acc (0 : Int64) (own_zero.set 0 (1 : Int64)) 0 (1 - 0)) mm (-1 : Int32)) - (own_acc (0 : Int64) (own_zero.set 0 (1 : Int64)) 0 (1 - 0)))) ((0 : Int32) + (1 : Int32)) ((own_zero.set 0 (1 : Int64)).set 0 (f12 (own_acc (0 : Int64) (own_zero.set 0 (1 : Int64)) 0 (1 - 0)) mm (-1 : Int32))) h7 n0 Z7 Hq6 rfl (by decide)) e7 (by decide) 0 rfl (by decide) (by decide) (by decide) (by rw [hml]; rfl) (argsL := [(.int x1)]) (rest := []) (lenOf pd_2 rfl) rfl (hb hby at_67) (pc' := 70) (fun v9 T9 Lq9 X9 hQ9 => ?_)
  obtain ⟨h9, e9⟩ : ∃ q, T9.heap = q := ⟨_, rfl⟩
  rw [e9] at hQ9
  obtain ⟨rfl, Nq9, Kq9, Hq8⟩ := hQ9
  have N9 := Fr.app N7 Nq9
  show OwnEnds p e below s _ _ _ T9 m 70 #[.val (.int x0), .val (.int x1), .val (.int x2), .val (.int x3), .val (.int x4), .val (.int mm), .val (.int nn), .val (.int dd), .val (.int fr), .val (.ref b2), .unset, .unset, .unset, .unset, .unset, .unset] []
  have E9_b2 := hE6.keep Kq9
  have Z9 : n0 ≤ h9.size := Nat.le_trans Z7 Kq9.1
  have hE8 := Hq8.1
  refine en_aload X9 hx (hb hby at_70) (pc' := 72) rfl rfl ?_
  refine en_callU X9 hx hZ (rm := ({ frames := 2, cells := 0, slots := 0, locals := 27 } : Room)) (y := (⟨"com/example/querent/querent/match/Automaton$StateCount", "empty", "()V"⟩ : MethodName)) (z := (⟨"com/example/querent/querent/match/Automaton$Postfix", "empty", "()V"⟩ : MethodName)) (K := "com/example/querent/querent/match/Automaton$StateCount") (owner := "com/example/querent/querent/match/Automaton$Postfix") hown (tw hw 74 rfl) (tw hw 75 rfl) (tw hw 76 rfl) (tw hw 78 rfl) (tw hw 77 rfl) (tw hw 16 rfl) (tw hw 79 rfl) hE8 (by decide) (rm14 l Z a0 hw [] b2 2 bb kb ((((0 : Int64) + (1 : Int64)) + ((f12 (own_acc (0 : Int64) (own_zero.set 0 (1 : Int64)) 0 (1 - 0)) mm (-1 : Int32)) - (own_acc (0 : Int64) (own_zero.set 0 (1 : Int64)) 0 (1 - 0)))) + (1 : Int64)) (((0 : Int32) + (1 : Int32)) + (1 : Int32)) (((own_zero.set 0 (1 : Int64)).set 0 (f12 (own_acc (0 : Int64) (own_zero.set 0 (1 : Int64)) 0 (1 - 0)) mm (-1 : Int32))).set 1 (1 : Int64)) h9 n0 Z9 Hq8 rfl (by decide)) e9 (by decide) 0 rfl (by decide) (by decide) (by decide) (by rw [hml]; rfl) (argsL := []) (rest := []) (lenOf pd_8 rfl) rfl (hb hby at_72) (pc' := 75) (fun v11 T11 Lq11 X11 hQ11 => ?_)
  obtain ⟨h11, e11⟩ : ∃ q, T11.heap = q := ⟨_, rfl⟩
  rw [e11] at hQ11
  obtain ⟨rfl, Nq11, Kq11, Hq10⟩ := hQ11
  have N11 := Fr.app N9 Nq11
  show OwnEnds p e below s _ _ _ T11 m 75 #[.val (.int x0), .val (.int x1), .val (.int x2), .val (.int x3), .val (.int x4), .val (.int mm), .val (.int nn), .val (.int dd), .val (.int fr), .val (.ref b2), .unset, .unset, .unset, .unset, .unset, .unset] []
  have E11_b2 := hE8.keep Kq11
  have Z11 : n0 ≤ h11.size := Nat.le_trans Z9 Kq11.1
  have hE10 := Hq10.1
  refine en_aload X11 hx (hb hby at_75) (pc' := 77) rfl rfl ?_
  refine en_callU X11 hx hZ (rm := ({ frames := 2, cells := 0, slots := 0, locals := 27 } : Room)) (y := (⟨"com/example/querent/querent/match/Automaton$StateCount", "alternate", "()V"⟩ : MethodName)) (z := (⟨"com/example/querent/querent/match/Automaton$Postfix", "alternate", "()V"⟩ : MethodName)) (K := "com/example/querent/querent/match/Automaton$StateCount") (owner := "com/example/querent/querent/match/Automaton$Postfix") hown (tw hw 85 rfl) (tw hw 86 rfl) (tw hw 87 rfl) (tw hw 89 rfl) (tw hw 88 rfl) (tw hw 16 rfl) (tw hw 90 rfl) hE10 (by decide) (rm16 l Z a0 hw [] b2 3 bb kb (((((0 : Int64) + (1 : Int64)) + ((f12 (own_acc (0 : Int64) (own_zero.set 0 (1 : Int64)) 0 (1 - 0)) mm (-1 : Int32)) - (own_acc (0 : Int64) (own_zero.set 0 (1 : Int64)) 0 (1 - 0)))) + (1 : Int64)) + (1 : Int64)) ((((0 : Int32) + (1 : Int32)) + (1 : Int32)) + (1 : Int32)) ((((own_zero.set 0 (1 : Int64)).set 0 (f12 (own_acc (0 : Int64) (own_zero.set 0 (1 : Int64)) 0 (1 - 0)) mm (-1 : Int32))).set 1 (1 : Int64)).set 2 (1 : Int64)) h11 n0 Z11 Hq10 rfl (by decide)) e11 (by decide) 0 rfl (by decide) (by decide) (by decide) (by rw [hml]; rfl) (argsL := []) (rest := []) (lenOf pd_8 rfl) rfl (hb hby at_77) (pc' := 80) (fun v13 T13 Lq13 X13 hQ13 => ?_)
  obtain ⟨h13, e13⟩ : ∃ q, T13.heap = q := ⟨_, rfl⟩
  rw [e13] at hQ13
  obtain ⟨rfl, Nq13, Kq13, Hq12⟩ := hQ13
  have N13 := Fr.app N11 Nq13
  show OwnEnds p e below s _ _ _ T13 m 80 #[.val (.int x0), .val (.int x1), .val (.int x2), .val (.int x3), .val (.int x4), .val (.int mm), .val (.int nn), .val (.int dd), .val (.int fr), .val (.ref b2), .unset, .unset, .unset, .unset, .unset, .unset] []
  have E13_b2 := hE10.keep Kq13
  have Z13 : n0 ≤ h13.size := Nat.le_trans Z11 Kq13.1
  have hE12 := Hq12.1
  refine en_aload X13 hx (hb hby at_80) (pc' := 82) rfl rfl ?_
  refine en_iconst X13 hx (1 : Int32) (hb hby at_82) (pc' := 83) ?_
  refine en_iload X13 hx (hb hby at_83) (pc' := 85) rfl ?_
  refine en_iload X13 hx (hb hby at_85) (pc' := 87) rfl ?_
  refine en_iload X13 hx (hb hby at_87) (pc' := 89) rfl ?_
  refine en_iadd X13 hx (hb hby at_89) (pc' := 90) ?_
  refine en_callU X13 hx hZ (rm := ({ frames := 5, cells := 0, slots := 0, locals := 100 } : Room)) (y := (⟨"com/example/querent/querent/match/Automaton$StateCount", "repeat", "(III)V"⟩ : MethodName)) (z := (⟨"com/example/querent/querent/match/Automaton$Postfix", "repeat", "(III)V"⟩ : MethodName)) (K := "com/example/querent/querent/match/Automaton$StateCount") (owner := "com/example/querent/querent/match/Automaton$Postfix") hown (tw hw 55 rfl) (tw hw 56 rfl) (tw hw 57 rfl) (tw hw 59 rfl) (tw hw 58 rfl) (tw hw 16 rfl) (tw hw 60 rfl) hE12 (by decide) (rm10 l Z a0 hw [] b2 (1 : Int32) nn (nn + dd) 1 4 bb kb ((((((0 : Int64) + (1 : Int64)) + ((f12 (own_acc (0 : Int64) (own_zero.set 0 (1 : Int64)) 0 (1 - 0)) mm (-1 : Int32)) - (own_acc (0 : Int64) (own_zero.set 0 (1 : Int64)) 0 (1 - 0)))) + (1 : Int64)) + (1 : Int64)) + (1 : Int64)) (((((0 : Int32) + (1 : Int32)) + (1 : Int32)) + (1 : Int32)) + (1 : Int32)) (((((own_zero.set 0 (1 : Int64)).set 0 (f12 (own_acc (0 : Int64) (own_zero.set 0 (1 : Int64)) 0 (1 - 0)) mm (-1 : Int32))).set 1 (1 : Int64)).set 2 (1 : Int64)).set 3 (1 : Int64)) h13 n0 Z13 Hq12 rfl (by decide) rfl (by decide) (fun q => absurd q (own_nd1 (by decide) hn2 hd2)) (own_nd1 (by decide) hn2 hd2)) e13 (by decide) 0 rfl (by decide) (by decide) (by decide) (by rw [hml]; rfl) (argsL := [(.int (1 : Int32)), (.int nn), (.int (nn + dd))]) (rest := []) (lenOf pd_7 rfl) rfl (hb hby at_90) (pc' := 93) (fun v15 T15 Lq15 X15 hQ15 => ?_)
  obtain ⟨h15, e15⟩ : ∃ q, T15.heap = q := ⟨_, rfl⟩
  rw [e15] at hQ15
  obtain ⟨rfl, Nq15, Kq15, Hq14⟩ := hQ15
  have N15 := Fr.app N13 Nq15
  show OwnEnds p e below s _ _ _ T15 m 93 #[.val (.int x0), .val (.int x1), .val (.int x2), .val (.int x3), .val (.int x4), .val (.int mm), .val (.int nn), .val (.int dd), .val (.int fr), .val (.ref b2), .unset, .unset, .unset, .unset, .unset, .unset] []
  have E15_b2 := hE12.keep Kq15
  have Z15 : n0 ≤ h15.size := Nat.le_trans Z13 Kq15.1
  have hE14 := Hq14.1
  refine en_iload X15 hx (hb hby at_93) (pc' := 95) rfl ?_
  refine en_i2l X15 hx (hb hby at_95) (pc' := 96) ?_
  refine en_lconst X15 hx (1 : Int64) (hb hby at_96) (pc' := 97) ?_
  refine en_ladd X15 hx (hb hby at_97) (pc' := 98) ?_
  refine en_lstore X15 hx (hb hby at_98) (pc' := 100) (Ls' := #[.val (.int x0), .val (.int x1), .val (.int x2), .val (.int x3), .val (.int x4), .val (.int mm), .val (.int nn), .val (.int dd), .val (.int fr), .val (.ref b2), .val (.long ((mm.toInt64) + (1 : Int64))), .second, .unset, .unset, .unset, .unset]) rfl ?_
  refine en_ldc2 X15 hx hZ hown (tw hw 91 rfl) (hb hby at_100) (pc' := 103) ?_
  refine en_iload X15 hx (hb hby at_103) (pc' := 105) rfl ?_
  refine en_i2l X15 hx (hb hby at_105) (pc' := 106) ?_
  refine en_lmul X15 hx (hb hby at_106) (pc' := 107) ?_
  refine en_ldc2 X15 hx hZ hown (tw hw 92 rfl) (hb hby at_107) (pc' := 110) ?_
  refine en_iload X15 hx (hb hby at_110) (pc' := 112) rfl ?_
  refine en_i2l X15 hx (hb hby at_112) (pc' := 113) ?_
  refine en_lmul X15 hx (hb hby at_113) (pc' := 114) ?_
  refine en_ladd X15 hx (hb hby at_114) (pc' := 115) ?_
  refine en_lstore X15 hx (hb hby at_115) (pc' := 117) (Ls' := #[.val (.int x0), .val (.int x1), .val (.int x2), .val (.int x3), .val (.int x4), .val (.int mm), .val (.int nn), .val (.int dd), .val (.int fr), .val (.ref b2), .val (.long ((mm.toInt64) + (1 : Int64))), .second, .val (.long (((3 : Int64) * (nn.toInt64)) + ((4 : Int64) * (dd.toInt64)))), .second, .unset, .unset]) rfl ?_
  refine r0_117_148 hw K X15 x0 x1 x2 x3 x4 mm nn dd fr b2 ((mm.toInt64) + (1 : Int64)) (((3 : Int64) * (nn.toInt64)) + ((4 : Int64) * (dd.toInt64))) ?_
  refine en_aload X15 hx (hb hby at_148) (pc' := 150) rfl rfl ?_
  refine en_callVP X15 hx hZ (y := (⟨"com/example/querent/querent/match/Automaton$StateCount", "size", "()I"⟩ : MethodName)) (z := (⟨"com/example/querent/querent/match/Automaton$StateCount", "size", "()I"⟩ : MethodName)) (K := "com/example/querent/querent/match/Automaton$StateCount") (fr := 0) (lo := 0) hown (tw hw 93 rfl) (tw hw 94 rfl) (notFace_of_selects (args := #[]) (mvT hZ (tw hw 96 rfl))) (tw hw 96 rfl) (tw hw 95 rfl) (tw hw 8 rfl) (tw hw 97 rfl) hE14 (by decide) (rm17 l Z a0 hw [] b2 bb kb (((((((0 : Int64) + (1 : Int64)) + ((f12 (own_acc (0 : Int64) (own_zero.set 0 (1 : Int64)) 0 (1 - 0)) mm (-1 : Int32)) - (own_acc (0 : Int64) (own_zero.set 0 (1 : Int64)) 0 (1 - 0)))) + (1 : Int64)) + (1 : Int64)) + (1 : Int64)) + ((f12 (own_acc (0 : Int64) (((((own_zero.set 0 (1 : Int64)).set 0 (f12 (own_acc (0 : Int64) (own_zero.set 0 (1 : Int64)) 0 (1 - 0)) mm (-1 : Int32))).set 1 (1 : Int64)).set 2 (1 : Int64)).set 3 (1 : Int64)) 1 (4 - 1)) nn (nn + dd)) - (own_acc (0 : Int64) (((((own_zero.set 0 (1 : Int64)).set 0 (f12 (own_acc (0 : Int64) (own_zero.set 0 (1 : Int64)) 0 (1 - 0)) mm (-1 : Int32))).set 1 (1 : Int64)).set 2 (1 : Int64)).set 3 (1 : Int64)) 1 (4 - 1)))) ((1 : Int32) + (1 : Int32)) ((((((own_zero.set 0 (1 : Int64)).set 0 (f12 (own_acc (0 : Int64) (own_zero.set 0 (1 : Int64)) 0 (1 - 0)) mm (-1 : Int32))).set 1 (1 : Int64)).set 2 (1 : Int64)).set 3 (1 : Int64)).set 1 (f12 (own_acc (0 : Int64) (((((own_zero.set 0 (1 : Int64)).set 0 (f12 (own_acc (0 : Int64) (own_zero.set 0 (1 : Int64)) 0 (1 - 0)) mm (-1 : Int32))).set 1 (1 : Int64)).set 2 (1 : Int64)).set 3 (1 : Int64)) 1 (4 - 1)) nn (nn + dd))) _ n0 Z15 Hq14) e15 (by decide) 0 rfl (by decide) (by decide) (by decide) (by rw [hml]; rfl) (argsL := []) (rest := []) (lenOf pd_9 rfl) rfl (hb hby at_150) (pc' := 153) (fun T16 X16 e16 => ?_)
  refine en_iconst X16 hx (2 : Int32) (hb hby at_153) (pc' := 154) ?_
  refine en_icmpNo X16 hx (hb hby at_154) (teq (rfl : ((1 : Int32) + (1 : Int32)) = (2 : Int32))).2 (pc' := 157) ?_
  refine en_aload X16 hx (hb hby at_157) (pc' := 159) rfl rfl ?_
  refine en_iload X16 hx (hb hby at_159) (pc' := 161) rfl ?_
  rcases hf2 with rfl | rfl | rfl
  · refine en_callVP X16 hx hZ (y := (⟨"com/example/querent/querent/match/Automaton$StateCount", "statesFrom", "(I)J"⟩ : MethodName)) (z := (⟨"com/example/querent/querent/match/Automaton$StateCount", "statesFrom", "(I)J"⟩ : MethodName)) (K := "com/example/querent/querent/match/Automaton$StateCount") (fr := 0) (lo := 0) hown (tw hw 98 rfl) (tw hw 99 rfl) (notFace_of_selects (args := #[]) (mvT hZ (tw hw 100 rfl))) (tw hw 100 rfl) (tw hw 64 rfl) (tw hw 8 rfl) (tw hw 65 rfl) hE14 (by decide) (rm11 l Z a0 hw [] b2 (0 : Int32) 0 2 bb kb (((((((0 : Int64) + (1 : Int64)) + ((f12 (own_acc (0 : Int64) (own_zero.set 0 (1 : Int64)) 0 (1 - 0)) mm (-1 : Int32)) - (own_acc (0 : Int64) (own_zero.set 0 (1 : Int64)) 0 (1 - 0)))) + (1 : Int64)) + (1 : Int64)) + (1 : Int64)) + ((f12 (own_acc (0 : Int64) (((((own_zero.set 0 (1 : Int64)).set 0 (f12 (own_acc (0 : Int64) (own_zero.set 0 (1 : Int64)) 0 (1 - 0)) mm (-1 : Int32))).set 1 (1 : Int64)).set 2 (1 : Int64)).set 3 (1 : Int64)) 1 (4 - 1)) nn (nn + dd)) - (own_acc (0 : Int64) (((((own_zero.set 0 (1 : Int64)).set 0 (f12 (own_acc (0 : Int64) (own_zero.set 0 (1 : Int64)) 0 (1 - 0)) mm (-1 : Int32))).set 1 (1 : Int64)).set 2 (1 : Int64)).set 3 (1 : Int64)) 1 (4 - 1)))) ((1 : Int32) + (1 : Int32)) ((((((own_zero.set 0 (1 : Int64)).set 0 (f12 (own_acc (0 : Int64) (own_zero.set 0 (1 : Int64)) 0 (1 - 0)) mm (-1 : Int32))).set 1 (1 : Int64)).set 2 (1 : Int64)).set 3 (1 : Int64)).set 1 (f12 (own_acc (0 : Int64) (((((own_zero.set 0 (1 : Int64)).set 0 (f12 (own_acc (0 : Int64) (own_zero.set 0 (1 : Int64)) 0 (1 - 0)) mm (-1 : Int32))).set 1 (1 : Int64)).set 2 (1 : Int64)).set 3 (1 : Int64)) 1 (4 - 1)) nn (nn + dd))) _ n0 Z15 Hq14 rfl rfl (by decide)) e16 (by decide) 0 rfl (by decide) (by decide) (by decide) (by rw [hml]; rfl) (argsL := [(.int (0 : Int32))]) (rest := []) (lenOf pd_3 rfl) rfl (hb hby at_161) (pc' := 164) (fun T17 X17 e17 => ?_)
    refine en_lload X17 hx (hb hby at_164) (pc' := 166) rfl ?_
    refine en_lcmp X17 hx (hb hby at_166) (pc' := 167) ?_
    refine en_ifNo X17 hx (hb hby at_167) (weq (own_fin0 mm nn dd hn2 hd2)).2 (pc' := 170) ?_
    refine en_iconst X17 hx (1 : Int32) (hb hby at_170) (pc' := 171) ?_
    refine en_goto X17 hx (hb hby at_171) (pc' := 175) ?_
    exact en_retZ X17 hx hret hlk (hb hby at_175) rfl (by decide) (by decide) (by first | (rw [e17]; exact ⟨rfl, N15⟩) | exact ⟨rfl, N15⟩)
  · refine en_callVP X16 hx hZ (y := (⟨"com/example/querent/querent/match/Automaton$StateCount", "statesFrom", "(I)J"⟩ : MethodName)) (z := (⟨"com/example/querent/querent/match/Automaton$StateCount", "statesFrom", "(I)J"⟩ : MethodName)) (K := "com/example/querent/querent/match/Automaton$StateCount") (fr := 0) (lo := 0) hown (tw hw 98 rfl) (tw hw 99 rfl) (notFace_of_selects (args := #[]) (mvT hZ (tw hw 100 rfl))) (tw hw 100 rfl) (tw hw 64 rfl) (tw hw 8 rfl) (tw hw 65 rfl) hE14 (by decide) (rm11 l Z a0 hw [] b2 (1 : Int32) 1 2 bb kb (((((((0 : Int64) + (1 : Int64)) + ((f12 (own_acc (0 : Int64) (own_zero.set 0 (1 : Int64)) 0 (1 - 0)) mm (-1 : Int32)) - (own_acc (0 : Int64) (own_zero.set 0 (1 : Int64)) 0 (1 - 0)))) + (1 : Int64)) + (1 : Int64)) + (1 : Int64)) + ((f12 (own_acc (0 : Int64) (((((own_zero.set 0 (1 : Int64)).set 0 (f12 (own_acc (0 : Int64) (own_zero.set 0 (1 : Int64)) 0 (1 - 0)) mm (-1 : Int32))).set 1 (1 : Int64)).set 2 (1 : Int64)).set 3 (1 : Int64)) 1 (4 - 1)) nn (nn + dd)) - (own_acc (0 : Int64) (((((own_zero.set 0 (1 : Int64)).set 0 (f12 (own_acc (0 : Int64) (own_zero.set 0 (1 : Int64)) 0 (1 - 0)) mm (-1 : Int32))).set 1 (1 : Int64)).set 2 (1 : Int64)).set 3 (1 : Int64)) 1 (4 - 1)))) ((1 : Int32) + (1 : Int32)) ((((((own_zero.set 0 (1 : Int64)).set 0 (f12 (own_acc (0 : Int64) (own_zero.set 0 (1 : Int64)) 0 (1 - 0)) mm (-1 : Int32))).set 1 (1 : Int64)).set 2 (1 : Int64)).set 3 (1 : Int64)).set 1 (f12 (own_acc (0 : Int64) (((((own_zero.set 0 (1 : Int64)).set 0 (f12 (own_acc (0 : Int64) (own_zero.set 0 (1 : Int64)) 0 (1 - 0)) mm (-1 : Int32))).set 1 (1 : Int64)).set 2 (1 : Int64)).set 3 (1 : Int64)) 1 (4 - 1)) nn (nn + dd))) _ n0 Z15 Hq14 rfl rfl (by decide)) e16 (by decide) 0 rfl (by decide) (by decide) (by decide) (by rw [hml]; rfl) (argsL := [(.int (1 : Int32))]) (rest := []) (lenOf pd_3 rfl) rfl (hb hby at_161) (pc' := 164) (fun T18 X18 e18 => ?_)
    refine en_lload X18 hx (hb hby at_164) (pc' := 166) rfl ?_
    refine en_lcmp X18 hx (hb hby at_166) (pc' := 167) ?_
    refine en_ifNo X18 hx (hb hby at_167) (weq (own_fin1 mm nn dd hn2 hd2)).2 (pc' := 170) ?_
    refine en_iconst X18 hx (1 : Int32) (hb hby at_170) (pc' := 171) ?_
    refine en_goto X18 hx (hb hby at_171) (pc' := 175) ?_
    exact en_retZ X18 hx hret hlk (hb hby at_175) rfl (by decide) (by decide) (by first | (rw [e18]; exact ⟨rfl, N15⟩) | exact ⟨rfl, N15⟩)
  · refine en_callVP X16 hx hZ (y := (⟨"com/example/querent/querent/match/Automaton$StateCount", "statesFrom", "(I)J"⟩ : MethodName)) (z := (⟨"com/example/querent/querent/match/Automaton$StateCount", "statesFrom", "(I)J"⟩ : MethodName)) (K := "com/example/querent/querent/match/Automaton$StateCount") (fr := 0) (lo := 0) hown (tw hw 98 rfl) (tw hw 99 rfl) (notFace_of_selects (args := #[]) (mvT hZ (tw hw 100 rfl))) (tw hw 100 rfl) (tw hw 64 rfl) (tw hw 8 rfl) (tw hw 65 rfl) hE14 (by decide) (rm11 l Z a0 hw [] b2 (2 : Int32) 2 2 bb kb (((((((0 : Int64) + (1 : Int64)) + ((f12 (own_acc (0 : Int64) (own_zero.set 0 (1 : Int64)) 0 (1 - 0)) mm (-1 : Int32)) - (own_acc (0 : Int64) (own_zero.set 0 (1 : Int64)) 0 (1 - 0)))) + (1 : Int64)) + (1 : Int64)) + (1 : Int64)) + ((f12 (own_acc (0 : Int64) (((((own_zero.set 0 (1 : Int64)).set 0 (f12 (own_acc (0 : Int64) (own_zero.set 0 (1 : Int64)) 0 (1 - 0)) mm (-1 : Int32))).set 1 (1 : Int64)).set 2 (1 : Int64)).set 3 (1 : Int64)) 1 (4 - 1)) nn (nn + dd)) - (own_acc (0 : Int64) (((((own_zero.set 0 (1 : Int64)).set 0 (f12 (own_acc (0 : Int64) (own_zero.set 0 (1 : Int64)) 0 (1 - 0)) mm (-1 : Int32))).set 1 (1 : Int64)).set 2 (1 : Int64)).set 3 (1 : Int64)) 1 (4 - 1)))) ((1 : Int32) + (1 : Int32)) ((((((own_zero.set 0 (1 : Int64)).set 0 (f12 (own_acc (0 : Int64) (own_zero.set 0 (1 : Int64)) 0 (1 - 0)) mm (-1 : Int32))).set 1 (1 : Int64)).set 2 (1 : Int64)).set 3 (1 : Int64)).set 1 (f12 (own_acc (0 : Int64) (((((own_zero.set 0 (1 : Int64)).set 0 (f12 (own_acc (0 : Int64) (own_zero.set 0 (1 : Int64)) 0 (1 - 0)) mm (-1 : Int32))).set 1 (1 : Int64)).set 2 (1 : Int64)).set 3 (1 : Int64)) 1 (4 - 1)) nn (nn + dd))) _ n0 Z15 Hq14 rfl rfl (by decide)) e16 (by decide) 0 rfl (by decide) (by decide) (by decide) (by rw [hml]; rfl) (argsL := [(.int (2 : Int32))]) (rest := []) (lenOf pd_3 rfl) rfl (hb hby at_161) (pc' := 164) (fun T19 X19 e19 => ?_)
    refine en_lload X19 hx (hb hby at_164) (pc' := 166) rfl ?_
    refine en_lcmp X19 hx (hb hby at_166) (pc' := 167) ?_
    refine en_ifNo X19 hx (hb hby at_167) (weq (own_fin2 mm nn dd hn2 hd2)).2 (pc' := 170) ?_
    refine en_iconst X19 hx (1 : Int32) (hb hby at_170) (pc' := 171) ?_
    refine en_goto X19 hx (hb hby at_171) (pc' := 175) ?_
    exact en_retZ X19 hx hret hlk (hb hby at_175) rfl (by decide) (by decide) (by first | (rw [e19]; exact ⟨rfl, N15⟩) | exact ⟨rfl, N15⟩)
set_option maxRecDepth 65536 in
set_option maxHeartbeats 40000000 in
theorem comes_1 {Post : Tables → Env → Array Value → State → Outcome → State → Prop} (hpost : ∀ tb e args s v u, (limb_1_1.after args s (.returned v) u = true ∧ limb_1_2.after args s (.returned v) u = true ∧ True) → FrameEnd s (.returned v) u (Jvm.fieldLocs frame_1_writes args s ++ Jvm.arrayLocs frame_1_arrays args s ++ Jvm.staticLocs frame_1_statics s) 16 128 → Post tb e args s (.returned v) u) :
    ArmFor flags0 classFile x code maxLocals ret World_1 tables_1 room_1 Calls_1 rest_1 Pre_1 Post := by
  intro l hfl _ _ p e ha hc hk s m args below hf hA hF happ hP
  obtain ⟨hcalls, hrest, hpre⟩ := hP
  obtain ⟨-, -, -, hnamed, -, -, -, hat⟩ := (Spec.applies_iff hf).mp happ
  obtain ⟨hg, hn⟩ := and_e (Cond.before_iff.mp (show (Jvm.Cond.and given_1 narrow_1).before args s = true from hpre))
  obtain ⟨g1, g2⟩ := and_e hg
  obtain ⟨g3, g4⟩ := and_e g2
  obtain ⟨g5, g6⟩ := and_e g4
  obtain ⟨g7, g8⟩ := and_e g6
  obtain ⟨g9, g10⟩ := and_e g8
  obtain ⟨w0, w1, w2, w3, w4, rfl⟩ : ∃ w0 w1 w2 w3 w4 : Value, args = #[w0, w1, w2, w3, w4] := by
    have hs : args.size = 5 := by simpa [Cond.value, given_1] using g1
    obtain ⟨L⟩ := args
    match L, hs with
    | [w0, w1, w2, w3, w4], _ => exact ⟨w0, w1, w2, w3, w4, rfl⟩
  have hw := fun d (hd : d ∈ tables_1) => atoms_spec (ws := Jvm.Cond.code x code maxLocals ret :: tables_1) hat d (List.mem_cons_of_mem _ hd)
  obtain ⟨i0, ei0⟩ := is_v g3
  obtain rfl : w0 = (.int i0) := Option.some.inj ei0
  obtain ⟨i1, ei1⟩ := is_v g5
  obtain rfl : w1 = (.int i1) := Option.some.inj ei1
  obtain ⟨i2, ei2⟩ := is_v g7
  obtain rfl : w2 = (.int i2) := Option.some.inj ei2
  obtain ⟨i3, ei3⟩ := is_v g9
  obtain rfl : w3 = (.int i3) := Option.some.inj ei3
  obtain ⟨i4, ei4⟩ := is_v g10
  obtain rfl : w4 = (.int i4) := Option.some.inj ei4
  obtain ⟨n, o, h1, h2, h3, _, L, rfl, ⟨rfl, N⟩, hq⟩ := rm0 l s _ hw tables_1 i0 i1 i2 i3 i4 s.heap s.heap.size (Nat.le_refl _)  p e ha hc hk s m _ below hf ((Spec.applies_iff_loose hf).mp happ).1 ⟨rfl, State.Warmed39.refl s, rfl⟩ trivial
  refine ⟨n, _, h1, h2, h3, hpost _ _ _ _ _ _ ⟨Cond.after_iff.mpr rfl, Cond.after_iff.mpr (eq_i res_at (Term.int_eval (1)) rfl), trivial⟩ ⟨hq.1, hq.2.1, (hq.2.2.sift fun y hy => Or.inr (N y hy)).mono (by decide) (by decide)⟩⟩
theorem main_1_1 : Claimed_1_1 := comes_1 fun _ _ _ _ _ _ h hF => ⟨h.1, hF⟩
theorem main_1_2 : Claimed_1_2 := comes_1 fun _ _ _ _ _ _ h hF => ⟨h.2.1, hF⟩
end Jvm.Pilot.@@N@@
namespace Jvm.Pilot.@@N@@
open Jvm Jvm.ClassFile Sem Op Lib Jvm.Free Jvm.Stand Jvm.Pilot.@@N@@.Jvm.D
/-! MADE BY PROGRAM (witnessworld.py) out of the Statement's table words and the real class files: 13 classes; the members and pool entries that the words name. The judged class is class 1, her method 1. -/
namespace start1
open Jvm.ClassFile
def u (s : String) : CpInfo := .utf8 (stringToUtf16 s)
/-- a pool by its gaps: so many unusable entries, then the entry; so many at the end -/
def gap : Nat → List CpInfo → List CpInfo
  | 0, r => r
  | n + 1, r => .unusable :: gap n r
def poolList (es : List (Nat × CpInfo)) (last : Nat) : List CpInfo := es.foldr (fun e r => gap e.1 (e.2 :: r)) (gap last [])
def pool (es : List (Nat × CpInfo)) (last : Nat) : Array CpInfo := ⟨poolList es last⟩
def fileOf (pool : Array CpInfo) (this : Nat) (attrs : Array Attribute := #[]) (ms : Array MethodInfo := #[]) (fl : Nat := 33) (sup : Nat := 0) (ifs : Array Nat := #[]) (fds : Array FieldInfo := #[]) : ClassFile where
  minorVersion := 0
  majorVersion := 65
  constantPool := pool
  accessFlags := fl
  thisClass := this
  superClass := sup
  interfaces := ifs
  fields := fds
  methods := ms
  attributes := attrs
def plain (name : String) (sup : Option ClassId) : Class where
  name := name
  kind := .ordinary
  loader := none
  accessFlags := 33
  super := sup
  interfaces := #[]
  cf := none
  fields := #[]
  methods := #[]
  instanceTypes := #[]
  staticTypes := #[]
  resolved := #[]
  callSites := []
  init := .initialized
  statics := none
  mirror := none

def pool0 : Array CpInfo := pool [(5, u "<init>"), (0, u "()V"), (1, .class_ 10), (1, u "java/lang/Object")] 113

def k0c0 : Code := { maxStack := 0, maxLocals := 1, code := object_method_1_code, exceptionTable := #[], attributes := #[] }
def k0m0 : Method := { name := "<init>", desc := "()V", sig := { parameters := [], returnType := none }, accessFlags := 1, code := some k0c0 }
/-- java/lang/Object -/
def k0 : Class := { plain "java/lang/Object" none with
  accessFlags := 33
  interfaces := #[]
  cf := some (fileOf pool0 8 #[] #[{ accessFlags := 1, nameIndex := 5, descriptorIndex := 6, attributes := #[] }] 33 0 #[] #[])
  fields := #[]
  methods := #[k0m0]
  instanceTypes := #[]
  staticTypes := #[]
  resolved := Array.replicate 124 none
  statics := none }

def pool1 : Array CpInfo := pool [(2, .class_ 4), (1, u "java/lang/Object"), (0, u "<init>"), (0, u "()V"), (0, .integer 2147483647), (0, .methodref 9 10), (0, .class_ 11), (0, .nameAndType 12 13), (0, u "java/lang/Math"), (0, u "max"), (0, u "(II)I"), (0, .integer 65535), (0, .class_ 16), (0, u "com/example/querent/querent/match/Automaton$StateCount"), (2, .long 9223372036854775807), (1, .methodref 15 22), (0, .nameAndType 5 23), (0, u "(J)V"), (0, .methodref 15 25), (0, .nameAndType 26 27), (0, u "literal"), (0, u "(I)V"), (2, .methodref 15 31), (0, .nameAndType 32 33), (0, u "repeat"), (0, u "(III)V"), (0, .methodref 15 35), (0, .nameAndType 36 6), (0, u "empty"), (0, .methodref 15 38), (0, .nameAndType 39 6), (0, u "alternate"), (0, .long 3), (1, .long 4), (1, .methodref 15 45), (0, .nameAndType 46 47), (0, u "size"), (0, u "()I"), (0, .methodref 15 49), (0, .nameAndType 50 51), (0, u "statesFrom"), (0, u "(I)J"), (0, .class_ 53), (0, u "com/example/querent/querent/match/StateCountStatesFromPinLaw"), (2, u "law"), (0, u "(IIIII)Z")] 5

def k1m0 : Method := { name := "<init>", desc := "()V", sig := { parameters := [], returnType := none }, accessFlags := 1, code := none }
def k1c1 : Code := { maxStack := 6, maxLocals := 16, code := code, exceptionTable := #[], attributes := #[] }
def k1m1 : Method := { name := "law", desc := "(IIIII)Z", sig := { parameters := [.int, .int, .int, .int, .int], returnType := some .boolean }, accessFlags := 9, code := some k1c1 }
/-- com/example/querent/querent/match/StateCountStatesFromPinLaw -/
def k1 : Class := { plain "com/example/querent/querent/match/StateCountStatesFromPinLaw" (some 0) with
  accessFlags := 49
  interfaces := #[]
  cf := some (fileOf pool1 52 #[] #[{ accessFlags := 1, nameIndex := 5, descriptorIndex := 6, attributes := #[] }, { accessFlags := 9, nameIndex := 56, descriptorIndex := 57, attributes := #[] }] 49 2 #[] #[])
  fields := #[]
  methods := #[k1m0, k1m1]
  instanceTypes := #[]
  staticTypes := #[]
  resolved := Array.replicate 63 none
  statics := none }

def pool2 : Array CpInfo := pool [(1, .class_ 2), (0, u "java/lang/Math"), (1, .class_ 6), (1, u "java/lang/Object"), (0, u "<init>"), (0, u "()V"), (89, .class_ 100), (1, u "java/lang/Math$RandomNumberGeneratorHolder"), (71, u "negativeZeroFloatBits"), (0, u "J"), (2, u "negativeZeroDoubleBits"), (21, u "max"), (46, u "$assertionsDisabled"), (0, u "Z"), (88, u "(II)I"), (2, u "twoToTheDoubleScaleDown"), (0, u "D"), (4, u "twoToTheDoubleScaleUp"), (9, u "E"), (3, u "PI"), (2, u "TAU"), (2, u "DEGREES_TO_RADIANS"), (0, u "RADIANS_TO_DEGREES")] 94

def k2m0 : Method := { name := "<init>", desc := "()V", sig := { parameters := [], returnType := none }, accessFlags := 2, code := none }
def k2c1 : Code := { maxStack := 2, maxLocals := 2, code := jdk_29_method_65_code, exceptionTable := #[], attributes := #[] }
def k2m1 : Method := { name := "max", desc := "(II)I", sig := { parameters := [.int, .int], returnType := some .int }, accessFlags := 9, code := some k2c1 }
/-- java/lang/Math -/
def k2 : Class := { plain "java/lang/Math" (some 0) with
  accessFlags := 49
  interfaces := #[]
  cf := some (fileOf pool2 1 #[.nestMembers #[98]] #[{ accessFlags := 2, nameIndex := 7, descriptorIndex := 8, attributes := #[] }, { accessFlags := 9, nameIndex := 198, descriptorIndex := 335, attributes := #[] }] 49 4 #[] #[{ accessFlags := 25, nameIndex := 354, descriptorIndex := 339, attributes := #[] }, { accessFlags := 25, nameIndex := 358, descriptorIndex := 339, attributes := #[] }, { accessFlags := 25, nameIndex := 361, descriptorIndex := 339, attributes := #[] }, { accessFlags := 26, nameIndex := 364, descriptorIndex := 339, attributes := #[] }, { accessFlags := 26, nameIndex := 365, descriptorIndex := 339, attributes := #[] }, { accessFlags := 26, nameIndex := 172, descriptorIndex := 173, attributes := #[] }, { accessFlags := 26, nameIndex := 176, descriptorIndex := 173, attributes := #[] }, { accessFlags := 8, nameIndex := 344, descriptorIndex := 339, attributes := #[] }, { accessFlags := 8, nameIndex := 338, descriptorIndex := 339, attributes := #[] }, { accessFlags := 4120, nameIndex := 245, descriptorIndex := 246, attributes := #[] }])
  fields := #[{ name := "E", type := .double, accessFlags := 25, slot := 0, constantValue := 0 }, { name := "PI", type := .double, accessFlags := 25, slot := 1, constantValue := 0 }, { name := "TAU", type := .double, accessFlags := 25, slot := 2, constantValue := 0 }, { name := "DEGREES_TO_RADIANS", type := .double, accessFlags := 26, slot := 3, constantValue := 0 }, { name := "RADIANS_TO_DEGREES", type := .double, accessFlags := 26, slot := 4, constantValue := 0 }, { name := "negativeZeroFloatBits", type := .long, accessFlags := 26, slot := 5, constantValue := 0 }, { name := "negativeZeroDoubleBits", type := .long, accessFlags := 26, slot := 6, constantValue := 0 }, { name := "twoToTheDoubleScaleUp", type := .double, accessFlags := 8, slot := 7, constantValue := 0 }, { name := "twoToTheDoubleScaleDown", type := .double, accessFlags := 8, slot := 8, constantValue := 0 }, { name := "$assertionsDisabled", type := .boolean, accessFlags := 4120, slot := 9, constantValue := 0 }]
  methods := #[k2m0, k2m1]
  instanceTypes := #[]
  staticTypes := #[.double, .double, .double, .double, .double, .long, .long, .double, .double, .boolean]
  resolved := Array.replicate 460 none
  statics := none }

def pool3 : Array CpInfo := pool [(1, .class_ 2), (0, u "com/example/querent/querent/match/Automaton"), (0, .methodref 4 5), (0, .class_ 6), (0, .nameAndType 7 8), (0, u "java/lang/Object"), (0, u "<init>"), (0, u "()V"), (0, .fieldref 10 11), (0, .class_ 12), (0, .nameAndType 13 14), (0, u "com/example/querent/querent/match/Automaton$Postfix"), (0, u "maxStates"), (0, u "J"), (0, .methodref 10 16), (0, .nameAndType 17 18), (0, u "count"), (0, u "(J)V"), (0, .methodref 10 20), (0, .nameAndType 21 22), (0, u "writeSet"), (0, u "([I)V"), (0, .methodref 10 24), (0, .nameAndType 25 22), (0, u "set"), (2, u "ANY"), (0, u "[I"), (0, .methodref 10 31), (0, .nameAndType 32 33), (0, u "write"), (0, u "(I)V"), (0, .methodref 10 35), (0, .nameAndType 36 37), (0, u "statesFrom"), (0, u "(I)J"), (0, .methodref 10 39), (0, .nameAndType 40 41), (0, u "copies"), (0, u "(JII)J"), (0, .methodref 10 43), (0, .nameAndType 44 45), (0, u "writeCopies"), (0, u "(IIIJ)V"), (6, u "empty"), (0, .fieldref 10 54), (0, .nameAndType 55 14), (0, u "states"), (12, u "CONCAT"), (0, u "I"), (2, u "ALTERNATE"), (1, u "STAR"), (1, u "PLUS"), (1, u "OPTIONAL"), (1, u "EMPTY"), (3, u "literal"), (2, u "alternate"), (1, u "repeat"), (0, u "(III)V")] 23

def k3c0 : Code := { maxStack := 3, maxLocals := 3, code := prog_19_method_1_code, exceptionTable := #[], attributes := #[] }
def k3m0 : Method := { name := "<init>", desc := "(J)V", sig := { parameters := [.long], returnType := none }, accessFlags := 0, code := some k3c0 }
def k3c1 : Code := { maxStack := 3, maxLocals := 2, code := prog_19_method_2_code, exceptionTable := #[], attributes := #[] }
def k3m1 : Method := { name := "set", desc := "([I)V", sig := { parameters := [(.array .int)], returnType := none }, accessFlags := 16, code := some k3c1 }
def k3c2 : Code := { maxStack := 5, maxLocals := 2, code := prog_19_method_3_code, exceptionTable := #[], attributes := #[] }
def k3m2 : Method := { name := "literal", desc := "(I)V", sig := { parameters := [.int], returnType := none }, accessFlags := 16, code := some k3c2 }
def k3c3 : Code := { maxStack := 3, maxLocals := 1, code := prog_19_method_5_code, exceptionTable := #[], attributes := #[] }
def k3m3 : Method := { name := "empty", desc := "()V", sig := { parameters := [], returnType := none }, accessFlags := 16, code := some k3c3 }
def k3c4 : Code := { maxStack := 3, maxLocals := 1, code := prog_19_method_7_code, exceptionTable := #[], attributes := #[] }
def k3m4 : Method := { name := "alternate", desc := "()V", sig := { parameters := [], returnType := none }, accessFlags := 16, code := some k3c4 }
def k3c5 : Code := { maxStack := 6, maxLocals := 8, code := prog_19_method_10_code, exceptionTable := #[], attributes := #[] }
def k3m5 : Method := { name := "repeat", desc := "(III)V", sig := { parameters := [.int, .int, .int], returnType := none }, accessFlags := 16, code := some k3c5 }
def k3m6 : Method := { name := "write", desc := "(I)V", sig := { parameters := [.int], returnType := none }, accessFlags := 1024, code := none }
def k3m7 : Method := { name := "writeSet", desc := "([I)V", sig := { parameters := [(.array .int)], returnType := none }, accessFlags := 1024, code := none }
def k3m8 : Method := { name := "statesFrom", desc := "(I)J", sig := { parameters := [.int], returnType := some .long }, accessFlags := 1024, code := none }
def k3m9 : Method := { name := "writeCopies", desc := "(IIIJ)V", sig := { parameters := [.int, .int, .int, .long], returnType := none }, accessFlags := 1024, code := none }
def k3c10 : Code := { maxStack := 8, maxLocals := 6, code := prog_19_method_16_code, exceptionTable := #[], attributes := #[] }
def k3m10 : Method := { name := "copies", desc := "(JII)J", sig := { parameters := [.long, .int, .int], returnType := some .long }, accessFlags := 10, code := some k3c10 }
def k3c11 : Code := { maxStack := 5, maxLocals := 3, code := prog_19_method_17_code, exceptionTable := #[], attributes := #[] }
def k3m11 : Method := { name := "count", desc := "(J)V", sig := { parameters := [.long], returnType := none }, accessFlags := 2, code := some k3c11 }
/-- com/example/querent/querent/match/Automaton$Postfix -/
def k3 : Class := { plain "com/example/querent/querent/match/Automaton$Postfix" (some 0) with
  accessFlags := 1056
  interfaces := #[]
  cf := some (fileOf pool3 10 #[.nestHost 1] #[{ accessFlags := 0, nameIndex := 7, descriptorIndex := 18, attributes := #[] }, { accessFlags := 16, nameIndex := 25, descriptorIndex := 22, attributes := #[] }, { accessFlags := 16, nameIndex := 84, descriptorIndex := 33, attributes := #[] }, { accessFlags := 16, nameIndex := 52, descriptorIndex := 8, attributes := #[] }, { accessFlags := 16, nameIndex := 87, descriptorIndex := 8, attributes := #[] }, { accessFlags := 16, nameIndex := 89, descriptorIndex := 90, attributes := #[] }, { accessFlags := 1024, nameIndex := 32, descriptorIndex := 33, attributes := #[] }, { accessFlags := 1024, nameIndex := 21, descriptorIndex := 22, attributes := #[] }, { accessFlags := 1024, nameIndex := 36, descriptorIndex := 37, attributes := #[] }, { accessFlags := 1024, nameIndex := 44, descriptorIndex := 45, attributes := #[] }, { accessFlags := 10, nameIndex := 40, descriptorIndex := 41, attributes := #[] }, { accessFlags := 2, nameIndex := 17, descriptorIndex := 18, attributes := #[] }] 1056 4 #[] #[{ accessFlags := 24, nameIndex := 68, descriptorIndex := 69, attributes := #[] }, { accessFlags := 24, nameIndex := 72, descriptorIndex := 69, attributes := #[] }, { accessFlags := 24, nameIndex := 74, descriptorIndex := 69, attributes := #[] }, { accessFlags := 24, nameIndex := 76, descriptorIndex := 69, attributes := #[] }, { accessFlags := 24, nameIndex := 78, descriptorIndex := 69, attributes := #[] }, { accessFlags := 24, nameIndex := 80, descriptorIndex := 69, attributes := #[] }, { accessFlags := 26, nameIndex := 28, descriptorIndex := 29, attributes := #[] }, { accessFlags := 18, nameIndex := 13, descriptorIndex := 14, attributes := #[] }, { accessFlags := 2, nameIndex := 55, descriptorIndex := 14, attributes := #[] }])
  fields := #[{ name := "CONCAT", type := .int, accessFlags := 24, slot := 0, constantValue := 0 }, { name := "ALTERNATE", type := .int, accessFlags := 24, slot := 1, constantValue := 0 }, { name := "STAR", type := .int, accessFlags := 24, slot := 2, constantValue := 0 }, { name := "PLUS", type := .int, accessFlags := 24, slot := 3, constantValue := 0 }, { name := "OPTIONAL", type := .int, accessFlags := 24, slot := 4, constantValue := 0 }, { name := "EMPTY", type := .int, accessFlags := 24, slot := 5, constantValue := 0 }, { name := "ANY", type := (.array .int), accessFlags := 26, slot := 6, constantValue := 0 }, { name := "maxStates", type := .long, accessFlags := 18, slot := 0, constantValue := 0 }, { name := "states", type := .long, accessFlags := 2, slot := 1, constantValue := 0 }]
  methods := #[k3m0, k3m1, k3m2, k3m3, k3m4, k3m5, k3m6, k3m7, k3m8, k3m9, k3m10, k3m11]
  instanceTypes := #[.long, .long]
  staticTypes := #[.int, .int, .int, .int, .int, .int, (.array .int)]
  resolved := Array.replicate 114 none
  statics := none }

def pool4 : Array CpInfo := pool [(1, .methodref 2 3), (0, .class_ 4), (0, .nameAndType 5 6), (0, u "com/example/querent/querent/match/Automaton$Postfix"), (0, u "<init>"), (0, u "(J)V"), (0, .fieldref 8 9), (0, .class_ 10), (0, .nameAndType 11 12), (0, u "com/example/querent/querent/match/Automaton$StateCount"), (0, u "parts"), (0, u "[J"), (0, .fieldref 8 14), (0, .nameAndType 15 16), (0, u "size"), (0, u "I"), (0, .methodref 8 18), (0, .nameAndType 19 6), (0, u "add"), (8, u "()I"), (0, u "write"), (0, u "(I)V"), (1, u "writeSet"), (0, u "([I)V"), (0, u "statesFrom"), (0, u "(I)J"), (0, u "writeCopies"), (0, u "(IIIJ)V"), (3, .class_ 42), (0, u "com/example/querent/querent/match/Automaton")] 3

def k4c0 : Code := { maxStack := 3, maxLocals := 3, code := prog_21_method_1_code, exceptionTable := #[], attributes := #[] }
def k4m0 : Method := { name := "<init>", desc := "(J)V", sig := { parameters := [.long], returnType := none }, accessFlags := 0, code := some k4c0 }
def k4c1 : Code := { maxStack := 1, maxLocals := 1, code := prog_21_method_2_code, exceptionTable := #[], attributes := #[] }
def k4m1 : Method := { name := "size", desc := "()I", sig := { parameters := [], returnType := some .int }, accessFlags := 0, code := some k4c1 }
def k4c2 : Code := { maxStack := 3, maxLocals := 2, code := prog_21_method_3_code, exceptionTable := #[], attributes := #[] }
def k4m2 : Method := { name := "write", desc := "(I)V", sig := { parameters := [.int], returnType := none }, accessFlags := 0, code := some k4c2 }
def k4c3 : Code := { maxStack := 3, maxLocals := 2, code := prog_21_method_4_code, exceptionTable := #[], attributes := #[] }
def k4m3 : Method := { name := "writeSet", desc := "([I)V", sig := { parameters := [(.array .int)], returnType := none }, accessFlags := 0, code := some k4c3 }
def k4c4 : Code := { maxStack := 4, maxLocals := 5, code := prog_21_method_5_code, exceptionTable := #[], attributes := #[] }
def k4m4 : Method := { name := "statesFrom", desc := "(I)J", sig := { parameters := [.int], returnType := some .long }, accessFlags := 0, code := some k4c4 }
def k4c5 : Code := { maxStack := 3, maxLocals := 6, code := prog_21_method_6_code, exceptionTable := #[], attributes := #[] }
def k4m5 : Method := { name := "writeCopies", desc := "(IIIJ)V", sig := { parameters := [.int, .int, .int, .long], returnType := none }, accessFlags := 0, code := some k4c5 }
def k4c6 : Code := { maxStack := 5, maxLocals := 3, code := prog_21_method_7_code, exceptionTable := #[], attributes := #[] }
def k4m6 : Method := { name := "add", desc := "(J)V", sig := { parameters := [.long], returnType := none }, accessFlags := 2, code := some k4c6 }
/-- com/example/querent/querent/match/Automaton$StateCount -/
def k4 : Class := { plain "com/example/querent/querent/match/Automaton$StateCount" (some 3) with
  accessFlags := 48
  interfaces := #[]
  cf := some (fileOf pool4 8 #[.nestHost 41] #[{ accessFlags := 0, nameIndex := 5, descriptorIndex := 6, attributes := #[] }, { accessFlags := 0, nameIndex := 15, descriptorIndex := 28, attributes := #[] }, { accessFlags := 0, nameIndex := 29, descriptorIndex := 30, attributes := #[] }, { accessFlags := 0, nameIndex := 32, descriptorIndex := 33, attributes := #[] }, { accessFlags := 0, nameIndex := 34, descriptorIndex := 35, attributes := #[] }, { accessFlags := 0, nameIndex := 36, descriptorIndex := 37, attributes := #[] }, { accessFlags := 2, nameIndex := 19, descriptorIndex := 6, attributes := #[] }] 48 2 #[] #[{ accessFlags := 2, nameIndex := 11, descriptorIndex := 12, attributes := #[] }, { accessFlags := 2, nameIndex := 15, descriptorIndex := 16, attributes := #[] }])
  fields := #[{ name := "parts", type := (.array .long), accessFlags := 2, slot := 2, constantValue := 0 }, { name := "size", type := .int, accessFlags := 2, slot := 3, constantValue := 0 }]
  methods := #[k4m0, k4m1, k4m2, k4m3, k4m4, k4m5, k4m6]
  instanceTypes := #[.long, .long, (.array .long), .int]
  staticTypes := #[]
  resolved := Array.replicate 46 none
  statics := none }

def pool5 : Array CpInfo := pool [(1, u "java/lang/Cloneable"), (0, .class_ 1), (0, u "java/lang/Object"), (0, .class_ 3)] 3

/-- java/lang/Cloneable -/
def k5 : Class := { plain "java/lang/Cloneable" (some 0) with
  accessFlags := 1537
  interfaces := #[]
  cf := some (fileOf pool5 2 #[] #[] 1537 4 #[] #[])
  fields := #[]
  methods := #[]
  instanceTypes := #[]
  staticTypes := #[]
  resolved := Array.replicate 8 none
  statics := none }

def pool6 : Array CpInfo := pool [(1, u "java/io/Serializable"), (0, .class_ 1), (0, u "java/lang/Object"), (0, .class_ 3)] 3

/-- java/io/Serializable -/
def k6 : Class := { plain "java/io/Serializable" (some 0) with
  accessFlags := 1537
  interfaces := #[]
  cf := some (fileOf pool6 2 #[] #[] 1537 4 #[] #[])
  fields := #[]
  methods := #[]
  instanceTypes := #[]
  staticTypes := #[]
  resolved := Array.replicate 8 none
  statics := none }

/-- the primitive byte -/
def k7 : Class := { plain "byte" none with kind := .primitive 'B', accessFlags := 0x411 }
/-- [B -/
def k8 : Class := { plain "[B" (some 0) with kind := .array 7 .byte, interfaces := #[5, 6], accessFlags := 1041 }

/-- the primitive int -/
def k9 : Class := { plain "int" none with kind := .primitive 'I', accessFlags := 0x411 }
/-- [I -/
def k10 : Class := { plain "[I" (some 0) with kind := .array 9 .int, interfaces := #[5, 6], accessFlags := 1041 }

/-- the primitive long -/
def k11 : Class := { plain "long" none with kind := .primitive 'J', accessFlags := 0x411 }
/-- [J -/
def k12 : Class := { plain "[J" (some 0) with kind := .array 11 .long, interfaces := #[5, 6], accessFlags := 1041 }

def heap : Heap := #[]
def classes : Array Class := #[k0, k1, k2, k3, k4, k5, k6, k7, k8, k9, k10, k11, k12]
def interned : List (Array UInt16 × Addr) := []
def slotsUsed : Nat := 0
def theMethod : MethodId := ⟨1, 1⟩
def args0 : Array Value := #[.int 3, .int 5, .int 9, .int 1, .int 4]
def aboutOver (below : List Frame) : State where
  vm := { classes := classes, interned := interned.toArray }
  heap := heap
  slotsUsed := slotsUsed
  threads := #[{ frames := .invoking theMethod args0 :: below }]
def below0 : List Frame := [.native { method := ⟨0, 0⟩, args := #[] }]
def about1 : State := aboutOver below0
def p0 : Program := .bare "" "" ""
def e0 : Env := launch0.env 0 0 0
theorem w_frames : about1.frames = Frame.invoking theMethod args0 :: below0 := rfl
set_option maxRecDepth 65536 in
theorem w_args : argsFit about1.vm theMethod args0 = true := by decide +kernel
set_option maxRecDepth 65536 in
theorem w_heap : heapFits about1 = true := by decide +kernel
set_option maxRecDepth 65536 in
theorem w_runnable : about1.curStatus? = some .runnable := by decide +kernel
set_option maxRecDepth 65536 in
theorem w_alone : about1.alone = true := by decide +kernel
set_option maxRecDepth 65536 in
theorem w_named : about1.methodNamed? x = some theMethod := by decide +kernel
set_option maxRecDepth 65536 in
theorem w_hears : about1.hears theMethod below0 = true := by decide +kernel
set_option maxRecDepth 65536 in
theorem w_ripe : about1.ripe theMethod args0 below0 = true := by decide +kernel
theorem w_running : about1.status = .running := rfl
set_option maxRecDepth 65536 in
theorem w_room : about1.hasRoom e0.platform room_1 = true :=
  launch0.hasRoom_least _ room_1 (by decide +kernel) (by decide +kernel) (by decide +kernel) (by decide +kernel) (by decide +kernel) (by decide +kernel)
theorem allAtoms_all (ts : List Jvm.Cond) (a : Array Jvm.Value) (st : Jvm.State) : (allAtoms ts).before a st = ts.all (fun c => c.before a st) := by
  induction ts with
  | nil => rfl
  | cons c t ih =>
    show (Jvm.Cond.and c (allAtoms t)).before a st = _
    rw [Jvm.Cond.before_and, ih, List.all_cons]
def words1 : List Jvm.Cond := Jvm.Cond.code x code maxLocals ret :: tables_1
/-- a 'code' word, met by the world's own term for the bytes: nothing is compared byte by byte -/
theorem code_word {y : MethodName} {bytes : ByteArray} {mx : Nat} {rt : Option FieldType} {a : Array Value} {s : State} {m : MethodId} {meth : Method} {c : Code} (h1 : s.methodNamed? y = some m) (h2 : s.vm.method? m = some meth) (h3 : meth.code = some c) (h4 : c.code = bytes)
    (h5 : (c.maxLocals == mx && c.exceptionTable.isEmpty && decide (c.maxStack ≤ mostOperands) && decide (meth.sig.returnType = rt) && !meth.locks && decide (parseMethodDescriptor y.desc = some meth.sig)) = true) : (Jvm.Cond.code y bytes mx rt).before a s = true := by
  simp only [Bool.and_eq_true, beq_iff_eq, Bool.not_eq_true', decide_eq_true_eq] at h5
  obtain ⟨⟨⟨⟨⟨g1, g2⟩, g3⟩, g4⟩, g5⟩, g6⟩ := h5
  simp [Cond.before, Cond.holds, Cond.value, h1, h2, h3, h4, g1, g2, g3, g4, g5, g6]
def isCode : Jvm.Cond → Bool
  | .code _ _ _ _ => true
  | _ => false
theorem all_split {L : List Jvm.Cond} {P : Jvm.Cond → Bool} (h1 : L.all (fun c => isCode c || P c) = true) (h2 : ∀ c ∈ L.filter isCode, P c = true) : L.all P = true := by
  refine List.all_eq_true.mpr fun c hc => ?_
  have h := List.all_eq_true.mp h1 c hc
  rcases Bool.eq_false_or_eq_true (isCode c) with hi | hi
  · exact h2 c (List.mem_filter.mpr ⟨hc, hi⟩)
  · simpa [hi] using h
set_option maxRecDepth 65536 in
theorem w_c0 : (Jvm.Cond.code x code maxLocals ret).before args0 about1 = true := code_word (m := ⟨1, 1⟩) (meth := k1m1) (c := k1c1) (by decide +kernel) rfl rfl rfl (by decide +kernel)
set_option maxRecDepth 65536 in
theorem w_c1 : (Jvm.Cond.code ({ cls := "java/lang/Math", name := "max", desc := "(II)I" } : Jvm.MethodName) jdk_29_method_65_code (2 : Nat) (Option.some Jvm.ClassFile.FieldType.int)).before args0 about1 = true := code_word (m := ⟨2, 1⟩) (meth := k2m1) (c := k2c1) (by decide +kernel) rfl rfl rfl (by decide +kernel)
set_option maxRecDepth 65536 in
theorem w_c2 : (Jvm.Cond.code ({ cls := "com/example/querent/querent/match/Automaton$StateCount", name := "<init>", desc := "(J)V" } : Jvm.MethodName) prog_21_method_1_code (3 : Nat) (Option.none : Option Jvm.ClassFile.FieldType)).before args0 about1 = true := code_word (m := ⟨4, 0⟩) (meth := k4m0) (c := k4c0) (by decide +kernel) rfl rfl rfl (by decide +kernel)
set_option maxRecDepth 65536 in
theorem w_c3 : (Jvm.Cond.code ({ cls := "com/example/querent/querent/match/Automaton$Postfix", name := "<init>", desc := "(J)V" } : Jvm.MethodName) prog_19_method_1_code (3 : Nat) (Option.none : Option Jvm.ClassFile.FieldType)).before args0 about1 = true := code_word (m := ⟨3, 0⟩) (meth := k3m0) (c := k3c0) (by decide +kernel) rfl rfl rfl (by decide +kernel)
set_option maxRecDepth 65536 in
theorem w_c4 : (Jvm.Cond.code ({ cls := "java/lang/Object", name := "<init>", desc := "()V" } : Jvm.MethodName) object_method_1_code (1 : Nat) (Option.none : Option Jvm.ClassFile.FieldType)).before args0 about1 = true := code_word (m := ⟨0, 0⟩) (meth := k0m0) (c := k0c0) (by decide +kernel) rfl rfl rfl (by decide +kernel)
set_option maxRecDepth 65536 in
theorem w_c5 : (Jvm.Cond.code ({ cls := "com/example/querent/querent/match/Automaton$Postfix", name := "literal", desc := "(I)V" } : Jvm.MethodName) prog_19_method_3_code (2 : Nat) (Option.none : Option Jvm.ClassFile.FieldType)).before args0 about1 = true := code_word (m := ⟨3, 2⟩) (meth := k3m2) (c := k3c2) (by decide +kernel) rfl rfl rfl (by decide +kernel)
set_option maxRecDepth 65536 in
theorem w_c6 : (Jvm.Cond.code ({ cls := "com/example/querent/querent/match/Automaton$Postfix", name := "set", desc := "([I)V" } : Jvm.MethodName) prog_19_method_2_code (2 : Nat) (Option.none : Option Jvm.ClassFile.FieldType)).before args0 about1 = true := code_word (m := ⟨3, 1⟩) (meth := k3m1) (c := k3c1) (by decide +kernel) rfl rfl rfl (by decide +kernel)
set_option maxRecDepth 65536 in
theorem w_c7 : (Jvm.Cond.code ({ cls := "com/example/querent/querent/match/Automaton$Postfix", name := "count", desc := "(J)V" } : Jvm.MethodName) prog_19_method_17_code (3 : Nat) (Option.none : Option Jvm.ClassFile.FieldType)).before args0 about1 = true := code_word (m := ⟨3, 11⟩) (meth := k3m11) (c := k3c11) (by decide +kernel) rfl rfl rfl (by decide +kernel)
set_option maxRecDepth 65536 in
theorem w_c8 : (Jvm.Cond.code ({ cls := "com/example/querent/querent/match/Automaton$StateCount", name := "writeSet", desc := "([I)V" } : Jvm.MethodName) prog_21_method_4_code (2 : Nat) (Option.none : Option Jvm.ClassFile.FieldType)).before args0 about1 = true := code_word (m := ⟨4, 3⟩) (meth := k4m3) (c := k4c3) (by decide +kernel) rfl rfl rfl (by decide +kernel)
set_option maxRecDepth 65536 in
theorem w_c9 : (Jvm.Cond.code ({ cls := "com/example/querent/querent/match/Automaton$StateCount", name := "add", desc := "(J)V" } : Jvm.MethodName) prog_21_method_7_code (3 : Nat) (Option.none : Option Jvm.ClassFile.FieldType)).before args0 about1 = true := code_word (m := ⟨4, 6⟩) (meth := k4m6) (c := k4c6) (by decide +kernel) rfl rfl rfl (by decide +kernel)
set_option maxRecDepth 65536 in
theorem w_c10 : (Jvm.Cond.code ({ cls := "com/example/querent/querent/match/Automaton$Postfix", name := "repeat", desc := "(III)V" } : Jvm.MethodName) prog_19_method_10_code (8 : Nat) (Option.none : Option Jvm.ClassFile.FieldType)).before args0 about1 = true := code_word (m := ⟨3, 5⟩) (meth := k3m5) (c := k3c5) (by decide +kernel) rfl rfl rfl (by decide +kernel)
set_option maxRecDepth 65536 in
theorem w_c11 : (Jvm.Cond.code ({ cls := "com/example/querent/querent/match/Automaton$StateCount", name := "statesFrom", desc := "(I)J" } : Jvm.MethodName) prog_21_method_5_code (5 : Nat) (Option.some Jvm.ClassFile.FieldType.long)).before args0 about1 = true := code_word (m := ⟨4, 4⟩) (meth := k4m4) (c := k4c4) (by decide +kernel) rfl rfl rfl (by decide +kernel)
set_option maxRecDepth 65536 in
theorem w_c12 : (Jvm.Cond.code ({ cls := "com/example/querent/querent/match/Automaton$Postfix", name := "copies", desc := "(JII)J" } : Jvm.MethodName) prog_19_method_16_code (6 : Nat) (Option.some Jvm.ClassFile.FieldType.long)).before args0 about1 = true := code_word (m := ⟨3, 10⟩) (meth := k3m10) (c := k3c10) (by decide +kernel) rfl rfl rfl (by decide +kernel)
set_option maxRecDepth 65536 in
theorem w_c13 : (Jvm.Cond.code ({ cls := "com/example/querent/querent/match/Automaton$StateCount", name := "writeCopies", desc := "(IIIJ)V" } : Jvm.MethodName) prog_21_method_6_code (6 : Nat) (Option.none : Option Jvm.ClassFile.FieldType)).before args0 about1 = true := code_word (m := ⟨4, 5⟩) (meth := k4m5) (c := k4c5) (by decide +kernel) rfl rfl rfl (by decide +kernel)
set_option maxRecDepth 65536 in
theorem w_c14 : (Jvm.Cond.code ({ cls := "com/example/querent/querent/match/Automaton$Postfix", name := "empty", desc := "()V" } : Jvm.MethodName) prog_19_method_5_code (1 : Nat) (Option.none : Option Jvm.ClassFile.FieldType)).before args0 about1 = true := code_word (m := ⟨3, 3⟩) (meth := k3m3) (c := k3c3) (by decide +kernel) rfl rfl rfl (by decide +kernel)
set_option maxRecDepth 65536 in
theorem w_c15 : (Jvm.Cond.code ({ cls := "com/example/querent/querent/match/Automaton$StateCount", name := "write", desc := "(I)V" } : Jvm.MethodName) prog_21_method_3_code (2 : Nat) (Option.none : Option Jvm.ClassFile.FieldType)).before args0 about1 = true := code_word (m := ⟨4, 2⟩) (meth := k4m2) (c := k4c2) (by decide +kernel) rfl rfl rfl (by decide +kernel)
set_option maxRecDepth 65536 in
theorem w_c16 : (Jvm.Cond.code ({ cls := "com/example/querent/querent/match/Automaton$Postfix", name := "alternate", desc := "()V" } : Jvm.MethodName) prog_19_method_7_code (1 : Nat) (Option.none : Option Jvm.ClassFile.FieldType)).before args0 about1 = true := code_word (m := ⟨3, 4⟩) (meth := k3m4) (c := k3c4) (by decide +kernel) rfl rfl rfl (by decide +kernel)
set_option maxRecDepth 65536 in
theorem w_c17 : (Jvm.Cond.code ({ cls := "com/example/querent/querent/match/Automaton$StateCount", name := "size", desc := "()I" } : Jvm.MethodName) prog_21_method_2_code (1 : Nat) (Option.some Jvm.ClassFile.FieldType.int)).before args0 about1 = true := code_word (m := ⟨4, 1⟩) (meth := k4m1) (c := k4c1) (by decide +kernel) rfl rfl rfl (by decide +kernel)
def codes1 : List Jvm.Cond := [Jvm.Cond.code x code maxLocals ret, Jvm.Cond.code ({ cls := "java/lang/Math", name := "max", desc := "(II)I" } : Jvm.MethodName) jdk_29_method_65_code (2 : Nat) (Option.some Jvm.ClassFile.FieldType.int), Jvm.Cond.code ({ cls := "com/example/querent/querent/match/Automaton$StateCount", name := "<init>", desc := "(J)V" } : Jvm.MethodName) prog_21_method_1_code (3 : Nat) (Option.none : Option Jvm.ClassFile.FieldType), Jvm.Cond.code ({ cls := "com/example/querent/querent/match/Automaton$Postfix", name := "<init>", desc := "(J)V" } : Jvm.MethodName) prog_19_method_1_code (3 : Nat) (Option.none : Option Jvm.ClassFile.FieldType), Jvm.Cond.code ({ cls := "java/lang/Object", name := "<init>", desc := "()V" } : Jvm.MethodName) object_method_1_code (1 : Nat) (Option.none : Option Jvm.ClassFile.FieldType), Jvm.Cond.code ({ cls := "com/example/querent/querent/match/Automaton$Postfix", name := "literal", desc := "(I)V" } : Jvm.MethodName) prog_19_method_3_code (2 : Nat) (Option.none : Option Jvm.ClassFile.FieldType), Jvm.Cond.code ({ cls := "com/example/querent/querent/match/Automaton$Postfix", name := "set", desc := "([I)V" } : Jvm.MethodName) prog_19_method_2_code (2 : Nat) (Option.none : Option Jvm.ClassFile.FieldType), Jvm.Cond.code ({ cls := "com/example/querent/querent/match/Automaton$Postfix", name := "count", desc := "(J)V" } : Jvm.MethodName) prog_19_method_17_code (3 : Nat) (Option.none : Option Jvm.ClassFile.FieldType), Jvm.Cond.code ({ cls := "com/example/querent/querent/match/Automaton$StateCount", name := "writeSet", desc := "([I)V" } : Jvm.MethodName) prog_21_method_4_code (2 : Nat) (Option.none : Option Jvm.ClassFile.FieldType), Jvm.Cond.code ({ cls := "com/example/querent/querent/match/Automaton$StateCount", name := "add", desc := "(J)V" } : Jvm.MethodName) prog_21_method_7_code (3 : Nat) (Option.none : Option Jvm.ClassFile.FieldType), Jvm.Cond.code ({ cls := "com/example/querent/querent/match/Automaton$Postfix", name := "repeat", desc := "(III)V" } : Jvm.MethodName) prog_19_method_10_code (8 : Nat) (Option.none : Option Jvm.ClassFile.FieldType), Jvm.Cond.code ({ cls := "com/example/querent/querent/match/Automaton$StateCount", name := "statesFrom", desc := "(I)J" } : Jvm.MethodName) prog_21_method_5_code (5 : Nat) (Option.some Jvm.ClassFile.FieldType.long), Jvm.Cond.code ({ cls := "com/example/querent/querent/match/Automaton$Postfix", name := "copies", desc := "(JII)J" } : Jvm.MethodName) prog_19_method_16_code (6 : Nat) (Option.some Jvm.ClassFile.FieldType.long), Jvm.Cond.code ({ cls := "com/example/querent/querent/match/Automaton$StateCount", name := "writeCopies", desc := "(IIIJ)V" } : Jvm.MethodName) prog_21_method_6_code (6 : Nat) (Option.none : Option Jvm.ClassFile.FieldType), Jvm.Cond.code ({ cls := "com/example/querent/querent/match/Automaton$Postfix", name := "empty", desc := "()V" } : Jvm.MethodName) prog_19_method_5_code (1 : Nat) (Option.none : Option Jvm.ClassFile.FieldType), Jvm.Cond.code ({ cls := "com/example/querent/querent/match/Automaton$StateCount", name := "write", desc := "(I)V" } : Jvm.MethodName) prog_21_method_3_code (2 : Nat) (Option.none : Option Jvm.ClassFile.FieldType), Jvm.Cond.code ({ cls := "com/example/querent/querent/match/Automaton$Postfix", name := "alternate", desc := "()V" } : Jvm.MethodName) prog_19_method_7_code (1 : Nat) (Option.none : Option Jvm.ClassFile.FieldType), Jvm.Cond.code ({ cls := "com/example/querent/querent/match/Automaton$StateCount", name := "size", desc := "()I" } : Jvm.MethodName) prog_21_method_2_code (1 : Nat) (Option.some Jvm.ClassFile.FieldType.int)]
set_option maxRecDepth 65536 in
theorem codes_eq : words1.filter isCode = codes1 := rfl
theorem w_codes : ∀ c ∈ words1.filter isCode, c.before args0 about1 = true := by
  rw [codes_eq]
  intro c hc
  simp only [codes1, List.mem_cons, List.not_mem_nil, or_false] at hc
  rcases hc with rfl | rfl | rfl | rfl | rfl | rfl | rfl | rfl | rfl | rfl | rfl | rfl | rfl | rfl | rfl | rfl | rfl | rfl
  · exact w_c0
  · exact w_c1
  · exact w_c2
  · exact w_c3
  · exact w_c4
  · exact w_c5
  · exact w_c6
  · exact w_c7
  · exact w_c8
  · exact w_c9
  · exact w_c10
  · exact w_c11
  · exact w_c12
  · exact w_c13
  · exact w_c14
  · exact w_c15
  · exact w_c16
  · exact w_c17
set_option maxRecDepth 65536 in
theorem w_t1 : (words1.take 24).all (fun c => isCode c || c.before args0 about1) = true := by decide +kernel
set_option maxRecDepth 65536 in
theorem w_t2 : ((words1.drop 24).take 24).all (fun c => isCode c || c.before args0 about1) = true := by decide +kernel
set_option maxRecDepth 65536 in
theorem w_t3 : (((words1.drop 24).drop 24).take 24).all (fun c => isCode c || c.before args0 about1) = true := by decide +kernel
set_option maxRecDepth 65536 in
theorem w_t4 : ((((words1.drop 24).drop 24).drop 24).take 24).all (fun c => isCode c || c.before args0 about1) = true := by decide +kernel
set_option maxRecDepth 65536 in
theorem w_t5 : ((((words1.drop 24).drop 24).drop 24).drop 24).all (fun c => isCode c || c.before args0 about1) = true := by decide +kernel
theorem w_tables : (allAtoms (Jvm.Cond.code x code maxLocals ret :: tables_1)).before args0 about1 = true := by
  rw [allAtoms_all]
  show words1.all (fun c => c.before args0 about1) = true
  refine all_split ?_ w_codes
  rw [← List.take_append_drop 24 words1, List.all_append, w_t1, ← List.take_append_drop 24 (words1.drop 24), List.all_append, w_t2, ← List.take_append_drop 24 ((words1.drop 24).drop 24), List.all_append, w_t3, ← List.take_append_drop 24 (((words1.drop 24).drop 24).drop 24), List.all_append, w_t4, w_t5]
  rfl
set_option maxRecDepth 65536 in
theorem w_case : (Jvm.Cond.and given_1 narrow_1).before args0 about1 = true := by decide +kernel
theorem w_applies : (headSpec (Jvm.Cond.code x code maxLocals ret :: tables_1) room_1).applies x e0.platform about1 = true :=
  (Spec.applies_iff w_frames).mpr ⟨w_running, w_runnable, w_alone, w_named, w_hears, w_ripe, w_room, w_tables⟩
theorem atStart : AtStart classFile x code maxLocals ret World_1 tables_1 room_1 Calls_1 rest_1 Pre_1 launch0 p0 e0 about1 theMethod args0 below0 :=
  ⟨lists_1, trivial, launch0.admits_env _ _ _, launch0.least_env, fairChoices_fair.cas, fairChoices_fair.clock, w_frames, w_args, w_heap, w_applies, trivial, trivial, w_case⟩
end start1
theorem witness_1 : WitnessClaimed_1 := ⟨start1.p0, start1.e0, start1.about1, start1.theMethod, start1.args0, start1.below0, start1.atStart⟩
end Jvm.Pilot.@@N@@
