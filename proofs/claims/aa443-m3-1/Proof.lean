import JvmDerived
import JvmDerived.Pilot.@@N@@Statement
import JvmDerived.Pilot.@@N@@Code
set_option linter.unusedVariables false
set_option linter.unusedSimpArgs false
namespace Jvm.OwnKit
open Sem ClassFile Op Lib Jvm.Stand Jvm.Free Jvm.LawKit Jvm.RoadKit
section Kit
variable {p : Program} {l : Launch} {e : Env} {R : Room} {s : State} {m : MethodId} {args : Array Value} {below : List Frame} {meth : Method} {c : Code} {T : State} {locs : List Loc} {cells slots : Nat} {Z : State} {a0 : Array Value} {h : Heap} {C S : Nat} {Q : Option Value → Heap → List Loc → Prop} {Ls Ls' : Array Slot} {st st' rest : List Value} {pc pc' : Nat}
/-- from here the invocation ends by a return, with Q -/
def OwnEnds (p : Program) (e : Env) (below : List Frame) (s : State) (C S : Nat) (Q : Option Value → Heap → List Loc → Prop) (T : State) (m : MethodId) (pc : Nat) (Ls : Array Slot) (st : List Value) : Prop :=
  ∃ t o, Steps p.tables e below (T.setTop (mkF m pc Ls st)) t ∧ t.status = .running ∧ Ended t below o ∧ ∃ v L, o = .returned v ∧ Q v t.heap L ∧ FrameEnd s o t L C S
theorem OwnEnds.of {T' : State} (k : ∀ t, Steps p.tables e below (T'.setTop (mkF m pc' Ls' st')) t → Steps p.tables e below (T.setTop (mkF m pc Ls st)) t) (h : OwnEnds p e below s C S Q T' m pc' Ls' st') : OwnEnds p e below s C S Q T m pc Ls st := by
  obtain ⟨t, o, h1, h2⟩ := h
  exact ⟨t, o, k t h1, h2⟩
theorem OwnEnds.mono {Q' : Option Value → Heap → List Loc → Prop} (h : OwnEnds p e below s C S Q T m pc Ls st) (q : ∀ v h L, Q v h L → Q' v h L) : OwnEnds p e below s C S Q' T m pc Ls st := by
  obtain ⟨t, o, h1, h2, h3, v, L, h4, h5, h6⟩ := h
  exact ⟨t, o, h1, h2, h3, v, L, h4, q _ _ _ h5, h6⟩
/-- what a walk knows of its method -/
def Cx (p : Program) (s : State) (m : MethodId) (meth : Method) (c : Code) (Z : State) (y : MethodName) (bytes : ByteArray) (maxL : Nat) (ret : Option FieldType) : Prop :=
  p.tables.exec = Jvm.exec ∧ c.code = bytes ∧ c.maxLocals = maxL ∧ meth.sig.returnType = ret ∧ meth.locks = false ∧ meth.name = y.name ∧ s.vm.findClass y.cls = some m.cls ∧ Z.Warmed39 s.vm
/-- a contract: called with these arguments at the heap h0, the method returns with Q -/
def OwnMeets (l : Launch) (Z : State) (y : MethodName) (bytes : ByteArray) (maxL : Nat) (ret : Option FieldType) (ws : List Jvm.Cond) (rm : Room) (as' : Array Value) (h0 : Heap) (Q : Option Value → Heap → List Loc → Prop) : Prop :=
  MetFree l y (head1 (Jvm.Cond.code y bytes maxL ret :: ws) rm) (fun a U => a = as' ∧ Z.Warmed39 U.vm ∧ U.heap = h0) (fun _ _ _ _ _ => True) (fun _ U o U' => ∃ v L, o = .returned v ∧ Q v U'.heap L ∧ FrameEnd U o U' L rm.cells rm.slots)
theorem OwnMeets.of_walk {y : MethodName} {bytes : ByteArray} {maxL : Nat} {ret : Option FieldType} {ws : List Jvm.Cond} {rm : Room} {as' : Array Value} {h0 : Heap} (hpl : plainFor y = true) (hent : ∀ m, entryFrame m as' maxL = mkF m 0 Ls [])
    (body : ∀ (p : Program) (e : Env) (s : State) (m : MethodId) (below : List Frame) (meth : Method) (c : Code) (T : State), Stand p l e rm s m as' below meth c T [] 0 0 → Cx p s m meth c Z y bytes maxL ret → T.heap = h0 → OwnEnds p e below s rm.cells rm.slots Q T m 0 Ls []) :
    OwnMeets l Z y bytes maxL ret ws rm as' h0 Q := by
  refine MetFree.of_bodySF hpl hisR ?_
  intro p e s m args below meth c s₁ Bd hml0 hP hK
  obtain ⟨rfl, hZ, hh⟩ := hP
  have X0 : Stand p l e rm s m _ below meth c s₁ [] 0 0 := Stand.of_body Bd
  have e0 : s₁.heap = h0 := by rw [← hh, Bd.state]; rfl
  obtain ⟨t, o, h1, h2, h3, v, L, h4, h5, h6⟩ := body p e s m below meth c s₁ X0 ⟨Bd.exec, Bd.bytes, hml0, Bd.returns, BodyLoose.notSynchronized Bd, (name_of_methodNamed Bd.named Bd.method).1, findClass_of_methodNamed Bd.named, hZ⟩ e0
  exact ⟨t, o, castTop (hent m) h1, h2, h3, v, L, h4, h5, h6⟩
theorem tw {W : List Jvm.Cond} (hw : ∀ d ∈ W, d.before a0 Z = true) (i : Nat) {d : Jvm.Cond} (q : W[i]? = some d) : d.before a0 Z = true := hw d (List.mem_of_getElem? q)
theorem pick {P : Prop} [Decidable P] {α : Type} {A B : α} {F : α → Prop} {G : Prop} (k : F (if P then A else B)) (k1 : P → F A → G) (k2 : ¬ P → F B → G) : G := by
  by_cases q : P
  · exact k1 q (by rwa [if_pos q] at k)
  · exact k2 q (by rwa [if_neg q] at k)
theorem pickR {P : Prop} [Decidable P] {α : Type} {A B : α} {F : α → Prop} (k1 : P → F A) (k2 : ¬ P → F B) : F (if P then A else B) := by
  by_cases q : P
  · rw [if_pos q]; exact k1 q
  · rw [if_neg q]; exact k2 q
theorem en_iloadN (X : Stand p l e R s m args below meth c T locs cells slots) (hx : p.tables.exec = Jvm.exec) {k : Fin 4} {v : Int32} (hd : decode c.code pc = .ok (.iload_n k, 1)) (hl : Ls[k.val]? = some (.val (.int v))) (k : OwnEnds p e below s C S Q T m pc' Ls (.int v :: st)) (hp : pc + 1 = pc' := by rfl) : OwnEnds p e below s C S Q T m pc Ls st := by
  subst hp
  exact OwnEnds.of (fun _ k => XS.iloadN X.here hx (g := mkF m pc Ls st) rfl hd hl k) k
theorem en_iload (X : Stand p l e R s m args below meth c T locs cells slots) (hx : p.tables.exec = Jvm.exec) {k : Nat} {v : Int32} (hd : decode c.code pc = .ok (.iload k, 2)) (hl : Ls[k]? = some (.val (.int v))) (k : OwnEnds p e below s C S Q T m pc' Ls (.int v :: st)) (hp : pc + 2 = pc' := by rfl) : OwnEnds p e below s C S Q T m pc Ls st := by
  subst hp
  exact OwnEnds.of (fun _ k => XS.iload X.here hx (g := mkF m pc Ls st) rfl hd hl k) k
theorem en_istoreN (X : Stand p l e R s m args below meth c T locs cells slots) (hx : p.tables.exec = Jvm.exec) {k : Fin 4} {v : Int32} (hd : decode c.code pc = .ok (.istore_n k, 1)) (hl : storeLocals Ls k.val (.int v) = some Ls') (k : OwnEnds p e below s C S Q T m pc' Ls' st) (hp : pc + 1 = pc' := by rfl) : OwnEnds p e below s C S Q T m pc Ls (.int v :: st) := by
  subst hp
  exact OwnEnds.of (fun _ k => XS.istoreN X.here hx (g := mkF m pc Ls (.int v :: st)) rfl hd rfl hl k) k
theorem en_istore (X : Stand p l e R s m args below meth c T locs cells slots) (hx : p.tables.exec = Jvm.exec) {k : Nat} {v : Int32} (hd : decode c.code pc = .ok (.istore k, 2)) (hl : storeLocals Ls k (.int v) = some Ls') (k : OwnEnds p e below s C S Q T m pc' Ls' st) (hp : pc + 2 = pc' := by rfl) : OwnEnds p e below s C S Q T m pc Ls (.int v :: st) := by
  subst hp
  exact OwnEnds.of (fun _ k => XS.istore X.here hx (g := mkF m pc Ls (.int v :: st)) rfl hd rfl hl k) k
theorem en_lloadN (X : Stand p l e R s m args below meth c T locs cells slots) (hx : p.tables.exec = Jvm.exec) {k : Fin 4} {v : Int64} (hd : decode c.code pc = .ok (.lload_n k, 1)) (hl : Ls[k.val]? = some (.val (.long v))) (k : OwnEnds p e below s C S Q T m pc' Ls (.long v :: st)) (hp : pc + 1 = pc' := by rfl) : OwnEnds p e below s C S Q T m pc Ls st := by
  subst hp
  exact OwnEnds.of (fun _ k => XS.lloadN X.here hx (g := mkF m pc Ls st) rfl hd hl k) k
theorem en_lload (X : Stand p l e R s m args below meth c T locs cells slots) (hx : p.tables.exec = Jvm.exec) {k : Nat} {v : Int64} (hd : decode c.code pc = .ok (.lload k, 2)) (hl : Ls[k]? = some (.val (.long v))) (k : OwnEnds p e below s C S Q T m pc' Ls (.long v :: st)) (hp : pc + 2 = pc' := by rfl) : OwnEnds p e below s C S Q T m pc Ls st := by
  subst hp
  exact OwnEnds.of (fun _ k => XS.lload X.here hx (g := mkF m pc Ls st) rfl hd hl k) k
theorem en_lstoreN (X : Stand p l e R s m args below meth c T locs cells slots) (hx : p.tables.exec = Jvm.exec) {k : Fin 4} {v : Int64} (hd : decode c.code pc = .ok (.lstore_n k, 1)) (hl : storeLocals Ls k.val (.long v) = some Ls') (k : OwnEnds p e below s C S Q T m pc' Ls' st) (hp : pc + 1 = pc' := by rfl) : OwnEnds p e below s C S Q T m pc Ls (.long v :: st) := by
  subst hp
  exact OwnEnds.of (fun _ k => XS.lstoreN X.here hx (g := mkF m pc Ls (.long v :: st)) rfl hd rfl hl k) k
theorem en_lstore (X : Stand p l e R s m args below meth c T locs cells slots) (hx : p.tables.exec = Jvm.exec) {k : Nat} {v : Int64} (hd : decode c.code pc = .ok (.lstore k, 2)) (hl : storeLocals Ls k (.long v) = some Ls') (k : OwnEnds p e below s C S Q T m pc' Ls' st) (hp : pc + 2 = pc' := by rfl) : OwnEnds p e below s C S Q T m pc Ls (.long v :: st) := by
  subst hp
  exact OwnEnds.of (fun _ k => XS.lstore X.here hx (g := mkF m pc Ls (.long v :: st)) rfl hd rfl hl k) k
theorem en_aloadN (X : Stand p l e R s m args below meth c T locs cells slots) (hx : p.tables.exec = Jvm.exec) {k : Fin 4} {v : Value} (hd : decode c.code pc = .ok (.aload_n k, 1)) (hl : Ls[k.val]? = some (.val v)) (hv : v.isRef = true) (k : OwnEnds p e below s C S Q T m pc' Ls (v :: st)) (hp : pc + 1 = pc' := by rfl) : OwnEnds p e below s C S Q T m pc Ls st := by
  subst hp
  exact OwnEnds.of (fun _ k => XS.aloadN X.here hx (g := mkF m pc Ls st) rfl hd hl hv k) k
theorem en_aload (X : Stand p l e R s m args below meth c T locs cells slots) (hx : p.tables.exec = Jvm.exec) {k : Nat} {v : Value} (hd : decode c.code pc = .ok (.aload k, 2)) (hl : Ls[k]? = some (.val v)) (hv : v.isRef = true) (k : OwnEnds p e below s C S Q T m pc' Ls (v :: st)) (hp : pc + 2 = pc' := by rfl) : OwnEnds p e below s C S Q T m pc Ls st := by
  subst hp
  exact OwnEnds.of (fun _ k => XS.aload X.here hx (g := mkF m pc Ls st) rfl hd hl hv k) k
theorem en_astoreN (X : Stand p l e R s m args below meth c T locs cells slots) (hx : p.tables.exec = Jvm.exec) {k : Fin 4} {v : Value} (hd : decode c.code pc = .ok (.astore_n k, 1)) (hv : v.isRef = true) (hl : storeLocals Ls k.val v = some Ls') (k : OwnEnds p e below s C S Q T m pc' Ls' st) (hp : pc + 1 = pc' := by rfl) : OwnEnds p e below s C S Q T m pc Ls (v :: st) := by
  subst hp
  exact OwnEnds.of (fun _ k => XS.astoreN X.here hx (g := mkF m pc Ls (v :: st)) rfl hd rfl hv hl k) k
theorem en_astore (X : Stand p l e R s m args below meth c T locs cells slots) (hx : p.tables.exec = Jvm.exec) {k : Nat} {v : Value} (hd : decode c.code pc = .ok (.astore k, 2)) (hv : v.isRef = true) (hl : storeLocals Ls k v = some Ls') (k : OwnEnds p e below s C S Q T m pc' Ls' st) (hp : pc + 2 = pc' := by rfl) : OwnEnds p e below s C S Q T m pc Ls (v :: st) := by
  subst hp
  exact OwnEnds.of (fun _ k => XS.astore X.here hx (g := mkF m pc Ls (v :: st)) rfl hd rfl hv hl k) k
theorem en_dload (X : Stand p l e R s m args below meth c T locs cells slots) (hx : p.tables.exec = Jvm.exec) {k : Nat} {v : UInt64} (hd : decode c.code pc = .ok (.dload k, 2)) (hl : Ls[k]? = some (.val (.double v))) (k : OwnEnds p e below s C S Q T m pc' Ls (.double v :: st)) (hp : pc + 2 = pc' := by rfl) : OwnEnds p e below s C S Q T m pc Ls st := by
  subst hp
  exact OwnEnds.of (fun _ k => XS.dload X.here hx (g := mkF m pc Ls st) rfl hd hl k) k
theorem en_iconst (X : Stand p l e R s m args below meth c T locs cells slots) (hx : p.tables.exec = Jvm.exec) {i : Int} (v : Int32) (hd : decode c.code pc = .ok (.iconst i, 1)) (k : OwnEnds p e below s C S Q T m pc' Ls (.int v :: st)) (hv : Int32.ofInt i = v := by rfl) (hp : pc + 1 = pc' := by rfl) : OwnEnds p e below s C S Q T m pc Ls st := by
  subst hp hv
  exact OwnEnds.of (fun _ k => XS.iconst X.here hx (g := mkF m pc Ls st) rfl hd k) k
theorem en_bipush (X : Stand p l e R s m args below meth c T locs cells slots) (hx : p.tables.exec = Jvm.exec) {i : Int} (v : Int32) (hd : decode c.code pc = .ok (.bipush i, 2)) (k : OwnEnds p e below s C S Q T m pc' Ls (.int v :: st)) (hv : (Int8.ofInt i).toInt32 = v := by rfl) (hp : pc + 2 = pc' := by rfl) : OwnEnds p e below s C S Q T m pc Ls st := by
  subst hp hv
  exact OwnEnds.of (fun _ k => XS.bipush X.here hx (g := mkF m pc Ls st) rfl hd k) k
theorem en_sipush (X : Stand p l e R s m args below meth c T locs cells slots) (hx : p.tables.exec = Jvm.exec) {i : Int} (v : Int32) (hd : decode c.code pc = .ok (.sipush i, 3)) (k : OwnEnds p e below s C S Q T m pc' Ls (.int v :: st)) (hv : (Int16.ofInt i).toInt32 = v := by rfl) (hp : pc + 3 = pc' := by rfl) : OwnEnds p e below s C S Q T m pc Ls st := by
  subst hp hv
  exact OwnEnds.of (fun _ k => XS.sipush X.here hx (g := mkF m pc Ls st) rfl hd k) k
theorem en_lconst (X : Stand p l e R s m args below meth c T locs cells slots) (hx : p.tables.exec = Jvm.exec) {i : Fin 2} (v : Int64) (hd : decode c.code pc = .ok (.lconst i, 1)) (k : OwnEnds p e below s C S Q T m pc' Ls (.long v :: st)) (hv : Int64.ofNat i = v := by rfl) (hp : pc + 1 = pc' := by rfl) : OwnEnds p e below s C S Q T m pc Ls st := by
  subst hp hv
  exact OwnEnds.of (fun _ k => XS.lconst X.here hx (g := mkF m pc Ls st) rfl hd k) k
theorem en_dconst0 (X : Stand p l e R s m args below meth c T locs cells slots) (hx : p.tables.exec = Jvm.exec) (hd : decode c.code pc = .ok (.dconst 0, 1)) (k : OwnEnds p e below s C S Q T m pc' Ls (.double FP.dconst0 :: st)) (hp : pc + 1 = pc' := by rfl) : OwnEnds p e below s C S Q T m pc Ls st := by
  subst hp
  exact OwnEnds.of (fun _ k => XS.dconst0 X.here hx (g := mkF m pc Ls st) rfl hd rfl k) k
theorem en_ldc (X : Stand p l e R s m args below meth c T locs cells slots) (hx : p.tables.exec = Jvm.exec) (hZ : Z.Warmed39 s.vm) {own : String} {index : Nat} {v : Int32} (hown : s.vm.findClass own = some m.cls) (w : (Jvm.Cond.constant own index v).before a0 Z = true) (hd : decode c.code pc = .ok (.ldc index, 2)) (k : OwnEnds p e below s C S Q T m pc' Ls (.int v :: st)) (hp : pc + 2 = pc' := by rfl) : OwnEnds p e below s C S Q T m pc Ls st := by
  subst hp
  exact OwnEnds.of (X.ldcInt hx hown (mvT hZ w) (g := mkF m pc Ls st) rfl hd) k
theorem en_ldc2 (X : Stand p l e R s m args below meth c T locs cells slots) (hx : p.tables.exec = Jvm.exec) (hZ : Z.Warmed39 s.vm) {own : String} {index : Nat} {v : Int64} (hown : s.vm.findClass own = some m.cls) (w : (Jvm.Cond.constantLong own index v).before a0 Z = true) (hd : decode c.code pc = .ok (.ldc2_w index, 3)) (k : OwnEnds p e below s C S Q T m pc' Ls (.long v :: st)) (hp : pc + 3 = pc' := by rfl) : OwnEnds p e below s C S Q T m pc Ls st := by
  subst hp
  exact OwnEnds.of (X.ldc2Long hx hown (mvT hZ w) (g := mkF m pc Ls st) rfl hd) k
theorem en_iadd (X : Stand p l e R s m args below meth c T locs cells slots) (hx : p.tables.exec = Jvm.exec) {x y : Int32} (hd : decode c.code pc = .ok (.iadd, 1))  (k : OwnEnds p e below s C S Q T m pc' Ls (.int (x + y) :: st)) (hp : pc + 1 = pc' := by rfl) : OwnEnds p e below s C S Q T m pc Ls (.int y :: .int x :: st) := by
  subst hp
  exact OwnEnds.of (fun _ k => XS.iadd X.here hx (g := mkF m pc Ls (.int y :: .int x :: st)) rfl hd rfl k) k
theorem en_isub (X : Stand p l e R s m args below meth c T locs cells slots) (hx : p.tables.exec = Jvm.exec) {x y : Int32} (hd : decode c.code pc = .ok (.isub, 1))  (k : OwnEnds p e below s C S Q T m pc' Ls (.int (x - y) :: st)) (hp : pc + 1 = pc' := by rfl) : OwnEnds p e below s C S Q T m pc Ls (.int y :: .int x :: st) := by
  subst hp
  exact OwnEnds.of (fun _ k => XS.isub X.here hx (g := mkF m pc Ls (.int y :: .int x :: st)) rfl hd rfl k) k
theorem en_imul (X : Stand p l e R s m args below meth c T locs cells slots) (hx : p.tables.exec = Jvm.exec) {x y : Int32} (hd : decode c.code pc = .ok (.imul, 1))  (k : OwnEnds p e below s C S Q T m pc' Ls (.int (x * y) :: st)) (hp : pc + 1 = pc' := by rfl) : OwnEnds p e below s C S Q T m pc Ls (.int y :: .int x :: st) := by
  subst hp
  exact OwnEnds.of (fun _ k => XS.imul X.here hx (g := mkF m pc Ls (.int y :: .int x :: st)) rfl hd rfl k) k
theorem en_iand (X : Stand p l e R s m args below meth c T locs cells slots) (hx : p.tables.exec = Jvm.exec) {x y : Int32} (hd : decode c.code pc = .ok (.iand, 1))  (k : OwnEnds p e below s C S Q T m pc' Ls (.int (x &&& y) :: st)) (hp : pc + 1 = pc' := by rfl) : OwnEnds p e below s C S Q T m pc Ls (.int y :: .int x :: st) := by
  subst hp
  exact OwnEnds.of (fun _ k => XS.iand X.here hx (g := mkF m pc Ls (.int y :: .int x :: st)) rfl hd rfl k) k
theorem en_ior (X : Stand p l e R s m args below meth c T locs cells slots) (hx : p.tables.exec = Jvm.exec) {x y : Int32} (hd : decode c.code pc = .ok (.ior, 1))  (k : OwnEnds p e below s C S Q T m pc' Ls (.int (x ||| y) :: st)) (hp : pc + 1 = pc' := by rfl) : OwnEnds p e below s C S Q T m pc Ls (.int y :: .int x :: st) := by
  subst hp
  exact OwnEnds.of (fun _ k => XS.ior X.here hx (g := mkF m pc Ls (.int y :: .int x :: st)) rfl hd rfl k) k
theorem en_ixor (X : Stand p l e R s m args below meth c T locs cells slots) (hx : p.tables.exec = Jvm.exec) {x y : Int32} (hd : decode c.code pc = .ok (.ixor, 1))  (k : OwnEnds p e below s C S Q T m pc' Ls (.int (x ^^^ y) :: st)) (hp : pc + 1 = pc' := by rfl) : OwnEnds p e below s C S Q T m pc Ls (.int y :: .int x :: st) := by
  subst hp
  exact OwnEnds.of (fun _ k => XS.ixor X.here hx (g := mkF m pc Ls (.int y :: .int x :: st)) rfl hd rfl k) k
theorem en_ishl (X : Stand p l e R s m args below meth c T locs cells slots) (hx : p.tables.exec = Jvm.exec) {x y : Int32} (hd : decode c.code pc = .ok (.ishl, 1))  (k : OwnEnds p e below s C S Q T m pc' Ls (.int (x <<< (y &&& 31)) :: st)) (hp : pc + 1 = pc' := by rfl) : OwnEnds p e below s C S Q T m pc Ls (.int y :: .int x :: st) := by
  subst hp
  exact OwnEnds.of (fun _ k => XS.ishl X.here hx (g := mkF m pc Ls (.int y :: .int x :: st)) rfl hd rfl k) k
theorem en_ishr (X : Stand p l e R s m args below meth c T locs cells slots) (hx : p.tables.exec = Jvm.exec) {x y : Int32} (hd : decode c.code pc = .ok (.ishr, 1))  (k : OwnEnds p e below s C S Q T m pc' Ls (.int (x >>> (y &&& 31)) :: st)) (hp : pc + 1 = pc' := by rfl) : OwnEnds p e below s C S Q T m pc Ls (.int y :: .int x :: st) := by
  subst hp
  exact OwnEnds.of (fun _ k => XS.ishr X.here hx (g := mkF m pc Ls (.int y :: .int x :: st)) rfl hd rfl k) k
theorem en_iushr (X : Stand p l e R s m args below meth c T locs cells slots) (hx : p.tables.exec = Jvm.exec) {x y : Int32} (hd : decode c.code pc = .ok (.iushr, 1))  (k : OwnEnds p e below s C S Q T m pc' Ls (.int ((x.toUInt32 >>> (y &&& 31).toUInt32).toInt32) :: st)) (hp : pc + 1 = pc' := by rfl) : OwnEnds p e below s C S Q T m pc Ls (.int y :: .int x :: st) := by
  subst hp
  exact OwnEnds.of (fun _ k => XS.iushr X.here hx (g := mkF m pc Ls (.int y :: .int x :: st)) rfl hd rfl k) k
theorem en_ladd (X : Stand p l e R s m args below meth c T locs cells slots) (hx : p.tables.exec = Jvm.exec) {x y : Int64} (hd : decode c.code pc = .ok (.ladd, 1))  (k : OwnEnds p e below s C S Q T m pc' Ls (.long (x + y) :: st)) (hp : pc + 1 = pc' := by rfl) : OwnEnds p e below s C S Q T m pc Ls (.long y :: .long x :: st) := by
  subst hp
  exact OwnEnds.of (fun _ k => XS.ladd X.here hx (g := mkF m pc Ls (.long y :: .long x :: st)) rfl hd rfl k) k
theorem en_lsub (X : Stand p l e R s m args below meth c T locs cells slots) (hx : p.tables.exec = Jvm.exec) {x y : Int64} (hd : decode c.code pc = .ok (.lsub, 1))  (k : OwnEnds p e below s C S Q T m pc' Ls (.long (x - y) :: st)) (hp : pc + 1 = pc' := by rfl) : OwnEnds p e below s C S Q T m pc Ls (.long y :: .long x :: st) := by
  subst hp
  exact OwnEnds.of (fun _ k => XS.lsub X.here hx (g := mkF m pc Ls (.long y :: .long x :: st)) rfl hd rfl k) k
theorem en_lmul (X : Stand p l e R s m args below meth c T locs cells slots) (hx : p.tables.exec = Jvm.exec) {x y : Int64} (hd : decode c.code pc = .ok (.lmul, 1))  (k : OwnEnds p e below s C S Q T m pc' Ls (.long (x * y) :: st)) (hp : pc + 1 = pc' := by rfl) : OwnEnds p e below s C S Q T m pc Ls (.long y :: .long x :: st) := by
  subst hp
  exact OwnEnds.of (fun _ k => XS.lmul X.here hx (g := mkF m pc Ls (.long y :: .long x :: st)) rfl hd rfl k) k
theorem en_land (X : Stand p l e R s m args below meth c T locs cells slots) (hx : p.tables.exec = Jvm.exec) {x y : Int64} (hd : decode c.code pc = .ok (.land, 1))  (k : OwnEnds p e below s C S Q T m pc' Ls (.long (x &&& y) :: st)) (hp : pc + 1 = pc' := by rfl) : OwnEnds p e below s C S Q T m pc Ls (.long y :: .long x :: st) := by
  subst hp
  exact OwnEnds.of (fun _ k => XS.land X.here hx (g := mkF m pc Ls (.long y :: .long x :: st)) rfl hd rfl k) k
theorem en_lor (X : Stand p l e R s m args below meth c T locs cells slots) (hx : p.tables.exec = Jvm.exec) {x y : Int64} (hd : decode c.code pc = .ok (.lor, 1))  (k : OwnEnds p e below s C S Q T m pc' Ls (.long (x ||| y) :: st)) (hp : pc + 1 = pc' := by rfl) : OwnEnds p e below s C S Q T m pc Ls (.long y :: .long x :: st) := by
  subst hp
  exact OwnEnds.of (fun _ k => XS.lor X.here hx (g := mkF m pc Ls (.long y :: .long x :: st)) rfl hd rfl k) k
theorem en_lxor (X : Stand p l e R s m args below meth c T locs cells slots) (hx : p.tables.exec = Jvm.exec) {x y : Int64} (hd : decode c.code pc = .ok (.lxor, 1))  (k : OwnEnds p e below s C S Q T m pc' Ls (.long (x ^^^ y) :: st)) (hp : pc + 1 = pc' := by rfl) : OwnEnds p e below s C S Q T m pc Ls (.long y :: .long x :: st) := by
  subst hp
  exact OwnEnds.of (fun _ k => XS.lxor X.here hx (g := mkF m pc Ls (.long y :: .long x :: st)) rfl hd rfl k) k
theorem en_lshl (X : Stand p l e R s m args below meth c T locs cells slots) (hx : p.tables.exec = Jvm.exec) {x : Int64} {y : Int32} (hd : decode c.code pc = .ok (.lshl, 1))  (k : OwnEnds p e below s C S Q T m pc' Ls (.long (x <<< (y &&& 0x3f).toInt64) :: st)) (hp : pc + 1 = pc' := by rfl) : OwnEnds p e below s C S Q T m pc Ls (.int y :: .long x :: st) := by
  subst hp
  exact OwnEnds.of (fun _ k => XS.lshl X.here hx (g := mkF m pc Ls (.int y :: .long x :: st)) rfl hd rfl k) k
theorem en_lshr (X : Stand p l e R s m args below meth c T locs cells slots) (hx : p.tables.exec = Jvm.exec) {x : Int64} {y : Int32} (hd : decode c.code pc = .ok (.lshr, 1))  (k : OwnEnds p e below s C S Q T m pc' Ls (.long (x >>> (y &&& 0x3f).toInt64) :: st)) (hp : pc + 1 = pc' := by rfl) : OwnEnds p e below s C S Q T m pc Ls (.int y :: .long x :: st) := by
  subst hp
  exact OwnEnds.of (fun _ k => XS.lshr X.here hx (g := mkF m pc Ls (.int y :: .long x :: st)) rfl hd rfl k) k
theorem en_lushr (X : Stand p l e R s m args below meth c T locs cells slots) (hx : p.tables.exec = Jvm.exec) {x : Int64} {y : Int32} (hd : decode c.code pc = .ok (.lushr, 1))  (k : OwnEnds p e below s C S Q T m pc' Ls (.long ((x.toUInt64 >>> (y &&& 0x3f).toInt64.toUInt64).toInt64) :: st)) (hp : pc + 1 = pc' := by rfl) : OwnEnds p e below s C S Q T m pc Ls (.int y :: .long x :: st) := by
  subst hp
  exact OwnEnds.of (fun _ k => XS.lushr X.here hx (g := mkF m pc Ls (.int y :: .long x :: st)) rfl hd rfl k) k
theorem en_lcmp (X : Stand p l e R s m args below meth c T locs cells slots) (hx : p.tables.exec = Jvm.exec) {x y : Int64} (hd : decode c.code pc = .ok (.lcmp, 1))  (k : OwnEnds p e below s C S Q T m pc' Ls (.int (lcmpW x y) :: st)) (hp : pc + 1 = pc' := by rfl) : OwnEnds p e below s C S Q T m pc Ls (.long y :: .long x :: st) := by
  subst hp
  exact OwnEnds.of (fun _ k => XS.lcmp X.here hx (g := mkF m pc Ls (.long y :: .long x :: st)) rfl hd rfl k) k
theorem en_i2l (X : Stand p l e R s m args below meth c T locs cells slots) (hx : p.tables.exec = Jvm.exec) {x : Int32} (hd : decode c.code pc = .ok (.i2l, 1))  (k : OwnEnds p e below s C S Q T m pc' Ls (.long (x.toInt64) :: st)) (hp : pc + 1 = pc' := by rfl) : OwnEnds p e below s C S Q T m pc Ls (.int x :: st) := by
  subst hp
  exact OwnEnds.of (fun _ k => XS.i2l X.here hx (g := mkF m pc Ls (.int x :: st)) rfl hd rfl k) k
theorem en_l2i (X : Stand p l e R s m args below meth c T locs cells slots) (hx : p.tables.exec = Jvm.exec) {x : Int64} (hd : decode c.code pc = .ok (.l2i, 1))  (k : OwnEnds p e below s C S Q T m pc' Ls (.int (x.toInt32) :: st)) (hp : pc + 1 = pc' := by rfl) : OwnEnds p e below s C S Q T m pc Ls (.long x :: st) := by
  subst hp
  exact OwnEnds.of (fun _ k => XS.l2i X.here hx (g := mkF m pc Ls (.long x :: st)) rfl hd rfl k) k
theorem en_i2b (X : Stand p l e R s m args below meth c T locs cells slots) (hx : p.tables.exec = Jvm.exec) {x : Int32} (hd : decode c.code pc = .ok (.i2b, 1))  (k : OwnEnds p e below s C S Q T m pc' Ls (.int (x.toInt8.toInt32) :: st)) (hp : pc + 1 = pc' := by rfl) : OwnEnds p e below s C S Q T m pc Ls (.int x :: st) := by
  subst hp
  exact OwnEnds.of (fun _ k => XS.i2b X.here hx (g := mkF m pc Ls (.int x :: st)) rfl hd rfl k) k
theorem en_i2c (X : Stand p l e R s m args below meth c T locs cells slots) (hx : p.tables.exec = Jvm.exec) {x : Int32} (hd : decode c.code pc = .ok (.i2c, 1))  (k : OwnEnds p e below s C S Q T m pc' Ls (.int (x.toUInt32.toUInt16.toUInt32.toInt32) :: st)) (hp : pc + 1 = pc' := by rfl) : OwnEnds p e below s C S Q T m pc Ls (.int x :: st) := by
  subst hp
  exact OwnEnds.of (fun _ k => XS.i2c X.here hx (g := mkF m pc Ls (.int x :: st)) rfl hd rfl k) k
theorem en_i2s (X : Stand p l e R s m args below meth c T locs cells slots) (hx : p.tables.exec = Jvm.exec) {x : Int32} (hd : decode c.code pc = .ok (.i2s, 1))  (k : OwnEnds p e below s C S Q T m pc' Ls (.int (x.toInt16.toInt32) :: st)) (hp : pc + 1 = pc' := by rfl) : OwnEnds p e below s C S Q T m pc Ls (.int x :: st) := by
  subst hp
  exact OwnEnds.of (fun _ k => XS.i2s X.here hx (g := mkF m pc Ls (.int x :: st)) rfl hd rfl k) k
theorem en_ineg (X : Stand p l e R s m args below meth c T locs cells slots) (hx : p.tables.exec = Jvm.exec) {x : Int32} (hd : decode c.code pc = .ok (.ineg, 1))  (k : OwnEnds p e below s C S Q T m pc' Ls (.int (-x) :: st)) (hp : pc + 1 = pc' := by rfl) : OwnEnds p e below s C S Q T m pc Ls (.int x :: st) := by
  subst hp
  exact OwnEnds.of (fun _ k => XS.ineg X.here hx (g := mkF m pc Ls (.int x :: st)) rfl hd rfl k) k
theorem en_lneg (X : Stand p l e R s m args below meth c T locs cells slots) (hx : p.tables.exec = Jvm.exec) {x : Int64} (hd : decode c.code pc = .ok (.lneg, 1))  (k : OwnEnds p e below s C S Q T m pc' Ls (.long (-x) :: st)) (hp : pc + 1 = pc' := by rfl) : OwnEnds p e below s C S Q T m pc Ls (.long x :: st) := by
  subst hp
  exact OwnEnds.of (fun _ k => XS.lneg X.here hx (g := mkF m pc Ls (.long x :: st)) rfl hd rfl k) k
theorem en_idiv (X : Stand p l e R s m args below meth c T locs cells slots) (hx : p.tables.exec = Jvm.exec) {x y : Int32} (hd : decode c.code pc = .ok (.idiv, 1)) (hy : y ≠ 0) (k : OwnEnds p e below s C S Q T m pc' Ls (.int (x / y) :: st)) (hp : pc + 1 = pc' := by rfl) : OwnEnds p e below s C S Q T m pc Ls (.int y :: .int x :: st) := by
  subst hp
  exact OwnEnds.of (fun _ k => XS.idiv X.here hx (g := mkF m pc Ls (.int y :: .int x :: st)) rfl hd rfl hy k) k
theorem en_irem (X : Stand p l e R s m args below meth c T locs cells slots) (hx : p.tables.exec = Jvm.exec) {x y : Int32} (hd : decode c.code pc = .ok (.irem, 1)) (hy : y ≠ 0) (k : OwnEnds p e below s C S Q T m pc' Ls (.int (x % y) :: st)) (hp : pc + 1 = pc' := by rfl) : OwnEnds p e below s C S Q T m pc Ls (.int y :: .int x :: st) := by
  subst hp
  exact OwnEnds.of (fun _ k => iremM (g := mkF m pc Ls (.int y :: .int x :: st)) X hx rfl hd rfl hy k) k
theorem en_lrem (X : Stand p l e R s m args below meth c T locs cells slots) (hx : p.tables.exec = Jvm.exec) {x y : Int64} (hd : decode c.code pc = .ok (.lrem, 1)) (hy : y ≠ 0) (k : OwnEnds p e below s C S Q T m pc' Ls (.long (x % y) :: st)) (hp : pc + 1 = pc' := by rfl) : OwnEnds p e below s C S Q T m pc Ls (.long y :: .long x :: st) := by
  subst hp
  rw [← lrem_mod x y] at k
  exact OwnEnds.of (fun _ k => XS.lrem X.here hx (g := mkF m pc Ls (.long y :: .long x :: st)) rfl hd rfl hy k) k
theorem en_dup (X : Stand p l e R s m args below meth c T locs cells slots) (hx : p.tables.exec = Jvm.exec) {v : Value} (hd : decode c.code pc = .ok (.dup, 1)) (hc : v.category = 1) (k : OwnEnds p e below s C S Q T m pc' Ls (v :: v :: st)) (hp : pc + 1 = pc' := by rfl) : OwnEnds p e below s C S Q T m pc Ls (v :: st) := by
  subst hp
  exact OwnEnds.of (fun _ k => XS.dup X.here hx (g := mkF m pc Ls (v :: st)) rfl hd rfl hc k) k
theorem en_pop (X : Stand p l e R s m args below meth c T locs cells slots) (hx : p.tables.exec = Jvm.exec) {v : Value} (hd : decode c.code pc = .ok (.pop, 1)) (hc : v.category = 1) (k : OwnEnds p e below s C S Q T m pc' Ls st) (hp : pc + 1 = pc' := by rfl) : OwnEnds p e below s C S Q T m pc Ls (v :: st) := by
  subst hp
  exact OwnEnds.of (fun _ k => XS.pop X.here hx (g := mkF m pc Ls (v :: st)) rfl hd rfl hc k) k
theorem en_dupX1 (X : Stand p l e R s m args below meth c T locs cells slots) (hx : p.tables.exec = Jvm.exec) {v w : Value} (hd : decode c.code pc = .ok (.dup_x1, 1)) (hc : v.category = 1) (hc2 : w.category = 1) (k : OwnEnds p e below s C S Q T m pc' Ls (v :: w :: v :: st)) (hp : pc + 1 = pc' := by rfl) : OwnEnds p e below s C S Q T m pc Ls (v :: w :: st) := by
  subst hp
  exact OwnEnds.of (fun _ k => XS.dupX1 X.here hx (g := mkF m pc Ls (v :: w :: st)) rfl hd rfl hc hc2 k) k
theorem en_iinc (X : Stand p l e R s m args below meth c T locs cells slots) (hx : p.tables.exec = Jvm.exec) {k : Nat} {q : Int} {x : Int32} (hd : decode c.code pc = .ok (.iinc k q, 3)) (hl : Ls[k]? = some (.val (.int x))) (hl' : storeLocals Ls k (.int (x + Int32.ofInt q)) = some Ls') (k : OwnEnds p e below s C S Q T m pc' Ls' st) (hp : pc + 3 = pc' := by rfl) : OwnEnds p e below s C S Q T m pc Ls st := by
  subst hp
  exact OwnEnds.of (fun _ k => XS.iinc X.here hx (g := mkF m pc Ls st) rfl hd hl hl' k) k
theorem en_goto (X : Stand p l e R s m args below meth c T locs cells slots) (hx : p.tables.exec = Jvm.exec) {o : Int} (hd : decode c.code pc = .ok (.goto o, 3)) (k : OwnEnds p e below s C S Q T m pc' Ls st) (ho : 0 ≤ (pc : Int) + o := by decide) (hp : ((pc : Int) + o).toNat = pc' := by decide) : OwnEnds p e below s C S Q T m pc Ls st := by
  exact OwnEnds.of (fun _ k => XS.goto X.here hx (g := mkF m pc Ls st) rfl rfl hd ho hp k) k
theorem en_ifYes (X : Stand p l e R s m args below meth c T locs cells slots) (hx : p.tables.exec = Jvm.exec) {cd : ClassFile.Cond} {o : Int} {x : Int32} (hd : decode c.code pc = .ok (.ifCond cd o, 3)) (hc : ifCond.holds cd x = true) (k : OwnEnds p e below s C S Q T m pc' Ls st) (ho : 0 ≤ (pc : Int) + o := by decide) (hp : ((pc : Int) + o).toNat = pc' := by decide) : OwnEnds p e below s C S Q T m pc Ls (.int x :: st) := by
  exact OwnEnds.of (fun _ k => XS.ifYes X.here hx (g := mkF m pc Ls (.int x :: st)) rfl rfl hd rfl hc ho hp k) k
theorem en_ifNo (X : Stand p l e R s m args below meth c T locs cells slots) (hx : p.tables.exec = Jvm.exec) {cd : ClassFile.Cond} {o : Int} {x : Int32} (hd : decode c.code pc = .ok (.ifCond cd o, 3)) (hc : ifCond.holds cd x = false) (k : OwnEnds p e below s C S Q T m pc' Ls st) (hp : pc + 3 = pc' := by rfl) : OwnEnds p e below s C S Q T m pc Ls (.int x :: st) := by
  subst hp
  exact OwnEnds.of (fun _ k => XS.ifNo X.here hx (g := mkF m pc Ls (.int x :: st)) rfl hd rfl hc k) k
theorem en_icmpYes (X : Stand p l e R s m args below meth c T locs cells slots) (hx : p.tables.exec = Jvm.exec) {cd : ClassFile.Cond} {o : Int} {x y : Int32} (hd : decode c.code pc = .ok (.if_icmp cd o, 3)) (hc : if_icmp.holds cd x y = true) (k : OwnEnds p e below s C S Q T m pc' Ls st) (ho : 0 ≤ (pc : Int) + o := by decide) (hp : ((pc : Int) + o).toNat = pc' := by decide) : OwnEnds p e below s C S Q T m pc Ls (.int y :: .int x :: st) := by
  exact OwnEnds.of (fun _ k => XS.icmpYes X.here hx (g := mkF m pc Ls (.int y :: .int x :: st)) rfl rfl hd rfl hc ho hp k) k
theorem en_icmpNo (X : Stand p l e R s m args below meth c T locs cells slots) (hx : p.tables.exec = Jvm.exec) {cd : ClassFile.Cond} {o : Int} {x y : Int32} (hd : decode c.code pc = .ok (.if_icmp cd o, 3)) (hc : if_icmp.holds cd x y = false) (k : OwnEnds p e below s C S Q T m pc' Ls st) (hp : pc + 3 = pc' := by rfl) : OwnEnds p e below s C S Q T m pc Ls (.int y :: .int x :: st) := by
  subst hp
  exact OwnEnds.of (fun _ k => XS.icmpNo X.here hx (g := mkF m pc Ls (.int y :: .int x :: st)) rfl hd rfl hc k) k
theorem wlt {x y : Int64} (h : x < y) : ifCond.holds .lt (lcmpW x y) = true ∧ ifCond.holds .ge (lcmpW x y) = false := by
  have q := (lw_lt x y).mpr h
  exact ⟨(if0 _ _).trans (tlt q).1, (if0 _ _).trans (tlt q).2.1⟩
theorem nwlt {x y : Int64} (h : ¬ x < y) : ifCond.holds .lt (lcmpW x y) = false ∧ ifCond.holds .ge (lcmpW x y) = true := by
  have q : ¬ lcmpW x y < 0 := fun z => h ((lw_lt x y).mp z)
  exact ⟨(if0 _ _).trans (flt q).1, (if0 _ _).trans (flt q).2.1⟩
theorem wgt {x y : Int64} (h : y < x) : ifCond.holds .gt (lcmpW x y) = true ∧ ifCond.holds .le (lcmpW x y) = false := by
  have q := (lw_gt x y).mpr h
  exact ⟨(if0 _ _).trans (tlt q).2.2.1, (if0 _ _).trans (tlt q).2.2.2⟩
theorem nwgt {x y : Int64} (h : ¬ y < x) : ifCond.holds .gt (lcmpW x y) = false ∧ ifCond.holds .le (lcmpW x y) = true := by
  have q : ¬ 0 < lcmpW x y := fun z => h ((lw_gt x y).mp z)
  exact ⟨(if0 _ _).trans (flt q).2.2.1, (if0 _ _).trans (flt q).2.2.2⟩
theorem weq {x y : Int64} (h : x = y) : ifCond.holds .eq (lcmpW x y) = true ∧ ifCond.holds .ne (lcmpW x y) = false := by
  have q := (lw_eq x y).mpr h
  exact ⟨(if0 _ _).trans (teq q).1, (if0 _ _).trans (teq q).2⟩
theorem nweq {x y : Int64} (h : ¬ x = y) : ifCond.holds .eq (lcmpW x y) = false ∧ ifCond.holds .ne (lcmpW x y) = true := by
  have q : ¬ lcmpW x y = 0 := fun z => h ((lw_eq x y).mp z)
  exact ⟨(if0 _ _).trans (feq q).1, (if0 _ _).trans (feq q).2⟩
theorem en_ret {t : FieldType} {w : Value} {i : Instr} (X : Stand p l e R s m args below meth c T locs cells slots) (hx : p.tables.exec = Jvm.exec) (hret : meth.sig.returnType = some t) (hlk : meth.locks = false) (hd : decode c.code pc = .ok (i, 1)) (hn : narrow t w = w)
    (hi : (i = .ireturn ∧ (t = .int ∨ t = .boolean ∨ t = .byte ∨ t = .char ∨ t = .short) ∧ ∃ z, w = .int z) ∨ (i = .lreturn ∧ t = .long ∧ ∃ z, w = .long z) ∨ (i = .dreturn ∧ t = .double ∧ ∃ z, w = .double z) ∨ (i = .freturn ∧ t = .float ∧ ∃ z, w = .float z) ∨ (i = .areturn ∧ t.isReference = true ∧ w.isRef = true))
    (hc : cells ≤ C) (hs : slots ≤ S) (hq : Q (some w) T.heap locs) : OwnEnds p e below s C S Q T m pc Ls (w :: st) := by
  obtain ⟨fs, hr, hrun, hended, hW, hsame⟩ := X.leave (v := some w) (fun q => by rw [hret] at q; cases q) hlk
  exact ⟨_, _, retOut X hx hret hn hi hd hr, hrun, hended, _, _, rfl, hq, ⟨_, rfl⟩, hW, hsame.mono hc hs⟩
theorem en_retI {z : Int32} (X : Stand p l e R s m args below meth c T locs cells slots) (hx : p.tables.exec = Jvm.exec) (hret : meth.sig.returnType = some .int) (hlk : meth.locks = false) (hd : decode c.code pc = .ok (.ireturn, 1)) (hc : cells ≤ C) (hs : slots ≤ S) (hq : Q (some (.int z)) T.heap locs) : OwnEnds p e below s C S Q T m pc Ls (.int z :: st) :=
  en_ret X hx hret hlk hd rfl (Or.inl ⟨rfl, Or.inl rfl, _, rfl⟩) hc hs hq
theorem en_retZ {z : Int32} (X : Stand p l e R s m args below meth c T locs cells slots) (hx : p.tables.exec = Jvm.exec) (hret : meth.sig.returnType = some .boolean) (hlk : meth.locks = false) (hd : decode c.code pc = .ok (.ireturn, 1)) (hn : narrow .boolean (.int z) = .int z) (hc : cells ≤ C) (hs : slots ≤ S) (hq : Q (some (.int z)) T.heap locs) : OwnEnds p e below s C S Q T m pc Ls (.int z :: st) :=
  en_ret X hx hret hlk hd hn (Or.inl ⟨rfl, Or.inr (Or.inl rfl), _, rfl⟩) hc hs hq
theorem en_retL {z : Int64} (X : Stand p l e R s m args below meth c T locs cells slots) (hx : p.tables.exec = Jvm.exec) (hret : meth.sig.returnType = some .long) (hlk : meth.locks = false) (hd : decode c.code pc = .ok (.lreturn, 1)) (hc : cells ≤ C) (hs : slots ≤ S) (hq : Q (some (.long z)) T.heap locs) : OwnEnds p e below s C S Q T m pc Ls (.long z :: st) :=
  en_ret X hx hret hlk hd rfl (Or.inr (Or.inl ⟨rfl, rfl, _, rfl⟩)) hc hs hq
theorem en_retA {a : Addr} {t : FieldType} (X : Stand p l e R s m args below meth c T locs cells slots) (hx : p.tables.exec = Jvm.exec) (hret : meth.sig.returnType = some t) (ht : t.isReference = true) (hn : narrow t (.ref a) = .ref a) (hlk : meth.locks = false) (hd : decode c.code pc = .ok (.areturn, 1)) (hc : cells ≤ C) (hs : slots ≤ S) (hq : Q (some (.ref a)) T.heap locs) : OwnEnds p e below s C S Q T m pc Ls (.ref a :: st) :=
  en_ret X hx hret hlk hd hn (Or.inr (Or.inr (Or.inr (Or.inr ⟨rfl, ht, rfl⟩)))) hc hs hq
theorem en_ret0 (X : Stand p l e R s m args below meth c T locs cells slots) (hx : p.tables.exec = Jvm.exec) (hret : meth.sig.returnType = none) (hlk : meth.locks = false) (hd : decode c.code pc = .ok (.return_, 1)) (hc : cells ≤ C) (hs : slots ≤ S) (hq : Q none T.heap locs) : OwnEnds p e below s C S Q T m pc Ls [] := by
  obtain ⟨fs, hr, hrun, hended, hW, hsame⟩ := X.leave (v := none) (fun _ => rfl) hlk
  exact ⟨_, _, X.returnOut hx hret hd hr, hrun, hended, _, _, rfl, hq, ⟨_, rfl⟩, hW, hsame.mono hc hs⟩
theorem en_getF (X : Stand p l e R s m args below meth c T locs cells slots) (hx : p.tables.exec = Jvm.exec) (hZ : Z.Warmed39 s.vm) {own R0 O n d host : String} {index : Nat} (hown : s.vm.findClass own = some m.cls) (w : (Jvm.Cond.fieldLink own index R0 n d).before a0 Z = true ∨ (Jvm.Cond.fieldLinkNest own index R0 n d host).before a0 Z = true) (via : Via Z R0 O n d) (eT : T.heap = h) {a : Addr} {v : Value} (F : Fld Z h a O n d v) (hd : decode c.code pc = .ok (.getfield index, 3)) (k : ∀ T', Stand p l e R s m args below meth c T' locs cells slots → T'.heap = h → OwnEnds p e below s C S Q T' m pc' Ls (v :: st)) (hp : pc + 3 = pc' := by rfl) : OwnEnds p e below s C S Q T m pc Ls (.ref a :: st) := by
  subst hp
  obtain ⟨T', X', e', st'⟩ := getF X hx hZ hown w via eT F (g := mkF m pc Ls (.ref a :: st)) rfl rfl hd
  exact OwnEnds.of st' (k T' X' e')
theorem en_getS (X : Stand p l e R s m args below meth c T locs cells slots) (hx : p.tables.exec = Jvm.exec) (hZ : Z.Warmed39 s.vm) {own R0 O n d host : String} {index : Nat} (hown : s.vm.findClass own = some m.cls) (w : (Jvm.Cond.fieldLink own index R0 n d).before a0 Z = true ∨ (Jvm.Cond.fieldLinkNest own index R0 n d host).before a0 Z = true) (via : Via Z R0 O n d) (eT : T.heap = h) {v : Value} (F : Sta Z h O n d v) (hd : decode c.code pc = .ok (.getstatic index, 3)) (k : ∀ T', Stand p l e R s m args below meth c T' locs cells slots → T'.heap = h → OwnEnds p e below s C S Q T' m pc' Ls (v :: st)) (hp : pc + 3 = pc' := by rfl) : OwnEnds p e below s C S Q T m pc Ls st := by
  subst hp
  obtain ⟨T', X', e', st'⟩ := getS2 X hx hZ hown w via eT F (g := mkF m pc Ls st) rfl hd
  exact OwnEnds.of st' (k T' X' e')
theorem en_putF (X : Stand p l e R s m args below meth c T locs cells slots) (hx : p.tables.exec = Jvm.exec) (hZ : Z.Warmed39 s.vm) {own R0 O n d host K : String} {index kk : Nat} {ty : FieldType} (hown : s.vm.findClass own = some m.cls) (w : (Jvm.Cond.fieldLink own index R0 n d).before a0 Z = true ∨ (Jvm.Cond.fieldLinkNest own index R0 n d host).before a0 Z = true) (via : Via Z R0 O n d) (eT : T.heap = h) {a : Addr} {v old : Value} (F : Fld Z h a O n d old) (E : Exa Z h a K) (L : (Jvm.Cond.lays K O n d).before a0 Z = true ∨ ((Jvm.Cond.laysFinal K O n d).before a0 Z = true ∧ own = O ∧ meth.name = "<init>")) (wi : (Jvm.Cond.instantiable K kk).before a0 Z = true) (hty : parseFieldDescriptor d = some ty) (hn : narrow ty v = v) (hf : fits ty v = true) (hd : decode c.code pc = .ok (.putfield index, 3))
    (k : ∀ T' h', Stand p l e R s m args below meth c T' (locs ++ [⟨a, Jvm.RoadKit.slotOf Z O n d⟩]) cells slots → T'.heap = h' → Wr h h' a (Jvm.RoadKit.slotOf Z O n d) v → OwnEnds p e below s C S Q T' m pc' Ls st) (hp : pc + 3 = pc' := by rfl) : OwnEnds p e below s C S Q T m pc Ls (v :: .ref a :: st) := by
  subst hp
  obtain ⟨T', h', X', e', W', st'⟩ := putF X hx hZ hown w via eT F E L wi hty hn hf (g := mkF m pc Ls (v :: .ref a :: st)) rfl rfl hd
  exact OwnEnds.of st' (k T' h' X' e' W')
theorem en_newO (X : Stand p l e R s m args below meth c T locs cells slots) (hx : p.tables.exec = Jvm.exec) (hZ : Z.Warmed39 s.vm) {own K : String} {index n : Nat} (hown : s.vm.findClass own = some m.cls) (w : (Jvm.Cond.classLink own index K).before a0 Z = true) (wi : (Jvm.Cond.instantiable K n).before a0 Z = true) (wz : (Jvm.Cond.initialized K).before a0 Z = true) (eT : T.heap = h) (hd : decode c.code pc = .ok (.new index, 3)) (hc : cells + 1 ≤ R.cells) (hl : slots + n ≤ R.slots)
    (k : ∀ T' h' a, a = h.size → Stand p l e R s m args below meth c T' locs (cells + 1) (slots + n) → T'.heap = h' → Ext h h' → Exa Z h' a K → (∀ {O nm d : String} {ty : FieldType}, Laid Z a0 K O nm d → parseFieldDescriptor d = some ty → Fld Z h' a O nm d (defaultValue ty)) → OwnEnds p e below s C S Q T' m pc' Ls (.ref a :: st)) (hp : pc + 3 = pc' := by rfl) : OwnEnds p e below s C S Q T m pc Ls st := by
  subst hp
  obtain ⟨T', h', X', e', E', A', D', -, st'⟩ := newO X hx hZ hown w wi wz eT (g := mkF m pc Ls st) rfl hd hc hl
  exact OwnEnds.of st' (k T' h' _ rfl X' e' E' A' D')
theorem en_newP (X : Stand p l e R s m args below meth c T locs cells slots) (hx : p.tables.exec = Jvm.exec) (hZ : Z.Warmed39 s.vm) {aty : ArrayType} (w : (Jvm.Cond.arrayClass (newarray.typeOf aty)).before a0 Z = true) (eT : T.heap = h) (hd : decode c.code pc = .ok (.newarray aty, 2)) {n : Int32} (hn : ¬ n < 0) (cap : Nat) (hcap : n.toNatClampNeg ≤ cap) (hb : cap * 8 ≤ 536870912) (hc : cells + 1 ≤ R.cells) (hl : slots + cap ≤ R.slots)
    (k : ∀ T' h' a kA, a = h.size → Stand p l e R s m args below meth c T' locs (cells + 1) (slots + cap) → T'.heap = h' → Ext h h' → Arv Z h' a kA (newarray.typeOf aty) n [] (defaultValue (newarray.typeOf aty)) → OwnEnds p e below s C S Q T' m pc' Ls (.ref a :: st)) (hp : pc + 2 = pc' := by rfl) : OwnEnds p e below s C S Q T m pc Ls (.int n :: st) := by
  subst hp
  obtain ⟨T', h', kA, X', e', E', A', st'⟩ := newP X hx hZ w eT (g := mkF m pc Ls (.int n :: st)) rfl hd rfl hn hcap hb hc hl
  exact OwnEnds.of st' (k T' h' _ kA rfl X' e' E' (Arv.new A' hn))
theorem en_initO (X : Stand p l e R s m args below meth c T locs cells slots) (hx : p.tables.exec = Jvm.exec) (hZ : Z.Warmed39 s.vm) {own : String} {idx : Nat} (hown : s.vm.findClass own = some m.cls) (w1 : (Jvm.Cond.methodLink own idx Lib.objectInit).before a0 Z = true) (w2 : (Jvm.Cond.instanceMethod Lib.objectInit).before a0 Z = true) (w3 : (Jvm.Cond.code Lib.objectInit Lib.objCode 1 none).before a0 Z = true) (eT : T.heap = h) (hsize : Ls.size = c.maxLocals) {a : Addr} (hd : decode c.code pc = .ok (.invokespecial idx, 3)) (hf : 1 ≤ R.frames) (W : Nat) (hW : (st.map fun v => v.category).sum = W) (hl : W + 12 ≤ R.locals) (k : ∀ T', Stand p l e R s m args below meth c T' locs cells slots → T'.heap = h → OwnEnds p e below s C S Q T' m pc' Ls st) (hp : pc + 3 = pc' := by rfl) : OwnEnds p e below s C S Q T m pc Ls (.ref a :: st) := by
  subst hp
  obtain ⟨T', X', e', st'⟩ := initO X hx hZ hown w1 w2 w3 eT (g := mkF m pc Ls (.ref a :: st)) rfl hsize rfl hd hf (W := W) (by show 2 * 0 + _ ≤ _; rw [hW]; omega) hl
  exact OwnEnds.of st' (k T' X' e')
theorem en_iaload (X : Stand p l e R s m args below meth c T locs cells slots) (hx : p.tables.exec = Jvm.exec) (hZ : Z.Warmed39 s.vm) (eT : T.heap = h) {a : Addr} {kA : ClassId} {n j : Int32} {vs : List Value} {dv : Value} (V : Arv Z h a kA .int n vs dv) (hj : ¬ j < 0 ∧ j < n) {x : Int32} (hv : vs.getD j.toNatClampNeg dv = .int x) (hd : decode c.code pc = .ok (.iaload, 1)) (k : OwnEnds p e below s C S Q T m pc' Ls (.int x :: st)) (hp : pc + 1 = pc' := by rfl) : OwnEnds p e below s C S Q T m pc Ls (.int j :: .ref a :: st) := by
  subst hp
  obtain ⟨cl, Ar, -, Sz, -, Hs, -⟩ := V
  have hin := inb_of Sz hj
  exact OwnEnds.of (X.iaload hx (by rw [eT]; exact Ar.1) (State.isArrayOf_alike hZ.alike Ar.2.1) Ar.2.2 hin (Hs.at hin hv) (g := mkF m pc Ls (.int j :: .ref a :: st)) rfl rfl hd) k
theorem en_laload (X : Stand p l e R s m args below meth c T locs cells slots) (hx : p.tables.exec = Jvm.exec) (hZ : Z.Warmed39 s.vm) (eT : T.heap = h) {a : Addr} {kA : ClassId} {n j : Int32} {vs : List Value} {dv : Value} (V : Arv Z h a kA .long n vs dv) (hj : ¬ j < 0 ∧ j < n) {x : Int64} (hv : vs.getD j.toNatClampNeg dv = .long x) (hd : decode c.code pc = .ok (.laload, 1)) (k : OwnEnds p e below s C S Q T m pc' Ls (.long x :: st)) (hp : pc + 1 = pc' := by rfl) : OwnEnds p e below s C S Q T m pc Ls (.int j :: .ref a :: st) := by
  subst hp
  obtain ⟨cl, Ar, -, Sz, -, Hs, -⟩ := V
  have hin := inb_of Sz hj
  exact OwnEnds.of (X.laload hx (by rw [eT]; exact Ar.1) (State.isArrayOf_alike hZ.alike Ar.2.1) Ar.2.2 hin (Hs.at hin hv) (g := mkF m pc Ls (.int j :: .ref a :: st)) rfl rfl hd) k
theorem en_len (X : Stand p l e R s m args below meth c T locs cells slots) (hx : p.tables.exec = Jvm.exec) (hZ : Z.Warmed39 s.vm) (eT : T.heap = h) {a : Addr} {kA : ClassId} {ty : FieldType} {n : Int32} {vs : List Value} {dv : Value} (V : Arv Z h a kA ty n vs dv) (hd : decode c.code pc = .ok (.arraylength, 1)) (k : OwnEnds p e below s C S Q T m pc' Ls (.int n :: st)) (hp : pc + 1 = pc' := by rfl) : OwnEnds p e below s C S Q T m pc Ls (.ref a :: st) := by
  subst hp
  obtain ⟨cl, Ar, -, Sz, Nn, -⟩ := V
  rw [← len_of Sz Nn] at k
  exact OwnEnds.of (X.arraylength hx (by rw [eT]; exact Ar.1) (State.isArrayOf_alike hZ.alike Ar.2.1) (g := mkF m pc Ls (.ref a :: st)) rfl rfl hd) k
theorem en_iastore (X : Stand p l e R s m args below meth c T locs cells slots) (hx : p.tables.exec = Jvm.exec) (hZ : Z.Warmed39 s.vm) (eT : T.heap = h) {a : Addr} {kA : ClassId} {n j : Int32} {x : Int32} {vs : List Value} {dv : Value} (V : Arv Z h a kA .int n vs dv) (hj : ¬ j < 0 ∧ j < n) (i : Nat) (hi : j.toNatClampNeg = i) (hil : i < vs.length) (hd : decode c.code pc = .ok (.iastore, 1))
    (k : ∀ T' h', Stand p l e R s m args below meth c T' (locs ++ [⟨a, j.toNatClampNeg⟩]) cells slots → T'.heap = h' → Wr h h' a j.toNatClampNeg (.int x) → Arv Z h' a kA .int n (vs.set i (.int x)) dv → OwnEnds p e below s C S Q T' m pc' Ls st) (hp : pc + 1 = pc' := by rfl) : OwnEnds p e below s C S Q T m pc Ls (.int x :: .int j :: .ref a :: st) := by
  subst hp
  obtain ⟨cl, Ar, q1, Sz, Nn, Hs, G⟩ := V
  have hin := inb_of Sz hj
  obtain ⟨T', h', X', e', W', st'⟩ := stI X hx hZ eT Ar hin (g := mkF m pc Ls (.int x :: .int j :: .ref a :: st)) rfl rfl hd
  exact OwnEnds.of st' (k T' h' X' e' W' (Arv.set Ar q1 Sz Nn Hs G rfl W' i hi hil))
theorem en_lastore (X : Stand p l e R s m args below meth c T locs cells slots) (hx : p.tables.exec = Jvm.exec) (hZ : Z.Warmed39 s.vm) (eT : T.heap = h) {a : Addr} {kA : ClassId} {n j : Int32} {x : Int64} {vs : List Value} {dv : Value} (V : Arv Z h a kA .long n vs dv) (hj : ¬ j < 0 ∧ j < n) (i : Nat) (hi : j.toNatClampNeg = i) (hil : i < vs.length) (hd : decode c.code pc = .ok (.lastore, 1))
    (k : ∀ T' h', Stand p l e R s m args below meth c T' (locs ++ [⟨a, j.toNatClampNeg⟩]) cells slots → T'.heap = h' → Wr h h' a j.toNatClampNeg (.long x) → Arv Z h' a kA .long n (vs.set i (.long x)) dv → OwnEnds p e below s C S Q T' m pc' Ls st) (hp : pc + 1 = pc' := by rfl) : OwnEnds p e below s C S Q T m pc Ls (.long x :: .int j :: .ref a :: st) := by
  subst hp
  obtain ⟨cl, Ar, q1, Sz, Nn, Hs, G⟩ := V
  have hin := inb_of Sz hj
  obtain ⟨T', h', X', e', W', st'⟩ := stJ X hx hZ eT Ar hin (g := mkF m pc Ls (.long x :: .int j :: .ref a :: st)) rfl rfl hd
  exact OwnEnds.of st' (k T' h' X' e' W' (Arv.set Ar q1 Sz Nn Hs G rfl W' i hi hil))
theorem en_callS (X : Stand p l e R s m args below meth c T locs cells slots) (hx : p.tables.exec = Jvm.exec) (hZ : Z.Warmed39 s.vm) {y : MethodName} {bytes : ByteArray} {maxL : Nat} {ret : Option FieldType} {rm : Room} {Qc : Option Value → Heap → List Loc → Prop} {argsL : List Value}  {own : String} {index : Nat} (hown : s.vm.findClass own = some m.cls) (w1 : (Jvm.Cond.methodLink own index y).before a0 Z = true) (w2 : (Jvm.Cond.static y).before a0 Z = true) (wz : (Jvm.Cond.initialized y.cls).before a0 Z = true) (wc : (Jvm.Cond.code y bytes maxL ret).before a0 Z = true) (hy : y.cls ≠ "java/lang/invoke/MethodHandle" ∧ y.cls ≠ "java/lang/invoke/VarHandle") (hM : OwnMeets l Z y bytes maxL ret [] rm argsL.toArray h Qc) (eT : T.heap = h) (hf : rm.frames + 1 ≤ R.frames) (W : Nat) (hW : (rest.map fun v => v.category).sum = W) (hl : W + (maxL + 11) + rm.locals ≤ R.locals) (hcl : cells + rm.cells ≤ R.cells) (hsl : slots + rm.slots ≤ R.slots) (hsz : Ls.size = c.maxLocals) (hlen : ∀ sig, parseMethodDescriptor y.desc = some sig → argsL.length = sig.parameters.length) (hst : st = argsL.reverse ++ rest) (hd : decode c.code pc = .ok (.invokestatic index, 3)) (k : ∀ v T' L, Stand p l e R s m args below meth c T' (locs ++ L) (cells + rm.cells) (slots + rm.slots) → Qc v T'.heap L → OwnEnds p e below s C S Q T' m pc' Ls (v.toList ++ rest)) (hp : pc + 3 = pc' := by rfl) : OwnEnds p e below s C S Q T m pc Ls st := by
  subst hp hst
  obtain ⟨v, vm', ⟨T', L', k', n'⟩, -, X', ⟨Lc, hQ, l1, l2, l3⟩, st'⟩ := Jvm.LawKit.callS X hx (y := y) hown (mvT hZ w1) (mvT hZ w2) (mvT hZ wz) (mvT hZ wc) hy (backOf (W := W) hM hZ wc wz hf hl)  (g := mkF m pc Ls (argsL.reverse ++ rest)) rfl hsz  (argsL := argsL) (rest := rest) hlen rfl (by show 2 * 0 + _ ≤ _; rw [hW]; omega) hd (fun _ _ => ⟨rfl, eT, hcl, hsl⟩)
  dsimp only [Pt.U, Pt.locs, Pt.cells, Pt.slots] at X' l1 l2 l3 st' hQ
  subst l1 l2 l3
  exact OwnEnds.of st' (k v T' Lc X' hQ)
theorem en_callN (X : Stand p l e R s m args below meth c T locs cells slots) (hx : p.tables.exec = Jvm.exec) (hZ : Z.Warmed39 s.vm) {y : MethodName} {bytes : ByteArray} {maxL : Nat} {rm : Room} {Qc : Option Value → Heap → List Loc → Prop} {argsL : List Value} {a : Addr}  {own : String} {index : Nat} (hown : s.vm.findClass own = some m.cls) (hin : y.name = "<init>") (w1 : (Jvm.Cond.methodLink own index y).before a0 Z = true) (w2 : (Jvm.Cond.instanceMethod y).before a0 Z = true) (wz : (Jvm.Cond.initialized y.cls).before a0 Z = true) (wc : (Jvm.Cond.code y bytes maxL none).before a0 Z = true) (hy : y.cls ≠ "java/lang/invoke/MethodHandle" ∧ y.cls ≠ "java/lang/invoke/VarHandle") (hM : OwnMeets l Z y bytes maxL none [] rm (.ref a :: argsL).toArray h Qc) (eT : T.heap = h) (hf : rm.frames + 1 ≤ R.frames) (W : Nat) (hW : (rest.map fun v => v.category).sum = W) (hl : W + (maxL + 11) + rm.locals ≤ R.locals) (hcl : cells + rm.cells ≤ R.cells) (hsl : slots + rm.slots ≤ R.slots) (hsz : Ls.size = c.maxLocals) (hlen : ∀ sig, parseMethodDescriptor y.desc = some sig → argsL.length = sig.parameters.length) (hst : st = argsL.reverse ++ .ref a :: rest) (hd : decode c.code pc = .ok (.invokespecial index, 3)) (k : ∀ v T' L, Stand p l e R s m args below meth c T' (locs ++ L) (cells + rm.cells) (slots + rm.slots) → Qc v T'.heap L → OwnEnds p e below s C S Q T' m pc' Ls (v.toList ++ rest)) (hp : pc + 3 = pc' := by rfl) : OwnEnds p e below s C S Q T m pc Ls st := by
  subst hp hst
  obtain ⟨v, vm', ⟨T', L', k', n'⟩, -, X', ⟨Lc, hQ, l1, l2, l3⟩, st'⟩ := X.specialBack hx (y := y) hin hown (mvT hZ w1) (mvT hZ w2) (mvT hZ wc) hy (backOf (W := W) hM hZ wc wz hf hl)  (g := mkF m pc Ls (argsL.reverse ++ .ref a :: rest)) rfl hsz (Steps.refl _) (a := a) (argsL := argsL) (rest := rest) hlen rfl (by show 2 * 0 + _ ≤ _; rw [hW]; omega) hd (fun _ _ => ⟨rfl, eT, hcl, hsl⟩)
  dsimp only [Pt.U, Pt.locs, Pt.cells, Pt.slots] at X' l1 l2 l3 st' hQ
  subst l1 l2 l3
  exact OwnEnds.of (fun _ k => st'.trans k) (k v T' Lc X' hQ)
theorem en_callV (X : Stand p l e R s m args below meth c T locs cells slots) (hx : p.tables.exec = Jvm.exec) (hZ : Z.Warmed39 s.vm) {y : MethodName} {bytes : ByteArray} {maxL : Nat} {ret : Option FieldType} {rm : Room} {Qc : Option Value → Heap → List Loc → Prop} {argsL : List Value} {a : Addr} {z : MethodName} {K : String} {own : String} {index : Nat} (hown : s.vm.findClass own = some m.cls) (w1 : (Jvm.Cond.methodLink own index y).before a0 Z = true) (w2 : (Jvm.Cond.declares y).before a0 Z = true) (nf : NotFace s y) (w3 : (Jvm.Cond.selects K y z).before a0 Z = true) (w4 : (Jvm.Cond.instanceMethod z).before a0 Z = true) (wz : (Jvm.Cond.initialized z.cls).before a0 Z = true) (wc : (Jvm.Cond.code z bytes maxL ret).before a0 Z = true) (Ex : Exa Z h a K) (hy : y.cls ≠ "java/lang/invoke/MethodHandle" ∧ y.cls ≠ "java/lang/invoke/VarHandle") (hM : OwnMeets l Z z bytes maxL ret [] rm (.ref a :: argsL).toArray h Qc) (eT : T.heap = h) (hf : rm.frames + 1 ≤ R.frames) (W : Nat) (hW : (rest.map fun v => v.category).sum = W) (hl : W + (maxL + 11) + rm.locals ≤ R.locals) (hcl : cells + rm.cells ≤ R.cells) (hsl : slots + rm.slots ≤ R.slots) (hsz : Ls.size = c.maxLocals) (hlen : ∀ sig, parseMethodDescriptor y.desc = some sig → argsL.length = sig.parameters.length) (hst : st = argsL.reverse ++ .ref a :: rest) (hd : decode c.code pc = .ok (.invokevirtual index, 3)) (k : ∀ v T' L, Stand p l e R s m args below meth c T' (locs ++ L) (cells + rm.cells) (slots + rm.slots) → Qc v T'.heap L → OwnEnds p e below s C S Q T' m pc' Ls (v.toList ++ rest)) (hp : pc + 3 = pc' := by rfl) : OwnEnds p e below s C S Q T m pc Ls st := by
  subst hp hst
  obtain ⟨cq, kq, qa, qb, qc⟩ := isOf hZ eT Ex
  obtain ⟨v, vm', ⟨T', L', k', n'⟩, -, X', ⟨Lc, hQ, l1, l2, l3⟩, st'⟩ := X.virtualBack hx (y := y) (z := z) hown (mvT hZ w1) (mvT hZ w2) nf (mvT hZ w3) (mvT hZ w4) hy (backOf (W := W) hM hZ wc wz hf hl) qa qc (g := mkF m pc Ls (argsL.reverse ++ .ref a :: rest)) rfl hsz (Steps.refl _) (argsL := argsL) (rest := rest) hlen rfl (by show 2 * 0 + _ ≤ _; rw [hW]; omega) hd (fun _ _ => ⟨rfl, eT, hcl, hsl⟩)
  dsimp only [Pt.U, Pt.locs, Pt.cells, Pt.slots] at X' l1 l2 l3 st' hQ
  subst l1 l2 l3
  exact OwnEnds.of (fun _ k => st'.trans k) (k v T' Lc X' hQ)
theorem en_callU (X : Stand p l e R s m args below meth c T locs cells slots) (hx : p.tables.exec = Jvm.exec) (hZ : Z.Warmed39 s.vm) {y : MethodName} {bytes : ByteArray} {maxL : Nat} {ret : Option FieldType} {rm : Room} {Qc : Option Value → Heap → List Loc → Prop} {argsL : List Value} {a : Addr} {z : MethodName} {K owner : String} {own : String} {index : Nat} (hown : s.vm.findClass own = some m.cls) (w1 : (Jvm.Cond.methodLink own index y).before a0 Z = true) (w2 : (Jvm.Cond.sameMethod y.cls owner y.name y.desc).before a0 Z = true) (w2' : (Jvm.Cond.declares ⟨owner, y.name, y.desc⟩).before a0 Z = true) (w3 : (Jvm.Cond.selects K y z).before a0 Z = true) (w4 : (Jvm.Cond.instanceMethod z).before a0 Z = true) (wz : (Jvm.Cond.initialized z.cls).before a0 Z = true) (wc : (Jvm.Cond.code z bytes maxL ret).before a0 Z = true) (Ex : Exa Z h a K) (hy : owner ≠ "java/lang/invoke/MethodHandle" ∧ owner ≠ "java/lang/invoke/VarHandle") (hM : OwnMeets l Z z bytes maxL ret [] rm (.ref a :: argsL).toArray h Qc) (eT : T.heap = h) (hf : rm.frames + 1 ≤ R.frames) (W : Nat) (hW : (rest.map fun v => v.category).sum = W) (hl : W + (maxL + 11) + rm.locals ≤ R.locals) (hcl : cells + rm.cells ≤ R.cells) (hsl : slots + rm.slots ≤ R.slots) (hsz : Ls.size = c.maxLocals) (hlen : ∀ sig, parseMethodDescriptor y.desc = some sig → argsL.length = sig.parameters.length) (hst : st = argsL.reverse ++ .ref a :: rest) (hd : decode c.code pc = .ok (.invokevirtual index, 3)) (k : ∀ v T' L, Stand p l e R s m args below meth c T' (locs ++ L) (cells + rm.cells) (slots + rm.slots) → Qc v T'.heap L → OwnEnds p e below s C S Q T' m pc' Ls (v.toList ++ rest)) (hp : pc + 3 = pc' := by rfl) : OwnEnds p e below s C S Q T m pc Ls st := by
  subst hp hst
  obtain ⟨cq, kq, qa, qb, qc⟩ := isOf hZ eT Ex
  obtain ⟨v, vm', ⟨T', L', k', n'⟩, -, X', ⟨Lc, hQ, l1, l2, l3⟩, st'⟩ := X.virtualBackUp hx (owner := owner) (x := y) (y := z) hown (mvT hZ w1) (mvT hZ w2) (mvT hZ w2') hy (mvT hZ w3) (mvT hZ w4) (backOf (W := W) hM hZ wc wz hf hl) qa qc (g := mkF m pc Ls (argsL.reverse ++ .ref a :: rest)) rfl hsz (Steps.refl _) (argsL := argsL) (rest := rest) hlen rfl (by show 2 * 0 + _ ≤ _; rw [hW]; omega) hd (fun _ _ => ⟨rfl, eT, hcl, hsl⟩)
  dsimp only [Pt.U, Pt.locs, Pt.cells, Pt.slots] at X' l1 l2 l3 st' hQ
  subst l1 l2 l3
  exact OwnEnds.of (fun _ k => st'.trans k) (k v T' Lc X' hQ)
theorem en_callI (X : Stand p l e R s m args below meth c T locs cells slots) (hx : p.tables.exec = Jvm.exec) (hZ : Z.Warmed39 s.vm) {y : MethodName} {bytes : ByteArray} {maxL : Nat} {ret : Option FieldType} {rm : Room} {Qc : Option Value → Heap → List Loc → Prop} {argsL : List Value} {a : Addr} {z : MethodName} {K : String} {own : String} {index count : Nat} (hown : s.vm.findClass own = some m.cls) (w1 : (Jvm.Cond.methodLink own index y).before a0 Z = true) (w2 : (Jvm.Cond.declares y).before a0 Z = true) (w3 : (Jvm.Cond.interfaceMethod y.cls y.cls y.name y.desc).before args s = true) (w4 : (Jvm.Cond.selects K y z).before a0 Z = true) (w5 : (Jvm.Cond.instanceMethod z).before a0 Z = true) (w6 : (Jvm.Cond.publicMethod z).before a0 Z = true) (w7 : (Jvm.Cond.unhidden K y.name y.desc).before a0 Z = true) (w8 : (Jvm.Cond.castable K y.cls).before a0 Z = true) (wz : (Jvm.Cond.initialized z.cls).before a0 Z = true) (wc : (Jvm.Cond.code z bytes maxL ret).before a0 Z = true) (Ex : Exa Z h a K) (hy : y.cls ≠ "java/lang/invoke/MethodHandle" ∧ y.cls ≠ "java/lang/invoke/VarHandle") (hM : OwnMeets l Z z bytes maxL ret [] rm (.ref a :: argsL).toArray h Qc) (eT : T.heap = h) (hf : rm.frames + 1 ≤ R.frames) (W : Nat) (hW : (rest.map fun v => v.category).sum = W) (hl : W + (maxL + 11) + rm.locals ≤ R.locals) (hcl : cells + rm.cells ≤ R.cells) (hsl : slots + rm.slots ≤ R.slots) (hsz : Ls.size = c.maxLocals) (hlen : ∀ sig, parseMethodDescriptor y.desc = some sig → argsL.length = sig.parameters.length) (hst : st = argsL.reverse ++ .ref a :: rest) (hd : decode c.code pc = .ok (.invokeinterface index count, 5)) (k : ∀ v T' L, Stand p l e R s m args below meth c T' (locs ++ L) (cells + rm.cells) (slots + rm.slots) → Qc v T'.heap L → OwnEnds p e below s C S Q T' m pc' Ls (v.toList ++ rest)) (hp : pc + 5 = pc' := by rfl) : OwnEnds p e below s C S Q T m pc Ls st := by
  subst hp hst
  obtain ⟨cq, kq, qa, qb, qc⟩ := isOf hZ eT Ex
  obtain ⟨v, vm', ⟨T', L', k', n'⟩, -, X', ⟨Lc, hQ, l1, l2, l3⟩, st'⟩ := X.interfaceBack hx (xi := y) (y := z) hown (mvT hZ w1) (mvT hZ w2) w3 (mvT hZ w4) (mvT hZ w5) (mvT hZ w6) (mvT hZ w7) (mvT hZ w8) hy (backOf (W := W) hM hZ wc wz hf hl) qa qb qc (g := mkF m pc Ls (argsL.reverse ++ .ref a :: rest)) rfl hsz (Steps.refl _) (argsL := argsL) (rest := rest) hlen rfl (by show 2 * 0 + _ ≤ _; rw [hW]; omega) hd (fun _ _ => ⟨rfl, eT, hcl, hsl⟩)
  dsimp only [Pt.U, Pt.locs, Pt.cells, Pt.slots] at X' l1 l2 l3 st' hQ
  subst l1 l2 l3
  exact OwnEnds.of (fun _ k => st'.trans k) (k v T' Lc X' hQ)
theorem self_private {y x1 y1 : MethodName} {K : String} (hp : s.PrivateAt y) (hinst : (Jvm.Cond.instanceMethod y).before args s = true) (hy : y.cls ≠ "java/lang/invoke/MethodHandle" ∧ y.cls ≠ "java/lang/invoke/VarHandle") (hsel : (Jvm.Cond.selects K x1 y1).before args s = true) (hc : y1.cls = y.cls) : (Jvm.Cond.selects y.cls y y).before args s = true := by
  obtain ⟨c, r, m, q1, q2, q3, q4, k, hk, hki⟩ := Cond.selects_spec hsel
  have q := findClass_of_methodNamed q3
  rw [hc] at q
  exact selects_self_of_private q hk hki hp hinst hy
theorem nf_by {y x1 y1 : MethodName} {K : String} (hsel : (Jvm.Cond.selects K x1 y1).before args s = true) (hc : y1.cls = y.cls) : NotFace s y := fun r0 h0 => by
  obtain ⟨c, r, m, q1, q2, q3, q4, k, hk, hki⟩ := Cond.selects_spec hsel
  have q := findClass_of_methodNamed q3
  rw [hc, findClass_of_methodNamed h0] at q
  exact ⟨k, by rw [Option.some.inj q]; exact hk, hki⟩
theorem en_callQ (X : Stand p l e R s m args below meth c T locs cells slots) (hx : p.tables.exec = Jvm.exec) (hZ : Z.Warmed39 s.vm) {y : MethodName} {bytes : ByteArray} {maxL : Nat} {ret : Option FieldType} {rm : Room} {Qc : Option Value → Heap → List Loc → Prop} {argsL : List Value} {a : Addr} {K C1 : String} {x1 y1 : MethodName} {own : String} {index : Nat} (hown : s.vm.findClass own = some m.cls) (w1 : (Jvm.Cond.methodLink own index y).before a0 Z = true) (w2 : (Jvm.Cond.instanceMethod y).before a0 Z = true) (w3 : (Jvm.Cond.privateMethod y).before a0 Z = true) (w4 : (Jvm.Cond.selects C1 x1 y1).before a0 Z = true) (hc1 : y1.cls = y.cls) (wz : (Jvm.Cond.initialized y.cls).before a0 Z = true) (wc : (Jvm.Cond.code y bytes maxL ret).before a0 Z = true) (Ex : Exa Z h a K) (hy : y.cls ≠ "java/lang/invoke/MethodHandle" ∧ y.cls ≠ "java/lang/invoke/VarHandle") (hM : OwnMeets l Z y bytes maxL ret [] rm (.ref a :: argsL).toArray h Qc) (eT : T.heap = h) (hf : rm.frames + 1 ≤ R.frames) (W : Nat) (hW : (rest.map fun v => v.category).sum = W) (hl : W + (maxL + 11) + rm.locals ≤ R.locals) (hcl : cells + rm.cells ≤ R.cells) (hsl : slots + rm.slots ≤ R.slots) (hsz : Ls.size = c.maxLocals) (hlen : ∀ sig, parseMethodDescriptor y.desc = some sig → argsL.length = sig.parameters.length) (hst : st = argsL.reverse ++ .ref a :: rest) (hd : decode c.code pc = .ok (.invokevirtual index, 3)) (k : ∀ v T' L, Stand p l e R s m args below meth c T' (locs ++ L) (cells + rm.cells) (slots + rm.slots) → Qc v T'.heap L → OwnEnds p e below s C S Q T' m pc' Ls (v.toList ++ rest)) (hp : pc + 3 = pc' := by rfl) : OwnEnds p e below s C S Q T m pc Ls st := by
  subst hp hst
  obtain ⟨cq, q1, q2⟩ := Ex.cell
  obtain ⟨v, vm', ⟨T', L', k', n'⟩, -, X', ⟨Lc, hQ, l1, l2, l3⟩, st'⟩ := X.privateBack hx (y := y) hown (mvT hZ w1) (mvT hZ w2) (self_private (Cond.privateMethod_at (mvP hZ w3 (args := #[]))) (mvT hZ w2) hy (mvT hZ w4) hc1) (Cond.privateMethod_at (mvP hZ w3 (args := #[]))) (mvT hZ wc) hy (backOf (W := W) hM hZ wc wz hf hl)  (g := mkF m pc Ls (argsL.reverse ++ .ref a :: rest)) rfl hsz (Steps.refl _) (a := a) (by rw [eT]; exact q1) q2 (argsL := argsL) (rest := rest) hlen rfl (by show 2 * 0 + _ ≤ _; rw [hW]; omega) hd (fun _ _ => ⟨rfl, eT, hcl, hsl⟩)
  dsimp only [Pt.U, Pt.locs, Pt.cells, Pt.slots] at X' l1 l2 l3 st' hQ
  subst l1 l2 l3
  exact OwnEnds.of (fun _ k => st'.trans k) (k v T' Lc X' hQ)
def PQ (w : Value) (h : Heap) : Option Value → Heap → List Loc → Prop := fun v h' L => v = some w ∧ h' = h ∧ L = []
theorem en_callP (X : Stand p l e R s m args below meth c T locs cells slots) (hx : p.tables.exec = Jvm.exec) (hZ : Z.Warmed39 s.vm) {y : MethodName} {bytes : ByteArray} {maxL : Nat} {ret : Option FieldType} {fr lo : Nat} {w : Value} {argsL : List Value} {own : String} {index : Nat} (hown : s.vm.findClass own = some m.cls) (w1 : (Jvm.Cond.methodLink own index y).before a0 Z = true) (w2 : (Jvm.Cond.static y).before a0 Z = true) (wz : (Jvm.Cond.initialized y.cls).before a0 Z = true) (wc : (Jvm.Cond.code y bytes maxL ret).before a0 Z = true) (hy : y.cls ≠ "java/lang/invoke/MethodHandle" ∧ y.cls ≠ "java/lang/invoke/VarHandle") (hM : OwnMeets l Z y bytes maxL ret [] ({ frames := fr, cells := 0, slots := 0, locals := lo } : Room) argsL.toArray h (PQ w h)) (eT : T.heap = h) (hf : fr + 1 ≤ R.frames) (W : Nat) (hW : (rest.map fun v => v.category).sum = W) (hl : W + (maxL + 11) + lo ≤ R.locals) (hcl : cells ≤ R.cells) (hsl : slots ≤ R.slots) (hsz : Ls.size = c.maxLocals) (hlen : ∀ sig, parseMethodDescriptor y.desc = some sig → argsL.length = sig.parameters.length) (hst : st = argsL.reverse ++ rest) (hd : decode c.code pc = .ok (.invokestatic index, 3)) (k : ∀ T', Stand p l e R s m args below meth c T' locs cells slots → T'.heap = h → OwnEnds p e below s C S Q T' m pc' Ls (w :: rest)) (hp : pc + 3 = pc' := by rfl) : OwnEnds p e below s C S Q T m pc Ls st := by
  refine en_callS X hx hZ hown w1 w2 wz wc hy hM eT hf W hW hl hcl hsl hsz hlen hst hd (fun v T' L X' q => ?_) hp
  obtain ⟨rfl, q2, rfl⟩ := q
  rw [List.append_nil] at X'
  exact k T' X' q2
theorem en_callVP (X : Stand p l e R s m args below meth c T locs cells slots) (hx : p.tables.exec = Jvm.exec) (hZ : Z.Warmed39 s.vm) {y z : MethodName} {K : String} {bytes : ByteArray} {maxL : Nat} {ret : Option FieldType} {fr lo : Nat} {w : Value} {a : Addr} {argsL : List Value} {own : String} {index : Nat} (hown : s.vm.findClass own = some m.cls) (w1 : (Jvm.Cond.methodLink own index y).before a0 Z = true) (w2 : (Jvm.Cond.declares y).before a0 Z = true) (nf : NotFace s y) (w3 : (Jvm.Cond.selects K y z).before a0 Z = true) (w4 : (Jvm.Cond.instanceMethod z).before a0 Z = true) (wz : (Jvm.Cond.initialized z.cls).before a0 Z = true) (wc : (Jvm.Cond.code z bytes maxL ret).before a0 Z = true) (Ex : Exa Z h a K) (hy : y.cls ≠ "java/lang/invoke/MethodHandle" ∧ y.cls ≠ "java/lang/invoke/VarHandle") (hM : OwnMeets l Z z bytes maxL ret [] ({ frames := fr, cells := 0, slots := 0, locals := lo } : Room) (.ref a :: argsL).toArray h (PQ w h)) (eT : T.heap = h) (hf : fr + 1 ≤ R.frames) (W : Nat) (hW : (rest.map fun v => v.category).sum = W) (hl : W + (maxL + 11) + lo ≤ R.locals) (hcl : cells ≤ R.cells) (hsl : slots ≤ R.slots) (hsz : Ls.size = c.maxLocals) (hlen : ∀ sig, parseMethodDescriptor y.desc = some sig → argsL.length = sig.parameters.length) (hst : st = argsL.reverse ++ .ref a :: rest) (hd : decode c.code pc = .ok (.invokevirtual index, 3)) (k : ∀ T', Stand p l e R s m args below meth c T' locs cells slots → T'.heap = h → OwnEnds p e below s C S Q T' m pc' Ls (w :: rest)) (hp : pc + 3 = pc' := by rfl) : OwnEnds p e below s C S Q T m pc Ls st := by
  refine en_callV X hx hZ hown w1 w2 nf w3 w4 wz wc Ex hy hM eT hf W hW hl hcl hsl hsz hlen hst hd (fun v T' L X' q => ?_) hp
  obtain ⟨rfl, q2, rfl⟩ := q
  rw [List.append_nil] at X'
  exact k T' X' q2
theorem en_newPE (X : Stand p l e R s m args below meth c T locs cells slots) (hx : p.tables.exec = Jvm.exec) (hZ : Z.Warmed39 s.vm) {aty : ArrayType} (w : (Jvm.Cond.arrayClass (newarray.typeOf aty)).before a0 Z = true) (eT : T.heap = h) (hd : decode c.code pc = .ok (.newarray aty, 2)) {n : Int32} (hn : ¬ n < 0) (cap : Nat) (hcap : n.toNatClampNeg ≤ cap) (hb : cap * 8 ≤ 536870912) (hc : cells + 1 ≤ R.cells) (hl : slots + cap ≤ R.slots) {ad : String} (had : "[" ++ (newarray.typeOf aty).toString = ad)
    (k : ∀ T' h' a kA, a = h.size → Stand p l e R s m args below meth c T' locs (cells + 1) (slots + cap) → T'.heap = h' → Ext h h' → Arv Z h' a kA (newarray.typeOf aty) n [] (defaultValue (newarray.typeOf aty)) → Exa Z h' a ad → OwnEnds p e below s C S Q T' m pc' Ls (.ref a :: st)) (hp : pc + 2 = pc' := by rfl) : OwnEnds p e below s C S Q T m pc Ls (.int n :: st) := by
  subst hp
  obtain ⟨T', h', kA, X', e', E', A', Ex', st'⟩ := newPE X hx hZ w eT (g := mkF m pc Ls (.int n :: st)) rfl hd rfl hn hcap hb hc hl had
  exact OwnEnds.of st' (k T' h' _ kA rfl X' e' E' (Arv.new A' hn) Ex')
theorem en_newR (X : Stand p l e R s m args below meth c T locs cells slots) (hx : p.tables.exec = Jvm.exec) (hZ : Z.Warmed39 s.vm) {own K : String} {index : Nat} (hown : s.vm.findClass own = some m.cls) (w1 : (Jvm.Cond.classLink own index K).before a0 Z = true) (w2 : (Jvm.Cond.arrayOver (.object K)).before a0 Z = true) (eT : T.heap = h) (hd : decode c.code pc = .ok (.anewarray index, 3)) {n : Int32} (hn : ¬ n < 0) (cap : Nat) (hcap : n.toNatClampNeg ≤ cap) (hb : cap * 8 ≤ 536870912) (hc : cells + 1 ≤ R.cells) (hl : slots + cap ≤ R.slots)
    (k : ∀ T' h' a kA, a = h.size → Stand p l e R s m args below meth c T' locs (cells + 1) (slots + cap) → T'.heap = h' → Ext h h' → Arv Z h' a kA (.object K) n [] (defaultValue (.object K)) → Ovr Z kA K → OwnEnds p e below s C S Q T' m pc' Ls (.ref a :: st)) (hp : pc + 3 = pc' := by rfl) : OwnEnds p e below s C S Q T m pc Ls (.int n :: st) := by
  subst hp
  obtain ⟨T', h', kA, X', e', E', A', O', st'⟩ := newR X hx hZ hown w1 w2 eT (g := mkF m pc Ls (.int n :: st)) rfl hd rfl hn hcap hb hc hl
  exact OwnEnds.of st' (k T' h' _ kA rfl X' e' E' (Arv.new A' hn) O')
theorem en_aastore (X : Stand p l e R s m args below meth c T locs cells slots) (hx : p.tables.exec = Jvm.exec) (hZ : Z.Warmed39 s.vm) (eT : T.heap = h) {a y : Addr} {kA : ClassId} {K : String} {n j : Int32} {vs : List Value} {dv : Value} (V : Arv Z h a kA (.object K) n vs dv) (O : Ovr Z kA K) (I : Ins Z h y K true) (hj : ¬ j < 0 ∧ j < n) (i : Nat) (hi : j.toNatClampNeg = i) (hil : i < vs.length) (hd : decode c.code pc = .ok (.aastore, 1))
    (k : ∀ T' h', Stand p l e R s m args below meth c T' (locs ++ [⟨a, j.toNatClampNeg⟩]) cells slots → T'.heap = h' → Wr h h' a j.toNatClampNeg (.ref y) → Arv Z h' a kA (.object K) n (vs.set i (.ref y)) dv → OwnEnds p e below s C S Q T' m pc' Ls st) (hp : pc + 1 = pc' := by rfl) : OwnEnds p e below s C S Q T m pc Ls (.ref y :: .int j :: .ref a :: st) := by
  subst hp
  obtain ⟨cl, Ar, q1, Sz, Nn, Hs, G⟩ := V
  have hin := inb_of Sz hj
  obtain ⟨T', h', X', e', W', st'⟩ := stR X hx hZ eT Ar hin rfl (Sto.ofV Ar q1 O I) (g := mkF m pc Ls (.ref y :: .int j :: .ref a :: st)) rfl rfl hd
  exact OwnEnds.of st' (k T' h' X' e' W' (Arv.set Ar q1 Sz Nn Hs G rfl W' i hi hil))
theorem en_acmpYes (X : Stand p l e R s m args below meth c T locs cells slots) (hx : p.tables.exec = Jvm.exec) {cd : ClassFile.ACond} {o : Int} {a b : Addr} (hd : decode c.code pc = .ok (.if_acmp cd o, 3)) (hc : if_acmp.holds cd (some a) (some b) = true) (k : OwnEnds p e below s C S Q T m pc' Ls st) (ho : 0 ≤ (pc : Int) + o := by decide) (hp : ((pc : Int) + o).toNat = pc' := by decide) : OwnEnds p e below s C S Q T m pc Ls (.ref b :: .ref a :: st) :=
  OwnEnds.of (fun _ k => XS.acmpYes X.here hx (g := mkF m pc Ls (.ref b :: .ref a :: st)) rfl rfl hd rfl hc ho hp k) k
theorem en_callIP (X : Stand p l e R s m args below meth c T locs cells slots) (hx : p.tables.exec = Jvm.exec) (hZ : Z.Warmed39 s.vm) {y z : MethodName} {K : String} {bytes : ByteArray} {maxL : Nat} {ret : Option FieldType} {fr lo : Nat} {w : Value} {a : Addr} {argsL : List Value} {own : String} {index count : Nat} (hown : s.vm.findClass own = some m.cls) (w1 : (Jvm.Cond.methodLink own index y).before a0 Z = true) (w2 : (Jvm.Cond.declares y).before a0 Z = true) (w3 : (Jvm.Cond.interfaceMethod y.cls y.cls y.name y.desc).before args s = true) (w4 : (Jvm.Cond.selects K y z).before a0 Z = true) (w5 : (Jvm.Cond.instanceMethod z).before a0 Z = true) (w6 : (Jvm.Cond.publicMethod z).before a0 Z = true) (w7 : (Jvm.Cond.unhidden K y.name y.desc).before a0 Z = true) (w8 : (Jvm.Cond.castable K y.cls).before a0 Z = true) (wz : (Jvm.Cond.initialized z.cls).before a0 Z = true) (wc : (Jvm.Cond.code z bytes maxL ret).before a0 Z = true) (Ex : Exa Z h a K) (hy : y.cls ≠ "java/lang/invoke/MethodHandle" ∧ y.cls ≠ "java/lang/invoke/VarHandle") (hM : OwnMeets l Z z bytes maxL ret [] ({ frames := fr, cells := 0, slots := 0, locals := lo } : Room) (.ref a :: argsL).toArray h (PQ w h)) (eT : T.heap = h) (hf : fr + 1 ≤ R.frames) (W : Nat) (hW : (rest.map fun v => v.category).sum = W) (hl : W + (maxL + 11) + lo ≤ R.locals) (hcl : cells ≤ R.cells) (hsl : slots ≤ R.slots) (hsz : Ls.size = c.maxLocals) (hlen : ∀ sig, parseMethodDescriptor y.desc = some sig → argsL.length = sig.parameters.length) (hst : st = argsL.reverse ++ .ref a :: rest) (hd : decode c.code pc = .ok (.invokeinterface index count, 5)) (k : ∀ T', Stand p l e R s m args below meth c T' locs cells slots → T'.heap = h → OwnEnds p e below s C S Q T' m pc' Ls (w :: rest)) (hp : pc + 5 = pc' := by rfl) : OwnEnds p e below s C S Q T m pc Ls st := by
  refine en_callI X hx hZ hown w1 w2 w3 w4 w5 w6 w7 w8 wz wc Ex hy hM eT hf W hW hl hcl hsl hsz hlen hst hd (fun v T' L X' q => ?_) hp
  obtain ⟨rfl, q2, rfl⟩ := q
  rw [List.append_nil] at X'
  exact k T' X' q2
end Kit
end Jvm.OwnKit
namespace Jvm.Pilot.@@N@@
open Jvm Jvm.ClassFile Sem Op Lib Jvm.Free Jvm.Stand Jvm.LawKit Jvm.RoadKit Bundle Jvm.OwnKit Jvm.Pilot.@@N@@.Jvm.D
theorem own_get (vs : List Int32) (i : Nat) : (vs.map Value.int).getD i (.int (0 : Int32)) = .int (vs.getD i 0) := by
  simp only [List.getD_eq_getElem?_getD, List.getElem?_map]
  cases vs[i]? <;> rfl
theorem own_nn {q : Int32} (h : 0 ≤ q.toInt) : ¬ q < 0 := by
  rw [Int32.lt_iff_toInt_lt]; show ¬ q.toInt < 0; omega
theorem own_e1 : (1 : Int32).toInt = 1 := rfl
theorem own_e16 : (16 : Int32).toInt = 16 := rfl
theorem own_clamp {q : Int32} {k : Nat} (h : q.toInt = k) : q.toNatClampNeg = k := by
  have := nat_of (own_nn (show 0 ≤ q.toInt by omega)); omega
theorem own_in {q : Int32} {k : Nat} (h : q.toInt = k) (h4 : k < 16) : ¬ q < 0 ∧ q < 16 := ⟨own_nn (by omega), by rw [Int32.lt_iff_toInt_lt, own_e16]; omega⟩
theorem own_inc {q : Int32} {k : Nat} (h : q.toInt = k) (h4 : k < 16) : (q + (1 : Int32)).toInt = ((k + 1 : Nat) : Int) := by
  have h1 := c_iadd q 1
  have h2 := rng32 (q + 1)
  rw [own_e1] at h1
  omega
theorem own_ne16 {q : Int32} {k : Nat} (h : q.toInt = k) (h4 : k < 16) : ¬ q = 16 := fun e => by rw [e, own_e16] at h; omega
theorem own_app (xs : List Int32) (x : Int32) : ((xs ++ [x]).map Value.int) = ((xs.map Value.int) ++ List.replicate 1 (Value.int (0 : Int32))).set xs.length (Value.int x) := by
  rw [List.map_append]
  have h : xs.length = (xs.map Value.int).length := by simp
  rw [h, List.set_append_right _ _ (Nat.le_refl _)]
  simp
def own_has (xs : List Int32) (q : Int32) : Int32 := if q ∈ xs then 1 else 0
theorem d1_0 : decode prog_27_method_1_code 0 = .ok (.aload_n 0, 1) := by decide +kernel
theorem d1_1 : decode prog_27_method_1_code 1 = .ok (.invokespecial 1, 3) := by decide +kernel
theorem d1_4 : decode prog_27_method_1_code 4 = .ok (.aload_n 0, 1) := by decide +kernel
theorem d1_5 : decode prog_27_method_1_code 5 = .ok (.bipush 16, 2) := by decide +kernel
theorem d1_7 : decode prog_27_method_1_code 7 = .ok (.newarray .int, 2) := by decide +kernel
theorem d1_9 : decode prog_27_method_1_code 9 = .ok (.putfield 7, 3) := by decide +kernel
theorem d1_12 : decode prog_27_method_1_code 12 = .ok (.return_, 1) := by decide +kernel
theorem ef_1 (m : MethodId) (o0 : Addr) : entryFrame m #[(.ref o0)] 1 = mkF m 0 #[.val (.ref o0)] [] := by first | (simp [entryFrame, mkF, argsToLocals, Value.category]; done) | rfl
theorem pn_0 : plainName "com/example/twigrank/twigrank/Ints" = true := by first | (simp [plainName, overriddenIn]; done) | decide +kernel
set_option maxRecDepth 65536 in
set_option maxHeartbeats 40000000 in
theorem rm1 (l : Launch) (Z : State) (a0 : Array Value) (hw : ∀ d ∈ tables_1, d.before a0 Z = true) (ws : List Jvm.Cond) (o0 : Addr) (h0 : Heap) (n0 : Nat) (Z0 : n0 ≤ h0.size) (E0 : Exa Z h0 o0 "com/example/twigrank/twigrank/Ints") (Fv : Fld Z h0 o0 "com/example/twigrank/twigrank/Ints" "values" "[I" .null) (Fz : Fld Z h0 o0 "com/example/twigrank/twigrank/Ints" "size" "I" (.int (0 : Int32))) (g0 : n0 ≤ o0) : OwnMeets l Z (⟨"com/example/twigrank/twigrank/Ints", "<init>", "()V"⟩ : MethodName) prog_27_method_1_code 1 none ws ({ frames := 1, cells := 1, slots := 16, locals := 12 } : Room) #[(.ref o0)] h0 (fun v h L => ∃ b k, v = none ∧ Fr n0 L ∧ Keep h0 h [o0] ∧ n0 ≤ b ∧ h0.size ≤ b ∧ Fld Z h o0 "com/example/twigrank/twigrank/Ints" "values" "[I" (.ref b) ∧ Fld Z h o0 "com/example/twigrank/twigrank/Ints" "size" "I" (.int (0 : Int32)) ∧ Arv Z h b k .int (16 : Int32) [] (.int (0 : Int32))) := by
  refine OwnMeets.of_walk (plainFor_of_name pn_0) (fun m => ef_1 m o0) ?_
  intro p e s m below meth c T0 X0 K e0
  obtain ⟨hx, hby, hml, hret, hlk, hnm, hown, hZ⟩ := id K
  have N0 := Fr.nil n0
  refine en_aloadN X0 hx (hb hby d1_0) (pc' := 1) rfl rfl ?_
  refine en_initO X0 hx hZ hown (tw hw 6 rfl) (tw hw 7 rfl) (tw hw 8 rfl) e0 (by rw [hml]; rfl) (hb hby d1_1) (by decide) 0 rfl (by decide) (pc' := 4) (fun T1 X1 e1 => ?_)
  refine en_aloadN X1 hx (hb hby d1_4) (pc' := 5) rfl rfl ?_
  refine en_bipush X1 hx (16 : Int32) (hb hby d1_5) (pc' := 7) ?_
  refine en_newP X1 hx hZ (tw hw 9 rfl) e1 (hb hby d1_7) (by decide) 16 (by decide) (by decide) (by decide) (by decide) (pc' := 9) (fun T2 h2 b2 k2 g2 X2 e2 E2 V20 => ?_)
  have ne2_o0 : o0 ≠ b2 := by rw [g2]; exact Nat.ne_of_lt E0.lt
  have g_b2 : n0 ≤ b2 := by rw [g2]; exact Z0
  have sz_b2 : h0.size ≤ b2 := by rw [g2]; exact (Keep.refl h0 [o0]).1
  have F2_o0_values := Fv.ext E2
  have F2_o0_size := Fz.ext E2
  have E2_o0 := E0.ext E2
  have K2 : Keep h0 h2 [o0] := (Keep.refl h0 [o0]).ext E2
  have Z2 : n0 ≤ h2.size := Nat.le_trans Z0 E2.1
  have V2 : Arv Z h2 b2 k2 .int (16 : Int32) [] (.int (0 : Int32)) := V20
  refine en_putF X2 hx hZ hown (host := "") (Or.inl (tw hw 10 rfl)) Via.refl e2 F2_o0_values E2_o0 (Or.inl (tw hw 11 rfl)) (tw hw 1 rfl) (ty := (.array .int)) (by decide) rfl rfl (hb hby d1_9) (pc' := 12) (fun T3 h3 X3 e3 W3 => ?_)
  have F3_o0_size := F2_o0_size.other W3 (Or.inr (slot_ne (Or.inl (tw hw 18 rfl)) (Or.inl (tw hw 11 rfl)) (by decide) (t := .int) (t' := (.array .int)) (by decide) (by decide)))
  have E3_o0 := E2_o0.wr W3
  have V3_b2 := V2.other W3 (Ne.symm ne2_o0)
  have K3 : Keep h0 h3 [o0] := K2.wr W3 (Or.inl (List.mem_of_getElem? (i := 0) rfl))
  have Z3 : n0 ≤ h3.size := Nat.le_trans Z2 (Keep.of_wr W3).1
  have N3 := Fr.snoc X3 N0 g0
  have F3_o0_values := F2_o0_values.same W3
  exact en_ret0 X3 hx hret hlk (hb hby d1_12) (by decide) (by decide) (by first | (rw [e3]; exact ⟨b2, k2, rfl, N3, K3, g_b2, sz_b2, F3_o0_values, F3_o0_size, V3_b2⟩) | exact ⟨b2, k2, rfl, N3, K3, g_b2, sz_b2, F3_o0_values, F3_o0_size, V3_b2⟩)
theorem d4_0 : decode prog_27_method_2_code 0 = .ok (.aload_n 0, 1) := by decide +kernel
theorem d4_1 : decode prog_27_method_2_code 1 = .ok (.getfield 13, 3) := by decide +kernel
theorem d4_4 : decode prog_27_method_2_code 4 = .ok (.aload_n 0, 1) := by decide +kernel
theorem d4_5 : decode prog_27_method_2_code 5 = .ok (.getfield 7, 3) := by decide +kernel
theorem d4_8 : decode prog_27_method_2_code 8 = .ok (.arraylength, 1) := by decide +kernel
theorem d4_9 : decode prog_27_method_2_code 9 = .ok (.if_icmp .ne 20, 3) := by decide +kernel
theorem d4_12 : decode prog_27_method_2_code 12 = .ok (.aload_n 0, 1) := by decide +kernel
theorem d4_13 : decode prog_27_method_2_code 13 = .ok (.aload_n 0, 1) := by decide +kernel
theorem d4_14 : decode prog_27_method_2_code 14 = .ok (.getfield 7, 3) := by decide +kernel
theorem d4_17 : decode prog_27_method_2_code 17 = .ok (.aload_n 0, 1) := by decide +kernel
theorem d4_18 : decode prog_27_method_2_code 18 = .ok (.getfield 13, 3) := by decide +kernel
theorem d4_21 : decode prog_27_method_2_code 21 = .ok (.iconst 2, 1) := by decide +kernel
theorem d4_22 : decode prog_27_method_2_code 22 = .ok (.imul, 1) := by decide +kernel
theorem d4_23 : decode prog_27_method_2_code 23 = .ok (.invokestatic 17, 3) := by decide +kernel
theorem d4_26 : decode prog_27_method_2_code 26 = .ok (.putfield 7, 3) := by decide +kernel
theorem d4_29 : decode prog_27_method_2_code 29 = .ok (.aload_n 0, 1) := by decide +kernel
theorem d4_30 : decode prog_27_method_2_code 30 = .ok (.getfield 7, 3) := by decide +kernel
theorem d4_33 : decode prog_27_method_2_code 33 = .ok (.aload_n 0, 1) := by decide +kernel
theorem d4_34 : decode prog_27_method_2_code 34 = .ok (.dup, 1) := by decide +kernel
theorem d4_35 : decode prog_27_method_2_code 35 = .ok (.getfield 13, 3) := by decide +kernel
theorem d4_38 : decode prog_27_method_2_code 38 = .ok (.dup_x1, 1) := by decide +kernel
theorem d4_39 : decode prog_27_method_2_code 39 = .ok (.iconst 1, 1) := by decide +kernel
theorem d4_40 : decode prog_27_method_2_code 40 = .ok (.iadd, 1) := by decide +kernel
theorem d4_41 : decode prog_27_method_2_code 41 = .ok (.putfield 13, 3) := by decide +kernel
theorem d4_44 : decode prog_27_method_2_code 44 = .ok (.iload_n 1, 1) := by decide +kernel
theorem d4_45 : decode prog_27_method_2_code 45 = .ok (.iastore, 1) := by decide +kernel
theorem d4_46 : decode prog_27_method_2_code 46 = .ok (.return_, 1) := by decide +kernel
theorem ef_4 (m : MethodId) (o0 : Addr) (x1 : Int32) : entryFrame m #[(.ref o0), (.int x1)] 2 = mkF m 0 #[.val (.ref o0), .val (.int x1)] [] := by first | (simp [entryFrame, mkF, argsToLocals, Value.category]; done) | rfl
set_option maxRecDepth 65536 in
set_option maxHeartbeats 40000000 in
theorem rm4 (l : Launch) (Z : State) (a0 : Array Value) (hw : ∀ d ∈ tables_1, d.before a0 Z = true) (ws : List Jvm.Cond) (o0 : Addr) (x1 : Int32) (b : Addr) (kA : ClassId) (sz : Int32) (xs : List Int32) (h0 : Heap) (n0 : Nat) (Z0 : n0 ≤ h0.size) (E0 : Exa Z h0 o0 "com/example/twigrank/twigrank/Ints") (Fv : Fld Z h0 o0 "com/example/twigrank/twigrank/Ints" "values" "[I" (.ref b)) (Fz : Fld Z h0 o0 "com/example/twigrank/twigrank/Ints" "size" "I" (.int sz)) (V0 : Arv Z h0 b kA .int (16 : Int32) (xs.map Value.int) (.int (0 : Int32))) (hs : sz.toInt = xs.length) (hl : xs.length < 16) (g0 : n0 ≤ o0) (gb : n0 ≤ b) (hne : o0 ≠ b) : OwnMeets l Z (⟨"com/example/twigrank/twigrank/Ints", "add", "(I)V"⟩ : MethodName) prog_27_method_2_code 2 none ws ({ frames := 0, cells := 0, slots := 0, locals := 0 } : Room) #[(.ref o0), (.int x1)] h0 (fun v h L => v = none ∧ Fr n0 L ∧ Keep h0 h [o0, b] ∧ Fld Z h o0 "com/example/twigrank/twigrank/Ints" "values" "[I" (.ref b) ∧ Fld Z h o0 "com/example/twigrank/twigrank/Ints" "size" "I" (.int (sz + (1 : Int32))) ∧ Arv Z h b kA .int (16 : Int32) ((xs ++ [x1]).map Value.int) (.int (0 : Int32))) := by
  refine OwnMeets.of_walk (plainFor_of_name pn_0) (fun m => ef_4 m o0 x1) ?_
  intro p e s m below meth c T0 X0 K e0
  obtain ⟨hx, hby, hml, hret, hlk, hnm, hown, hZ⟩ := id K
  have N0 := Fr.nil n0
  refine en_aloadN X0 hx (hb hby d4_0) (pc' := 1) rfl rfl ?_
  refine en_getF X0 hx hZ hown (host := "") (Or.inl (tw hw 17 rfl)) Via.refl e0 Fz (hb hby d4_1) (pc' := 4) (fun T1 X1 e1 => ?_)
  refine en_aloadN X1 hx (hb hby d4_4) (pc' := 5) rfl rfl ?_
  refine en_getF X1 hx hZ hown (host := "") (Or.inl (tw hw 10 rfl)) Via.refl e1 Fv (hb hby d4_5) (pc' := 8) (fun T2 X2 e2 => ?_)
  refine en_len X2 hx hZ e2 V0 (hb hby d4_8) (pc' := 9) ?_
  refine en_icmpYes X2 hx (hb hby d4_9) (feq (own_ne16 hs hl)).2 (pc' := 29) ?_
  refine en_aloadN X2 hx (hb hby d4_29) (pc' := 30) rfl rfl ?_
  refine en_getF X2 hx hZ hown (host := "") (Or.inl (tw hw 10 rfl)) Via.refl e2 Fv (hb hby d4_30) (pc' := 33) (fun T3 X3 e3 => ?_)
  refine en_aloadN X3 hx (hb hby d4_33) (pc' := 34) rfl rfl ?_
  refine en_dup X3 hx (hb hby d4_34) (pc' := 35) rfl ?_
  refine en_getF X3 hx hZ hown (host := "") (Or.inl (tw hw 17 rfl)) Via.refl e3 Fz (hb hby d4_35) (pc' := 38) (fun T4 X4 e4 => ?_)
  refine en_dupX1 X4 hx (hb hby d4_38) (pc' := 39) rfl rfl ?_
  refine en_iconst X4 hx (1 : Int32) (hb hby d4_39) (pc' := 40) ?_
  refine en_iadd X4 hx (hb hby d4_40) (pc' := 41) ?_
  refine en_putF X4 hx hZ hown (host := "") (Or.inl (tw hw 17 rfl)) Via.refl e4 Fz E0 (Or.inl (tw hw 18 rfl)) (tw hw 1 rfl) (ty := .int) (by decide) rfl rfl (hb hby d4_41) (pc' := 44) (fun T5 h5 X5 e5 W5 => ?_)
  have F5_o0_values := Fv.other W5 (Or.inr (slot_ne (Or.inl (tw hw 11 rfl)) (Or.inl (tw hw 18 rfl)) (by decide) (t := (.array .int)) (t' := .int) (by decide) (by decide)))
  have E5_o0 := E0.wr W5
  have V5_b := V0.other W5 (Ne.symm hne)
  have K5 : Keep h0 h5 [o0, b] := (Keep.refl h0 [o0, b]).wr W5 (Or.inl (List.mem_of_getElem? (i := 0) rfl))
  have Z5 : n0 ≤ h5.size := Nat.le_trans Z0 (Keep.of_wr W5).1
  have N5 := Fr.snoc X5 N0 g0
  have F5_o0_size := Fz.same W5
  refine en_iloadN X5 hx (hb hby d4_44) (pc' := 45) rfl ?_
  have Vp := V5_b.pad (pad_rep (xs.map Value.int) (.int (0 : Int32)) 1)
  refine en_iastore X5 hx hZ e5 Vp (own_in hs hl) xs.length (own_clamp hs) (by simp) (hb hby d4_45) (pc' := 46) (fun T6 h6 X6 e6 W6 V60 => ?_)
  have F6_o0_values := F5_o0_values.other W6 (Or.inl hne)
  have F6_o0_size := F5_o0_size.other W6 (Or.inl hne)
  have E6_o0 := E5_o0.wr W6
  have K6 : Keep h0 h6 [o0, b] := K5.wr W6 (Or.inl (List.mem_of_getElem? (i := 1) rfl))
  have Z6 : n0 ≤ h6.size := Nat.le_trans Z5 (Keep.of_wr W6).1
  have N6 := Fr.snoc X6 N5 gb
  have V6 : Arv Z h6 b kA .int (16 : Int32) ((xs ++ [x1]).map Value.int) (.int (0 : Int32)) := by rw [own_app]; exact V60
  exact en_ret0 X6 hx hret hlk (hb hby d4_46) (by decide) (by decide) (by first | (rw [e6]; exact ⟨rfl, N6, K6, F6_o0_values, F6_o0_size, V6⟩) | exact ⟨rfl, N6, K6, F6_o0_values, F6_o0_size, V6⟩)
theorem d3_0 : decode prog_27_method_7_code 0 = .ok (.iconst 0, 1) := by decide +kernel
theorem d3_1 : decode prog_27_method_7_code 1 = .ok (.istore_n 2, 1) := by decide +kernel
theorem d3_2 : decode prog_27_method_7_code 2 = .ok (.iconst 0, 1) := by decide +kernel
theorem d3_3 : decode prog_27_method_7_code 3 = .ok (.istore_n 3, 1) := by decide +kernel
theorem d3_4 : decode prog_27_method_7_code 4 = .ok (.iload_n 2, 1) := by decide +kernel
theorem d3_5 : decode prog_27_method_7_code 5 = .ok (.ifCond .ne 33, 3) := by decide +kernel
theorem d3_8 : decode prog_27_method_7_code 8 = .ok (.iload_n 3, 1) := by decide +kernel
theorem d3_9 : decode prog_27_method_7_code 9 = .ok (.aload_n 0, 1) := by decide +kernel
theorem d3_10 : decode prog_27_method_7_code 10 = .ok (.getfield 13, 3) := by decide +kernel
theorem d3_13 : decode prog_27_method_7_code 13 = .ok (.if_icmp .ge 25, 3) := by decide +kernel
theorem d3_16 : decode prog_27_method_7_code 16 = .ok (.aload_n 0, 1) := by decide +kernel
theorem d3_17 : decode prog_27_method_7_code 17 = .ok (.getfield 7, 3) := by decide +kernel
theorem d3_20 : decode prog_27_method_7_code 20 = .ok (.iload_n 3, 1) := by decide +kernel
theorem d3_21 : decode prog_27_method_7_code 21 = .ok (.iaload, 1) := by decide +kernel
theorem d3_22 : decode prog_27_method_7_code 22 = .ok (.iload_n 1, 1) := by decide +kernel
theorem d3_23 : decode prog_27_method_7_code 23 = .ok (.if_icmp .ne 7, 3) := by decide +kernel
theorem d3_26 : decode prog_27_method_7_code 26 = .ok (.iconst 1, 1) := by decide +kernel
theorem d3_27 : decode prog_27_method_7_code 27 = .ok (.goto 4, 3) := by decide +kernel
theorem d3_30 : decode prog_27_method_7_code 30 = .ok (.iconst 0, 1) := by decide +kernel
theorem d3_31 : decode prog_27_method_7_code 31 = .ok (.istore_n 2, 1) := by decide +kernel
theorem d3_32 : decode prog_27_method_7_code 32 = .ok (.iinc 3 1, 3) := by decide +kernel
theorem d3_35 : decode prog_27_method_7_code 35 = .ok (.goto (-31), 3) := by decide +kernel
theorem d3_38 : decode prog_27_method_7_code 38 = .ok (.iload_n 2, 1) := by decide +kernel
theorem d3_39 : decode prog_27_method_7_code 39 = .ok (.ireturn, 1) := by decide +kernel
set_option maxHeartbeats 4000000 in
theorem loop3 {p : Program} {l : Launch} {e : Env} {s : State} {m : MethodId} {args : Array Value} {below : List Frame} {meth : Method} {c : Code} {Z : State} {a0 : Array Value} {h : Heap} {kA : ClassId} {o0 b : Addr} {x1 sz : Int32} {xs : List Int32} (hw : ∀ d ∈ tables_1, d.before a0 Z = true) (K : Cx p s m meth c Z (⟨"com/example/twigrank/twigrank/Ints", "contains", "(I)Z"⟩ : MethodName) prog_27_method_7_code 4 (some .boolean)) (Fv : Fld Z h o0 "com/example/twigrank/twigrank/Ints" "values" "[I" (.ref b)) (Fz : Fld Z h o0 "com/example/twigrank/twigrank/Ints" "size" "I" (.int sz)) (V0 : Arv Z h b kA .int (16 : Int32) (xs.map Value.int) (.int (0 : Int32))) (hs : sz.toInt = xs.length) (hl : xs.length ≤ 16) (k : Nat) :
    ∀ (i : Nat) (iI fd : Int32) (T : State) (X : Stand p l e ({ frames := 0, cells := 0, slots := 0, locals := 0 } : Room) s m args below meth c T [] 0 0) (eT : T.heap = h), xs.length - i ≤ k → i ≤ xs.length → iI.toInt = i → (fd = 1 ∧ x1 ∈ xs ∨ fd = 0 ∧ ∀ j, j < i → ¬ xs.getD j 0 = x1) → OwnEnds p e below s ({ frames := 0, cells := 0, slots := 0, locals := 0 } : Room).cells ({ frames := 0, cells := 0, slots := 0, locals := 0 } : Room).slots (PQ (.int (own_has xs x1)) h) T m 4 #[.val (.ref o0), .val (.int x1), .val (.int fd), .val (.int iI)] [] := by
  obtain ⟨hx, hby, hml, hret, hlk, hnm, hown, hZ⟩ := id K
  induction k with
  | zero =>
    intro i iI fd T X eT hk hle hi hfd
    rcases hfd with ⟨rfl, hmem⟩ | ⟨rfl, hno⟩
    · refine en_iloadN X hx (hb hby d3_4) (pc' := 5) rfl ?_
      refine en_ifYes X hx (hb hby d3_5) ((if0 _ _).trans (feq (by decide : ¬ (1 : Int32) = (0 : Int32))).2) (pc' := 38) ?_
      refine en_iloadN X hx (hb hby d3_38) (pc' := 39) rfl ?_
      have hv : own_has xs x1 = 1 := if_pos hmem
      rw [hv]
      exact en_retZ X hx hret hlk (hb hby d3_39) rfl (by decide) (by decide) (by first | (rw [eT]; exact ⟨rfl, rfl, rfl⟩) | exact ⟨rfl, rfl, rfl⟩)
    · refine en_iloadN X hx (hb hby d3_4) (pc' := 5) rfl ?_
      refine en_ifNo X hx (hb hby d3_5) ((if0 _ _).trans (teq (rfl : (0 : Int32) = (0 : Int32))).2) (pc' := 8) ?_
      refine en_iloadN X hx (hb hby d3_8) (pc' := 9) rfl ?_
      refine en_aloadN X hx (hb hby d3_9) (pc' := 10) rfl rfl ?_
      refine en_getF X hx hZ hown (host := "") (Or.inl (tw hw 17 rfl)) Via.refl eT Fz (hb hby d3_10) (pc' := 13) (fun T1 X1 e1 => ?_)
      by_cases hlt : iI < sz
      · refine en_icmpNo X1 hx (hb hby d3_13) (tlt hlt).2.1 (pc' := 16) ?_
        have hil : i < xs.length := by rw [Int32.lt_iff_toInt_lt, hi, hs] at hlt; omega
        exact absurd hil (by omega)
      · refine en_icmpYes X1 hx (hb hby d3_13) (flt hlt).2.1 (pc' := 38) ?_
        have hv : own_has xs x1 = 0 := if_neg (fun q => by obtain ⟨j, hj, hj2⟩ := List.mem_iff_getElem.mp q; exact hno j (by rw [Int32.lt_iff_toInt_lt, hi, hs] at hlt; omega) (by rw [List.getD_eq_getElem?_getD, List.getElem?_eq_getElem hj]; exact hj2))
        rw [hv]
        refine en_iloadN X1 hx (hb hby d3_38) (pc' := 39) rfl ?_
        exact en_retZ X1 hx hret hlk (hb hby d3_39) rfl (by decide) (by decide) (by first | (rw [e1]; exact ⟨rfl, rfl, rfl⟩) | exact ⟨rfl, rfl, rfl⟩)
  | succ k ih =>
    intro i iI fd T X eT hk hle hi hfd
    rcases hfd with ⟨rfl, hmem⟩ | ⟨rfl, hno⟩
    · refine en_iloadN X hx (hb hby d3_4) (pc' := 5) rfl ?_
      refine en_ifYes X hx (hb hby d3_5) ((if0 _ _).trans (feq (by decide : ¬ (1 : Int32) = (0 : Int32))).2) (pc' := 38) ?_
      refine en_iloadN X hx (hb hby d3_38) (pc' := 39) rfl ?_
      have hv : own_has xs x1 = 1 := if_pos hmem
      rw [hv]
      exact en_retZ X hx hret hlk (hb hby d3_39) rfl (by decide) (by decide) (by first | (rw [eT]; exact ⟨rfl, rfl, rfl⟩) | exact ⟨rfl, rfl, rfl⟩)
    · refine en_iloadN X hx (hb hby d3_4) (pc' := 5) rfl ?_
      refine en_ifNo X hx (hb hby d3_5) ((if0 _ _).trans (teq (rfl : (0 : Int32) = (0 : Int32))).2) (pc' := 8) ?_
      refine en_iloadN X hx (hb hby d3_8) (pc' := 9) rfl ?_
      refine en_aloadN X hx (hb hby d3_9) (pc' := 10) rfl rfl ?_
      refine en_getF X hx hZ hown (host := "") (Or.inl (tw hw 17 rfl)) Via.refl eT Fz (hb hby d3_10) (pc' := 13) (fun T1 X1 e1 => ?_)
      by_cases hlt : iI < sz
      · refine en_icmpNo X1 hx (hb hby d3_13) (tlt hlt).2.1 (pc' := 16) ?_
        have hil : i < xs.length := by rw [Int32.lt_iff_toInt_lt, hi, hs] at hlt; omega
        refine en_aloadN X1 hx (hb hby d3_16) (pc' := 17) rfl rfl ?_
        refine en_getF X1 hx hZ hown (host := "") (Or.inl (tw hw 10 rfl)) Via.refl e1 Fv (hb hby d3_17) (pc' := 20) (fun T2 X2 e2 => ?_)
        refine en_iloadN X2 hx (hb hby d3_20) (pc' := 21) rfl ?_
        refine en_iaload X2 hx hZ e2 V0 (own_in hi (by omega)) (x := (xs.getD i 0)) (by rw [own_clamp hi]; exact own_get xs i) (hb hby d3_21) (pc' := 22) ?_
        refine en_iloadN X2 hx (hb hby d3_22) (pc' := 23) rfl ?_
        by_cases hu : (xs.getD i 0) = x1
        · refine en_icmpNo X2 hx (hb hby d3_23) (teq hu).2 (pc' := 26) ?_
          refine en_iconst X2 hx (1 : Int32) (hb hby d3_26) (pc' := 27) ?_
          refine en_goto X2 hx (hb hby d3_27) (pc' := 31) ?_
          refine en_istoreN X2 hx (hb hby d3_31) (pc' := 32) (Ls' := #[.val (.ref o0), .val (.int x1), .val (.int (1 : Int32)), .val (.int iI)]) rfl ?_
          refine en_iinc X2 hx (hb hby d3_32) (pc' := 35) (Ls' := #[.val (.ref o0), .val (.int x1), .val (.int (1 : Int32)), .val (.int (iI + (1 : Int32)))]) rfl rfl ?_
          refine en_goto X2 hx (hb hby d3_35) (pc' := 4) ?_
          exact ih (i + 1) _ _ _ X2 e2 (by omega) (by omega) (own_inc hi (by omega)) (Or.inl ⟨rfl, by rw [← hu, List.getD_eq_getElem?_getD, List.getElem?_eq_getElem hil]; exact List.getElem_mem hil⟩)
        · refine en_icmpYes X2 hx (hb hby d3_23) (feq hu).2 (pc' := 30) ?_
          refine en_iconst X2 hx (0 : Int32) (hb hby d3_30) (pc' := 31) ?_
          refine en_istoreN X2 hx (hb hby d3_31) (pc' := 32) (Ls' := #[.val (.ref o0), .val (.int x1), .val (.int (0 : Int32)), .val (.int iI)]) rfl ?_
          refine en_iinc X2 hx (hb hby d3_32) (pc' := 35) (Ls' := #[.val (.ref o0), .val (.int x1), .val (.int (0 : Int32)), .val (.int (iI + (1 : Int32)))]) rfl rfl ?_
          refine en_goto X2 hx (hb hby d3_35) (pc' := 4) ?_
          exact ih (i + 1) _ _ _ X2 e2 (by omega) (by omega) (own_inc hi (by omega)) (Or.inr ⟨rfl, fun j hj => (Nat.lt_succ_iff_lt_or_eq.mp hj).elim (hno j) (fun q => q ▸ hu)⟩)
      · refine en_icmpYes X1 hx (hb hby d3_13) (flt hlt).2.1 (pc' := 38) ?_
        have hv : own_has xs x1 = 0 := if_neg (fun q => by obtain ⟨j, hj, hj2⟩ := List.mem_iff_getElem.mp q; exact hno j (by rw [Int32.lt_iff_toInt_lt, hi, hs] at hlt; omega) (by rw [List.getD_eq_getElem?_getD, List.getElem?_eq_getElem hj]; exact hj2))
        rw [hv]
        refine en_iloadN X1 hx (hb hby d3_38) (pc' := 39) rfl ?_
        exact en_retZ X1 hx hret hlk (hb hby d3_39) rfl (by decide) (by decide) (by first | (rw [e1]; exact ⟨rfl, rfl, rfl⟩) | exact ⟨rfl, rfl, rfl⟩)
theorem ef_3 (m : MethodId) (o0 : Addr) (x1 : Int32) : entryFrame m #[(.ref o0), (.int x1)] 4 = mkF m 0 #[.val (.ref o0), .val (.int x1), .unset, .unset] [] := by first | (simp [entryFrame, mkF, argsToLocals, Value.category]; done) | rfl
set_option maxRecDepth 65536 in
set_option maxHeartbeats 40000000 in
theorem rm3 (l : Launch) (Z : State) (a0 : Array Value) (hw : ∀ d ∈ tables_1, d.before a0 Z = true) (ws : List Jvm.Cond) (o0 : Addr) (x1 : Int32) (b : Addr) (kA : ClassId) (sz : Int32) (xs : List Int32) (h0 : Heap) (n0 : Nat) (Z0 : n0 ≤ h0.size) (Fv : Fld Z h0 o0 "com/example/twigrank/twigrank/Ints" "values" "[I" (.ref b)) (Fz : Fld Z h0 o0 "com/example/twigrank/twigrank/Ints" "size" "I" (.int sz)) (V0 : Arv Z h0 b kA .int (16 : Int32) (xs.map Value.int) (.int (0 : Int32))) (hs : sz.toInt = xs.length) (hl : xs.length ≤ 16) : OwnMeets l Z (⟨"com/example/twigrank/twigrank/Ints", "contains", "(I)Z"⟩ : MethodName) prog_27_method_7_code 4 (some .boolean) ws ({ frames := 0, cells := 0, slots := 0, locals := 0 } : Room) #[(.ref o0), (.int x1)] h0 (PQ (.int (own_has xs x1)) h0) := by
  refine OwnMeets.of_walk (plainFor_of_name pn_0) (fun m => ef_3 m o0 x1) ?_
  intro p e s m below meth c T0 X0 K e0
  obtain ⟨hx, hby, hml, hret, hlk, hnm, hown, hZ⟩ := id K
  have N0 := Fr.nil n0
  refine en_iconst X0 hx (0 : Int32) (hb hby d3_0) (pc' := 1) ?_
  refine en_istoreN X0 hx (hb hby d3_1) (pc' := 2) (Ls' := #[.val (.ref o0), .val (.int x1), .val (.int (0 : Int32)), .unset]) rfl ?_
  refine en_iconst X0 hx (0 : Int32) (hb hby d3_2) (pc' := 3) ?_
  refine en_istoreN X0 hx (hb hby d3_3) (pc' := 4) (Ls' := #[.val (.ref o0), .val (.int x1), .val (.int (0 : Int32)), .val (.int (0 : Int32))]) rfl ?_
  exact loop3 hw K Fv Fz V0 hs hl xs.length 0 _ _ _ X0 e0 (by omega) (by omega) rfl (Or.inr ⟨rfl, fun j hj => absurd hj (by omega)⟩)
def g0_11_50_l8 (y1 : Int32) (y2 : Int32) (y3 : Int32) (y4 : Int32) (y7 : Int32) : Int32 := (if y7 = (0 : Int32) then y4 else (if y7 = (1 : Int32) then y1 else (if y7 = (2 : Int32) then y2 else y3)))
theorem r0_11_50 {p : Program} {l : Launch} {e : Env} {R : Room} {s : State} {m : MethodId} {args : Array Value} {below : List Frame} {meth : Method} {c : Code} {T : State} {locs : List Loc} {cells slots : Nat} {Z : State} {a0 : Array Value} {C S : Nat} {Q : Option Value → Heap → List Loc → Prop} (hw : ∀ d ∈ tables_1, d.before a0 Z = true) (K : Cx p s m meth c Z x code maxLocals ret) (X : Stand p l e R s m args below meth c T locs cells slots) (y0 : Int32) (y1 : Int32) (y2 : Int32) (y3 : Int32) (y4 : Int32) (y5 : Int32) (y6 : Int32) (y7 : Int32) (k : OwnEnds p e below s C S Q T m 50 #[.val (.int y0), .val (.int y1), .val (.int y2), .val (.int y3), .val (.int y4), .val (.int y5), .val (.int y6), .val (.int y7), .val (.int (g0_11_50_l8 y1 y2 y3 y4 y7)), .unset, .unset] []) : OwnEnds p e below s C S Q T m 11 #[.val (.int y0), .val (.int y1), .val (.int y2), .val (.int y3), .val (.int y4), .val (.int y5), .val (.int y6), .val (.int y7), .unset, .unset, .unset] [] := by
  obtain ⟨hx, hby, hml, hret, hlk, hnm, hown, hZ⟩ := id K
  unfold g0_11_50_l8 at k
  refine en_iload X hx (hb hby at_11) (pc' := 13) rfl ?_
  by_cases hc13_0 : y7 = (0 : Int32)
  · simp only [if_pos hc13_0] at k
    refine en_ifNo X hx (hb hby at_13) ((if0 _ _).trans (teq hc13_0).2) (pc' := 16) ?_
    refine en_iload X hx (hb hby at_16) (pc' := 18) rfl ?_
    refine en_istore X hx (hb hby at_18) (pc' := 20) (Ls' := #[.val (.int y0), .val (.int y1), .val (.int y2), .val (.int y3), .val (.int y4), .val (.int y5), .val (.int y6), .val (.int y7), .val (.int y4), .unset, .unset]) rfl ?_
    refine en_goto X hx (hb hby at_20) (pc' := 50) ?_
    exact k
  · simp only [if_neg hc13_0] at k
    refine en_ifYes X hx (hb hby at_13) ((if0 _ _).trans (feq hc13_0).2) (pc' := 23) ?_
    refine en_iload X hx (hb hby at_23) (pc' := 25) rfl ?_
    refine en_iconst X hx (1 : Int32) (hb hby at_25) (pc' := 26) ?_
    by_cases hc26_1 : y7 = (1 : Int32)
    · simp only [if_pos hc26_1] at k
      refine en_icmpNo X hx (hb hby at_26) (teq hc26_1).2 (pc' := 29) ?_
      refine en_iloadN X hx (hb hby at_29) (pc' := 30) rfl ?_
      refine en_istore X hx (hb hby at_30) (pc' := 32) (Ls' := #[.val (.int y0), .val (.int y1), .val (.int y2), .val (.int y3), .val (.int y4), .val (.int y5), .val (.int y6), .val (.int y7), .val (.int y1), .unset, .unset]) rfl ?_
      refine en_goto X hx (hb hby at_32) (pc' := 50) ?_
      exact k
    · simp only [if_neg hc26_1] at k
      refine en_icmpYes X hx (hb hby at_26) (feq hc26_1).2 (pc' := 35) ?_
      refine en_iload X hx (hb hby at_35) (pc' := 37) rfl ?_
      refine en_iconst X hx (2 : Int32) (hb hby at_37) (pc' := 38) ?_
      by_cases hc38_2 : y7 = (2 : Int32)
      · simp only [if_pos hc38_2] at k
        refine en_icmpNo X hx (hb hby at_38) (teq hc38_2).2 (pc' := 41) ?_
        refine en_iloadN X hx (hb hby at_41) (pc' := 42) rfl ?_
        refine en_istore X hx (hb hby at_42) (pc' := 44) (Ls' := #[.val (.int y0), .val (.int y1), .val (.int y2), .val (.int y3), .val (.int y4), .val (.int y5), .val (.int y6), .val (.int y7), .val (.int y2), .unset, .unset]) rfl ?_
        refine en_goto X hx (hb hby at_44) (pc' := 50) ?_
        exact k
      · simp only [if_neg hc38_2] at k
        refine en_icmpYes X hx (hb hby at_38) (feq hc38_2).2 (pc' := 47) ?_
        refine en_iloadN X hx (hb hby at_47) (pc' := 48) rfl ?_
        refine en_istore X hx (hb hby at_48) (pc' := 50) (Ls' := #[.val (.int y0), .val (.int y1), .val (.int y2), .val (.int y3), .val (.int y4), .val (.int y5), .val (.int y6), .val (.int y7), .val (.int y3), .unset, .unset]) rfl ?_
        exact k
def g0_95_136_t0 (y1 : Int32) (y2 : Int32) (y3 : Int32) (y6 : Int32) (y8 : Int32) : Int32 := (if y6 < (1 : Int32) then (if y6 < (2 : Int32) then (if y6 < (3 : Int32) then (0 : Int32) else (if y3 = y8 then (1 : Int32) else (0 : Int32))) else (if y2 = y8 then (1 : Int32) else (if y6 < (3 : Int32) then (0 : Int32) else (if y3 = y8 then (1 : Int32) else (0 : Int32))))) else (if y1 = y8 then (1 : Int32) else (if y6 < (2 : Int32) then (if y6 < (3 : Int32) then (0 : Int32) else (if y3 = y8 then (1 : Int32) else (0 : Int32))) else (if y2 = y8 then (1 : Int32) else (if y6 < (3 : Int32) then (0 : Int32) else (if y3 = y8 then (1 : Int32) else (0 : Int32)))))))
theorem r0_95_136 {p : Program} {l : Launch} {e : Env} {R : Room} {s : State} {m : MethodId} {args : Array Value} {below : List Frame} {meth : Method} {c : Code} {T : State} {locs : List Loc} {cells slots : Nat} {Z : State} {a0 : Array Value} {C S : Nat} {Q : Option Value → Heap → List Loc → Prop} (hw : ∀ d ∈ tables_1, d.before a0 Z = true) (K : Cx p s m meth c Z x code maxLocals ret) (X : Stand p l e R s m args below meth c T locs cells slots) (y0 : Int32) (y1 : Int32) (y2 : Int32) (y3 : Int32) (y4 : Int32) (y5 : Int32) (y6 : Int32) (y7 : Int32) (y8 : Int32) (y9 : Addr) (k : OwnEnds p e below s C S Q T m 136 #[.val (.int y0), .val (.int y1), .val (.int y2), .val (.int y3), .val (.int y4), .val (.int y5), .val (.int y6), .val (.int y7), .val (.int y8), .val (.ref y9), .unset] [(.int (g0_95_136_t0 y1 y2 y3 y6 y8))]) : OwnEnds p e below s C S Q T m 95 #[.val (.int y0), .val (.int y1), .val (.int y2), .val (.int y3), .val (.int y4), .val (.int y5), .val (.int y6), .val (.int y7), .val (.int y8), .val (.ref y9), .unset] [] := by
  obtain ⟨hx, hby, hml, hret, hlk, hnm, hown, hZ⟩ := id K
  unfold g0_95_136_t0 at k
  refine en_iload X hx (hb hby at_95) (pc' := 97) rfl ?_
  refine en_iconst X hx (1 : Int32) (hb hby at_97) (pc' := 98) ?_
  by_cases hc98_0 : y6 < (1 : Int32)
  · simp only [if_pos hc98_0] at k
    refine en_icmpYes X hx (hb hby at_98) (tlt hc98_0).1 (pc' := 107) ?_
    refine en_iload X hx (hb hby at_107) (pc' := 109) rfl ?_
    refine en_iconst X hx (2 : Int32) (hb hby at_109) (pc' := 110) ?_
    by_cases hc110_1 : y6 < (2 : Int32)
    · simp only [if_pos hc110_1] at k
      refine en_icmpYes X hx (hb hby at_110) (tlt hc110_1).1 (pc' := 119) ?_
      refine en_iload X hx (hb hby at_119) (pc' := 121) rfl ?_
      refine en_iconst X hx (3 : Int32) (hb hby at_121) (pc' := 122) ?_
      by_cases hc122_2 : y6 < (3 : Int32)
      · simp only [if_pos hc122_2] at k
        refine en_icmpYes X hx (hb hby at_122) (tlt hc122_2).1 (pc' := 135) ?_
        refine en_iconst X hx (0 : Int32) (hb hby at_135) (pc' := 136) ?_
        exact k
      · simp only [if_neg hc122_2] at k
        refine en_icmpNo X hx (hb hby at_122) (flt hc122_2).1 (pc' := 125) ?_
        refine en_iloadN X hx (hb hby at_125) (pc' := 126) rfl ?_
        refine en_iload X hx (hb hby at_126) (pc' := 128) rfl ?_
        by_cases hc128_3 : y3 = y8
        · simp only [if_pos hc128_3] at k
          refine en_icmpNo X hx (hb hby at_128) (teq hc128_3).2 (pc' := 131) ?_
          refine en_iconst X hx (1 : Int32) (hb hby at_131) (pc' := 132) ?_
          refine en_goto X hx (hb hby at_132) (pc' := 136) ?_
          exact k
        · simp only [if_neg hc128_3] at k
          refine en_icmpYes X hx (hb hby at_128) (feq hc128_3).2 (pc' := 135) ?_
          refine en_iconst X hx (0 : Int32) (hb hby at_135) (pc' := 136) ?_
          exact k
    · simp only [if_neg hc110_1] at k
      refine en_icmpNo X hx (hb hby at_110) (flt hc110_1).1 (pc' := 113) ?_
      refine en_iloadN X hx (hb hby at_113) (pc' := 114) rfl ?_
      refine en_iload X hx (hb hby at_114) (pc' := 116) rfl ?_
      by_cases hc116_2 : y2 = y8
      · simp only [if_pos hc116_2] at k
        refine en_icmpYes X hx (hb hby at_116) (teq hc116_2).1 (pc' := 131) ?_
        refine en_iconst X hx (1 : Int32) (hb hby at_131) (pc' := 132) ?_
        refine en_goto X hx (hb hby at_132) (pc' := 136) ?_
        exact k
      · simp only [if_neg hc116_2] at k
        refine en_icmpNo X hx (hb hby at_116) (feq hc116_2).1 (pc' := 119) ?_
        refine en_iload X hx (hb hby at_119) (pc' := 121) rfl ?_
        refine en_iconst X hx (3 : Int32) (hb hby at_121) (pc' := 122) ?_
        by_cases hc122_3 : y6 < (3 : Int32)
        · simp only [if_pos hc122_3] at k
          refine en_icmpYes X hx (hb hby at_122) (tlt hc122_3).1 (pc' := 135) ?_
          refine en_iconst X hx (0 : Int32) (hb hby at_135) (pc' := 136) ?_
          exact k
        · simp only [if_neg hc122_3] at k
          refine en_icmpNo X hx (hb hby at_122) (flt hc122_3).1 (pc' := 125) ?_
          refine en_iloadN X hx (hb hby at_125) (pc' := 126) rfl ?_
          refine en_iload X hx (hb hby at_126) (pc' := 128) rfl ?_
          by_cases hc128_4 : y3 = y8
          · simp only [if_pos hc128_4] at k
            refine en_icmpNo X hx (hb hby at_128) (teq hc128_4).2 (pc' := 131) ?_
            refine en_iconst X hx (1 : Int32) (hb hby at_131) (pc' := 132) ?_
            refine en_goto X hx (hb hby at_132) (pc' := 136) ?_
            exact k
          · simp only [if_neg hc128_4] at k
            refine en_icmpYes X hx (hb hby at_128) (feq hc128_4).2 (pc' := 135) ?_
            refine en_iconst X hx (0 : Int32) (hb hby at_135) (pc' := 136) ?_
            exact k
  · simp only [if_neg hc98_0] at k
    refine en_icmpNo X hx (hb hby at_98) (flt hc98_0).1 (pc' := 101) ?_
    refine en_iloadN X hx (hb hby at_101) (pc' := 102) rfl ?_
    refine en_iload X hx (hb hby at_102) (pc' := 104) rfl ?_
    by_cases hc104_1 : y1 = y8
    · simp only [if_pos hc104_1] at k
      refine en_icmpYes X hx (hb hby at_104) (teq hc104_1).1 (pc' := 131) ?_
      refine en_iconst X hx (1 : Int32) (hb hby at_131) (pc' := 132) ?_
      refine en_goto X hx (hb hby at_132) (pc' := 136) ?_
      exact k
    · simp only [if_neg hc104_1] at k
      refine en_icmpNo X hx (hb hby at_104) (feq hc104_1).1 (pc' := 107) ?_
      refine en_iload X hx (hb hby at_107) (pc' := 109) rfl ?_
      refine en_iconst X hx (2 : Int32) (hb hby at_109) (pc' := 110) ?_
      by_cases hc110_2 : y6 < (2 : Int32)
      · simp only [if_pos hc110_2] at k
        refine en_icmpYes X hx (hb hby at_110) (tlt hc110_2).1 (pc' := 119) ?_
        refine en_iload X hx (hb hby at_119) (pc' := 121) rfl ?_
        refine en_iconst X hx (3 : Int32) (hb hby at_121) (pc' := 122) ?_
        by_cases hc122_3 : y6 < (3 : Int32)
        · simp only [if_pos hc122_3] at k
          refine en_icmpYes X hx (hb hby at_122) (tlt hc122_3).1 (pc' := 135) ?_
          refine en_iconst X hx (0 : Int32) (hb hby at_135) (pc' := 136) ?_
          exact k
        · simp only [if_neg hc122_3] at k
          refine en_icmpNo X hx (hb hby at_122) (flt hc122_3).1 (pc' := 125) ?_
          refine en_iloadN X hx (hb hby at_125) (pc' := 126) rfl ?_
          refine en_iload X hx (hb hby at_126) (pc' := 128) rfl ?_
          by_cases hc128_4 : y3 = y8
          · simp only [if_pos hc128_4] at k
            refine en_icmpNo X hx (hb hby at_128) (teq hc128_4).2 (pc' := 131) ?_
            refine en_iconst X hx (1 : Int32) (hb hby at_131) (pc' := 132) ?_
            refine en_goto X hx (hb hby at_132) (pc' := 136) ?_
            exact k
          · simp only [if_neg hc128_4] at k
            refine en_icmpYes X hx (hb hby at_128) (feq hc128_4).2 (pc' := 135) ?_
            refine en_iconst X hx (0 : Int32) (hb hby at_135) (pc' := 136) ?_
            exact k
      · simp only [if_neg hc110_2] at k
        refine en_icmpNo X hx (hb hby at_110) (flt hc110_2).1 (pc' := 113) ?_
        refine en_iloadN X hx (hb hby at_113) (pc' := 114) rfl ?_
        refine en_iload X hx (hb hby at_114) (pc' := 116) rfl ?_
        by_cases hc116_3 : y2 = y8
        · simp only [if_pos hc116_3] at k
          refine en_icmpYes X hx (hb hby at_116) (teq hc116_3).1 (pc' := 131) ?_
          refine en_iconst X hx (1 : Int32) (hb hby at_131) (pc' := 132) ?_
          refine en_goto X hx (hb hby at_132) (pc' := 136) ?_
          exact k
        · simp only [if_neg hc116_3] at k
          refine en_icmpNo X hx (hb hby at_116) (feq hc116_3).1 (pc' := 119) ?_
          refine en_iload X hx (hb hby at_119) (pc' := 121) rfl ?_
          refine en_iconst X hx (3 : Int32) (hb hby at_121) (pc' := 122) ?_
          by_cases hc122_4 : y6 < (3 : Int32)
          · simp only [if_pos hc122_4] at k
            refine en_icmpYes X hx (hb hby at_122) (tlt hc122_4).1 (pc' := 135) ?_
            refine en_iconst X hx (0 : Int32) (hb hby at_135) (pc' := 136) ?_
            exact k
          · simp only [if_neg hc122_4] at k
            refine en_icmpNo X hx (hb hby at_122) (flt hc122_4).1 (pc' := 125) ?_
            refine en_iloadN X hx (hb hby at_125) (pc' := 126) rfl ?_
            refine en_iload X hx (hb hby at_126) (pc' := 128) rfl ?_
            by_cases hc128_5 : y3 = y8
            · simp only [if_pos hc128_5] at k
              refine en_icmpNo X hx (hb hby at_128) (teq hc128_5).2 (pc' := 131) ?_
              refine en_iconst X hx (1 : Int32) (hb hby at_131) (pc' := 132) ?_
              refine en_goto X hx (hb hby at_132) (pc' := 136) ?_
              exact k
            · simp only [if_neg hc128_5] at k
              refine en_icmpYes X hx (hb hby at_128) (feq hc128_5).2 (pc' := 135) ?_
              refine en_iconst X hx (0 : Int32) (hb hby at_135) (pc' := 136) ?_
              exact k
theorem own_four {x q : Int32} (h : (x &&& (3 : Int32)) = q) : q = 0 ∨ q = 1 ∨ q = 2 ∨ q = 3 := by
  subst h
  have h1 := c_and x 3 (by decide)
  have e3 : (3 : Int32).toInt = 3 := rfl
  rcases (by omega : (x &&& (3 : Int32)).toInt = 0 ∨ (x &&& (3 : Int32)).toInt = 1 ∨ (x &&& (3 : Int32)).toInt = 2 ∨ (x &&& (3 : Int32)).toInt = 3) with q | q | q | q
  · exact Or.inl (Int32.toInt_inj.mp q)
  · exact Or.inr (Or.inl (Int32.toInt_inj.mp q))
  · exact Or.inr (Or.inr (Or.inl (Int32.toInt_inj.mp q)))
  · exact Or.inr (Or.inr (Or.inr (Int32.toInt_inj.mp q)))
theorem own_fin0 (a b c q : Int32) : own_has [] q = (g0_95_136_t0 a b c (0 : Int32) q) := by
  unfold own_has g0_95_136_t0
  have d12 : (1 : Int32) < 2 := by decide
  have d13 : (1 : Int32) < 3 := by decide
  have d23 : (2 : Int32) < 3 := by decide
  by_cases ha : a = q <;> by_cases hb : b = q <;> by_cases hc : c = q <;> simp [ha, hb, hc, eq_comm (a := q)]
theorem own_fin1 (a b c q : Int32) : own_has [a] q = (g0_95_136_t0 a b c (1 : Int32) q) := by
  unfold own_has g0_95_136_t0
  have d12 : (1 : Int32) < 2 := by decide
  have d13 : (1 : Int32) < 3 := by decide
  have d23 : (2 : Int32) < 3 := by decide
  by_cases ha : a = q <;> by_cases hb : b = q <;> by_cases hc : c = q <;> simp [ha, hb, hc, eq_comm (a := q)]
theorem own_fin2 (a b c q : Int32) : own_has [a, b] q = (g0_95_136_t0 a b c (2 : Int32) q) := by
  unfold own_has g0_95_136_t0
  have d12 : (1 : Int32) < 2 := by decide
  have d13 : (1 : Int32) < 3 := by decide
  have d23 : (2 : Int32) < 3 := by decide
  by_cases ha : a = q <;> by_cases hb : b = q <;> by_cases hc : c = q <;> simp [ha, hb, hc, eq_comm (a := q)]
theorem own_fin3 (a b c q : Int32) : own_has [a, b, c] q = (g0_95_136_t0 a b c (3 : Int32) q) := by
  unfold own_has g0_95_136_t0
  have d12 : (1 : Int32) < 2 := by decide
  have d13 : (1 : Int32) < 3 := by decide
  have d23 : (2 : Int32) < 3 := by decide
  by_cases ha : a = q <;> by_cases hb : b = q <;> by_cases hc : c = q <;> simp [ha, hb, hc, eq_comm (a := q)]
theorem ef_0 (m : MethodId) (x0 : Int32) (x1 : Int32) (x2 : Int32) (x3 : Int32) (x4 : Int32) (x5 : Int32) : entryFrame m #[(.int x0), (.int x1), (.int x2), (.int x3), (.int x4), (.int x5)] maxLocals = mkF m 0 #[.val (.int x0), .val (.int x1), .val (.int x2), .val (.int x3), .val (.int x4), .val (.int x5), .unset, .unset, .unset, .unset, .unset] [] := by first | (simp [entryFrame, mkF, argsToLocals, Value.category, maxLocals]; done) | rfl
theorem pn_1 : plainName "com/example/twigrank/twigrank/IntsContainsPinLaw" = true := by first | (simp [plainName, overriddenIn]; done) | decide +kernel
theorem pd_0 : parseMethodDescriptor "()V" = some ⟨[], none⟩ := by decide +kernel
theorem pd_1 : parseMethodDescriptor "(I)Z" = some ⟨[.int], some .boolean⟩ := by decide +kernel
theorem pd_2 : parseMethodDescriptor "(I)V" = some ⟨[.int], none⟩ := by decide +kernel
set_option maxRecDepth 65536 in
set_option maxHeartbeats 40000000 in
theorem rm0 (l : Launch) (Z : State) (a0 : Array Value) (hw : ∀ d ∈ tables_1, d.before a0 Z = true) (ws : List Jvm.Cond) (x0 : Int32) (x1 : Int32) (x2 : Int32) (x3 : Int32) (x4 : Int32) (x5 : Int32) (h0 : Heap) (n0 : Nat) (Z0 : n0 ≤ h0.size)  : OwnMeets l Z x code maxLocals ret ws room_1 #[(.int x0), (.int x1), (.int x2), (.int x3), (.int x4), (.int x5)] h0 (fun v h L => v = some (.int (1 : Int32)) ∧ Fr n0 L) := by
  refine OwnMeets.of_walk (plainFor_of_name pn_1) (fun m => ef_0 m x0 x1 x2 x3 x4 x5) ?_
  intro p e s m below meth c T0 X0 K e0
  obtain ⟨hx, hby, hml, hret, hlk, hnm, hown, hZ⟩ := id K
  have N0 := Fr.nil n0
  refine en_iloadN X0 hx (hb hby at_0) (pc' := 1) rfl ?_
  refine en_iconst X0 hx (3 : Int32) (hb hby at_1) (pc' := 2) ?_
  refine en_iand X0 hx (hb hby at_2) (pc' := 3) ?_
  generalize hcnt : (x0 &&& (3 : Int32)) = cnt
  rcases own_four hcnt with rfl | rfl | rfl | rfl
  · refine en_istore X0 hx (hb hby at_3) (pc' := 5) (Ls' := #[.val (.int x0), .val (.int x1), .val (.int x2), .val (.int x3), .val (.int x4), .val (.int x5), .val (.int (0 : Int32)), .unset, .unset, .unset, .unset]) rfl ?_
    refine en_iload X0 hx (hb hby at_5) (pc' := 7) rfl ?_
    refine en_iconst X0 hx (3 : Int32) (hb hby at_7) (pc' := 8) ?_
    refine en_iand X0 hx (hb hby at_8) (pc' := 9) ?_
    refine en_istore X0 hx (hb hby at_9) (pc' := 11) (Ls' := #[.val (.int x0), .val (.int x1), .val (.int x2), .val (.int x3), .val (.int x4), .val (.int x5), .val (.int (0 : Int32)), .val (.int (x5 &&& (3 : Int32))), .unset, .unset, .unset]) rfl ?_
    refine r0_11_50 hw K X0 x0 x1 x2 x3 x4 x5 (0 : Int32) (x5 &&& (3 : Int32)) ?_
    generalize hq : (g0_11_50_l8 x1 x2 x3 x4 (x5 &&& (3 : Int32))) = q
    refine en_newO X0 hx hZ hown (tw hw 0 rfl) (tw hw 1 rfl) (tw hw 2 rfl) e0 (hb hby at_50) (by decide) (by decide) (pc' := 53) (fun T1 h1 b1 g1 X1 e1 E1 A1 D1 => ?_)
    have g_b1 : n0 ≤ b1 := by rw [g1]; exact Z0
    have Z1 : n0 ≤ h1.size := Nat.le_trans Z0 E1.1
    have F1_b1_values : Fld Z h1 b1 "com/example/twigrank/twigrank/Ints" "values" "[I" .null := D1 (Or.inl (tw hw 11 rfl)) (ty := (.array .int)) (by decide)
    have F1_b1_size : Fld Z h1 b1 "com/example/twigrank/twigrank/Ints" "size" "I" (.int (0 : Int32)) := D1 (Or.inl (tw hw 18 rfl)) (ty := .int) (by decide)
    refine en_dup X1 hx (hb hby at_53) (pc' := 54) rfl ?_
    refine en_callN X1 hx hZ (rm := ({ frames := 1, cells := 1, slots := 16, locals := 12 } : Room)) (y := (⟨"com/example/twigrank/twigrank/Ints", "<init>", "()V"⟩ : MethodName)) hown rfl (tw hw 3 rfl) (tw hw 4 rfl) (tw hw 2 rfl) (tw hw 5 rfl) (by decide) (rm1 l Z a0 hw [] b1 h1 n0 Z1 A1 F1_b1_values F1_b1_size g_b1) e1 (by decide) 1 rfl (by decide) (by decide) (by decide) (by rw [hml]; rfl) (argsL := []) (rest := [(.ref b1)]) (lenOf pd_0 rfl) rfl (hb hby at_54) (pc' := 57) (fun v2 T2 Lq2 X2 hQ2 => ?_)
    obtain ⟨h2, e2⟩ : ∃ q, T2.heap = q := ⟨_, rfl⟩
    rw [e2] at hQ2
    obtain ⟨bb, kb, rfl, Nq2, Kq2, gb, szb, Fv, Fz, Vb⟩ := hQ2
    have N2 := Fr.app N0 Nq2
    show OwnEnds p e below s _ _ _ T2 m 57 #[.val (.int x0), .val (.int x1), .val (.int x2), .val (.int x3), .val (.int x4), .val (.int x5), .val (.int (0 : Int32)), .val (.int (x5 &&& (3 : Int32))), .val (.int q), .unset, .unset] [(.ref b1)]
    have E2_b1 := A1.keep Kq2
    have Z2 : n0 ≤ h2.size := Nat.le_trans Z1 Kq2.1
    have hne : b1 ≠ bb := Nat.ne_of_lt (Nat.lt_of_lt_of_le A1.lt szb)
    refine en_astore X2 hx (hb hby at_57) (pc' := 59) (Ls' := #[.val (.int x0), .val (.int x1), .val (.int x2), .val (.int x3), .val (.int x4), .val (.int x5), .val (.int (0 : Int32)), .val (.int (x5 &&& (3 : Int32))), .val (.int q), .val (.ref b1), .unset]) rfl rfl ?_
    refine en_iload X2 hx (hb hby at_59) (pc' := 61) rfl ?_
    refine en_iconst X2 hx (1 : Int32) (hb hby at_61) (pc' := 62) ?_
    refine en_icmpYes X2 hx (hb hby at_62) (tlt (by decide : (0 : Int32) < (1 : Int32))).1 (pc' := 71) ?_
    refine en_iload X2 hx (hb hby at_71) (pc' := 73) rfl ?_
    refine en_iconst X2 hx (2 : Int32) (hb hby at_73) (pc' := 74) ?_
    refine en_icmpYes X2 hx (hb hby at_74) (tlt (by decide : (0 : Int32) < (2 : Int32))).1 (pc' := 83) ?_
    refine en_iload X2 hx (hb hby at_83) (pc' := 85) rfl ?_
    refine en_iconst X2 hx (3 : Int32) (hb hby at_85) (pc' := 86) ?_
    refine en_icmpYes X2 hx (hb hby at_86) (tlt (by decide : (0 : Int32) < (3 : Int32))).1 (pc' := 95) ?_
    refine r0_95_136 hw K X2 x0 x1 x2 x3 x4 x5 (0 : Int32) (x5 &&& (3 : Int32)) q b1 ?_
    refine en_istore X2 hx (hb hby at_136) (pc' := 138) (Ls' := #[.val (.int x0), .val (.int x1), .val (.int x2), .val (.int x3), .val (.int x4), .val (.int x5), .val (.int (0 : Int32)), .val (.int (x5 &&& (3 : Int32))), .val (.int q), .val (.ref b1), .val (.int (g0_95_136_t0 x1 x2 x3 (0 : Int32) q))]) rfl ?_
    refine en_aload X2 hx (hb hby at_138) (pc' := 140) rfl rfl ?_
    refine en_iload X2 hx (hb hby at_140) (pc' := 142) rfl ?_
    refine en_callVP X2 hx hZ (y := (⟨"com/example/twigrank/twigrank/Ints", "contains", "(I)Z"⟩ : MethodName)) (z := (⟨"com/example/twigrank/twigrank/Ints", "contains", "(I)Z"⟩ : MethodName)) (K := "com/example/twigrank/twigrank/Ints") (fr := 0) (lo := 0) hown (tw hw 12 rfl) (tw hw 13 rfl) (notFace_of_selects (args := #[]) (mvT hZ (tw hw 15 rfl))) (tw hw 15 rfl) (tw hw 14 rfl) (tw hw 2 rfl) (tw hw 16 rfl) E2_b1 (by decide) (rm3 l Z a0 hw [] b1 q bb kb (0 : Int32) [] _ n0 Z2 Fv Fz Vb rfl (by simp)) e2 (by decide) 0 rfl (by decide) (by decide) (by decide) (by rw [hml]; rfl) (argsL := [(.int q)]) (rest := []) (lenOf pd_1 rfl) rfl (hb hby at_142) (pc' := 145) (fun T3 X3 e3 => ?_)
    refine en_iload X3 hx (hb hby at_145) (pc' := 147) rfl ?_
    refine en_icmpNo X3 hx (hb hby at_147) (teq (own_fin0 x1 x2 x3 q)).2 (pc' := 150) ?_
    refine en_iconst X3 hx (1 : Int32) (hb hby at_150) (pc' := 151) ?_
    refine en_goto X3 hx (hb hby at_151) (pc' := 155) ?_
    exact en_retZ X3 hx hret hlk (hb hby at_155) rfl (by decide) (by decide) (by first | (rw [e3]; exact ⟨rfl, N2⟩) | exact ⟨rfl, N2⟩)
  · refine en_istore X0 hx (hb hby at_3) (pc' := 5) (Ls' := #[.val (.int x0), .val (.int x1), .val (.int x2), .val (.int x3), .val (.int x4), .val (.int x5), .val (.int (1 : Int32)), .unset, .unset, .unset, .unset]) rfl ?_
    refine en_iload X0 hx (hb hby at_5) (pc' := 7) rfl ?_
    refine en_iconst X0 hx (3 : Int32) (hb hby at_7) (pc' := 8) ?_
    refine en_iand X0 hx (hb hby at_8) (pc' := 9) ?_
    refine en_istore X0 hx (hb hby at_9) (pc' := 11) (Ls' := #[.val (.int x0), .val (.int x1), .val (.int x2), .val (.int x3), .val (.int x4), .val (.int x5), .val (.int (1 : Int32)), .val (.int (x5 &&& (3 : Int32))), .unset, .unset, .unset]) rfl ?_
    refine r0_11_50 hw K X0 x0 x1 x2 x3 x4 x5 (1 : Int32) (x5 &&& (3 : Int32)) ?_
    generalize hq : (g0_11_50_l8 x1 x2 x3 x4 (x5 &&& (3 : Int32))) = q
    refine en_newO X0 hx hZ hown (tw hw 0 rfl) (tw hw 1 rfl) (tw hw 2 rfl) e0 (hb hby at_50) (by decide) (by decide) (pc' := 53) (fun T4 h4 b4 g4 X4 e4 E4 A4 D4 => ?_)
    have g_b4 : n0 ≤ b4 := by rw [g4]; exact Z0
    have Z4 : n0 ≤ h4.size := Nat.le_trans Z0 E4.1
    have F4_b4_values : Fld Z h4 b4 "com/example/twigrank/twigrank/Ints" "values" "[I" .null := D4 (Or.inl (tw hw 11 rfl)) (ty := (.array .int)) (by decide)
    have F4_b4_size : Fld Z h4 b4 "com/example/twigrank/twigrank/Ints" "size" "I" (.int (0 : Int32)) := D4 (Or.inl (tw hw 18 rfl)) (ty := .int) (by decide)
    refine en_dup X4 hx (hb hby at_53) (pc' := 54) rfl ?_
    refine en_callN X4 hx hZ (rm := ({ frames := 1, cells := 1, slots := 16, locals := 12 } : Room)) (y := (⟨"com/example/twigrank/twigrank/Ints", "<init>", "()V"⟩ : MethodName)) hown rfl (tw hw 3 rfl) (tw hw 4 rfl) (tw hw 2 rfl) (tw hw 5 rfl) (by decide) (rm1 l Z a0 hw [] b4 h4 n0 Z4 A4 F4_b4_values F4_b4_size g_b4) e4 (by decide) 1 rfl (by decide) (by decide) (by decide) (by rw [hml]; rfl) (argsL := []) (rest := [(.ref b4)]) (lenOf pd_0 rfl) rfl (hb hby at_54) (pc' := 57) (fun v5 T5 Lq5 X5 hQ5 => ?_)
    obtain ⟨h5, e5⟩ : ∃ q, T5.heap = q := ⟨_, rfl⟩
    rw [e5] at hQ5
    obtain ⟨bb, kb, rfl, Nq5, Kq5, gb, szb, Fv, Fz, Vb⟩ := hQ5
    have N5 := Fr.app N0 Nq5
    show OwnEnds p e below s _ _ _ T5 m 57 #[.val (.int x0), .val (.int x1), .val (.int x2), .val (.int x3), .val (.int x4), .val (.int x5), .val (.int (1 : Int32)), .val (.int (x5 &&& (3 : Int32))), .val (.int q), .unset, .unset] [(.ref b4)]
    have E5_b4 := A4.keep Kq5
    have Z5 : n0 ≤ h5.size := Nat.le_trans Z4 Kq5.1
    have hne : b4 ≠ bb := Nat.ne_of_lt (Nat.lt_of_lt_of_le A4.lt szb)
    refine en_astore X5 hx (hb hby at_57) (pc' := 59) (Ls' := #[.val (.int x0), .val (.int x1), .val (.int x2), .val (.int x3), .val (.int x4), .val (.int x5), .val (.int (1 : Int32)), .val (.int (x5 &&& (3 : Int32))), .val (.int q), .val (.ref b4), .unset]) rfl rfl ?_
    refine en_iload X5 hx (hb hby at_59) (pc' := 61) rfl ?_
    refine en_iconst X5 hx (1 : Int32) (hb hby at_61) (pc' := 62) ?_
    refine en_icmpNo X5 hx (hb hby at_62) (flt (by decide : ¬ (1 : Int32) < (1 : Int32))).1 (pc' := 65) ?_
    refine en_aload X5 hx (hb hby at_65) (pc' := 67) rfl rfl ?_
    refine en_iloadN X5 hx (hb hby at_67) (pc' := 68) rfl ?_
    refine en_callV X5 hx hZ (rm := ({ frames := 0, cells := 0, slots := 0, locals := 0 } : Room)) (y := (⟨"com/example/twigrank/twigrank/Ints", "add", "(I)V"⟩ : MethodName)) (z := (⟨"com/example/twigrank/twigrank/Ints", "add", "(I)V"⟩ : MethodName)) (K := "com/example/twigrank/twigrank/Ints") hown (tw hw 19 rfl) (tw hw 20 rfl) (notFace_of_selects (args := #[]) (mvT hZ (tw hw 22 rfl))) (tw hw 22 rfl) (tw hw 21 rfl) (tw hw 2 rfl) (tw hw 23 rfl) E5_b4 (by decide) (rm4 l Z a0 hw [] b4 x1 bb kb (0 : Int32) [] h5 n0 Z5 E5_b4 Fv Fz Vb rfl (by simp) g_b4 gb hne) e5 (by decide) 0 rfl (by decide) (by decide) (by decide) (by rw [hml]; rfl) (argsL := [(.int x1)]) (rest := []) (lenOf pd_2 rfl) rfl (hb hby at_68) (pc' := 71) (fun v6 T6 Lq6 X6 hQ6 => ?_)
    obtain ⟨h6, e6⟩ : ∃ q, T6.heap = q := ⟨_, rfl⟩
    rw [e6] at hQ6
    obtain ⟨rfl, Nq6, Kq6, Fv0, Fz0, Vb0⟩ := hQ6
    have N6 := Fr.app N5 Nq6
    show OwnEnds p e below s _ _ _ T6 m 71 #[.val (.int x0), .val (.int x1), .val (.int x2), .val (.int x3), .val (.int x4), .val (.int x5), .val (.int (1 : Int32)), .val (.int (x5 &&& (3 : Int32))), .val (.int q), .val (.ref b4), .unset] []
    have E6_b4 := E5_b4.keep Kq6
    have Z6 : n0 ≤ h6.size := Nat.le_trans Z5 Kq6.1
    refine en_iload X6 hx (hb hby at_71) (pc' := 73) rfl ?_
    refine en_iconst X6 hx (2 : Int32) (hb hby at_73) (pc' := 74) ?_
    refine en_icmpYes X6 hx (hb hby at_74) (tlt (by decide : (1 : Int32) < (2 : Int32))).1 (pc' := 83) ?_
    refine en_iload X6 hx (hb hby at_83) (pc' := 85) rfl ?_
    refine en_iconst X6 hx (3 : Int32) (hb hby at_85) (pc' := 86) ?_
    refine en_icmpYes X6 hx (hb hby at_86) (tlt (by decide : (1 : Int32) < (3 : Int32))).1 (pc' := 95) ?_
    refine r0_95_136 hw K X6 x0 x1 x2 x3 x4 x5 (1 : Int32) (x5 &&& (3 : Int32)) q b4 ?_
    refine en_istore X6 hx (hb hby at_136) (pc' := 138) (Ls' := #[.val (.int x0), .val (.int x1), .val (.int x2), .val (.int x3), .val (.int x4), .val (.int x5), .val (.int (1 : Int32)), .val (.int (x5 &&& (3 : Int32))), .val (.int q), .val (.ref b4), .val (.int (g0_95_136_t0 x1 x2 x3 (1 : Int32) q))]) rfl ?_
    refine en_aload X6 hx (hb hby at_138) (pc' := 140) rfl rfl ?_
    refine en_iload X6 hx (hb hby at_140) (pc' := 142) rfl ?_
    refine en_callVP X6 hx hZ (y := (⟨"com/example/twigrank/twigrank/Ints", "contains", "(I)Z"⟩ : MethodName)) (z := (⟨"com/example/twigrank/twigrank/Ints", "contains", "(I)Z"⟩ : MethodName)) (K := "com/example/twigrank/twigrank/Ints") (fr := 0) (lo := 0) hown (tw hw 12 rfl) (tw hw 13 rfl) (notFace_of_selects (args := #[]) (mvT hZ (tw hw 15 rfl))) (tw hw 15 rfl) (tw hw 14 rfl) (tw hw 2 rfl) (tw hw 16 rfl) E6_b4 (by decide) (rm3 l Z a0 hw [] b4 q bb kb ((0 : Int32) + (1 : Int32)) [x1] _ n0 Z6 Fv0 Fz0 Vb0 rfl (by simp)) e6 (by decide) 0 rfl (by decide) (by decide) (by decide) (by rw [hml]; rfl) (argsL := [(.int q)]) (rest := []) (lenOf pd_1 rfl) rfl (hb hby at_142) (pc' := 145) (fun T7 X7 e7 => ?_)
    refine en_iload X7 hx (hb hby at_145) (pc' := 147) rfl ?_
    refine en_icmpNo X7 hx (hb hby at_147) (teq (own_fin1 x1 x2 x3 q)).2 (pc' := 150) ?_
    refine en_iconst X7 hx (1 : Int32) (hb hby at_150) (pc' := 151) ?_
    refine en_goto X7 hx (hb hby at_151) (pc' := 155) ?_
    exact en_retZ X7 hx hret hlk (hb hby at_155) rfl (by decide) (by decide) (by first | (rw [e7]; exact ⟨rfl, N6⟩) | exact ⟨rfl, N6⟩)
  · refine en_istore X0 hx (hb hby at_3) (pc' := 5) (Ls' := #[.val (.int x0), .val (.int x1), .val (.int x2), .val (.int x3), .val (.int x4), .val (.int x5), .val (.int (2 : Int32)), .unset, .unset, .unset, .unset]) rfl ?_
    refine en_iload X0 hx (hb hby at_5) (pc' := 7) rfl ?_
    refine en_iconst X0 hx (3 : Int32) (hb hby at_7) (pc' := 8) ?_
    refine en_iand X0 hx (hb hby at_8) (pc' := 9) ?_
    refine en_istore X0 hx (hb hby at_9) (pc' := 11) (Ls' := #[.val (.int x0), .val (.int x1), .val (.int x2), .val (.int x3), .val (.int x4), .val (.int x5), .val (.int (2 : Int32)), .val (.int (x5 &&& (3 : Int32))), .unset, .unset, .unset]) rfl ?_
    refine r0_11_50 hw K X0 x0 x1 x2 x3 x4 x5 (2 : Int32) (x5 &&& (3 : Int32)) ?_
    generalize hq : (g0_11_50_l8 x1 x2 x3 x4 (x5 &&& (3 : Int32))) = q
    refine en_newO X0 hx hZ hown (tw hw 0 rfl) (tw hw 1 rfl) (tw hw 2 rfl) e0 (hb hby at_50) (by decide) (by decide) (pc' := 53) (fun T8 h8 b8 g8 X8 e8 E8 A8 D8 => ?_)
    have g_b8 : n0 ≤ b8 := by rw [g8]; exact Z0
    have Z8 : n0 ≤ h8.size := Nat.le_trans Z0 E8.1
    have F8_b8_values : Fld Z h8 b8 "com/example/twigrank/twigrank/Ints" "values" "[I" .null := D8 (Or.inl (tw hw 11 rfl)) (ty := (.array .int)) (by decide)
    have F8_b8_size : Fld Z h8 b8 "com/example/twigrank/twigrank/Ints" "size" "I" (.int (0 : Int32)) := D8 (Or.inl (tw hw 18 rfl)) (ty := .int) (by decide)
    refine en_dup X8 hx (hb hby at_53) (pc' := 54) rfl ?_
    refine en_callN X8 hx hZ (rm := ({ frames := 1, cells := 1, slots := 16, locals := 12 } : Room)) (y := (⟨"com/example/twigrank/twigrank/Ints", "<init>", "()V"⟩ : MethodName)) hown rfl (tw hw 3 rfl) (tw hw 4 rfl) (tw hw 2 rfl) (tw hw 5 rfl) (by decide) (rm1 l Z a0 hw [] b8 h8 n0 Z8 A8 F8_b8_values F8_b8_size g_b8) e8 (by decide) 1 rfl (by decide) (by decide) (by decide) (by rw [hml]; rfl) (argsL := []) (rest := [(.ref b8)]) (lenOf pd_0 rfl) rfl (hb hby at_54) (pc' := 57) (fun v9 T9 Lq9 X9 hQ9 => ?_)
    obtain ⟨h9, e9⟩ : ∃ q, T9.heap = q := ⟨_, rfl⟩
    rw [e9] at hQ9
    obtain ⟨bb, kb, rfl, Nq9, Kq9, gb, szb, Fv, Fz, Vb⟩ := hQ9
    have N9 := Fr.app N0 Nq9
    show OwnEnds p e below s _ _ _ T9 m 57 #[.val (.int x0), .val (.int x1), .val (.int x2), .val (.int x3), .val (.int x4), .val (.int x5), .val (.int (2 : Int32)), .val (.int (x5 &&& (3 : Int32))), .val (.int q), .unset, .unset] [(.ref b8)]
    have E9_b8 := A8.keep Kq9
    have Z9 : n0 ≤ h9.size := Nat.le_trans Z8 Kq9.1
    have hne : b8 ≠ bb := Nat.ne_of_lt (Nat.lt_of_lt_of_le A8.lt szb)
    refine en_astore X9 hx (hb hby at_57) (pc' := 59) (Ls' := #[.val (.int x0), .val (.int x1), .val (.int x2), .val (.int x3), .val (.int x4), .val (.int x5), .val (.int (2 : Int32)), .val (.int (x5 &&& (3 : Int32))), .val (.int q), .val (.ref b8), .unset]) rfl rfl ?_
    refine en_iload X9 hx (hb hby at_59) (pc' := 61) rfl ?_
    refine en_iconst X9 hx (1 : Int32) (hb hby at_61) (pc' := 62) ?_
    refine en_icmpNo X9 hx (hb hby at_62) (flt (by decide : ¬ (2 : Int32) < (1 : Int32))).1 (pc' := 65) ?_
    refine en_aload X9 hx (hb hby at_65) (pc' := 67) rfl rfl ?_
    refine en_iloadN X9 hx (hb hby at_67) (pc' := 68) rfl ?_
    refine en_callV X9 hx hZ (rm := ({ frames := 0, cells := 0, slots := 0, locals := 0 } : Room)) (y := (⟨"com/example/twigrank/twigrank/Ints", "add", "(I)V"⟩ : MethodName)) (z := (⟨"com/example/twigrank/twigrank/Ints", "add", "(I)V"⟩ : MethodName)) (K := "com/example/twigrank/twigrank/Ints") hown (tw hw 19 rfl) (tw hw 20 rfl) (notFace_of_selects (args := #[]) (mvT hZ (tw hw 22 rfl))) (tw hw 22 rfl) (tw hw 21 rfl) (tw hw 2 rfl) (tw hw 23 rfl) E9_b8 (by decide) (rm4 l Z a0 hw [] b8 x1 bb kb (0 : Int32) [] h9 n0 Z9 E9_b8 Fv Fz Vb rfl (by simp) g_b8 gb hne) e9 (by decide) 0 rfl (by decide) (by decide) (by decide) (by rw [hml]; rfl) (argsL := [(.int x1)]) (rest := []) (lenOf pd_2 rfl) rfl (hb hby at_68) (pc' := 71) (fun v10 T10 Lq10 X10 hQ10 => ?_)
    obtain ⟨h10, e10⟩ : ∃ q, T10.heap = q := ⟨_, rfl⟩
    rw [e10] at hQ10
    obtain ⟨rfl, Nq10, Kq10, Fv0, Fz0, Vb0⟩ := hQ10
    have N10 := Fr.app N9 Nq10
    show OwnEnds p e below s _ _ _ T10 m 71 #[.val (.int x0), .val (.int x1), .val (.int x2), .val (.int x3), .val (.int x4), .val (.int x5), .val (.int (2 : Int32)), .val (.int (x5 &&& (3 : Int32))), .val (.int q), .val (.ref b8), .unset] []
    have E10_b8 := E9_b8.keep Kq10
    have Z10 : n0 ≤ h10.size := Nat.le_trans Z9 Kq10.1
    refine en_iload X10 hx (hb hby at_71) (pc' := 73) rfl ?_
    refine en_iconst X10 hx (2 : Int32) (hb hby at_73) (pc' := 74) ?_
    refine en_icmpNo X10 hx (hb hby at_74) (flt (by decide : ¬ (2 : Int32) < (2 : Int32))).1 (pc' := 77) ?_
    refine en_aload X10 hx (hb hby at_77) (pc' := 79) rfl rfl ?_
    refine en_iloadN X10 hx (hb hby at_79) (pc' := 80) rfl ?_
    refine en_callV X10 hx hZ (rm := ({ frames := 0, cells := 0, slots := 0, locals := 0 } : Room)) (y := (⟨"com/example/twigrank/twigrank/Ints", "add", "(I)V"⟩ : MethodName)) (z := (⟨"com/example/twigrank/twigrank/Ints", "add", "(I)V"⟩ : MethodName)) (K := "com/example/twigrank/twigrank/Ints") hown (tw hw 19 rfl) (tw hw 20 rfl) (notFace_of_selects (args := #[]) (mvT hZ (tw hw 22 rfl))) (tw hw 22 rfl) (tw hw 21 rfl) (tw hw 2 rfl) (tw hw 23 rfl) E10_b8 (by decide) (rm4 l Z a0 hw [] b8 x2 bb kb ((0 : Int32) + (1 : Int32)) [x1] h10 n0 Z10 E10_b8 Fv0 Fz0 Vb0 rfl (by simp) g_b8 gb hne) e10 (by decide) 0 rfl (by decide) (by decide) (by decide) (by rw [hml]; rfl) (argsL := [(.int x2)]) (rest := []) (lenOf pd_2 rfl) rfl (hb hby at_80) (pc' := 83) (fun v11 T11 Lq11 X11 hQ11 => ?_)
    obtain ⟨h11, e11⟩ : ∃ q, T11.heap = q := ⟨_, rfl⟩
    rw [e11] at hQ11
    obtain ⟨rfl, Nq11, Kq11, Fv1, Fz1, Vb1⟩ := hQ11
    have N11 := Fr.app N10 Nq11
    show OwnEnds p e below s _ _ _ T11 m 83 #[.val (.int x0), .val (.int x1), .val (.int x2), .val (.int x3), .val (.int x4), .val (.int x5), .val (.int (2 : Int32)), .val (.int (x5 &&& (3 : Int32))), .val (.int q), .val (.ref b8), .unset] []
    have E11_b8 := E10_b8.keep Kq11
    have Z11 : n0 ≤ h11.size := Nat.le_trans Z10 Kq11.1
    refine en_iload X11 hx (hb hby at_83) (pc' := 85) rfl ?_
    refine en_iconst X11 hx (3 : Int32) (hb hby at_85) (pc' := 86) ?_
    refine en_icmpYes X11 hx (hb hby at_86) (tlt (by decide : (2 : Int32) < (3 : Int32))).1 (pc' := 95) ?_
    refine r0_95_136 hw K X11 x0 x1 x2 x3 x4 x5 (2 : Int32) (x5 &&& (3 : Int32)) q b8 ?_
    refine en_istore X11 hx (hb hby at_136) (pc' := 138) (Ls' := #[.val (.int x0), .val (.int x1), .val (.int x2), .val (.int x3), .val (.int x4), .val (.int x5), .val (.int (2 : Int32)), .val (.int (x5 &&& (3 : Int32))), .val (.int q), .val (.ref b8), .val (.int (g0_95_136_t0 x1 x2 x3 (2 : Int32) q))]) rfl ?_
    refine en_aload X11 hx (hb hby at_138) (pc' := 140) rfl rfl ?_
    refine en_iload X11 hx (hb hby at_140) (pc' := 142) rfl ?_
    refine en_callVP X11 hx hZ (y := (⟨"com/example/twigrank/twigrank/Ints", "contains", "(I)Z"⟩ : MethodName)) (z := (⟨"com/example/twigrank/twigrank/Ints", "contains", "(I)Z"⟩ : MethodName)) (K := "com/example/twigrank/twigrank/Ints") (fr := 0) (lo := 0) hown (tw hw 12 rfl) (tw hw 13 rfl) (notFace_of_selects (args := #[]) (mvT hZ (tw hw 15 rfl))) (tw hw 15 rfl) (tw hw 14 rfl) (tw hw 2 rfl) (tw hw 16 rfl) E11_b8 (by decide) (rm3 l Z a0 hw [] b8 q bb kb (((0 : Int32) + (1 : Int32)) + (1 : Int32)) [x1, x2] _ n0 Z11 Fv1 Fz1 Vb1 rfl (by simp)) e11 (by decide) 0 rfl (by decide) (by decide) (by decide) (by rw [hml]; rfl) (argsL := [(.int q)]) (rest := []) (lenOf pd_1 rfl) rfl (hb hby at_142) (pc' := 145) (fun T12 X12 e12 => ?_)
    refine en_iload X12 hx (hb hby at_145) (pc' := 147) rfl ?_
    refine en_icmpNo X12 hx (hb hby at_147) (teq (own_fin2 x1 x2 x3 q)).2 (pc' := 150) ?_
    refine en_iconst X12 hx (1 : Int32) (hb hby at_150) (pc' := 151) ?_
    refine en_goto X12 hx (hb hby at_151) (pc' := 155) ?_
    exact en_retZ X12 hx hret hlk (hb hby at_155) rfl (by decide) (by decide) (by first | (rw [e12]; exact ⟨rfl, N11⟩) | exact ⟨rfl, N11⟩)
  · refine en_istore X0 hx (hb hby at_3) (pc' := 5) (Ls' := #[.val (.int x0), .val (.int x1), .val (.int x2), .val (.int x3), .val (.int x4), .val (.int x5), .val (.int (3 : Int32)), .unset, .unset, .unset, .unset]) rfl ?_
    refine en_iload X0 hx (hb hby at_5) (pc' := 7) rfl ?_
    refine en_iconst X0 hx (3 : Int32) (hb hby at_7) (pc' := 8) ?_
    refine en_iand X0 hx (hb hby at_8) (pc' := 9) ?_
    refine en_istore X0 hx (hb hby at_9) (pc' := 11) (Ls' := #[.val (.int x0), .val (.int x1), .val (.int x2), .val (.int x3), .val (.int x4), .val (.int x5), .val (.int (3 : Int32)), .val (.int (x5 &&& (3 : Int32))), .unset, .unset, .unset]) rfl ?_
    refine r0_11_50 hw K X0 x0 x1 x2 x3 x4 x5 (3 : Int32) (x5 &&& (3 : Int32)) ?_
    generalize hq : (g0_11_50_l8 x1 x2 x3 x4 (x5 &&& (3 : Int32))) = q
    refine en_newO X0 hx hZ hown (tw hw 0 rfl) (tw hw 1 rfl) (tw hw 2 rfl) e0 (hb hby at_50) (by decide) (by decide) (pc' := 53) (fun T13 h13 b13 g13 X13 e13 E13 A13 D13 => ?_)
    have g_b13 : n0 ≤ b13 := by rw [g13]; exact Z0
    have Z13 : n0 ≤ h13.size := Nat.le_trans Z0 E13.1
    have F13_b13_values : Fld Z h13 b13 "com/example/twigrank/twigrank/Ints" "values" "[I" .null := D13 (Or.inl (tw hw 11 rfl)) (ty := (.array .int)) (by decide)
    have F13_b13_size : Fld Z h13 b13 "com/example/twigrank/twigrank/Ints" "size" "I" (.int (0 : Int32)) := D13 (Or.inl (tw hw 18 rfl)) (ty := .int) (by decide)
    refine en_dup X13 hx (hb hby at_53) (pc' := 54) rfl ?_
    refine en_callN X13 hx hZ (rm := ({ frames := 1, cells := 1, slots := 16, locals := 12 } : Room)) (y := (⟨"com/example/twigrank/twigrank/Ints", "<init>", "()V"⟩ : MethodName)) hown rfl (tw hw 3 rfl) (tw hw 4 rfl) (tw hw 2 rfl) (tw hw 5 rfl) (by decide) (rm1 l Z a0 hw [] b13 h13 n0 Z13 A13 F13_b13_values F13_b13_size g_b13) e13 (by decide) 1 rfl (by decide) (by decide) (by decide) (by rw [hml]; rfl) (argsL := []) (rest := [(.ref b13)]) (lenOf pd_0 rfl) rfl (hb hby at_54) (pc' := 57) (fun v14 T14 Lq14 X14 hQ14 => ?_)
    obtain ⟨h14, e14⟩ : ∃ q, T14.heap = q := ⟨_, rfl⟩
    rw [e14] at hQ14
    obtain ⟨bb, kb, rfl, Nq14, Kq14, gb, szb, Fv, Fz, Vb⟩ := hQ14
    have N14 := Fr.app N0 Nq14
    show OwnEnds p e below s _ _ _ T14 m 57 #[.val (.int x0), .val (.int x1), .val (.int x2), .val (.int x3), .val (.int x4), .val (.int x5), .val (.int (3 : Int32)), .val (.int (x5 &&& (3 : Int32))), .val (.int q), .unset, .unset] [(.ref b13)]
    have E14_b13 := A13.keep Kq14
    have Z14 : n0 ≤ h14.size := Nat.le_trans Z13 Kq14.1
    have hne : b13 ≠ bb := Nat.ne_of_lt (Nat.lt_of_lt_of_le A13.lt szb)
    refine en_astore X14 hx (hb hby at_57) (pc' := 59) (Ls' := #[.val (.int x0), .val (.int x1), .val (.int x2), .val (.int x3), .val (.int x4), .val (.int x5), .val (.int (3 : Int32)), .val (.int (x5 &&& (3 : Int32))), .val (.int q), .val (.ref b13), .unset]) rfl rfl ?_
    refine en_iload X14 hx (hb hby at_59) (pc' := 61) rfl ?_
    refine en_iconst X14 hx (1 : Int32) (hb hby at_61) (pc' := 62) ?_
    refine en_icmpNo X14 hx (hb hby at_62) (flt (by decide : ¬ (3 : Int32) < (1 : Int32))).1 (pc' := 65) ?_
    refine en_aload X14 hx (hb hby at_65) (pc' := 67) rfl rfl ?_
    refine en_iloadN X14 hx (hb hby at_67) (pc' := 68) rfl ?_
    refine en_callV X14 hx hZ (rm := ({ frames := 0, cells := 0, slots := 0, locals := 0 } : Room)) (y := (⟨"com/example/twigrank/twigrank/Ints", "add", "(I)V"⟩ : MethodName)) (z := (⟨"com/example/twigrank/twigrank/Ints", "add", "(I)V"⟩ : MethodName)) (K := "com/example/twigrank/twigrank/Ints") hown (tw hw 19 rfl) (tw hw 20 rfl) (notFace_of_selects (args := #[]) (mvT hZ (tw hw 22 rfl))) (tw hw 22 rfl) (tw hw 21 rfl) (tw hw 2 rfl) (tw hw 23 rfl) E14_b13 (by decide) (rm4 l Z a0 hw [] b13 x1 bb kb (0 : Int32) [] h14 n0 Z14 E14_b13 Fv Fz Vb rfl (by simp) g_b13 gb hne) e14 (by decide) 0 rfl (by decide) (by decide) (by decide) (by rw [hml]; rfl) (argsL := [(.int x1)]) (rest := []) (lenOf pd_2 rfl) rfl (hb hby at_68) (pc' := 71) (fun v15 T15 Lq15 X15 hQ15 => ?_)
    obtain ⟨h15, e15⟩ : ∃ q, T15.heap = q := ⟨_, rfl⟩
    rw [e15] at hQ15
    obtain ⟨rfl, Nq15, Kq15, Fv0, Fz0, Vb0⟩ := hQ15
    have N15 := Fr.app N14 Nq15
    show OwnEnds p e below s _ _ _ T15 m 71 #[.val (.int x0), .val (.int x1), .val (.int x2), .val (.int x3), .val (.int x4), .val (.int x5), .val (.int (3 : Int32)), .val (.int (x5 &&& (3 : Int32))), .val (.int q), .val (.ref b13), .unset] []
    have E15_b13 := E14_b13.keep Kq15
    have Z15 : n0 ≤ h15.size := Nat.le_trans Z14 Kq15.1
    refine en_iload X15 hx (hb hby at_71) (pc' := 73) rfl ?_
    refine en_iconst X15 hx (2 : Int32) (hb hby at_73) (pc' := 74) ?_
    refine en_icmpNo X15 hx (hb hby at_74) (flt (by decide : ¬ (3 : Int32) < (2 : Int32))).1 (pc' := 77) ?_
    refine en_aload X15 hx (hb hby at_77) (pc' := 79) rfl rfl ?_
    refine en_iloadN X15 hx (hb hby at_79) (pc' := 80) rfl ?_
    refine en_callV X15 hx hZ (rm := ({ frames := 0, cells := 0, slots := 0, locals := 0 } : Room)) (y := (⟨"com/example/twigrank/twigrank/Ints", "add", "(I)V"⟩ : MethodName)) (z := (⟨"com/example/twigrank/twigrank/Ints", "add", "(I)V"⟩ : MethodName)) (K := "com/example/twigrank/twigrank/Ints") hown (tw hw 19 rfl) (tw hw 20 rfl) (notFace_of_selects (args := #[]) (mvT hZ (tw hw 22 rfl))) (tw hw 22 rfl) (tw hw 21 rfl) (tw hw 2 rfl) (tw hw 23 rfl) E15_b13 (by decide) (rm4 l Z a0 hw [] b13 x2 bb kb ((0 : Int32) + (1 : Int32)) [x1] h15 n0 Z15 E15_b13 Fv0 Fz0 Vb0 rfl (by simp) g_b13 gb hne) e15 (by decide) 0 rfl (by decide) (by decide) (by decide) (by rw [hml]; rfl) (argsL := [(.int x2)]) (rest := []) (lenOf pd_2 rfl) rfl (hb hby at_80) (pc' := 83) (fun v16 T16 Lq16 X16 hQ16 => ?_)
    obtain ⟨h16, e16⟩ : ∃ q, T16.heap = q := ⟨_, rfl⟩
    rw [e16] at hQ16
    obtain ⟨rfl, Nq16, Kq16, Fv1, Fz1, Vb1⟩ := hQ16
    have N16 := Fr.app N15 Nq16
    show OwnEnds p e below s _ _ _ T16 m 83 #[.val (.int x0), .val (.int x1), .val (.int x2), .val (.int x3), .val (.int x4), .val (.int x5), .val (.int (3 : Int32)), .val (.int (x5 &&& (3 : Int32))), .val (.int q), .val (.ref b13), .unset] []
    have E16_b13 := E15_b13.keep Kq16
    have Z16 : n0 ≤ h16.size := Nat.le_trans Z15 Kq16.1
    refine en_iload X16 hx (hb hby at_83) (pc' := 85) rfl ?_
    refine en_iconst X16 hx (3 : Int32) (hb hby at_85) (pc' := 86) ?_
    refine en_icmpNo X16 hx (hb hby at_86) (flt (by decide : ¬ (3 : Int32) < (3 : Int32))).1 (pc' := 89) ?_
    refine en_aload X16 hx (hb hby at_89) (pc' := 91) rfl rfl ?_
    refine en_iloadN X16 hx (hb hby at_91) (pc' := 92) rfl ?_
    refine en_callV X16 hx hZ (rm := ({ frames := 0, cells := 0, slots := 0, locals := 0 } : Room)) (y := (⟨"com/example/twigrank/twigrank/Ints", "add", "(I)V"⟩ : MethodName)) (z := (⟨"com/example/twigrank/twigrank/Ints", "add", "(I)V"⟩ : MethodName)) (K := "com/example/twigrank/twigrank/Ints") hown (tw hw 19 rfl) (tw hw 20 rfl) (notFace_of_selects (args := #[]) (mvT hZ (tw hw 22 rfl))) (tw hw 22 rfl) (tw hw 21 rfl) (tw hw 2 rfl) (tw hw 23 rfl) E16_b13 (by decide) (rm4 l Z a0 hw [] b13 x3 bb kb (((0 : Int32) + (1 : Int32)) + (1 : Int32)) [x1, x2] h16 n0 Z16 E16_b13 Fv1 Fz1 Vb1 rfl (by simp) g_b13 gb hne) e16 (by decide) 0 rfl (by decide) (by decide) (by decide) (by rw [hml]; rfl) (argsL := [(.int x3)]) (rest := []) (lenOf pd_2 rfl) rfl (hb hby at_92) (pc' := 95) (fun v17 T17 Lq17 X17 hQ17 => ?_)
    obtain ⟨h17, e17⟩ : ∃ q, T17.heap = q := ⟨_, rfl⟩
    rw [e17] at hQ17
    obtain ⟨rfl, Nq17, Kq17, Fv2, Fz2, Vb2⟩ := hQ17
    have N17 := Fr.app N16 Nq17
    show OwnEnds p e below s _ _ _ T17 m 95 #[.val (.int x0), .val (.int x1), .val (.int x2), .val (.int x3), .val (.int x4), .val (.int x5), .val (.int (3 : Int32)), .val (.int (x5 &&& (3 : Int32))), .val (.int q), .val (.ref b13), .unset] []
    have E17_b13 := E16_b13.keep Kq17
    have Z17 : n0 ≤ h17.size := Nat.le_trans Z16 Kq17.1
    refine r0_95_136 hw K X17 x0 x1 x2 x3 x4 x5 (3 : Int32) (x5 &&& (3 : Int32)) q b13 ?_
    refine en_istore X17 hx (hb hby at_136) (pc' := 138) (Ls' := #[.val (.int x0), .val (.int x1), .val (.int x2), .val (.int x3), .val (.int x4), .val (.int x5), .val (.int (3 : Int32)), .val (.int (x5 &&& (3 : Int32))), .val (.int q), .val (.ref b13), .val (.int (g0_95_136_t0 x1 x2 x3 (3 : Int32) q))]) rfl ?_
    refine en_aload X17 hx (hb hby at_138) (pc' := 140) rfl rfl ?_
    refine en_iload X17 hx (hb hby at_140) (pc' := 142) rfl ?_
    refine en_callVP X17 hx hZ (y := (⟨"com/example/twigrank/twigrank/Ints", "contains", "(I)Z"⟩ : MethodName)) (z := (⟨"com/example/twigrank/twigrank/Ints", "contains", "(I)Z"⟩ : MethodName)) (K := "com/example/twigrank/twigrank/Ints") (fr := 0) (lo := 0) hown (tw hw 12 rfl) (tw hw 13 rfl) (notFace_of_selects (args := #[]) (mvT hZ (tw hw 15 rfl))) (tw hw 15 rfl) (tw hw 14 rfl) (tw hw 2 rfl) (tw hw 16 rfl) E17_b13 (by decide) (rm3 l Z a0 hw [] b13 q bb kb ((((0 : Int32) + (1 : Int32)) + (1 : Int32)) + (1 : Int32)) [x1, x2, x3] _ n0 Z17 Fv2 Fz2 Vb2 rfl (by simp)) e17 (by decide) 0 rfl (by decide) (by decide) (by decide) (by rw [hml]; rfl) (argsL := [(.int q)]) (rest := []) (lenOf pd_1 rfl) rfl (hb hby at_142) (pc' := 145) (fun T18 X18 e18 => ?_)
    refine en_iload X18 hx (hb hby at_145) (pc' := 147) rfl ?_
    refine en_icmpNo X18 hx (hb hby at_147) (teq (own_fin3 x1 x2 x3 q)).2 (pc' := 150) ?_
    refine en_iconst X18 hx (1 : Int32) (hb hby at_150) (pc' := 151) ?_
    refine en_goto X18 hx (hb hby at_151) (pc' := 155) ?_
    exact en_retZ X18 hx hret hlk (hb hby at_155) rfl (by decide) (by decide) (by first | (rw [e18]; exact ⟨rfl, N17⟩) | exact ⟨rfl, N17⟩)
set_option maxRecDepth 65536 in
set_option maxHeartbeats 40000000 in
theorem comes_1 {Post : Tables → Env → Array Value → State → Outcome → State → Prop} (hpost : ∀ tb e args s v u, (limb_1_1.after args s (.returned v) u = true ∧ limb_1_2.after args s (.returned v) u = true ∧ True) → FrameEnd s (.returned v) u (Jvm.fieldLocs frame_1_writes args s ++ Jvm.arrayLocs frame_1_arrays args s ++ Jvm.staticLocs frame_1_statics s) 16 128 → Post tb e args s (.returned v) u) :
    ArmFor flags0 classFile x code maxLocals ret World_1 tables_1 room_1 Calls_1 rest_1 Pre_1 Post := by
  intro l hfl _ _ p e ha hc hk s m args below hf hA hF happ hP
  obtain ⟨hcalls, hrest, hpre⟩ := hP
  obtain ⟨-, -, -, hnamed, -, -, -, hat⟩ := (Spec.applies_iff hf).mp happ
  obtain ⟨hg, hn⟩ := and_e (Cond.before_iff.mp (show (Jvm.Cond.and given_1 narrow_1).before args s = true from hpre))
  obtain ⟨g1, g2⟩ := and_e hg
  obtain ⟨g3, g4⟩ := and_e g2
  obtain ⟨g5, g6⟩ := and_e g4
  obtain ⟨g7, g8⟩ := and_e g6
  obtain ⟨g9, g10⟩ := and_e g8
  obtain ⟨g11, g12⟩ := and_e g10
  obtain ⟨w0, w1, w2, w3, w4, w5, rfl⟩ : ∃ w0 w1 w2 w3 w4 w5 : Value, args = #[w0, w1, w2, w3, w4, w5] := by
    have hs : args.size = 6 := by simpa [Cond.value, given_1] using g1
    obtain ⟨L⟩ := args
    match L, hs with
    | [w0, w1, w2, w3, w4, w5], _ => exact ⟨w0, w1, w2, w3, w4, w5, rfl⟩
  have hw := fun d (hd : d ∈ tables_1) => atoms_spec (ws := Jvm.Cond.code x code maxLocals ret :: tables_1) hat d (List.mem_cons_of_mem _ hd)
  obtain ⟨i0, ei0⟩ := is_v g3
  obtain rfl : w0 = (.int i0) := Option.some.inj ei0
  obtain ⟨i1, ei1⟩ := is_v g5
  obtain rfl : w1 = (.int i1) := Option.some.inj ei1
  obtain ⟨i2, ei2⟩ := is_v g7
  obtain rfl : w2 = (.int i2) := Option.some.inj ei2
  obtain ⟨i3, ei3⟩ := is_v g9
  obtain rfl : w3 = (.int i3) := Option.some.inj ei3
  obtain ⟨i4, ei4⟩ := is_v g11
  obtain rfl : w4 = (.int i4) := Option.some.inj ei4
  obtain ⟨i5, ei5⟩ := is_v g12
  obtain rfl : w5 = (.int i5) := Option.some.inj ei5
  obtain ⟨n, o, h1, h2, h3, _, L, rfl, ⟨rfl, N⟩, hq⟩ := rm0 l s _ hw tables_1 i0 i1 i2 i3 i4 i5 s.heap s.heap.size (Nat.le_refl _)  p e ha hc hk s m _ below hf ((Spec.applies_iff_loose hf).mp happ).1 ⟨rfl, State.Warmed39.refl s, rfl⟩ trivial
  refine ⟨n, _, h1, h2, h3, hpost _ _ _ _ _ _ ⟨Cond.after_iff.mpr rfl, Cond.after_iff.mpr (eq_i res_at (Term.int_eval (1)) rfl), trivial⟩ ⟨hq.1, hq.2.1, (hq.2.2.sift fun y hy => Or.inr (N y hy)).mono (by decide) (by decide)⟩⟩
theorem main_1_1 : Claimed_1_1 := comes_1 fun _ _ _ _ _ _ h hF => ⟨h.1, hF⟩
theorem main_1_2 : Claimed_1_2 := comes_1 fun _ _ _ _ _ _ h hF => ⟨h.2.1, hF⟩
end Jvm.Pilot.@@N@@
namespace Jvm.Pilot.@@N@@
open Jvm Jvm.ClassFile Sem Op Lib Jvm.Free Jvm.Stand Jvm.Pilot.@@N@@.Jvm.D
/-! MADE BY PROGRAM (witnessworld.py) out of the Statement's table words and the real class files: 9 classes; the members and pool entries that the words name. The judged class is class 1, her method 1. -/
namespace start1
open Jvm.ClassFile
def u (s : String) : CpInfo := .utf8 (stringToUtf16 s)
/-- a pool by its gaps: so many unusable entries, then the entry; so many at the end -/
def gap : Nat → List CpInfo → List CpInfo
  | 0, r => r
  | n + 1, r => .unusable :: gap n r
def poolList (es : List (Nat × CpInfo)) (last : Nat) : List CpInfo := es.foldr (fun e r => gap e.1 (e.2 :: r)) (gap last [])
def pool (es : List (Nat × CpInfo)) (last : Nat) : Array CpInfo := ⟨poolList es last⟩
def fileOf (pool : Array CpInfo) (this : Nat) (attrs : Array Attribute := #[]) (ms : Array MethodInfo := #[]) (fl : Nat := 33) (sup : Nat := 0) (ifs : Array Nat := #[]) (fds : Array FieldInfo := #[]) : ClassFile where
  minorVersion := 0
  majorVersion := 65
  constantPool := pool
  accessFlags := fl
  thisClass := this
  superClass := sup
  interfaces := ifs
  fields := fds
  methods := ms
  attributes := attrs
def plain (name : String) (sup : Option ClassId) : Class where
  name := name
  kind := .ordinary
  loader := none
  accessFlags := 33
  super := sup
  interfaces := #[]
  cf := none
  fields := #[]
  methods := #[]
  instanceTypes := #[]
  staticTypes := #[]
  resolved := #[]
  callSites := []
  init := .initialized
  statics := none
  mirror := none

def pool0 : Array CpInfo := pool [(5, u "<init>"), (0, u "()V"), (1, .class_ 10), (1, u "java/lang/Object")] 113

def k0c0 : Code := { maxStack := 0, maxLocals := 1, code := object_method_1_code, exceptionTable := #[], attributes := #[] }
def k0m0 : Method := { name := "<init>", desc := "()V", sig := { parameters := [], returnType := none }, accessFlags := 1, code := some k0c0 }
/-- java/lang/Object -/
def k0 : Class := { plain "java/lang/Object" none with
  accessFlags := 33
  interfaces := #[]
  cf := some (fileOf pool0 8 #[] #[{ accessFlags := 1, nameIndex := 5, descriptorIndex := 6, attributes := #[] }] 33 0 #[] #[])
  fields := #[]
  methods := #[k0m0]
  instanceTypes := #[]
  staticTypes := #[]
  resolved := Array.replicate 124 none
  statics := none }

def pool1 : Array CpInfo := pool [(2, .class_ 4), (0, .nameAndType 5 6), (0, u "java/lang/Object"), (0, u "<init>"), (0, u "()V"), (0, .class_ 8), (0, u "com/example/twigrank/twigrank/Ints"), (0, .methodref 7 3), (0, .methodref 7 11), (0, .nameAndType 12 13), (0, u "add"), (0, u "(I)V"), (0, .methodref 7 15), (0, .nameAndType 16 17), (0, u "contains"), (0, u "(I)Z"), (0, .class_ 19), (0, u "com/example/twigrank/twigrank/IntsContainsPinLaw"), (2, u "law"), (0, u "(IIIIII)Z")] 3

def k1m0 : Method := { name := "<init>", desc := "()V", sig := { parameters := [], returnType := none }, accessFlags := 1, code := none }
def k1c1 : Code := { maxStack := 2, maxLocals := 11, code := code, exceptionTable := #[], attributes := #[] }
def k1m1 : Method := { name := "law", desc := "(IIIIII)Z", sig := { parameters := [.int, .int, .int, .int, .int, .int], returnType := some .boolean }, accessFlags := 9, code := some k1c1 }
/-- com/example/twigrank/twigrank/IntsContainsPinLaw -/
def k1 : Class := { plain "com/example/twigrank/twigrank/IntsContainsPinLaw" (some 0) with
  accessFlags := 49
  interfaces := #[]
  cf := some (fileOf pool1 18 #[] #[{ accessFlags := 1, nameIndex := 5, descriptorIndex := 6, attributes := #[] }, { accessFlags := 9, nameIndex := 22, descriptorIndex := 23, attributes := #[] }] 49 2 #[] #[])
  fields := #[]
  methods := #[k1m0, k1m1]
  instanceTypes := #[]
  staticTypes := #[]
  resolved := Array.replicate 27 none
  statics := none }

def pool2 : Array CpInfo := pool [(1, .methodref 2 3), (0, .class_ 4), (0, .nameAndType 5 6), (0, u "java/lang/Object"), (0, u "<init>"), (0, u "()V"), (0, .fieldref 8 9), (0, .class_ 10), (0, .nameAndType 11 12), (0, u "com/example/twigrank/twigrank/Ints"), (0, u "values"), (0, u "[I"), (0, .fieldref 8 14), (0, .nameAndType 15 16), (0, u "size"), (0, u "I"), (24, u "add"), (0, u "(I)V"), (8, u "contains"), (0, u "(I)Z")] 5

def k2c0 : Code := { maxStack := 2, maxLocals := 1, code := prog_27_method_1_code, exceptionTable := #[], attributes := #[] }
def k2m0 : Method := { name := "<init>", desc := "()V", sig := { parameters := [], returnType := none }, accessFlags := 0, code := some k2c0 }
def k2c1 : Code := { maxStack := 5, maxLocals := 2, code := prog_27_method_2_code, exceptionTable := #[], attributes := #[] }
def k2m1 : Method := { name := "add", desc := "(I)V", sig := { parameters := [.int], returnType := none }, accessFlags := 0, code := some k2c1 }
def k2c2 : Code := { maxStack := 2, maxLocals := 4, code := prog_27_method_7_code, exceptionTable := #[], attributes := #[] }
def k2m2 : Method := { name := "contains", desc := "(I)Z", sig := { parameters := [.int], returnType := some .boolean }, accessFlags := 0, code := some k2c2 }
/-- com/example/twigrank/twigrank/Ints -/
def k2 : Class := { plain "com/example/twigrank/twigrank/Ints" (some 0) with
  accessFlags := 48
  interfaces := #[]
  cf := some (fileOf pool2 8 #[] #[{ accessFlags := 0, nameIndex := 5, descriptorIndex := 6, attributes := #[] }, { accessFlags := 0, nameIndex := 41, descriptorIndex := 42, attributes := #[] }, { accessFlags := 0, nameIndex := 51, descriptorIndex := 52, attributes := #[] }] 48 2 #[] #[{ accessFlags := 2, nameIndex := 11, descriptorIndex := 12, attributes := #[] }, { accessFlags := 2, nameIndex := 15, descriptorIndex := 16, attributes := #[] }])
  fields := #[{ name := "values", type := (.array .int), accessFlags := 2, slot := 0, constantValue := 0 }, { name := "size", type := .int, accessFlags := 2, slot := 1, constantValue := 0 }]
  methods := #[k2m0, k2m1, k2m2]
  instanceTypes := #[(.array .int), .int]
  staticTypes := #[]
  resolved := Array.replicate 58 none
  statics := none }

def pool3 : Array CpInfo := pool [(1, u "java/lang/Cloneable"), (0, .class_ 1), (0, u "java/lang/Object"), (0, .class_ 3)] 3

/-- java/lang/Cloneable -/
def k3 : Class := { plain "java/lang/Cloneable" (some 0) with
  accessFlags := 1537
  interfaces := #[]
  cf := some (fileOf pool3 2 #[] #[] 1537 4 #[] #[])
  fields := #[]
  methods := #[]
  instanceTypes := #[]
  staticTypes := #[]
  resolved := Array.replicate 8 none
  statics := none }

def pool4 : Array CpInfo := pool [(1, u "java/io/Serializable"), (0, .class_ 1), (0, u "java/lang/Object"), (0, .class_ 3)] 3

/-- java/io/Serializable -/
def k4 : Class := { plain "java/io/Serializable" (some 0) with
  accessFlags := 1537
  interfaces := #[]
  cf := some (fileOf pool4 2 #[] #[] 1537 4 #[] #[])
  fields := #[]
  methods := #[]
  instanceTypes := #[]
  staticTypes := #[]
  resolved := Array.replicate 8 none
  statics := none }

/-- the primitive byte -/
def k5 : Class := { plain "byte" none with kind := .primitive 'B', accessFlags := 0x411 }
/-- [B -/
def k6 : Class := { plain "[B" (some 0) with kind := .array 5 .byte, interfaces := #[3, 4], accessFlags := 1041 }

/-- the primitive int -/
def k7 : Class := { plain "int" none with kind := .primitive 'I', accessFlags := 0x411 }
/-- [I -/
def k8 : Class := { plain "[I" (some 0) with kind := .array 7 .int, interfaces := #[3, 4], accessFlags := 1041 }

def heap : Heap := #[]
def classes : Array Class := #[k0, k1, k2, k3, k4, k5, k6, k7, k8]
def interned : List (Array UInt16 × Addr) := []
def slotsUsed : Nat := 0
def theMethod : MethodId := ⟨1, 1⟩
def args0 : Array Value := #[.int 3, .int 5, .int 9, .int 1, .int 4, .int 7]
def aboutOver (below : List Frame) : State where
  vm := { classes := classes, interned := interned.toArray }
  heap := heap
  slotsUsed := slotsUsed
  threads := #[{ frames := .invoking theMethod args0 :: below }]
def below0 : List Frame := [.native { method := ⟨0, 0⟩, args := #[] }]
def about1 : State := aboutOver below0
def p0 : Program := .bare "" "" ""
def e0 : Env := launch0.env 0 0 0
theorem w_frames : about1.frames = Frame.invoking theMethod args0 :: below0 := rfl
set_option maxRecDepth 65536 in
theorem w_args : argsFit about1.vm theMethod args0 = true := by decide +kernel
set_option maxRecDepth 65536 in
theorem w_heap : heapFits about1 = true := by decide +kernel
set_option maxRecDepth 65536 in
theorem w_runnable : about1.curStatus? = some .runnable := by decide +kernel
set_option maxRecDepth 65536 in
theorem w_alone : about1.alone = true := by decide +kernel
set_option maxRecDepth 65536 in
theorem w_named : about1.methodNamed? x = some theMethod := by decide +kernel
set_option maxRecDepth 65536 in
theorem w_hears : about1.hears theMethod below0 = true := by decide +kernel
set_option maxRecDepth 65536 in
theorem w_ripe : about1.ripe theMethod args0 below0 = true := by decide +kernel
theorem w_running : about1.status = .running := rfl
set_option maxRecDepth 65536 in
theorem w_room : about1.hasRoom e0.platform room_1 = true :=
  launch0.hasRoom_least _ room_1 (by decide +kernel) (by decide +kernel) (by decide +kernel) (by decide +kernel) (by decide +kernel) (by decide +kernel)
theorem allAtoms_all (ts : List Jvm.Cond) (a : Array Jvm.Value) (st : Jvm.State) : (allAtoms ts).before a st = ts.all (fun c => c.before a st) := by
  induction ts with
  | nil => rfl
  | cons c t ih =>
    show (Jvm.Cond.and c (allAtoms t)).before a st = _
    rw [Jvm.Cond.before_and, ih, List.all_cons]
def words1 : List Jvm.Cond := Jvm.Cond.code x code maxLocals ret :: tables_1
/-- a 'code' word, met by the world's own term for the bytes: nothing is compared byte by byte -/
theorem code_word {y : MethodName} {bytes : ByteArray} {mx : Nat} {rt : Option FieldType} {a : Array Value} {s : State} {m : MethodId} {meth : Method} {c : Code} (h1 : s.methodNamed? y = some m) (h2 : s.vm.method? m = some meth) (h3 : meth.code = some c) (h4 : c.code = bytes)
    (h5 : (c.maxLocals == mx && c.exceptionTable.isEmpty && decide (c.maxStack ≤ mostOperands) && decide (meth.sig.returnType = rt) && !meth.locks && decide (parseMethodDescriptor y.desc = some meth.sig)) = true) : (Jvm.Cond.code y bytes mx rt).before a s = true := by
  simp only [Bool.and_eq_true, beq_iff_eq, Bool.not_eq_true', decide_eq_true_eq] at h5
  obtain ⟨⟨⟨⟨⟨g1, g2⟩, g3⟩, g4⟩, g5⟩, g6⟩ := h5
  simp [Cond.before, Cond.holds, Cond.value, h1, h2, h3, h4, g1, g2, g3, g4, g5, g6]
def isCode : Jvm.Cond → Bool
  | .code _ _ _ _ => true
  | _ => false
theorem all_split {L : List Jvm.Cond} {P : Jvm.Cond → Bool} (h1 : L.all (fun c => isCode c || P c) = true) (h2 : ∀ c ∈ L.filter isCode, P c = true) : L.all P = true := by
  refine List.all_eq_true.mpr fun c hc => ?_
  have h := List.all_eq_true.mp h1 c hc
  rcases Bool.eq_false_or_eq_true (isCode c) with hi | hi
  · exact h2 c (List.mem_filter.mpr ⟨hc, hi⟩)
  · simpa [hi] using h
set_option maxRecDepth 65536 in
theorem w_c0 : (Jvm.Cond.code x code maxLocals ret).before args0 about1 = true := code_word (m := ⟨1, 1⟩) (meth := k1m1) (c := k1c1) (by decide +kernel) rfl rfl rfl (by decide +kernel)
set_option maxRecDepth 65536 in
theorem w_c1 : (Jvm.Cond.code ({ cls := "com/example/twigrank/twigrank/Ints", name := "<init>", desc := "()V" } : Jvm.MethodName) prog_27_method_1_code (1 : Nat) (Option.none : Option Jvm.ClassFile.FieldType)).before args0 about1 = true := code_word (m := ⟨2, 0⟩) (meth := k2m0) (c := k2c0) (by decide +kernel) rfl rfl rfl (by decide +kernel)
set_option maxRecDepth 65536 in
theorem w_c2 : (Jvm.Cond.code ({ cls := "java/lang/Object", name := "<init>", desc := "()V" } : Jvm.MethodName) object_method_1_code (1 : Nat) (Option.none : Option Jvm.ClassFile.FieldType)).before args0 about1 = true := code_word (m := ⟨0, 0⟩) (meth := k0m0) (c := k0c0) (by decide +kernel) rfl rfl rfl (by decide +kernel)
set_option maxRecDepth 65536 in
theorem w_c3 : (Jvm.Cond.code ({ cls := "com/example/twigrank/twigrank/Ints", name := "contains", desc := "(I)Z" } : Jvm.MethodName) prog_27_method_7_code (4 : Nat) (Option.some Jvm.ClassFile.FieldType.boolean)).before args0 about1 = true := code_word (m := ⟨2, 2⟩) (meth := k2m2) (c := k2c2) (by decide +kernel) rfl rfl rfl (by decide +kernel)
set_option maxRecDepth 65536 in
theorem w_c4 : (Jvm.Cond.code ({ cls := "com/example/twigrank/twigrank/Ints", name := "add", desc := "(I)V" } : Jvm.MethodName) prog_27_method_2_code (2 : Nat) (Option.none : Option Jvm.ClassFile.FieldType)).before args0 about1 = true := code_word (m := ⟨2, 1⟩) (meth := k2m1) (c := k2c1) (by decide +kernel) rfl rfl rfl (by decide +kernel)
def codes1 : List Jvm.Cond := [Jvm.Cond.code x code maxLocals ret, Jvm.Cond.code ({ cls := "com/example/twigrank/twigrank/Ints", name := "<init>", desc := "()V" } : Jvm.MethodName) prog_27_method_1_code (1 : Nat) (Option.none : Option Jvm.ClassFile.FieldType), Jvm.Cond.code ({ cls := "java/lang/Object", name := "<init>", desc := "()V" } : Jvm.MethodName) object_method_1_code (1 : Nat) (Option.none : Option Jvm.ClassFile.FieldType), Jvm.Cond.code ({ cls := "com/example/twigrank/twigrank/Ints", name := "contains", desc := "(I)Z" } : Jvm.MethodName) prog_27_method_7_code (4 : Nat) (Option.some Jvm.ClassFile.FieldType.boolean), Jvm.Cond.code ({ cls := "com/example/twigrank/twigrank/Ints", name := "add", desc := "(I)V" } : Jvm.MethodName) prog_27_method_2_code (2 : Nat) (Option.none : Option Jvm.ClassFile.FieldType)]
set_option maxRecDepth 65536 in
theorem codes_eq : words1.filter isCode = codes1 := rfl
theorem w_codes : ∀ c ∈ words1.filter isCode, c.before args0 about1 = true := by
  rw [codes_eq]
  intro c hc
  simp only [codes1, List.mem_cons, List.not_mem_nil, or_false] at hc
  rcases hc with rfl | rfl | rfl | rfl | rfl
  · exact w_c0
  · exact w_c1
  · exact w_c2
  · exact w_c3
  · exact w_c4
set_option maxRecDepth 65536 in
theorem w_t1 : (words1.take 24).all (fun c => isCode c || c.before args0 about1) = true := by decide +kernel
set_option maxRecDepth 65536 in
theorem w_t2 : (words1.drop 24).all (fun c => isCode c || c.before args0 about1) = true := by decide +kernel
theorem w_tables : (allAtoms (Jvm.Cond.code x code maxLocals ret :: tables_1)).before args0 about1 = true := by
  rw [allAtoms_all]
  show words1.all (fun c => c.before args0 about1) = true
  refine all_split ?_ w_codes
  rw [← List.take_append_drop 24 words1, List.all_append, w_t1, w_t2]
  rfl
set_option maxRecDepth 65536 in
theorem w_case : (Jvm.Cond.and given_1 narrow_1).before args0 about1 = true := by decide +kernel
theorem w_applies : (headSpec (Jvm.Cond.code x code maxLocals ret :: tables_1) room_1).applies x e0.platform about1 = true :=
  (Spec.applies_iff w_frames).mpr ⟨w_running, w_runnable, w_alone, w_named, w_hears, w_ripe, w_room, w_tables⟩
theorem atStart : AtStart classFile x code maxLocals ret World_1 tables_1 room_1 Calls_1 rest_1 Pre_1 launch0 p0 e0 about1 theMethod args0 below0 :=
  ⟨lists_1, trivial, launch0.admits_env _ _ _, launch0.least_env, fairChoices_fair.cas, fairChoices_fair.clock, w_frames, w_args, w_heap, w_applies, trivial, trivial, w_case⟩
end start1
theorem witness_1 : WitnessClaimed_1 := ⟨start1.p0, start1.e0, start1.about1, start1.theMethod, start1.args0, start1.below0, start1.atStart⟩
end Jvm.Pilot.@@N@@
