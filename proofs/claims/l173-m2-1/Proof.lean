import JvmDerived
import JvmDerived.Pilot.@@N@@Statement
import JvmDerived.Pilot.@@N@@Code
set_option linter.unusedVariables false
set_option linter.unusedSimpArgs false
namespace Jvm.RoadKit
open Sem ClassFile Op Lib Jvm.Stand Jvm.Free Jvm.LawKit
section New
variable {p : Program} {l : Launch} {e : Env} {R : Room} {s : State} {m : MethodId} {args : Array Value} {below : List Frame} {meth : Method} {c : Code} {T : State} {locs : List Loc} {cells slots : Nat}
theorem retI (X : Stand p l e R s m args below meth c T locs cells slots) (hx : p.tables.exec = Jvm.exec) {pc : Nat} {Ls : Array Slot} {z : Int32} {rest : List Value} (hret : meth.sig.returnType = some .int) (hd : decode c.code pc = .ok (.ireturn, 1)) {fs : List Frame}
    (hl : ∀ (f : JFrame) (acts : List Action), f.method = m → f.locked = none → f.entered = [] → (doReturn e (T.setTop f) acts (some (.int z))).1 = T.setFrames fs) : Steps p.tables e below (T.setTop (mkF m pc Ls (.int z :: rest))) (T.setFrames fs) := by
  have hm' : T.vm.method? m = some meth := X.method'
  have hn : narrow .int (.int z) = .int z := rfl
  show Steps p.tables e below (T.setTop { method := m, pc := pc, locals := Ls, stack := _ :: rest, locked := none }) _
  jvm_step X.here [X.here.top, hx, hd, hm', hret, hn]
  first | (intro acts; rw [hl _ acts rfl rfl rfl]) | rw [hl _ _ rfl rfl rfl]
  exact Steps.refl _
end New
end Jvm.RoadKit
namespace Jvm.Pilot.@@N@@
open Jvm Jvm.ClassFile Sem Op Lib Jvm.Free Jvm.Stand Jvm.LawKit Jvm.RoadKit Bundle Jvm.Pilot.@@N@@.Jvm.D
def Wp (p : Program) (e : Env) (s : State) (below : List Frame) (C S : Nat) (Q : Option Value → Heap → List Loc → Prop) (T : State) (g : JFrame) : Prop :=
  ∃ s₂ o, Steps p.tables e below (T.setTop g) s₂ ∧ s₂.status = .running ∧ Ended s₂ below o ∧ ∃ v L, o = .returned v ∧ Q v s₂.heap L ∧ FrameEnd s o s₂ L C S
section OwnW
variable {p : Program} {l : Launch} {e : Env} {R : Room} {s : State} {m : MethodId} {args : Array Value} {below : List Frame} {meth : Method} {c : Code} {T : State} {locs : List Loc} {cells slots : Nat} {C S : Nat} {Q : Option Value → Heap → List Loc → Prop} {pc pc' : Nat} {Ls : Array Slot} {st : List Value}
theorem Wp.via {T' : State} {g g' : JFrame} (st : ∀ t, Steps p.tables e below (T'.setTop g') t → Steps p.tables e below (T.setTop g) t) (k : Wp p e s below C S Q T' g') : Wp p e s below C S Q T g := by
  obtain ⟨s₂, o, h1, h2⟩ := k
  exact ⟨s₂, o, st _ h1, h2⟩
theorem w_iload (X : Stand p l e R s m args below meth c T locs cells slots) (hx : p.tables.exec = Jvm.exec) {k : Nat} {v : Int32} (hd : decode c.code pc = .ok (.iload k, 2)) (hl : Ls[k]? = some (.val (.int v))) (hp : pc + 2 = pc') (k : Wp p e s below C S Q T (mkF m pc' Ls (Value.int v :: st))) : Wp p e s below C S Q T (mkF m pc Ls (st)) := by
  subst hp
  exact Wp.via (fun _ h => XS.iload X.here hx rfl hd hl h) k
theorem w_iloadN (X : Stand p l e R s m args below meth c T locs cells slots) (hx : p.tables.exec = Jvm.exec) {k : Fin 4} {v : Int32} (hd : decode c.code pc = .ok (.iload_n k, 1)) (hl : Ls[k.val]? = some (.val (.int v))) (hp : pc + 1 = pc') (k : Wp p e s below C S Q T (mkF m pc' Ls (Value.int v :: st))) : Wp p e s below C S Q T (mkF m pc Ls (st)) := by
  subst hp
  exact Wp.via (fun _ h => XS.iloadN X.here hx rfl hd hl h) k
theorem w_lload (X : Stand p l e R s m args below meth c T locs cells slots) (hx : p.tables.exec = Jvm.exec) {k : Nat} {v : Int64} (hd : decode c.code pc = .ok (.lload k, 2)) (hl : Ls[k]? = some (.val (.long v))) (hp : pc + 2 = pc') (k : Wp p e s below C S Q T (mkF m pc' Ls (Value.long v :: st))) : Wp p e s below C S Q T (mkF m pc Ls (st)) := by
  subst hp
  exact Wp.via (fun _ h => XT.lload X.here hx rfl hd hl h) k
theorem w_lloadN (X : Stand p l e R s m args below meth c T locs cells slots) (hx : p.tables.exec = Jvm.exec) {k : Fin 4} {v : Int64} (hd : decode c.code pc = .ok (.lload_n k, 1)) (hl : Ls[k.val]? = some (.val (.long v))) (hp : pc + 1 = pc') (k : Wp p e s below C S Q T (mkF m pc' Ls (Value.long v :: st))) : Wp p e s below C S Q T (mkF m pc Ls (st)) := by
  subst hp
  exact Wp.via (fun _ h => XT.lloadN X.here hx rfl hd hl h) k
theorem w_aload (X : Stand p l e R s m args below meth c T locs cells slots) (hx : p.tables.exec = Jvm.exec) {k : Nat} {v : Value} (hd : decode c.code pc = .ok (.aload k, 2)) (hl : Ls[k]? = some (.val v)) (hv : v.isRef = true) (hp : pc + 2 = pc') (k : Wp p e s below C S Q T (mkF m pc' Ls (v :: st))) : Wp p e s below C S Q T (mkF m pc Ls (st)) := by
  subst hp
  exact Wp.via (fun _ h => XS.aload X.here hx rfl hd hl hv h) k
theorem w_aloadN (X : Stand p l e R s m args below meth c T locs cells slots) (hx : p.tables.exec = Jvm.exec) {k : Fin 4} {v : Value} (hd : decode c.code pc = .ok (.aload_n k, 1)) (hl : Ls[k.val]? = some (.val v)) (hv : v.isRef = true) (hp : pc + 1 = pc') (k : Wp p e s below C S Q T (mkF m pc' Ls (v :: st))) : Wp p e s below C S Q T (mkF m pc Ls (st)) := by
  subst hp
  exact Wp.via (fun _ h => XS.aloadN X.here hx rfl hd hl hv h) k
theorem w_istore (X : Stand p l e R s m args below meth c T locs cells slots) (hx : p.tables.exec = Jvm.exec) {k : Nat} {v : Int32} {l' : Array Slot} (hd : decode c.code pc = .ok (.istore k, 2)) (hl : storeLocals Ls k (Value.int v) = some l') (hp : pc + 2 = pc') (k : Wp p e s below C S Q T (mkF m pc' l' (st))) : Wp p e s below C S Q T (mkF m pc Ls (Value.int v :: st)) := by
  subst hp
  exact Wp.via (fun _ h => XS.istore X.here hx rfl hd rfl hl h) k
theorem w_istoreN (X : Stand p l e R s m args below meth c T locs cells slots) (hx : p.tables.exec = Jvm.exec) {k : Fin 4} {v : Int32} {l' : Array Slot} (hd : decode c.code pc = .ok (.istore_n k, 1)) (hl : storeLocals Ls k.val (Value.int v) = some l') (hp : pc + 1 = pc') (k : Wp p e s below C S Q T (mkF m pc' l' (st))) : Wp p e s below C S Q T (mkF m pc Ls (Value.int v :: st)) := by
  subst hp
  exact Wp.via (fun _ h => XS.istoreN X.here hx rfl hd rfl hl h) k
theorem w_lstore (X : Stand p l e R s m args below meth c T locs cells slots) (hx : p.tables.exec = Jvm.exec) {k : Nat} {v : Int64} {l' : Array Slot} (hd : decode c.code pc = .ok (.lstore k, 2)) (hl : storeLocals Ls k (Value.long v) = some l') (hp : pc + 2 = pc') (k : Wp p e s below C S Q T (mkF m pc' l' (st))) : Wp p e s below C S Q T (mkF m pc Ls (Value.long v :: st)) := by
  subst hp
  exact Wp.via (fun _ h => XT.lstore X.here hx rfl hd rfl hl h) k
theorem w_lstoreN (X : Stand p l e R s m args below meth c T locs cells slots) (hx : p.tables.exec = Jvm.exec) {k : Fin 4} {v : Int64} {l' : Array Slot} (hd : decode c.code pc = .ok (.lstore_n k, 1)) (hl : storeLocals Ls k.val (Value.long v) = some l') (hp : pc + 1 = pc') (k : Wp p e s below C S Q T (mkF m pc' l' (st))) : Wp p e s below C S Q T (mkF m pc Ls (Value.long v :: st)) := by
  subst hp
  exact Wp.via (fun _ h => XT.lstoreN X.here hx rfl hd rfl hl h) k
theorem w_astore (X : Stand p l e R s m args below meth c T locs cells slots) (hx : p.tables.exec = Jvm.exec) {k : Nat} {v : Value} {l' : Array Slot} (hd : decode c.code pc = .ok (.astore k, 2)) (hv : v.isRef = true) (hl : storeLocals Ls k v = some l') (hp : pc + 2 = pc') (k : Wp p e s below C S Q T (mkF m pc' l' (st))) : Wp p e s below C S Q T (mkF m pc Ls (v :: st)) := by
  subst hp
  exact Wp.via (fun _ h => XS.astore X.here hx rfl hd rfl hv hl h) k
theorem w_astoreN (X : Stand p l e R s m args below meth c T locs cells slots) (hx : p.tables.exec = Jvm.exec) {k : Fin 4} {v : Value} {l' : Array Slot} (hd : decode c.code pc = .ok (.astore_n k, 1)) (hv : v.isRef = true) (hl : storeLocals Ls k.val v = some l') (hp : pc + 1 = pc') (k : Wp p e s below C S Q T (mkF m pc' l' (st))) : Wp p e s below C S Q T (mkF m pc Ls (v :: st)) := by
  subst hp
  exact Wp.via (fun _ h => XS.astoreN X.here hx rfl hd rfl hv hl h) k
theorem w_iconst (X : Stand p l e R s m args below meth c T locs cells slots) (hx : p.tables.exec = Jvm.exec) {i : Int} {v : Int32} (hd : decode c.code pc = .ok (.iconst i, 1)) (hv : Int32.ofInt i = v) (hp : pc + 1 = pc') (k : Wp p e s below C S Q T (mkF m pc' Ls (Value.int v :: st))) : Wp p e s below C S Q T (mkF m pc Ls (st)) := by
  subst hp hv
  exact Wp.via (fun _ h => XS.iconst X.here hx rfl hd h) k
theorem w_bipush (X : Stand p l e R s m args below meth c T locs cells slots) (hx : p.tables.exec = Jvm.exec) {i : Int} {v : Int32} (hd : decode c.code pc = .ok (.bipush i, 2)) (hv : (Int8.ofInt i).toInt32 = v) (hp : pc + 2 = pc') (k : Wp p e s below C S Q T (mkF m pc' Ls (Value.int v :: st))) : Wp p e s below C S Q T (mkF m pc Ls (st)) := by
  subst hp hv
  exact Wp.via (fun _ h => XS.bipush X.here hx rfl hd h) k
theorem w_sipush (X : Stand p l e R s m args below meth c T locs cells slots) (hx : p.tables.exec = Jvm.exec) {i : Int} {v : Int32} (hd : decode c.code pc = .ok (.sipush i, 3)) (hv : (Int16.ofInt i).toInt32 = v) (hp : pc + 3 = pc') (k : Wp p e s below C S Q T (mkF m pc' Ls (Value.int v :: st))) : Wp p e s below C S Q T (mkF m pc Ls (st)) := by
  subst hp hv
  exact Wp.via (fun _ h => XS.sipush X.here hx rfl hd h) k
theorem w_lconst (X : Stand p l e R s m args below meth c T locs cells slots) (hx : p.tables.exec = Jvm.exec) {k : Fin 2} {v : Int64} (hd : decode c.code pc = .ok (.lconst k, 1)) (hv : Int64.ofNat k = v) (hp : pc + 1 = pc') (k : Wp p e s below C S Q T (mkF m pc' Ls (Value.long v :: st))) : Wp p e s below C S Q T (mkF m pc Ls (st)) := by
  subst hp hv
  exact Wp.via (fun _ h => XT.lconst X.here hx rfl hd h) k
theorem w_aconst (X : Stand p l e R s m args below meth c T locs cells slots) (hx : p.tables.exec = Jvm.exec)  (hd : decode c.code pc = .ok (.aconst_null, 1))  (hp : pc + 1 = pc') (k : Wp p e s below C S Q T (mkF m pc' Ls (Value.null :: st))) : Wp p e s below C S Q T (mkF m pc Ls (st)) := by
  subst hp
  exact Wp.via (fun _ h => XS.aconstNull X.here hx rfl hd h) k
theorem w_ldc (X : Stand p l e R s m args below meth c T locs cells slots) (hx : p.tables.exec = Jvm.exec) {i : Nat} {v : Int32} {own : String} (hd : decode c.code pc = .ok (.ldc i, 2)) (hown : s.vm.findClass own = some m.cls) (hc : (Jvm.Cond.constant own i v).before args s = true) (hp : pc + 2 = pc') (k : Wp p e s below C S Q T (mkF m pc' Ls (Value.int v :: st))) : Wp p e s below C S Q T (mkF m pc Ls (st)) := by
  subst hp
  exact Wp.via (fun _ h => X.ldcInt hx hown hc (g := mkF m pc Ls st) rfl hd _ h) k
theorem w_ldc2 (X : Stand p l e R s m args below meth c T locs cells slots) (hx : p.tables.exec = Jvm.exec) {i : Nat} {v : Int64} {own : String} (hd : decode c.code pc = .ok (.ldc2_w i, 3)) (hown : s.vm.findClass own = some m.cls) (hc : (Jvm.Cond.constantLong own i v).before args s = true) (hp : pc + 3 = pc') (k : Wp p e s below C S Q T (mkF m pc' Ls (Value.long v :: st))) : Wp p e s below C S Q T (mkF m pc Ls (st)) := by
  subst hp
  exact Wp.via (fun _ h => X.ldc2Long hx hown hc (g := mkF m pc Ls st) rfl hd _ h) k
theorem w_iadd (X : Stand p l e R s m args below meth c T locs cells slots) (hx : p.tables.exec = Jvm.exec) {x y : Int32} (hd : decode c.code pc = .ok (.iadd, 1))  (hp : pc + 1 = pc') (k : Wp p e s below C S Q T (mkF m pc' Ls (Value.int (x + y) :: st))) : Wp p e s below C S Q T (mkF m pc Ls (Value.int y :: Value.int x :: st)) := by
  subst hp
  exact Wp.via (fun _ h => XS.iadd X.here hx rfl hd rfl h) k
theorem w_isub (X : Stand p l e R s m args below meth c T locs cells slots) (hx : p.tables.exec = Jvm.exec) {x y : Int32} (hd : decode c.code pc = .ok (.isub, 1))  (hp : pc + 1 = pc') (k : Wp p e s below C S Q T (mkF m pc' Ls (Value.int (x - y) :: st))) : Wp p e s below C S Q T (mkF m pc Ls (Value.int y :: Value.int x :: st)) := by
  subst hp
  exact Wp.via (fun _ h => XS.isub X.here hx rfl hd rfl h) k
theorem w_iand (X : Stand p l e R s m args below meth c T locs cells slots) (hx : p.tables.exec = Jvm.exec) {x y : Int32} (hd : decode c.code pc = .ok (.iand, 1))  (hp : pc + 1 = pc') (k : Wp p e s below C S Q T (mkF m pc' Ls (Value.int (x &&& y) :: st))) : Wp p e s below C S Q T (mkF m pc Ls (Value.int y :: Value.int x :: st)) := by
  subst hp
  exact Wp.via (fun _ h => XS.iand X.here hx rfl hd rfl h) k
theorem w_imul (X : Stand p l e R s m args below meth c T locs cells slots) (hx : p.tables.exec = Jvm.exec) {x y : Int32} (hd : decode c.code pc = .ok (.imul, 1))  (hp : pc + 1 = pc') (k : Wp p e s below C S Q T (mkF m pc' Ls (Value.int (x * y) :: st))) : Wp p e s below C S Q T (mkF m pc Ls (Value.int y :: Value.int x :: st)) := by
  subst hp
  exact Wp.via (fun _ h => XS.imul X.here hx rfl hd rfl h) k
theorem w_ixor (X : Stand p l e R s m args below meth c T locs cells slots) (hx : p.tables.exec = Jvm.exec) {x y : Int32} (hd : decode c.code pc = .ok (.ixor, 1))  (hp : pc + 1 = pc') (k : Wp p e s below C S Q T (mkF m pc' Ls (Value.int (x ^^^ y) :: st))) : Wp p e s below C S Q T (mkF m pc Ls (Value.int y :: Value.int x :: st)) := by
  subst hp
  exact Wp.via (fun _ h => XT.ixor X.here hx rfl hd rfl h) k
theorem w_ior (X : Stand p l e R s m args below meth c T locs cells slots) (hx : p.tables.exec = Jvm.exec) {x y : Int32} (hd : decode c.code pc = .ok (.ior, 1))  (hp : pc + 1 = pc') (k : Wp p e s below C S Q T (mkF m pc' Ls (Value.int (x ||| y) :: st))) : Wp p e s below C S Q T (mkF m pc Ls (Value.int y :: Value.int x :: st)) := by
  subst hp
  exact Wp.via (fun _ h => XT.ior X.here hx rfl hd rfl h) k
theorem w_ishl (X : Stand p l e R s m args below meth c T locs cells slots) (hx : p.tables.exec = Jvm.exec) {x y : Int32} (hd : decode c.code pc = .ok (.ishl, 1))  (hp : pc + 1 = pc') (k : Wp p e s below C S Q T (mkF m pc' Ls (Value.int (x <<< (y &&& 31)) :: st))) : Wp p e s below C S Q T (mkF m pc Ls (Value.int y :: Value.int x :: st)) := by
  subst hp
  exact Wp.via (fun _ h => XT.ishl X.here hx rfl hd rfl h) k
theorem w_ishr (X : Stand p l e R s m args below meth c T locs cells slots) (hx : p.tables.exec = Jvm.exec) {x y : Int32} (hd : decode c.code pc = .ok (.ishr, 1))  (hp : pc + 1 = pc') (k : Wp p e s below C S Q T (mkF m pc' Ls (Value.int (x >>> (y &&& 31)) :: st))) : Wp p e s below C S Q T (mkF m pc Ls (Value.int y :: Value.int x :: st)) := by
  subst hp
  exact Wp.via (fun _ h => XT.ishr X.here hx rfl hd rfl h) k
theorem w_iushr (X : Stand p l e R s m args below meth c T locs cells slots) (hx : p.tables.exec = Jvm.exec) {x y : Int32} (hd : decode c.code pc = .ok (.iushr, 1))  (hp : pc + 1 = pc') (k : Wp p e s below C S Q T (mkF m pc' Ls (Value.int (XT.ushr x y) :: st))) : Wp p e s below C S Q T (mkF m pc Ls (Value.int y :: Value.int x :: st)) := by
  subst hp
  exact Wp.via (fun _ h => XT.iushr X.here hx rfl hd rfl h) k
theorem w_idiv (X : Stand p l e R s m args below meth c T locs cells slots) (hx : p.tables.exec = Jvm.exec) {x y : Int32} (hd : decode c.code pc = .ok (.idiv, 1)) (hy : y ≠ 0) (hp : pc + 1 = pc') (k : Wp p e s below C S Q T (mkF m pc' Ls (Value.int (x / y) :: st))) : Wp p e s below C S Q T (mkF m pc Ls (Value.int y :: Value.int x :: st)) := by
  subst hp
  exact Wp.via (fun _ h => XS.idiv X.here hx rfl hd rfl hy h) k
theorem w_irem (X : Stand p l e R s m args below meth c T locs cells slots) (hx : p.tables.exec = Jvm.exec) {x y : Int32} (hd : decode c.code pc = .ok (.irem, 1)) (hy : y ≠ 0) (hp : pc + 1 = pc') (k : Wp p e s below C S Q T (mkF m pc' Ls (Value.int (x % y) :: st))) : Wp p e s below C S Q T (mkF m pc Ls (Value.int y :: Value.int x :: st)) := by
  subst hp
  exact Wp.via (fun _ h => iremM X hx rfl hd rfl hy h) k
theorem w_ladd (X : Stand p l e R s m args below meth c T locs cells slots) (hx : p.tables.exec = Jvm.exec) {x y : Int64} (hd : decode c.code pc = .ok (.ladd, 1))  (hp : pc + 1 = pc') (k : Wp p e s below C S Q T (mkF m pc' Ls (Value.long (x + y) :: st))) : Wp p e s below C S Q T (mkF m pc Ls (Value.long y :: Value.long x :: st)) := by
  subst hp
  exact Wp.via (fun _ h => XT.ladd X.here hx rfl hd rfl h) k
theorem w_lsub (X : Stand p l e R s m args below meth c T locs cells slots) (hx : p.tables.exec = Jvm.exec) {x y : Int64} (hd : decode c.code pc = .ok (.lsub, 1))  (hp : pc + 1 = pc') (k : Wp p e s below C S Q T (mkF m pc' Ls (Value.long (x - y) :: st))) : Wp p e s below C S Q T (mkF m pc Ls (Value.long y :: Value.long x :: st)) := by
  subst hp
  exact Wp.via (fun _ h => XT.lsub X.here hx rfl hd rfl h) k
theorem w_lmul (X : Stand p l e R s m args below meth c T locs cells slots) (hx : p.tables.exec = Jvm.exec) {x y : Int64} (hd : decode c.code pc = .ok (.lmul, 1))  (hp : pc + 1 = pc') (k : Wp p e s below C S Q T (mkF m pc' Ls (Value.long (x * y) :: st))) : Wp p e s below C S Q T (mkF m pc Ls (Value.long y :: Value.long x :: st)) := by
  subst hp
  exact Wp.via (fun _ h => XT.lmul X.here hx rfl hd rfl h) k
theorem w_land (X : Stand p l e R s m args below meth c T locs cells slots) (hx : p.tables.exec = Jvm.exec) {x y : Int64} (hd : decode c.code pc = .ok (.land, 1))  (hp : pc + 1 = pc') (k : Wp p e s below C S Q T (mkF m pc' Ls (Value.long (x &&& y) :: st))) : Wp p e s below C S Q T (mkF m pc Ls (Value.long y :: Value.long x :: st)) := by
  subst hp
  exact Wp.via (fun _ h => XT.land X.here hx rfl hd rfl h) k
theorem w_lor (X : Stand p l e R s m args below meth c T locs cells slots) (hx : p.tables.exec = Jvm.exec) {x y : Int64} (hd : decode c.code pc = .ok (.lor, 1))  (hp : pc + 1 = pc') (k : Wp p e s below C S Q T (mkF m pc' Ls (Value.long (x ||| y) :: st))) : Wp p e s below C S Q T (mkF m pc Ls (Value.long y :: Value.long x :: st)) := by
  subst hp
  exact Wp.via (fun _ h => XT.lor X.here hx rfl hd rfl h) k
theorem w_lxor (X : Stand p l e R s m args below meth c T locs cells slots) (hx : p.tables.exec = Jvm.exec) {x y : Int64} (hd : decode c.code pc = .ok (.lxor, 1))  (hp : pc + 1 = pc') (k : Wp p e s below C S Q T (mkF m pc' Ls (Value.long (x ^^^ y) :: st))) : Wp p e s below C S Q T (mkF m pc Ls (Value.long y :: Value.long x :: st)) := by
  subst hp
  exact Wp.via (fun _ h => XT.lxor X.here hx rfl hd rfl h) k
theorem w_ldiv (X : Stand p l e R s m args below meth c T locs cells slots) (hx : p.tables.exec = Jvm.exec) {x y : Int64} (hd : decode c.code pc = .ok (.ldiv, 1)) (hy : y ≠ 0) (hp : pc + 1 = pc') (k : Wp p e s below C S Q T (mkF m pc' Ls (Value.long (x / y) :: st))) : Wp p e s below C S Q T (mkF m pc Ls (Value.long y :: Value.long x :: st)) := by
  subst hp
  exact Wp.via (fun _ h => XT.ldiv X.here hx rfl hd rfl hy h) k
theorem w_lrem (X : Stand p l e R s m args below meth c T locs cells slots) (hx : p.tables.exec = Jvm.exec) {x y : Int64} (hd : decode c.code pc = .ok (.lrem, 1)) (hy : y ≠ 0) (hp : pc + 1 = pc') (k : Wp p e s below C S Q T (mkF m pc' Ls (Value.long (x % y) :: st))) : Wp p e s below C S Q T (mkF m pc Ls (Value.long y :: Value.long x :: st)) := by
  subst hp
  exact Wp.via (fun _ h => XT.lrem X.here hx rfl hd rfl hy (by rw [lrem_mod]; exact h)) k
theorem w_lshl (X : Stand p l e R s m args below meth c T locs cells slots) (hx : p.tables.exec = Jvm.exec) {x : Int64} {y : Int32} (hd : decode c.code pc = .ok (.lshl, 1))  (hp : pc + 1 = pc') (k : Wp p e s below C S Q T (mkF m pc' Ls (Value.long (x <<< (y.toInt64 &&& 63)) :: st))) : Wp p e s below C S Q T (mkF m pc Ls (Value.int y :: Value.long x :: st)) := by
  subst hp
  exact Wp.via (fun _ h => XT.lshl X.here hx rfl hd rfl h) k
theorem w_lshr (X : Stand p l e R s m args below meth c T locs cells slots) (hx : p.tables.exec = Jvm.exec) {x : Int64} {y : Int32} (hd : decode c.code pc = .ok (.lshr, 1))  (hp : pc + 1 = pc') (k : Wp p e s below C S Q T (mkF m pc' Ls (Value.long (x >>> (y.toInt64 &&& 63)) :: st))) : Wp p e s below C S Q T (mkF m pc Ls (Value.int y :: Value.long x :: st)) := by
  subst hp
  exact Wp.via (fun _ h => XT.lshr X.here hx rfl hd rfl h) k
theorem w_lushr (X : Stand p l e R s m args below meth c T locs cells slots) (hx : p.tables.exec = Jvm.exec) {x : Int64} {y : Int32} (hd : decode c.code pc = .ok (.lushr, 1))  (hp : pc + 1 = pc') (k : Wp p e s below C S Q T (mkF m pc' Ls (Value.long (XT.ushrL x y) :: st))) : Wp p e s below C S Q T (mkF m pc Ls (Value.int y :: Value.long x :: st)) := by
  subst hp
  exact Wp.via (fun _ h => XT.lushr X.here hx rfl hd rfl h) k
theorem w_lcmp (X : Stand p l e R s m args below meth c T locs cells slots) (hx : p.tables.exec = Jvm.exec) {x y : Int64} (hd : decode c.code pc = .ok (.lcmp, 1))  (hp : pc + 1 = pc') (k : Wp p e s below C S Q T (mkF m pc' Ls (Value.int (XT.cmpL x y) :: st))) : Wp p e s below C S Q T (mkF m pc Ls (Value.long y :: Value.long x :: st)) := by
  subst hp
  exact Wp.via (fun _ h => XT.lcmp X.here hx rfl hd rfl h) k
theorem w_ineg (X : Stand p l e R s m args below meth c T locs cells slots) (hx : p.tables.exec = Jvm.exec) {x : Int32} (hd : decode c.code pc = .ok (.ineg, 1))  (hp : pc + 1 = pc') (k : Wp p e s below C S Q T (mkF m pc' Ls (Value.int (-x) :: st))) : Wp p e s below C S Q T (mkF m pc Ls (Value.int x :: st)) := by
  subst hp
  exact Wp.via (fun _ h => XS.ineg X.here hx rfl hd rfl h) k
theorem w_lneg (X : Stand p l e R s m args below meth c T locs cells slots) (hx : p.tables.exec = Jvm.exec) {x : Int64} (hd : decode c.code pc = .ok (.lneg, 1))  (hp : pc + 1 = pc') (k : Wp p e s below C S Q T (mkF m pc' Ls (Value.long (-x) :: st))) : Wp p e s below C S Q T (mkF m pc Ls (Value.long x :: st)) := by
  subst hp
  exact Wp.via (fun _ h => XT.lneg X.here hx rfl hd rfl h) k
theorem w_i2l (X : Stand p l e R s m args below meth c T locs cells slots) (hx : p.tables.exec = Jvm.exec) {x : Int32} (hd : decode c.code pc = .ok (.i2l, 1))  (hp : pc + 1 = pc') (k : Wp p e s below C S Q T (mkF m pc' Ls (Value.long x.toInt64 :: st))) : Wp p e s below C S Q T (mkF m pc Ls (Value.int x :: st)) := by
  subst hp
  exact Wp.via (fun _ h => XT.i2l X.here hx rfl hd rfl h) k
theorem w_l2i (X : Stand p l e R s m args below meth c T locs cells slots) (hx : p.tables.exec = Jvm.exec) {x : Int64} (hd : decode c.code pc = .ok (.l2i, 1))  (hp : pc + 1 = pc') (k : Wp p e s below C S Q T (mkF m pc' Ls (Value.int x.toInt32 :: st))) : Wp p e s below C S Q T (mkF m pc Ls (Value.long x :: st)) := by
  subst hp
  exact Wp.via (fun _ h => XT.l2i X.here hx rfl hd rfl h) k
theorem w_i2b (X : Stand p l e R s m args below meth c T locs cells slots) (hx : p.tables.exec = Jvm.exec) {x : Int32} (hd : decode c.code pc = .ok (.i2b, 1))  (hp : pc + 1 = pc') (k : Wp p e s below C S Q T (mkF m pc' Ls (Value.int x.toInt8.toInt32 :: st))) : Wp p e s below C S Q T (mkF m pc Ls (Value.int x :: st)) := by
  subst hp
  exact Wp.via (fun _ h => XT.i2b X.here hx rfl hd rfl h) k
theorem w_i2c (X : Stand p l e R s m args below meth c T locs cells slots) (hx : p.tables.exec = Jvm.exec) {x : Int32} (hd : decode c.code pc = .ok (.i2c, 1))  (hp : pc + 1 = pc') (k : Wp p e s below C S Q T (mkF m pc' Ls (Value.int x.toUInt32.toUInt16.toUInt32.toInt32 :: st))) : Wp p e s below C S Q T (mkF m pc Ls (Value.int x :: st)) := by
  subst hp
  exact Wp.via (fun _ h => XT.i2c X.here hx rfl hd rfl h) k
theorem w_iinc (X : Stand p l e R s m args below meth c T locs cells slots) (hx : p.tables.exec = Jvm.exec) {k : Nat} {cst : Int} {v : Int32} {l' : Array Slot} (hd : decode c.code pc = .ok (.iinc k cst, 3)) (hl : Ls[k]? = some (.val (.int v))) (hl' : storeLocals Ls k (.int (v + Int32.ofInt cst)) = some l') (hp : pc + 3 = pc') (k : Wp p e s below C S Q T (mkF m pc' l' (st))) : Wp p e s below C S Q T (mkF m pc Ls (st)) := by
  subst hp
  exact Wp.via (fun _ h => XS.iinc X.here hx rfl hd hl hl' h) k
theorem w_dup (X : Stand p l e R s m args below meth c T locs cells slots) (hx : p.tables.exec = Jvm.exec) {x : Value} (hd : decode c.code pc = .ok (.dup, 1)) (hc : x.category = 1) (hp : pc + 1 = pc') (k : Wp p e s below C S Q T (mkF m pc' Ls (x :: x :: st))) : Wp p e s below C S Q T (mkF m pc Ls (x :: st)) := by
  subst hp
  exact Wp.via (fun _ h => XS.dup X.here hx rfl hd rfl hc h) k
theorem w_dup2 (X : Stand p l e R s m args below meth c T locs cells slots) (hx : p.tables.exec = Jvm.exec) {x y : Value} (hd : decode c.code pc = .ok (.dup2, 1)) (hc : x.category = 1) (hc' : y.category = 1) (hp : pc + 1 = pc') (k : Wp p e s below C S Q T (mkF m pc' Ls (x :: y :: x :: y :: st))) : Wp p e s below C S Q T (mkF m pc Ls (x :: y :: st)) := by
  subst hp
  exact Wp.via (fun _ h => XT.dup2 X.here hx rfl hd rfl hc hc' h) k
theorem w_dup2L (X : Stand p l e R s m args below meth c T locs cells slots) (hx : p.tables.exec = Jvm.exec) {x : Int64} (hd : decode c.code pc = .ok (.dup2, 1))  (hp : pc + 1 = pc') (k : Wp p e s below C S Q T (mkF m pc' Ls (Value.long x :: Value.long x :: st))) : Wp p e s below C S Q T (mkF m pc Ls (Value.long x :: st)) := by
  subst hp
  exact Wp.via (fun _ h => XT.dup2L X.here hx rfl hd rfl h) k
theorem w_dupX1 (X : Stand p l e R s m args below meth c T locs cells slots) (hx : p.tables.exec = Jvm.exec) {x y : Value} (hd : decode c.code pc = .ok (.dup_x1, 1)) (hc : x.category = 1) (hc' : y.category = 1) (hp : pc + 1 = pc') (k : Wp p e s below C S Q T (mkF m pc' Ls (x :: y :: x :: st))) : Wp p e s below C S Q T (mkF m pc Ls (x :: y :: st)) := by
  subst hp
  exact Wp.via (fun _ h => XT.dupX1 X.here hx rfl hd rfl hc hc' h) k
theorem w_pop (X : Stand p l e R s m args below meth c T locs cells slots) (hx : p.tables.exec = Jvm.exec) {x : Value} (hd : decode c.code pc = .ok (.pop, 1)) (hc : x.category = 1) (hp : pc + 1 = pc') (k : Wp p e s below C S Q T (mkF m pc' Ls (st))) : Wp p e s below C S Q T (mkF m pc Ls (x :: st)) := by
  subst hp
  exact Wp.via (fun _ h => XT.pop X.here hx rfl hd rfl hc h) k
theorem w_goto (X : Stand p l e R s m args below meth c T locs cells slots) (hx : p.tables.exec = Jvm.exec) {o : Int} (hd : decode c.code pc = .ok (.goto o, 3)) (ho : 0 ≤ (pc : Int) + o) (hp : ((pc : Int) + o).toNat = pc') (k : Wp p e s below C S Q T (mkF m pc' Ls st)) : Wp p e s below C S Q T (mkF m pc Ls st) :=
  Wp.via (fun _ h => XS.goto X.here hx rfl (pc0 := pc) (pc' := pc') rfl hd ho hp h) k
theorem w_icmp_eq (X : Stand p l e R s m args below meth c T locs cells slots) (hx : p.tables.exec = Jvm.exec) {o : Int} {pcY : Nat} {x y : Int32} (hd : decode c.code pc = .ok (.if_icmp .eq o, 3)) (ho : 0 ≤ (pc : Int) + o) (hy : ((pc : Int) + o).toNat = pcY) (hp : pc + 3 = pc') (kY : x = y → Wp p e s below C S Q T (mkF m pcY Ls st)) (kN : ¬ x = y → Wp p e s below C S Q T (mkF m pc' Ls st)) : Wp p e s below C S Q T (mkF m pc Ls (Value.int y :: Value.int x :: st)) := by
  by_cases q : x = y
  · exact Wp.via (fun _ h => XS.icmpYes X.here hx rfl (pc0 := pc) (pc' := pcY) rfl hd rfl (teq q).1 ho hy h) (kY q)
  · exact Wp.via (fun _ h => XS.icmpNo X.here hx rfl hd rfl (feq (by simpa using q)).1 h) (by subst hp; exact kN (by simpa using q))
theorem w_if_eq (X : Stand p l e R s m args below meth c T locs cells slots) (hx : p.tables.exec = Jvm.exec) {o : Int} {pcY : Nat} {x : Int32} (hd : decode c.code pc = .ok (.ifCond .eq o, 3)) (ho : 0 ≤ (pc : Int) + o) (hy : ((pc : Int) + o).toNat = pcY) (hp : pc + 3 = pc') (kY : x = 0 → Wp p e s below C S Q T (mkF m pcY Ls st)) (kN : ¬ x = 0 → Wp p e s below C S Q T (mkF m pc' Ls st)) : Wp p e s below C S Q T (mkF m pc Ls (Value.int x :: st)) := by
  by_cases q : x = 0
  · exact Wp.via (fun _ h => XS.ifYes X.here hx rfl (pc0 := pc) (pc' := pcY) rfl hd rfl ((if0 _ _).trans (teq q).1) ho hy h) (kY q)
  · exact Wp.via (fun _ h => XS.ifNo X.here hx rfl hd rfl ((if0 _ _).trans (feq (by simpa using q)).1) h) (by subst hp; exact kN (by simpa using q))
theorem w_icmp_ne (X : Stand p l e R s m args below meth c T locs cells slots) (hx : p.tables.exec = Jvm.exec) {o : Int} {pcY : Nat} {x y : Int32} (hd : decode c.code pc = .ok (.if_icmp .ne o, 3)) (ho : 0 ≤ (pc : Int) + o) (hy : ((pc : Int) + o).toNat = pcY) (hp : pc + 3 = pc') (kY : ¬ x = y → Wp p e s below C S Q T (mkF m pcY Ls st)) (kN : x = y → Wp p e s below C S Q T (mkF m pc' Ls st)) : Wp p e s below C S Q T (mkF m pc Ls (Value.int y :: Value.int x :: st)) := by
  by_cases q : ¬ x = y
  · exact Wp.via (fun _ h => XS.icmpYes X.here hx rfl (pc0 := pc) (pc' := pcY) rfl hd rfl (feq q).2 ho hy h) (kY q)
  · exact Wp.via (fun _ h => XS.icmpNo X.here hx rfl hd rfl (teq (by simpa using q)).2 h) (by subst hp; exact kN (by simpa using q))
theorem w_if_ne (X : Stand p l e R s m args below meth c T locs cells slots) (hx : p.tables.exec = Jvm.exec) {o : Int} {pcY : Nat} {x : Int32} (hd : decode c.code pc = .ok (.ifCond .ne o, 3)) (ho : 0 ≤ (pc : Int) + o) (hy : ((pc : Int) + o).toNat = pcY) (hp : pc + 3 = pc') (kY : ¬ x = 0 → Wp p e s below C S Q T (mkF m pcY Ls st)) (kN : x = 0 → Wp p e s below C S Q T (mkF m pc' Ls st)) : Wp p e s below C S Q T (mkF m pc Ls (Value.int x :: st)) := by
  by_cases q : ¬ x = 0
  · exact Wp.via (fun _ h => XS.ifYes X.here hx rfl (pc0 := pc) (pc' := pcY) rfl hd rfl ((if0 _ _).trans (feq q).2) ho hy h) (kY q)
  · exact Wp.via (fun _ h => XS.ifNo X.here hx rfl hd rfl ((if0 _ _).trans (teq (by simpa using q)).2) h) (by subst hp; exact kN (by simpa using q))
theorem w_icmp_lt (X : Stand p l e R s m args below meth c T locs cells slots) (hx : p.tables.exec = Jvm.exec) {o : Int} {pcY : Nat} {x y : Int32} (hd : decode c.code pc = .ok (.if_icmp .lt o, 3)) (ho : 0 ≤ (pc : Int) + o) (hy : ((pc : Int) + o).toNat = pcY) (hp : pc + 3 = pc') (kY : x < y → Wp p e s below C S Q T (mkF m pcY Ls st)) (kN : ¬ x < y → Wp p e s below C S Q T (mkF m pc' Ls st)) : Wp p e s below C S Q T (mkF m pc Ls (Value.int y :: Value.int x :: st)) := by
  by_cases q : x < y
  · exact Wp.via (fun _ h => XS.icmpYes X.here hx rfl (pc0 := pc) (pc' := pcY) rfl hd rfl (tlt q).1 ho hy h) (kY q)
  · exact Wp.via (fun _ h => XS.icmpNo X.here hx rfl hd rfl (flt (by simpa using q)).1 h) (by subst hp; exact kN (by simpa using q))
theorem w_if_lt (X : Stand p l e R s m args below meth c T locs cells slots) (hx : p.tables.exec = Jvm.exec) {o : Int} {pcY : Nat} {x : Int32} (hd : decode c.code pc = .ok (.ifCond .lt o, 3)) (ho : 0 ≤ (pc : Int) + o) (hy : ((pc : Int) + o).toNat = pcY) (hp : pc + 3 = pc') (kY : x < 0 → Wp p e s below C S Q T (mkF m pcY Ls st)) (kN : ¬ x < 0 → Wp p e s below C S Q T (mkF m pc' Ls st)) : Wp p e s below C S Q T (mkF m pc Ls (Value.int x :: st)) := by
  by_cases q : x < 0
  · exact Wp.via (fun _ h => XS.ifYes X.here hx rfl (pc0 := pc) (pc' := pcY) rfl hd rfl ((if0 _ _).trans (tlt q).1) ho hy h) (kY q)
  · exact Wp.via (fun _ h => XS.ifNo X.here hx rfl hd rfl ((if0 _ _).trans (flt (by simpa using q)).1) h) (by subst hp; exact kN (by simpa using q))
theorem w_icmp_ge (X : Stand p l e R s m args below meth c T locs cells slots) (hx : p.tables.exec = Jvm.exec) {o : Int} {pcY : Nat} {x y : Int32} (hd : decode c.code pc = .ok (.if_icmp .ge o, 3)) (ho : 0 ≤ (pc : Int) + o) (hy : ((pc : Int) + o).toNat = pcY) (hp : pc + 3 = pc') (kY : ¬ x < y → Wp p e s below C S Q T (mkF m pcY Ls st)) (kN : x < y → Wp p e s below C S Q T (mkF m pc' Ls st)) : Wp p e s below C S Q T (mkF m pc Ls (Value.int y :: Value.int x :: st)) := by
  by_cases q : ¬ x < y
  · exact Wp.via (fun _ h => XS.icmpYes X.here hx rfl (pc0 := pc) (pc' := pcY) rfl hd rfl (flt q).2.1 ho hy h) (kY q)
  · exact Wp.via (fun _ h => XS.icmpNo X.here hx rfl hd rfl (tlt (by simpa using q)).2.1 h) (by subst hp; exact kN (by simpa using q))
theorem w_if_ge (X : Stand p l e R s m args below meth c T locs cells slots) (hx : p.tables.exec = Jvm.exec) {o : Int} {pcY : Nat} {x : Int32} (hd : decode c.code pc = .ok (.ifCond .ge o, 3)) (ho : 0 ≤ (pc : Int) + o) (hy : ((pc : Int) + o).toNat = pcY) (hp : pc + 3 = pc') (kY : ¬ x < 0 → Wp p e s below C S Q T (mkF m pcY Ls st)) (kN : x < 0 → Wp p e s below C S Q T (mkF m pc' Ls st)) : Wp p e s below C S Q T (mkF m pc Ls (Value.int x :: st)) := by
  by_cases q : ¬ x < 0
  · exact Wp.via (fun _ h => XS.ifYes X.here hx rfl (pc0 := pc) (pc' := pcY) rfl hd rfl ((if0 _ _).trans (flt q).2.1) ho hy h) (kY q)
  · exact Wp.via (fun _ h => XS.ifNo X.here hx rfl hd rfl ((if0 _ _).trans (tlt (by simpa using q)).2.1) h) (by subst hp; exact kN (by simpa using q))
theorem w_icmp_gt (X : Stand p l e R s m args below meth c T locs cells slots) (hx : p.tables.exec = Jvm.exec) {o : Int} {pcY : Nat} {x y : Int32} (hd : decode c.code pc = .ok (.if_icmp .gt o, 3)) (ho : 0 ≤ (pc : Int) + o) (hy : ((pc : Int) + o).toNat = pcY) (hp : pc + 3 = pc') (kY : y < x → Wp p e s below C S Q T (mkF m pcY Ls st)) (kN : ¬ y < x → Wp p e s below C S Q T (mkF m pc' Ls st)) : Wp p e s below C S Q T (mkF m pc Ls (Value.int y :: Value.int x :: st)) := by
  by_cases q : y < x
  · exact Wp.via (fun _ h => XS.icmpYes X.here hx rfl (pc0 := pc) (pc' := pcY) rfl hd rfl (tlt q).2.2.1 ho hy h) (kY q)
  · exact Wp.via (fun _ h => XS.icmpNo X.here hx rfl hd rfl (flt (by simpa using q)).2.2.1 h) (by subst hp; exact kN (by simpa using q))
theorem w_if_gt (X : Stand p l e R s m args below meth c T locs cells slots) (hx : p.tables.exec = Jvm.exec) {o : Int} {pcY : Nat} {x : Int32} (hd : decode c.code pc = .ok (.ifCond .gt o, 3)) (ho : 0 ≤ (pc : Int) + o) (hy : ((pc : Int) + o).toNat = pcY) (hp : pc + 3 = pc') (kY : 0 < x → Wp p e s below C S Q T (mkF m pcY Ls st)) (kN : ¬ 0 < x → Wp p e s below C S Q T (mkF m pc' Ls st)) : Wp p e s below C S Q T (mkF m pc Ls (Value.int x :: st)) := by
  by_cases q : 0 < x
  · exact Wp.via (fun _ h => XS.ifYes X.here hx rfl (pc0 := pc) (pc' := pcY) rfl hd rfl ((if0 _ _).trans (tlt q).2.2.1) ho hy h) (kY q)
  · exact Wp.via (fun _ h => XS.ifNo X.here hx rfl hd rfl ((if0 _ _).trans (flt (by simpa using q)).2.2.1) h) (by subst hp; exact kN (by simpa using q))
theorem w_icmp_le (X : Stand p l e R s m args below meth c T locs cells slots) (hx : p.tables.exec = Jvm.exec) {o : Int} {pcY : Nat} {x y : Int32} (hd : decode c.code pc = .ok (.if_icmp .le o, 3)) (ho : 0 ≤ (pc : Int) + o) (hy : ((pc : Int) + o).toNat = pcY) (hp : pc + 3 = pc') (kY : ¬ y < x → Wp p e s below C S Q T (mkF m pcY Ls st)) (kN : y < x → Wp p e s below C S Q T (mkF m pc' Ls st)) : Wp p e s below C S Q T (mkF m pc Ls (Value.int y :: Value.int x :: st)) := by
  by_cases q : ¬ y < x
  · exact Wp.via (fun _ h => XS.icmpYes X.here hx rfl (pc0 := pc) (pc' := pcY) rfl hd rfl (flt q).2.2.2 ho hy h) (kY q)
  · exact Wp.via (fun _ h => XS.icmpNo X.here hx rfl hd rfl (tlt (by simpa using q)).2.2.2 h) (by subst hp; exact kN (by simpa using q))
theorem w_if_le (X : Stand p l e R s m args below meth c T locs cells slots) (hx : p.tables.exec = Jvm.exec) {o : Int} {pcY : Nat} {x : Int32} (hd : decode c.code pc = .ok (.ifCond .le o, 3)) (ho : 0 ≤ (pc : Int) + o) (hy : ((pc : Int) + o).toNat = pcY) (hp : pc + 3 = pc') (kY : ¬ 0 < x → Wp p e s below C S Q T (mkF m pcY Ls st)) (kN : 0 < x → Wp p e s below C S Q T (mkF m pc' Ls st)) : Wp p e s below C S Q T (mkF m pc Ls (Value.int x :: st)) := by
  by_cases q : ¬ 0 < x
  · exact Wp.via (fun _ h => XS.ifYes X.here hx rfl (pc0 := pc) (pc' := pcY) rfl hd rfl ((if0 _ _).trans (flt q).2.2.2) ho hy h) (kY q)
  · exact Wp.via (fun _ h => XS.ifNo X.here hx rfl hd rfl ((if0 _ _).trans (tlt (by simpa using q)).2.2.2) h) (by subst hp; exact kN (by simpa using q))
theorem own_cl_lt (x y : Int64) : XT.cmpL x y < 0 ↔ x < y := by
  unfold XT.cmpL
  by_cases h1 : y < x
  · rw [if_pos h1]
    refine ⟨fun h => absurd h (by decide), fun h => absurd (Int64.lt_trans h1 h) Int64.lt_irrefl⟩
  · rw [if_neg h1]
    by_cases h2 : x = y
    · rw [if_pos h2]
      refine ⟨fun h => absurd h (by decide), fun h => absurd (h2 ▸ h) Int64.lt_irrefl⟩
    · rw [if_neg h2]
      refine ⟨fun _ => ?_, fun _ => by decide⟩
      rw [Int64.lt_iff_toInt_lt] at *
      have : x.toInt ≠ y.toInt := fun q => h2 (Int64.toInt_inj.mp q)
      omega
theorem own_cl_gt (x y : Int64) : 0 < XT.cmpL x y ↔ y < x := by
  unfold XT.cmpL
  by_cases h1 : y < x
  · rw [if_pos h1]
    exact ⟨fun _ => h1, fun _ => by decide⟩
  · rw [if_neg h1]
    by_cases h2 : x = y
    · rw [if_pos h2]
      exact ⟨fun h => absurd h (by decide), fun h => absurd h h1⟩
    · rw [if_neg h2]
      exact ⟨fun h => absurd h (by decide), fun h => absurd h h1⟩
theorem own_cl_eq (x y : Int64) : XT.cmpL x y = 0 ↔ x = y := by
  unfold XT.cmpL
  by_cases h1 : y < x
  · rw [if_pos h1]
    exact ⟨fun h => absurd h (by decide), fun h => absurd (h ▸ h1) Int64.lt_irrefl⟩
  · rw [if_neg h1]
    by_cases h2 : x = y
    · rw [if_pos h2]
      exact ⟨fun _ => h2, fun _ => rfl⟩
    · rw [if_neg h2]
      exact ⟨fun h => absurd h (by decide), fun h => absurd h h2⟩
theorem w_lcmp_eq (X : Stand p l e R s m args below meth c T locs cells slots) (hx : p.tables.exec = Jvm.exec) {o : Int} {pcY pc1 : Nat} {x y : Int64} (hd : decode c.code pc = .ok (.lcmp, 1)) (hp1 : pc + 1 = pc1) (hd1 : decode c.code pc1 = .ok (.ifCond .eq o, 3)) (ho : 0 ≤ (pc1 : Int) + o) (hy : ((pc1 : Int) + o).toNat = pcY) (hp : pc1 + 3 = pc') (kY : x = y → Wp p e s below C S Q T (mkF m pcY Ls st)) (kN : ¬ x = y → Wp p e s below C S Q T (mkF m pc' Ls st)) : Wp p e s below C S Q T (mkF m pc Ls (Value.long y :: Value.long x :: st)) :=
  w_lcmp X hx hd hp1 (w_if_eq X hx hd1 ho hy hp (fun q => kY ((own_cl_eq x y).mp q)) (fun q => kN fun r => q ((own_cl_eq x y).mpr r)))
theorem w_lcmp_ne (X : Stand p l e R s m args below meth c T locs cells slots) (hx : p.tables.exec = Jvm.exec) {o : Int} {pcY pc1 : Nat} {x y : Int64} (hd : decode c.code pc = .ok (.lcmp, 1)) (hp1 : pc + 1 = pc1) (hd1 : decode c.code pc1 = .ok (.ifCond .ne o, 3)) (ho : 0 ≤ (pc1 : Int) + o) (hy : ((pc1 : Int) + o).toNat = pcY) (hp : pc1 + 3 = pc') (kY : ¬ x = y → Wp p e s below C S Q T (mkF m pcY Ls st)) (kN : x = y → Wp p e s below C S Q T (mkF m pc' Ls st)) : Wp p e s below C S Q T (mkF m pc Ls (Value.long y :: Value.long x :: st)) :=
  w_lcmp X hx hd hp1 (w_if_ne X hx hd1 ho hy hp (fun q => kY fun r => q ((own_cl_eq x y).mpr r)) (fun q => kN ((own_cl_eq x y).mp q)))
theorem w_lcmp_lt (X : Stand p l e R s m args below meth c T locs cells slots) (hx : p.tables.exec = Jvm.exec) {o : Int} {pcY pc1 : Nat} {x y : Int64} (hd : decode c.code pc = .ok (.lcmp, 1)) (hp1 : pc + 1 = pc1) (hd1 : decode c.code pc1 = .ok (.ifCond .lt o, 3)) (ho : 0 ≤ (pc1 : Int) + o) (hy : ((pc1 : Int) + o).toNat = pcY) (hp : pc1 + 3 = pc') (kY : x < y → Wp p e s below C S Q T (mkF m pcY Ls st)) (kN : ¬ x < y → Wp p e s below C S Q T (mkF m pc' Ls st)) : Wp p e s below C S Q T (mkF m pc Ls (Value.long y :: Value.long x :: st)) :=
  w_lcmp X hx hd hp1 (w_if_lt X hx hd1 ho hy hp (fun q => kY ((own_cl_lt x y).mp q)) (fun q => kN fun r => q ((own_cl_lt x y).mpr r)))
theorem w_lcmp_ge (X : Stand p l e R s m args below meth c T locs cells slots) (hx : p.tables.exec = Jvm.exec) {o : Int} {pcY pc1 : Nat} {x y : Int64} (hd : decode c.code pc = .ok (.lcmp, 1)) (hp1 : pc + 1 = pc1) (hd1 : decode c.code pc1 = .ok (.ifCond .ge o, 3)) (ho : 0 ≤ (pc1 : Int) + o) (hy : ((pc1 : Int) + o).toNat = pcY) (hp : pc1 + 3 = pc') (kY : ¬ x < y → Wp p e s below C S Q T (mkF m pcY Ls st)) (kN : x < y → Wp p e s below C S Q T (mkF m pc' Ls st)) : Wp p e s below C S Q T (mkF m pc Ls (Value.long y :: Value.long x :: st)) :=
  w_lcmp X hx hd hp1 (w_if_ge X hx hd1 ho hy hp (fun q => kY fun r => q ((own_cl_lt x y).mpr r)) (fun q => kN ((own_cl_lt x y).mp q)))
theorem w_lcmp_gt (X : Stand p l e R s m args below meth c T locs cells slots) (hx : p.tables.exec = Jvm.exec) {o : Int} {pcY pc1 : Nat} {x y : Int64} (hd : decode c.code pc = .ok (.lcmp, 1)) (hp1 : pc + 1 = pc1) (hd1 : decode c.code pc1 = .ok (.ifCond .gt o, 3)) (ho : 0 ≤ (pc1 : Int) + o) (hy : ((pc1 : Int) + o).toNat = pcY) (hp : pc1 + 3 = pc') (kY : y < x → Wp p e s below C S Q T (mkF m pcY Ls st)) (kN : ¬ y < x → Wp p e s below C S Q T (mkF m pc' Ls st)) : Wp p e s below C S Q T (mkF m pc Ls (Value.long y :: Value.long x :: st)) :=
  w_lcmp X hx hd hp1 (w_if_gt X hx hd1 ho hy hp (fun q => kY ((own_cl_gt x y).mp q)) (fun q => kN fun r => q ((own_cl_gt x y).mpr r)))
theorem w_lcmp_le (X : Stand p l e R s m args below meth c T locs cells slots) (hx : p.tables.exec = Jvm.exec) {o : Int} {pcY pc1 : Nat} {x y : Int64} (hd : decode c.code pc = .ok (.lcmp, 1)) (hp1 : pc + 1 = pc1) (hd1 : decode c.code pc1 = .ok (.ifCond .le o, 3)) (ho : 0 ≤ (pc1 : Int) + o) (hy : ((pc1 : Int) + o).toNat = pcY) (hp : pc1 + 3 = pc') (kY : ¬ y < x → Wp p e s below C S Q T (mkF m pcY Ls st)) (kN : y < x → Wp p e s below C S Q T (mkF m pc' Ls st)) : Wp p e s below C S Q T (mkF m pc Ls (Value.long y :: Value.long x :: st)) :=
  w_lcmp X hx hd hp1 (w_if_le X hx hd1 ho hy hp (fun q => kY fun r => q ((own_cl_gt x y).mpr r)) (fun q => kN ((own_cl_gt x y).mp q)))
theorem w_eqI {x z : Int32} (h : x = z) (k : Wp p e s below C S Q T (mkF m pc Ls (Value.int z :: st))) : Wp p e s below C S Q T (mkF m pc Ls (Value.int x :: st)) := h ▸ k
theorem w_genI {x : Int32} (k : ∀ z, z = x → Wp p e s below C S Q T (mkF m pc Ls (Value.int z :: st))) : Wp p e s below C S Q T (mkF m pc Ls (Value.int x :: st)) := k x rfl
theorem w_eqJ {x z : Int64} (h : x = z) (k : Wp p e s below C S Q T (mkF m pc Ls (Value.long z :: st))) : Wp p e s below C S Q T (mkF m pc Ls (Value.long x :: st)) := h ▸ k
theorem w_genJ {x : Int64} (k : ∀ z, z = x → Wp p e s below C S Q T (mkF m pc Ls (Value.long z :: st))) : Wp p e s below C S Q T (mkF m pc Ls (Value.long x :: st)) := k x rfl
theorem w_iincE (X : Stand p l e R s m args below meth c T locs cells slots) (hx : p.tables.exec = Jvm.exec) {k : Nat} {cst : Int} {v z : Int32} {l' : Array Slot} (hd : decode c.code pc = .ok (.iinc k cst, 3)) (hl : Ls[k]? = some (.val (.int v))) (hz : v + Int32.ofInt cst = z) (hl' : storeLocals Ls k (.int z) = some l') (hp : pc + 3 = pc') (k : Wp p e s below C S Q T (mkF m pc' l' (st))) : Wp p e s below C S Q T (mkF m pc Ls (st)) := by
  subst hp
  exact Wp.via (fun _ h => XS.iinc X.here hx rfl hd hl (hz ▸ hl') h) k
theorem w_ifnullY (X : Stand p l e R s m args below meth c T locs cells slots) (hx : p.tables.exec = Jvm.exec) {o : Int}  (hd : decode c.code pc = .ok (.ifnull o, 3)) (ho : 0 ≤ (pc : Int) + o) (hp : ((pc : Int) + o).toNat = pc') (k : Wp p e s below C S Q T (mkF m pc' Ls st)) : Wp p e s below C S Q T (mkF m pc Ls (Value.null :: st)) :=
  Wp.via (fun _ h => XS.ifnullYes X.here hx rfl (pc0 := pc) (pc' := pc') rfl hd rfl ho hp h) k
theorem w_ifnonnullY (X : Stand p l e R s m args below meth c T locs cells slots) (hx : p.tables.exec = Jvm.exec) {o : Int} {b : Addr} (hd : decode c.code pc = .ok (.ifnonnull o, 3)) (ho : 0 ≤ (pc : Int) + o) (hp : ((pc : Int) + o).toNat = pc') (k : Wp p e s below C S Q T (mkF m pc' Ls st)) : Wp p e s below C S Q T (mkF m pc Ls (Value.ref b :: st)) :=
  Wp.via (fun _ h => XT.ifnonnullYes X.here hx rfl (pc0 := pc) (pc' := pc') rfl hd rfl ho hp h) k
theorem w_ifnullN (X : Stand p l e R s m args below meth c T locs cells slots) (hx : p.tables.exec = Jvm.exec) {o : Int} {b : Addr} (hd : decode c.code pc = .ok (.ifnull o, 3))  (hp : pc + 3 = pc') (k : Wp p e s below C S Q T (mkF m pc' Ls (st))) : Wp p e s below C S Q T (mkF m pc Ls (Value.ref b :: st)) := by
  subst hp
  exact Wp.via (fun _ h => XS.ifnullNo X.here hx rfl hd rfl h) k
theorem w_ifnonnullN (X : Stand p l e R s m args below meth c T locs cells slots) (hx : p.tables.exec = Jvm.exec) {o : Int} (hd : decode c.code pc = .ok (.ifnonnull o, 3))  (hp : pc + 3 = pc') (k : Wp p e s below C S Q T (mkF m pc' Ls (st))) : Wp p e s below C S Q T (mkF m pc Ls (Value.null :: st)) := by
  subst hp
  exact Wp.via (fun _ h => XT.ifnonnullNo X.here hx rfl hd rfl h) k
theorem own_out {fs : List Frame} {v : Option Value} {g : JFrame} (hs : Steps p.tables e below (T.setTop g) (T.setFrames fs)) (h1 : (T.setFrames fs).status = .running) (h2 : Ended (T.setFrames fs) below (.returned v)) (h3 : s.WarmedH (T.setFrames fs).vm) (h4 : s.sameButNew ({ T.setFrames fs with vm := s.vm } : State) locs cells slots)
    (hc : cells ≤ C) (hl : slots ≤ S) (hq : Q v T.heap locs) : Wp p e s below C S Q T g :=
  ⟨_, _, hs, h1, h2, _, _, rfl, hq, ⟨_, rfl⟩, h3, h4.mono hc hl⟩
theorem w_ret_i (X : Stand p l e R s m args below meth c T locs cells slots) (hx : p.tables.exec = Jvm.exec) {z : Int32} (hret : meth.sig.returnType = some .int) (hlk : meth.locks = false) (hd : decode c.code pc = .ok (.ireturn, 1)) (hc : cells ≤ C) (hl : slots ≤ S) (hq : Q (some (.int z)) T.heap locs) : Wp p e s below C S Q T (mkF m pc Ls (Value.int z :: st)) := by
  obtain ⟨fs, hr, h1, h2, h3, h4⟩ := X.leave (v := some (.int z)) (fun h => by rw [hret] at h; cases h) hlk
  exact own_out (retI X hx hret hd hr) h1 h2 h3 h4 hc hl hq
theorem w_ret_n (X : Stand p l e R s m args below meth c T locs cells slots) (hx : p.tables.exec = Jvm.exec) {z z' : Int32} {t : FieldType} (hret : meth.sig.returnType = some t) (hlk : meth.locks = false) (ht : t = .boolean ∨ t = .byte ∨ t = .char ∨ t = .short) (hd : decode c.code pc = .ok (.ireturn, 1)) (hz : nar t z = z') (hc : cells ≤ C) (hl : slots ≤ S) (hq : Q (some (.int z')) T.heap locs) : Wp p e s below C S Q T (mkF m pc Ls (Value.int z :: st)) := by
  subst hz
  obtain ⟨fs, hr, h1, h2, h3, h4⟩ := X.leave (v := some (.int (nar t z))) (fun h => by rw [hret] at h; cases h) hlk
  exact own_out (retN X hx hret ht hd hr) h1 h2 h3 h4 hc hl hq
theorem w_ret_l (X : Stand p l e R s m args below meth c T locs cells slots) (hx : p.tables.exec = Jvm.exec) {z : Int64} (hret : meth.sig.returnType = some .long) (hlk : meth.locks = false) (hd : decode c.code pc = .ok (.lreturn, 1)) (hc : cells ≤ C) (hl : slots ≤ S) (hq : Q (some (.long z)) T.heap locs) : Wp p e s below C S Q T (mkF m pc Ls [Value.long z]) := by
  obtain ⟨fs, hr, h1, h2, h3, h4⟩ := X.leave (v := some (.long z)) (fun h => by rw [hret] at h; cases h) hlk
  exact own_out (X.lreturnOut hx hret hd hr) h1 h2 h3 h4 hc hl hq
theorem w_ret_a (X : Stand p l e R s m args below meth c T locs cells slots) (hx : p.tables.exec = Jvm.exec) {w : Value} {t : FieldType} (hw : w.isRef = true) (hret : meth.sig.returnType = some t) (ht : t.isReference = true) (hlk : meth.locks = false) (hd : decode c.code pc = .ok (.areturn, 1)) (hc : cells ≤ C) (hl : slots ≤ S) (hq : Q (some w) T.heap locs) : Wp p e s below C S Q T (mkF m pc Ls [w]) := by
  obtain ⟨fs, hr, h1, h2, h3, h4⟩ := X.leave (v := some w) (fun h => by rw [hret] at h; cases h) hlk
  exact own_out (X.areturnOut hx hw hret ht hd hr) h1 h2 h3 h4 hc hl hq
theorem w_ret_v (X : Stand p l e R s m args below meth c T locs cells slots) (hx : p.tables.exec = Jvm.exec) (hret : meth.sig.returnType = none) (hlk : meth.locks = false) (hd : decode c.code pc = .ok (.return_, 1)) (hc : cells ≤ C) (hl : slots ≤ S) (hq : Q none T.heap locs) : Wp p e s below C S Q T (mkF m pc Ls []) := by
  obtain ⟨fs, hr, h1, h2, h3, h4⟩ := X.leave (v := none) (fun h => rfl) hlk
  exact own_out (X.returnOut hx hret hd hr) h1 h2 h3 h4 hc hl hq
theorem own_call (X : Stand p l e R s m args below meth c T locs cells slots) (hx : p.tables.exec = Jvm.exec) {Z : State} {a0 : Array Value} {h : Heap} (hZ : Z.Warmed39 s.vm) (eT : T.heap = h) {own : String} {i : Nat} {y : MethodName} {bytes : ByteArray} {maxL : Nat} {ret : Option FieldType} {rm : Room} {W : Nat} {as' : Array Value} {Qc : Option Value → Heap → List Loc → Prop}
    (hown : s.vm.findClass own = some m.cls) (hml : Ls.size = c.maxLocals) (w1 : (Jvm.Cond.methodLink own i y).before a0 Z = true) (w2 : (Jvm.Cond.static y).before a0 Z = true) (w3 : (Jvm.Cond.initialized y.cls).before a0 Z = true) (w4 : (Jvm.Cond.code y bytes maxL ret).before a0 Z = true)
    (hM : MetFree l y (head1 [Jvm.Cond.code y bytes maxL ret] rm) (fun a U => a = as' ∧ Z.Warmed39 U.vm ∧ U.heap = h) (fun _ _ _ _ _ => True) (fun _ U o U' => ∃ v L, o = .returned v ∧ Qc v U'.heap L ∧ FrameEnd U o U' L rm.cells rm.slots))
    (hy : y.cls ≠ "java/lang/invoke/MethodHandle" ∧ y.cls ≠ "java/lang/invoke/VarHandle") (hf : rm.frames + 1 ≤ R.frames) (hl : W + (maxL + 11) + rm.locals ≤ R.locals) (hc : cells + rm.cells ≤ R.cells) (hsl : slots + rm.slots ≤ R.slots)
    {argsL rest : List Value} {ps : List FieldType} {r : Option FieldType} (hpd : parseMethodDescriptor y.desc = some ⟨ps, r⟩) (hlen : argsL.length = ps.length) (has : argsL.toArray = as') (hst : st = argsL.reverse ++ rest) (hW : (rest.map fun v => v.category).sum ≤ W) (hd : decode c.code pc = .ok (.invokestatic i, 3)) (hp : pc + 3 = pc')
    (k : ∀ (v : Option Value) (T' : State) (L : List Loc), Stand p l e R s m args below meth c T' (locs ++ L) (cells + rm.cells) (slots + rm.slots) → Qc v T'.heap L → Wp p e s below C S Q T' (mkF m pc' Ls (v.toList ++ rest))) : Wp p e s below C S Q T (mkF m pc Ls st) := by
  obtain ⟨v, _, ⟨T1, L1, k1, n1⟩, -, X1, ⟨Lc1, hQ1, l1, y1, z1⟩, st1⟩ := Jvm.LawKit.callS X hx (y := y) hown (mvT hZ w1) (mvT hZ w2) (mvT hZ w3) (mvT hZ w4) hy (backOf (W := W) hM hZ w4 w3 hf hl) (g := mkF m pc Ls st) rfl hml (argsL := argsL) (rest := rest) (lenOf hpd hlen) hst (by show 2 * 0 + _ ≤ _; omega) hd (fun _ _ => ⟨has, eT, hc, hsl⟩)
  dsimp only [Pt.U, Pt.locs, Pt.cells, Pt.slots] at X1 l1 y1 z1 st1 hQ1
  subst l1 y1 z1
  subst hp
  exact Wp.via st1 (k v T1 Lc1 X1 hQ1)
theorem own_cast {g g' : JFrame} (q : g = g') (k : Wp p e s below C S Q T g') : Wp p e s below C S Q T g := q ▸ k
def PureQ (r : Value) (h0 : Heap) (v : Option Value) (h : Heap) (L : List Loc) : Prop := v = some r ∧ L = [] ∧ h = h0
theorem w_callP (X : Stand p l e R s m args below meth c T locs cells slots) (hx : p.tables.exec = Jvm.exec) {Z : State} {a0 : Array Value} {h : Heap} (hZ : Z.Warmed39 s.vm) (eT : T.heap = h) {own : String} {i : Nat} {y : MethodName} {bytes : ByteArray} {maxL : Nat} {ret : Option FieldType} {rm : Room} {W : Nat} {as' : Array Value} {r0 : Value}
    (hown : s.vm.findClass own = some m.cls) (hml : Ls.size = c.maxLocals) (w1 : (Jvm.Cond.methodLink own i y).before a0 Z = true) (w2 : (Jvm.Cond.static y).before a0 Z = true) (w3 : (Jvm.Cond.initialized y.cls).before a0 Z = true) (w4 : (Jvm.Cond.code y bytes maxL ret).before a0 Z = true)
    (hM : MetFree l y (head1 [Jvm.Cond.code y bytes maxL ret] rm) (fun a U => a = as' ∧ Z.Warmed39 U.vm ∧ U.heap = h) (fun _ _ _ _ _ => True) (fun _ U o U' => ∃ v L, o = .returned v ∧ PureQ r0 h v U'.heap L ∧ FrameEnd U o U' L rm.cells rm.slots))
    (hy : y.cls ≠ "java/lang/invoke/MethodHandle" ∧ y.cls ≠ "java/lang/invoke/VarHandle") (hf : rm.frames + 1 ≤ R.frames) (hl : W + (maxL + 11) + rm.locals ≤ R.locals) (hc : rm.cells = 0) (hsl : rm.slots = 0) (hc' : cells ≤ R.cells) (hsl' : slots ≤ R.slots)
    {argsL rest : List Value} {ps : List FieldType} {r : Option FieldType} (hpd : parseMethodDescriptor y.desc = some ⟨ps, r⟩) (hlen : argsL.length = ps.length) (has : argsL.toArray = as') (hst : st = argsL.reverse ++ rest) (hW : (rest.map fun v => v.category).sum ≤ W) (hd : decode c.code pc = .ok (.invokestatic i, 3)) (hp : pc + 3 = pc')
    (k : ∀ (T' : State), Stand p l e R s m args below meth c T' locs cells slots → T'.heap = h → Wp p e s below C S Q T' (mkF m pc' Ls (r0 :: rest))) : Wp p e s below C S Q T (mkF m pc Ls st) := by
  refine own_call X hx hZ eT hown hml w1 w2 w3 w4 hM hy hf hl (by omega) (by omega) hpd hlen has hst hW hd hp ?_
  intro v T' L X' hq
  obtain ⟨rfl, rfl, e1⟩ := hq
  rw [List.append_nil, hc, hsl] at X'
  exact k T' X' e1
def PureQV (h0 : Heap) (v : Option Value) (h : Heap) (L : List Loc) : Prop := v = none ∧ L = [] ∧ h = h0
theorem w_callPV (X : Stand p l e R s m args below meth c T locs cells slots) (hx : p.tables.exec = Jvm.exec) {Z : State} {a0 : Array Value} {h : Heap} (hZ : Z.Warmed39 s.vm) (eT : T.heap = h) {own : String} {i : Nat} {y : MethodName} {bytes : ByteArray} {maxL : Nat} {ret : Option FieldType} {rm : Room} {W : Nat} {as' : Array Value}
    (hown : s.vm.findClass own = some m.cls) (hml : Ls.size = c.maxLocals) (w1 : (Jvm.Cond.methodLink own i y).before a0 Z = true) (w2 : (Jvm.Cond.static y).before a0 Z = true) (w3 : (Jvm.Cond.initialized y.cls).before a0 Z = true) (w4 : (Jvm.Cond.code y bytes maxL ret).before a0 Z = true)
    (hM : MetFree l y (head1 [Jvm.Cond.code y bytes maxL ret] rm) (fun a U => a = as' ∧ Z.Warmed39 U.vm ∧ U.heap = h) (fun _ _ _ _ _ => True) (fun _ U o U' => ∃ v L, o = .returned v ∧ PureQV h v U'.heap L ∧ FrameEnd U o U' L rm.cells rm.slots))
    (hy : y.cls ≠ "java/lang/invoke/MethodHandle" ∧ y.cls ≠ "java/lang/invoke/VarHandle") (hf : rm.frames + 1 ≤ R.frames) (hl : W + (maxL + 11) + rm.locals ≤ R.locals) (hc : rm.cells = 0) (hsl : rm.slots = 0) (hc' : cells ≤ R.cells) (hsl' : slots ≤ R.slots)
    {argsL rest : List Value} {ps : List FieldType} {r : Option FieldType} (hpd : parseMethodDescriptor y.desc = some ⟨ps, r⟩) (hlen : argsL.length = ps.length) (has : argsL.toArray = as') (hst : st = argsL.reverse ++ rest) (hW : (rest.map fun v => v.category).sum ≤ W) (hd : decode c.code pc = .ok (.invokestatic i, 3)) (hp : pc + 3 = pc')
    (k : ∀ (T' : State), Stand p l e R s m args below meth c T' locs cells slots → T'.heap = h → Wp p e s below C S Q T' (mkF m pc' Ls rest)) : Wp p e s below C S Q T (mkF m pc Ls st) := by
  refine own_call X hx hZ eT hown hml w1 w2 w3 w4 hM hy hf hl (by omega) (by omega) hpd hlen has hst hW hd hp ?_
  intro v T' L X' hq
  obtain ⟨rfl, rfl, e1⟩ := hq
  rw [List.append_nil, hc, hsl] at X'
  exact k T' X' e1
theorem own_body {x : MethodName} {code : ByteArray} {maxL : Nat} {ret : Option FieldType} {ws : List Jvm.Cond} {rm : Room} {Z : State} {as : Array Value} {h0 : Heap} (hx : plainFor x = true)
    (body : ∀ (p : Program) (e : Env) (s : State) (m : MethodId) (below : List Frame) (meth : Method) (c : Code) (T : State), p.tables.exec = Jvm.exec → c.code = code → c.maxLocals = maxL → meth.sig.returnType = ret → meth.locks = false → s.vm.findClass x.cls = some m.cls → meth.name = x.name → Z.Warmed39 s.vm → Stand p l e rm s m as below meth c T [] 0 0 → T.heap = h0 → Wp p e s below rm.cells rm.slots Q T (entryFrame m as maxL)) :
    MetFree l x (head1 (Jvm.Cond.code x code maxL ret :: ws) rm) (fun a U => a = as ∧ Z.Warmed39 U.vm ∧ U.heap = h0) (fun _ _ _ _ _ => True) (fun _ U o U' => ∃ v L, o = .returned v ∧ Q v U'.heap L ∧ FrameEnd U o U' L rm.cells rm.slots) := by
  refine MetFree.of_bodySF hx hisR ?_
  intro p e s m args below meth c s₁ Bd hml0 hP hK
  obtain ⟨rfl, hZ, hh⟩ := hP
  exact body p e s m below meth c s₁ Bd.exec Bd.bytes hml0 Bd.returns Bd.notSynchronized (findClass_of_methodNamed Bd.named) (name_of_methodNamed Bd.named Bd.method).1 hZ (Stand.of_body Bd) (by rw [← hh, Bd.state]; rfl)
end OwnW
/-! small numbers -/
theorem own_small {x : Int32} {n : Nat} (h0 : 0 ≤ x.toInt) (h1 : x.toInt < n) (hn : n ≤ 2147483648) : ∃ k : Nat, k < n ∧ x = Int32.ofNat k := by
  refine ⟨x.toInt.toNat, by omega, Int32.toInt_inj.mp ?_⟩
  rw [Int32.toInt_ofNat_of_lt (by omega)]
  omega
theorem own_mask (a : Int32) : 0 ≤ (a &&& 2147483647).toInt ∧ (a &&& 2147483647).toInt < 2147483648 := by
  have h := c_mask a 2147483647 31 (by decide) (by decide)
  omega
theorem own_rem (a d : Int32) (D : Nat) (hd : d.toInt = (D : Int)) (h0 : 0 < D) : ∃ k : Nat, k < D ∧ (a &&& 2147483647) % d = Int32.ofNat k := by
  have h := own_mask a
  have h2 := (c_irem (a &&& 2147483647) d D hd).1 h.1
  have h3 := Int.emod_nonneg (a &&& 2147483647).toInt (b := (D : Int)) (by omega)
  have h4 := Int.emod_lt_of_pos (a &&& 2147483647).toInt (b := (D : Int)) (by omega)
  have h5 := d.toInt_lt
  exact own_small (by omega) (by omega) (by omega)
theorem own_remP (y d : Int32) (D : Nat) (h0 : 0 ≤ y.toInt) (hd : d.toInt = (D : Int)) (h1 : 0 < D) : ∃ k : Nat, k < D ∧ y % d = Int32.ofNat k := by
  have h2 := (c_irem y d D hd).1 h0
  have h3 := Int.emod_nonneg y.toInt (b := (D : Int)) (by omega)
  have h4 := Int.emod_lt_of_pos y.toInt (b := (D : Int)) (by omega)
  have h5 := d.toInt_lt
  exact own_small (by omega) (by omega) (by omega)
theorem own_andk (a m : Int32) (M : Nat) (hm : m.toInt = (M : Int)) : ∃ k : Nat, k < M + 1 ∧ a &&& m = Int32.ofNat k := by
  have h := c_and a m (by omega)
  have h5 := m.toInt_lt
  exact own_small h.1 (by omega) (by omega)
theorem own_c1 {x : Int32} (h : ∃ k : Nat, k < 1 ∧ x = Int32.ofNat k) : x = 0 := by
  obtain ⟨k, hk, e⟩ := h
  obtain rfl : k = 0 := by omega
  exact e
theorem own_c2 {x : Int32} (h : ∃ k : Nat, k < 2 ∧ x = Int32.ofNat k) : x = 0 ∨ x = 1 := by
  obtain ⟨k, hk, e⟩ := h
  have q : k = 0 ∨ k = 1 := by omega
  rcases q with rfl | rfl
  · exact Or.inl e
  · exact Or.inr (e)
theorem own_c3 {x : Int32} (h : ∃ k : Nat, k < 3 ∧ x = Int32.ofNat k) : x = 0 ∨ x = 1 ∨ x = 2 := by
  obtain ⟨k, hk, e⟩ := h
  have q : k = 0 ∨ k = 1 ∨ k = 2 := by omega
  rcases q with rfl | rfl | rfl
  · exact Or.inl e
  · exact Or.inr (Or.inl e)
  · exact Or.inr (Or.inr (e))
theorem own_c4 {x : Int32} (h : ∃ k : Nat, k < 4 ∧ x = Int32.ofNat k) : x = 0 ∨ x = 1 ∨ x = 2 ∨ x = 3 := by
  obtain ⟨k, hk, e⟩ := h
  have q : k = 0 ∨ k = 1 ∨ k = 2 ∨ k = 3 := by omega
  rcases q with rfl | rfl | rfl | rfl
  · exact Or.inl e
  · exact Or.inr (Or.inl e)
  · exact Or.inr (Or.inr (Or.inl e))
  · exact Or.inr (Or.inr (Or.inr (e)))
theorem own_c5 {x : Int32} (h : ∃ k : Nat, k < 5 ∧ x = Int32.ofNat k) : x = 0 ∨ x = 1 ∨ x = 2 ∨ x = 3 ∨ x = 4 := by
  obtain ⟨k, hk, e⟩ := h
  have q : k = 0 ∨ k = 1 ∨ k = 2 ∨ k = 3 ∨ k = 4 := by omega
  rcases q with rfl | rfl | rfl | rfl | rfl
  · exact Or.inl e
  · exact Or.inr (Or.inl e)
  · exact Or.inr (Or.inr (Or.inl e))
  · exact Or.inr (Or.inr (Or.inr (Or.inl e)))
  · exact Or.inr (Or.inr (Or.inr (Or.inr (e))))
theorem own_c6 {x : Int32} (h : ∃ k : Nat, k < 6 ∧ x = Int32.ofNat k) : x = 0 ∨ x = 1 ∨ x = 2 ∨ x = 3 ∨ x = 4 ∨ x = 5 := by
  obtain ⟨k, hk, e⟩ := h
  have q : k = 0 ∨ k = 1 ∨ k = 2 ∨ k = 3 ∨ k = 4 ∨ k = 5 := by omega
  rcases q with rfl | rfl | rfl | rfl | rfl | rfl
  · exact Or.inl e
  · exact Or.inr (Or.inl e)
  · exact Or.inr (Or.inr (Or.inl e))
  · exact Or.inr (Or.inr (Or.inr (Or.inl e)))
  · exact Or.inr (Or.inr (Or.inr (Or.inr (Or.inl e))))
  · exact Or.inr (Or.inr (Or.inr (Or.inr (Or.inr (e)))))
theorem own_c7 {x : Int32} (h : ∃ k : Nat, k < 7 ∧ x = Int32.ofNat k) : x = 0 ∨ x = 1 ∨ x = 2 ∨ x = 3 ∨ x = 4 ∨ x = 5 ∨ x = 6 := by
  obtain ⟨k, hk, e⟩ := h
  have q : k = 0 ∨ k = 1 ∨ k = 2 ∨ k = 3 ∨ k = 4 ∨ k = 5 ∨ k = 6 := by omega
  rcases q with rfl | rfl | rfl | rfl | rfl | rfl | rfl
  · exact Or.inl e
  · exact Or.inr (Or.inl e)
  · exact Or.inr (Or.inr (Or.inl e))
  · exact Or.inr (Or.inr (Or.inr (Or.inl e)))
  · exact Or.inr (Or.inr (Or.inr (Or.inr (Or.inl e))))
  · exact Or.inr (Or.inr (Or.inr (Or.inr (Or.inr (Or.inl e)))))
  · exact Or.inr (Or.inr (Or.inr (Or.inr (Or.inr (Or.inr (e))))))
theorem own_c8 {x : Int32} (h : ∃ k : Nat, k < 8 ∧ x = Int32.ofNat k) : x = 0 ∨ x = 1 ∨ x = 2 ∨ x = 3 ∨ x = 4 ∨ x = 5 ∨ x = 6 ∨ x = 7 := by
  obtain ⟨k, hk, e⟩ := h
  have q : k = 0 ∨ k = 1 ∨ k = 2 ∨ k = 3 ∨ k = 4 ∨ k = 5 ∨ k = 6 ∨ k = 7 := by omega
  rcases q with rfl | rfl | rfl | rfl | rfl | rfl | rfl | rfl
  · exact Or.inl e
  · exact Or.inr (Or.inl e)
  · exact Or.inr (Or.inr (Or.inl e))
  · exact Or.inr (Or.inr (Or.inr (Or.inl e)))
  · exact Or.inr (Or.inr (Or.inr (Or.inr (Or.inl e))))
  · exact Or.inr (Or.inr (Or.inr (Or.inr (Or.inr (Or.inl e)))))
  · exact Or.inr (Or.inr (Or.inr (Or.inr (Or.inr (Or.inr (Or.inl e))))))
  · exact Or.inr (Or.inr (Or.inr (Or.inr (Or.inr (Or.inr (Or.inr (e)))))))
theorem own_c9 {x : Int32} (h : ∃ k : Nat, k < 9 ∧ x = Int32.ofNat k) : x = 0 ∨ x = 1 ∨ x = 2 ∨ x = 3 ∨ x = 4 ∨ x = 5 ∨ x = 6 ∨ x = 7 ∨ x = 8 := by
  obtain ⟨k, hk, e⟩ := h
  have q : k = 0 ∨ k = 1 ∨ k = 2 ∨ k = 3 ∨ k = 4 ∨ k = 5 ∨ k = 6 ∨ k = 7 ∨ k = 8 := by omega
  rcases q with rfl | rfl | rfl | rfl | rfl | rfl | rfl | rfl | rfl
  · exact Or.inl e
  · exact Or.inr (Or.inl e)
  · exact Or.inr (Or.inr (Or.inl e))
  · exact Or.inr (Or.inr (Or.inr (Or.inl e)))
  · exact Or.inr (Or.inr (Or.inr (Or.inr (Or.inl e))))
  · exact Or.inr (Or.inr (Or.inr (Or.inr (Or.inr (Or.inl e)))))
  · exact Or.inr (Or.inr (Or.inr (Or.inr (Or.inr (Or.inr (Or.inl e))))))
  · exact Or.inr (Or.inr (Or.inr (Or.inr (Or.inr (Or.inr (Or.inr (Or.inl e)))))))
  · exact Or.inr (Or.inr (Or.inr (Or.inr (Or.inr (Or.inr (Or.inr (Or.inr (e))))))))
theorem own_c10 {x : Int32} (h : ∃ k : Nat, k < 10 ∧ x = Int32.ofNat k) : x = 0 ∨ x = 1 ∨ x = 2 ∨ x = 3 ∨ x = 4 ∨ x = 5 ∨ x = 6 ∨ x = 7 ∨ x = 8 ∨ x = 9 := by
  obtain ⟨k, hk, e⟩ := h
  have q : k = 0 ∨ k = 1 ∨ k = 2 ∨ k = 3 ∨ k = 4 ∨ k = 5 ∨ k = 6 ∨ k = 7 ∨ k = 8 ∨ k = 9 := by omega
  rcases q with rfl | rfl | rfl | rfl | rfl | rfl | rfl | rfl | rfl | rfl
  · exact Or.inl e
  · exact Or.inr (Or.inl e)
  · exact Or.inr (Or.inr (Or.inl e))
  · exact Or.inr (Or.inr (Or.inr (Or.inl e)))
  · exact Or.inr (Or.inr (Or.inr (Or.inr (Or.inl e))))
  · exact Or.inr (Or.inr (Or.inr (Or.inr (Or.inr (Or.inl e)))))
  · exact Or.inr (Or.inr (Or.inr (Or.inr (Or.inr (Or.inr (Or.inl e))))))
  · exact Or.inr (Or.inr (Or.inr (Or.inr (Or.inr (Or.inr (Or.inr (Or.inl e)))))))
  · exact Or.inr (Or.inr (Or.inr (Or.inr (Or.inr (Or.inr (Or.inr (Or.inr (Or.inl e))))))))
  · exact Or.inr (Or.inr (Or.inr (Or.inr (Or.inr (Or.inr (Or.inr (Or.inr (Or.inr (e)))))))))
theorem own_c11 {x : Int32} (h : ∃ k : Nat, k < 11 ∧ x = Int32.ofNat k) : x = 0 ∨ x = 1 ∨ x = 2 ∨ x = 3 ∨ x = 4 ∨ x = 5 ∨ x = 6 ∨ x = 7 ∨ x = 8 ∨ x = 9 ∨ x = 10 := by
  obtain ⟨k, hk, e⟩ := h
  have q : k = 0 ∨ k = 1 ∨ k = 2 ∨ k = 3 ∨ k = 4 ∨ k = 5 ∨ k = 6 ∨ k = 7 ∨ k = 8 ∨ k = 9 ∨ k = 10 := by omega
  rcases q with rfl | rfl | rfl | rfl | rfl | rfl | rfl | rfl | rfl | rfl | rfl
  · exact Or.inl e
  · exact Or.inr (Or.inl e)
  · exact Or.inr (Or.inr (Or.inl e))
  · exact Or.inr (Or.inr (Or.inr (Or.inl e)))
  · exact Or.inr (Or.inr (Or.inr (Or.inr (Or.inl e))))
  · exact Or.inr (Or.inr (Or.inr (Or.inr (Or.inr (Or.inl e)))))
  · exact Or.inr (Or.inr (Or.inr (Or.inr (Or.inr (Or.inr (Or.inl e))))))
  · exact Or.inr (Or.inr (Or.inr (Or.inr (Or.inr (Or.inr (Or.inr (Or.inl e)))))))
  · exact Or.inr (Or.inr (Or.inr (Or.inr (Or.inr (Or.inr (Or.inr (Or.inr (Or.inl e))))))))
  · exact Or.inr (Or.inr (Or.inr (Or.inr (Or.inr (Or.inr (Or.inr (Or.inr (Or.inr (Or.inl e)))))))))
  · exact Or.inr (Or.inr (Or.inr (Or.inr (Or.inr (Or.inr (Or.inr (Or.inr (Or.inr (Or.inr (e))))))))))
theorem own_c12 {x : Int32} (h : ∃ k : Nat, k < 12 ∧ x = Int32.ofNat k) : x = 0 ∨ x = 1 ∨ x = 2 ∨ x = 3 ∨ x = 4 ∨ x = 5 ∨ x = 6 ∨ x = 7 ∨ x = 8 ∨ x = 9 ∨ x = 10 ∨ x = 11 := by
  obtain ⟨k, hk, e⟩ := h
  have q : k = 0 ∨ k = 1 ∨ k = 2 ∨ k = 3 ∨ k = 4 ∨ k = 5 ∨ k = 6 ∨ k = 7 ∨ k = 8 ∨ k = 9 ∨ k = 10 ∨ k = 11 := by omega
  rcases q with rfl | rfl | rfl | rfl | rfl | rfl | rfl | rfl | rfl | rfl | rfl | rfl
  · exact Or.inl e
  · exact Or.inr (Or.inl e)
  · exact Or.inr (Or.inr (Or.inl e))
  · exact Or.inr (Or.inr (Or.inr (Or.inl e)))
  · exact Or.inr (Or.inr (Or.inr (Or.inr (Or.inl e))))
  · exact Or.inr (Or.inr (Or.inr (Or.inr (Or.inr (Or.inl e)))))
  · exact Or.inr (Or.inr (Or.inr (Or.inr (Or.inr (Or.inr (Or.inl e))))))
  · exact Or.inr (Or.inr (Or.inr (Or.inr (Or.inr (Or.inr (Or.inr (Or.inl e)))))))
  · exact Or.inr (Or.inr (Or.inr (Or.inr (Or.inr (Or.inr (Or.inr (Or.inr (Or.inl e))))))))
  · exact Or.inr (Or.inr (Or.inr (Or.inr (Or.inr (Or.inr (Or.inr (Or.inr (Or.inr (Or.inl e)))))))))
  · exact Or.inr (Or.inr (Or.inr (Or.inr (Or.inr (Or.inr (Or.inr (Or.inr (Or.inr (Or.inr (Or.inl e))))))))))
  · exact Or.inr (Or.inr (Or.inr (Or.inr (Or.inr (Or.inr (Or.inr (Or.inr (Or.inr (Or.inr (Or.inr (e)))))))))))
theorem own_c13 {x : Int32} (h : ∃ k : Nat, k < 13 ∧ x = Int32.ofNat k) : x = 0 ∨ x = 1 ∨ x = 2 ∨ x = 3 ∨ x = 4 ∨ x = 5 ∨ x = 6 ∨ x = 7 ∨ x = 8 ∨ x = 9 ∨ x = 10 ∨ x = 11 ∨ x = 12 := by
  obtain ⟨k, hk, e⟩ := h
  have q : k = 0 ∨ k = 1 ∨ k = 2 ∨ k = 3 ∨ k = 4 ∨ k = 5 ∨ k = 6 ∨ k = 7 ∨ k = 8 ∨ k = 9 ∨ k = 10 ∨ k = 11 ∨ k = 12 := by omega
  rcases q with rfl | rfl | rfl | rfl | rfl | rfl | rfl | rfl | rfl | rfl | rfl | rfl | rfl
  · exact Or.inl e
  · exact Or.inr (Or.inl e)
  · exact Or.inr (Or.inr (Or.inl e))
  · exact Or.inr (Or.inr (Or.inr (Or.inl e)))
  · exact Or.inr (Or.inr (Or.inr (Or.inr (Or.inl e))))
  · exact Or.inr (Or.inr (Or.inr (Or.inr (Or.inr (Or.inl e)))))
  · exact Or.inr (Or.inr (Or.inr (Or.inr (Or.inr (Or.inr (Or.inl e))))))
  · exact Or.inr (Or.inr (Or.inr (Or.inr (Or.inr (Or.inr (Or.inr (Or.inl e)))))))
  · exact Or.inr (Or.inr (Or.inr (Or.inr (Or.inr (Or.inr (Or.inr (Or.inr (Or.inl e))))))))
  · exact Or.inr (Or.inr (Or.inr (Or.inr (Or.inr (Or.inr (Or.inr (Or.inr (Or.inr (Or.inl e)))))))))
  · exact Or.inr (Or.inr (Or.inr (Or.inr (Or.inr (Or.inr (Or.inr (Or.inr (Or.inr (Or.inr (Or.inl e))))))))))
  · exact Or.inr (Or.inr (Or.inr (Or.inr (Or.inr (Or.inr (Or.inr (Or.inr (Or.inr (Or.inr (Or.inr (Or.inl e)))))))))))
  · exact Or.inr (Or.inr (Or.inr (Or.inr (Or.inr (Or.inr (Or.inr (Or.inr (Or.inr (Or.inr (Or.inr (Or.inr (e))))))))))))
theorem own_c14 {x : Int32} (h : ∃ k : Nat, k < 14 ∧ x = Int32.ofNat k) : x = 0 ∨ x = 1 ∨ x = 2 ∨ x = 3 ∨ x = 4 ∨ x = 5 ∨ x = 6 ∨ x = 7 ∨ x = 8 ∨ x = 9 ∨ x = 10 ∨ x = 11 ∨ x = 12 ∨ x = 13 := by
  obtain ⟨k, hk, e⟩ := h
  have q : k = 0 ∨ k = 1 ∨ k = 2 ∨ k = 3 ∨ k = 4 ∨ k = 5 ∨ k = 6 ∨ k = 7 ∨ k = 8 ∨ k = 9 ∨ k = 10 ∨ k = 11 ∨ k = 12 ∨ k = 13 := by omega
  rcases q with rfl | rfl | rfl | rfl | rfl | rfl | rfl | rfl | rfl | rfl | rfl | rfl | rfl | rfl
  · exact Or.inl e
  · exact Or.inr (Or.inl e)
  · exact Or.inr (Or.inr (Or.inl e))
  · exact Or.inr (Or.inr (Or.inr (Or.inl e)))
  · exact Or.inr (Or.inr (Or.inr (Or.inr (Or.inl e))))
  · exact Or.inr (Or.inr (Or.inr (Or.inr (Or.inr (Or.inl e)))))
  · exact Or.inr (Or.inr (Or.inr (Or.inr (Or.inr (Or.inr (Or.inl e))))))
  · exact Or.inr (Or.inr (Or.inr (Or.inr (Or.inr (Or.inr (Or.inr (Or.inl e)))))))
  · exact Or.inr (Or.inr (Or.inr (Or.inr (Or.inr (Or.inr (Or.inr (Or.inr (Or.inl e))))))))
  · exact Or.inr (Or.inr (Or.inr (Or.inr (Or.inr (Or.inr (Or.inr (Or.inr (Or.inr (Or.inl e)))))))))
  · exact Or.inr (Or.inr (Or.inr (Or.inr (Or.inr (Or.inr (Or.inr (Or.inr (Or.inr (Or.inr (Or.inl e))))))))))
  · exact Or.inr (Or.inr (Or.inr (Or.inr (Or.inr (Or.inr (Or.inr (Or.inr (Or.inr (Or.inr (Or.inr (Or.inl e)))))))))))
  · exact Or.inr (Or.inr (Or.inr (Or.inr (Or.inr (Or.inr (Or.inr (Or.inr (Or.inr (Or.inr (Or.inr (Or.inr (Or.inl e))))))))))))
  · exact Or.inr (Or.inr (Or.inr (Or.inr (Or.inr (Or.inr (Or.inr (Or.inr (Or.inr (Or.inr (Or.inr (Or.inr (Or.inr (e)))))))))))))
theorem own_c15 {x : Int32} (h : ∃ k : Nat, k < 15 ∧ x = Int32.ofNat k) : x = 0 ∨ x = 1 ∨ x = 2 ∨ x = 3 ∨ x = 4 ∨ x = 5 ∨ x = 6 ∨ x = 7 ∨ x = 8 ∨ x = 9 ∨ x = 10 ∨ x = 11 ∨ x = 12 ∨ x = 13 ∨ x = 14 := by
  obtain ⟨k, hk, e⟩ := h
  have q : k = 0 ∨ k = 1 ∨ k = 2 ∨ k = 3 ∨ k = 4 ∨ k = 5 ∨ k = 6 ∨ k = 7 ∨ k = 8 ∨ k = 9 ∨ k = 10 ∨ k = 11 ∨ k = 12 ∨ k = 13 ∨ k = 14 := by omega
  rcases q with rfl | rfl | rfl | rfl | rfl | rfl | rfl | rfl | rfl | rfl | rfl | rfl | rfl | rfl | rfl
  · exact Or.inl e
  · exact Or.inr (Or.inl e)
  · exact Or.inr (Or.inr (Or.inl e))
  · exact Or.inr (Or.inr (Or.inr (Or.inl e)))
  · exact Or.inr (Or.inr (Or.inr (Or.inr (Or.inl e))))
  · exact Or.inr (Or.inr (Or.inr (Or.inr (Or.inr (Or.inl e)))))
  · exact Or.inr (Or.inr (Or.inr (Or.inr (Or.inr (Or.inr (Or.inl e))))))
  · exact Or.inr (Or.inr (Or.inr (Or.inr (Or.inr (Or.inr (Or.inr (Or.inl e)))))))
  · exact Or.inr (Or.inr (Or.inr (Or.inr (Or.inr (Or.inr (Or.inr (Or.inr (Or.inl e))))))))
  · exact Or.inr (Or.inr (Or.inr (Or.inr (Or.inr (Or.inr (Or.inr (Or.inr (Or.inr (Or.inl e)))))))))
  · exact Or.inr (Or.inr (Or.inr (Or.inr (Or.inr (Or.inr (Or.inr (Or.inr (Or.inr (Or.inr (Or.inl e))))))))))
  · exact Or.inr (Or.inr (Or.inr (Or.inr (Or.inr (Or.inr (Or.inr (Or.inr (Or.inr (Or.inr (Or.inr (Or.inl e)))))))))))
  · exact Or.inr (Or.inr (Or.inr (Or.inr (Or.inr (Or.inr (Or.inr (Or.inr (Or.inr (Or.inr (Or.inr (Or.inr (Or.inl e))))))))))))
  · exact Or.inr (Or.inr (Or.inr (Or.inr (Or.inr (Or.inr (Or.inr (Or.inr (Or.inr (Or.inr (Or.inr (Or.inr (Or.inr (Or.inl e)))))))))))))
  · exact Or.inr (Or.inr (Or.inr (Or.inr (Or.inr (Or.inr (Or.inr (Or.inr (Or.inr (Or.inr (Or.inr (Or.inr (Or.inr (Or.inr (e))))))))))))))
theorem own_c16 {x : Int32} (h : ∃ k : Nat, k < 16 ∧ x = Int32.ofNat k) : x = 0 ∨ x = 1 ∨ x = 2 ∨ x = 3 ∨ x = 4 ∨ x = 5 ∨ x = 6 ∨ x = 7 ∨ x = 8 ∨ x = 9 ∨ x = 10 ∨ x = 11 ∨ x = 12 ∨ x = 13 ∨ x = 14 ∨ x = 15 := by
  obtain ⟨k, hk, e⟩ := h
  have q : k = 0 ∨ k = 1 ∨ k = 2 ∨ k = 3 ∨ k = 4 ∨ k = 5 ∨ k = 6 ∨ k = 7 ∨ k = 8 ∨ k = 9 ∨ k = 10 ∨ k = 11 ∨ k = 12 ∨ k = 13 ∨ k = 14 ∨ k = 15 := by omega
  rcases q with rfl | rfl | rfl | rfl | rfl | rfl | rfl | rfl | rfl | rfl | rfl | rfl | rfl | rfl | rfl | rfl
  · exact Or.inl e
  · exact Or.inr (Or.inl e)
  · exact Or.inr (Or.inr (Or.inl e))
  · exact Or.inr (Or.inr (Or.inr (Or.inl e)))
  · exact Or.inr (Or.inr (Or.inr (Or.inr (Or.inl e))))
  · exact Or.inr (Or.inr (Or.inr (Or.inr (Or.inr (Or.inl e)))))
  · exact Or.inr (Or.inr (Or.inr (Or.inr (Or.inr (Or.inr (Or.inl e))))))
  · exact Or.inr (Or.inr (Or.inr (Or.inr (Or.inr (Or.inr (Or.inr (Or.inl e)))))))
  · exact Or.inr (Or.inr (Or.inr (Or.inr (Or.inr (Or.inr (Or.inr (Or.inr (Or.inl e))))))))
  · exact Or.inr (Or.inr (Or.inr (Or.inr (Or.inr (Or.inr (Or.inr (Or.inr (Or.inr (Or.inl e)))))))))
  · exact Or.inr (Or.inr (Or.inr (Or.inr (Or.inr (Or.inr (Or.inr (Or.inr (Or.inr (Or.inr (Or.inl e))))))))))
  · exact Or.inr (Or.inr (Or.inr (Or.inr (Or.inr (Or.inr (Or.inr (Or.inr (Or.inr (Or.inr (Or.inr (Or.inl e)))))))))))
  · exact Or.inr (Or.inr (Or.inr (Or.inr (Or.inr (Or.inr (Or.inr (Or.inr (Or.inr (Or.inr (Or.inr (Or.inr (Or.inl e))))))))))))
  · exact Or.inr (Or.inr (Or.inr (Or.inr (Or.inr (Or.inr (Or.inr (Or.inr (Or.inr (Or.inr (Or.inr (Or.inr (Or.inr (Or.inl e)))))))))))))
  · exact Or.inr (Or.inr (Or.inr (Or.inr (Or.inr (Or.inr (Or.inr (Or.inr (Or.inr (Or.inr (Or.inr (Or.inr (Or.inr (Or.inr (Or.inl e))))))))))))))
  · exact Or.inr (Or.inr (Or.inr (Or.inr (Or.inr (Or.inr (Or.inr (Or.inr (Or.inr (Or.inr (Or.inr (Or.inr (Or.inr (Or.inr (Or.inr (e)))))))))))))))
theorem own_c17 {x : Int32} (h : ∃ k : Nat, k < 17 ∧ x = Int32.ofNat k) : x = 0 ∨ x = 1 ∨ x = 2 ∨ x = 3 ∨ x = 4 ∨ x = 5 ∨ x = 6 ∨ x = 7 ∨ x = 8 ∨ x = 9 ∨ x = 10 ∨ x = 11 ∨ x = 12 ∨ x = 13 ∨ x = 14 ∨ x = 15 ∨ x = 16 := by
  obtain ⟨k, hk, e⟩ := h
  have q : k = 0 ∨ k = 1 ∨ k = 2 ∨ k = 3 ∨ k = 4 ∨ k = 5 ∨ k = 6 ∨ k = 7 ∨ k = 8 ∨ k = 9 ∨ k = 10 ∨ k = 11 ∨ k = 12 ∨ k = 13 ∨ k = 14 ∨ k = 15 ∨ k = 16 := by omega
  rcases q with rfl | rfl | rfl | rfl | rfl | rfl | rfl | rfl | rfl | rfl | rfl | rfl | rfl | rfl | rfl | rfl | rfl
  · exact Or.inl e
  · exact Or.inr (Or.inl e)
  · exact Or.inr (Or.inr (Or.inl e))
  · exact Or.inr (Or.inr (Or.inr (Or.inl e)))
  · exact Or.inr (Or.inr (Or.inr (Or.inr (Or.inl e))))
  · exact Or.inr (Or.inr (Or.inr (Or.inr (Or.inr (Or.inl e)))))
  · exact Or.inr (Or.inr (Or.inr (Or.inr (Or.inr (Or.inr (Or.inl e))))))
  · exact Or.inr (Or.inr (Or.inr (Or.inr (Or.inr (Or.inr (Or.inr (Or.inl e)))))))
  · exact Or.inr (Or.inr (Or.inr (Or.inr (Or.inr (Or.inr (Or.inr (Or.inr (Or.inl e))))))))
  · exact Or.inr (Or.inr (Or.inr (Or.inr (Or.inr (Or.inr (Or.inr (Or.inr (Or.inr (Or.inl e)))))))))
  · exact Or.inr (Or.inr (Or.inr (Or.inr (Or.inr (Or.inr (Or.inr (Or.inr (Or.inr (Or.inr (Or.inl e))))))))))
  · exact Or.inr (Or.inr (Or.inr (Or.inr (Or.inr (Or.inr (Or.inr (Or.inr (Or.inr (Or.inr (Or.inr (Or.inl e)))))))))))
  · exact Or.inr (Or.inr (Or.inr (Or.inr (Or.inr (Or.inr (Or.inr (Or.inr (Or.inr (Or.inr (Or.inr (Or.inr (Or.inl e))))))))))))
  · exact Or.inr (Or.inr (Or.inr (Or.inr (Or.inr (Or.inr (Or.inr (Or.inr (Or.inr (Or.inr (Or.inr (Or.inr (Or.inr (Or.inl e)))))))))))))
  · exact Or.inr (Or.inr (Or.inr (Or.inr (Or.inr (Or.inr (Or.inr (Or.inr (Or.inr (Or.inr (Or.inr (Or.inr (Or.inr (Or.inr (Or.inl e))))))))))))))
  · exact Or.inr (Or.inr (Or.inr (Or.inr (Or.inr (Or.inr (Or.inr (Or.inr (Or.inr (Or.inr (Or.inr (Or.inr (Or.inr (Or.inr (Or.inr (Or.inl e)))))))))))))))
  · exact Or.inr (Or.inr (Or.inr (Or.inr (Or.inr (Or.inr (Or.inr (Or.inr (Or.inr (Or.inr (Or.inr (Or.inr (Or.inr (Or.inr (Or.inr (Or.inr (e))))))))))))))))
theorem wd0 {Z : State} {a0 : Array Value} (hw : ∀ d ∈ tables_1, d.before a0 Z = true) : (Jvm.Cond.methodLink "com/example/scalewright/scalewright/LongDecimalsSubtractPinLaw" (17 : Nat) ({ cls := "com/example/scalewright/scalewright/LongDecimalsSubtractPinLaw", name := "pick", desc := "(JI)J" } : Jvm.MethodName)).before a0 Z = true := hw _ (List.mem_of_getElem? (i := 0) rfl)
theorem wd1 {Z : State} {a0 : Array Value} (hw : ∀ d ∈ tables_1, d.before a0 Z = true) : (Jvm.Cond.static ({ cls := "com/example/scalewright/scalewright/LongDecimalsSubtractPinLaw", name := "pick", desc := "(JI)J" } : Jvm.MethodName)).before a0 Z = true := hw _ (List.mem_of_getElem? (i := 1) rfl)
theorem wd2 {Z : State} {a0 : Array Value} (hw : ∀ d ∈ tables_1, d.before a0 Z = true) : (Jvm.Cond.initialized "com/example/scalewright/scalewright/LongDecimalsSubtractPinLaw").before a0 Z = true := hw _ (List.mem_of_getElem? (i := 2) rfl)
theorem wd3 {Z : State} {a0 : Array Value} (hw : ∀ d ∈ tables_1, d.before a0 Z = true) : (Jvm.Cond.code ({ cls := "com/example/scalewright/scalewright/LongDecimalsSubtractPinLaw", name := "pick", desc := "(JI)J" } : Jvm.MethodName) method_2_code (4 : Nat) (Option.some Jvm.ClassFile.FieldType.long)).before a0 Z = true := hw _ (List.mem_of_getElem? (i := 3) rfl)
theorem wd4 {Z : State} {a0 : Array Value} (hw : ∀ d ∈ tables_1, d.before a0 Z = true) : (Jvm.Cond.methodLink "com/example/scalewright/scalewright/LongDecimalsSubtractPinLaw" (23 : Nat) ({ cls := "com/example/scalewright/scalewright/LongDecimals", name := "subtract", desc := "(JJ)J" } : Jvm.MethodName)).before a0 Z = true := hw _ (List.mem_of_getElem? (i := 4) rfl)
theorem wd5 {Z : State} {a0 : Array Value} (hw : ∀ d ∈ tables_1, d.before a0 Z = true) : (Jvm.Cond.static ({ cls := "com/example/scalewright/scalewright/LongDecimals", name := "subtract", desc := "(JJ)J" } : Jvm.MethodName)).before a0 Z = true := hw _ (List.mem_of_getElem? (i := 5) rfl)
theorem wd6 {Z : State} {a0 : Array Value} (hw : ∀ d ∈ tables_1, d.before a0 Z = true) : (Jvm.Cond.initialized "com/example/scalewright/scalewright/LongDecimals").before a0 Z = true := hw _ (List.mem_of_getElem? (i := 6) rfl)
theorem wd7 {Z : State} {a0 : Array Value} (hw : ∀ d ∈ tables_1, d.before a0 Z = true) : (Jvm.Cond.code ({ cls := "com/example/scalewright/scalewright/LongDecimals", name := "subtract", desc := "(JJ)J" } : Jvm.MethodName) prog_40_method_7_code (6 : Nat) (Option.some Jvm.ClassFile.FieldType.long)).before a0 Z = true := hw _ (List.mem_of_getElem? (i := 7) rfl)
theorem wd8 {Z : State} {a0 : Array Value} (hw : ∀ d ∈ tables_1, d.before a0 Z = true) : (Jvm.Cond.constantLong "com/example/scalewright/scalewright/LongDecimals" (21 : Nat) (-9223372036854775808 : Int64)).before a0 Z = true := hw _ (List.mem_of_getElem? (i := 8) rfl)
theorem wd9 {Z : State} {a0 : Array Value} (hw : ∀ d ∈ tables_1, d.before a0 Z = true) : (Jvm.Cond.methodLink "com/example/scalewright/scalewright/LongDecimalsSubtractPinLaw" (29 : Nat) ({ cls := "com/example/scalewright/scalewright/LongDecimalsSubtractPinLaw", name := "expected", desc := "(JJ)J" } : Jvm.MethodName)).before a0 Z = true := hw _ (List.mem_of_getElem? (i := 9) rfl)
theorem wd10 {Z : State} {a0 : Array Value} (hw : ∀ d ∈ tables_1, d.before a0 Z = true) : (Jvm.Cond.static ({ cls := "com/example/scalewright/scalewright/LongDecimalsSubtractPinLaw", name := "expected", desc := "(JJ)J" } : Jvm.MethodName)).before a0 Z = true := hw _ (List.mem_of_getElem? (i := 10) rfl)
theorem wd11 {Z : State} {a0 : Array Value} (hw : ∀ d ∈ tables_1, d.before a0 Z = true) : (Jvm.Cond.code ({ cls := "com/example/scalewright/scalewright/LongDecimalsSubtractPinLaw", name := "expected", desc := "(JJ)J" } : Jvm.MethodName) method_3_code (4 : Nat) (Option.some Jvm.ClassFile.FieldType.long)).before a0 Z = true := hw _ (List.mem_of_getElem? (i := 11) rfl)
theorem wd12 {Z : State} {a0 : Array Value} (hw : ∀ d ∈ tables_1, d.before a0 Z = true) : (Jvm.Cond.constantLong "com/example/scalewright/scalewright/LongDecimalsSubtractPinLaw" (9 : Nat) (-9223372036854775808 : Int64)).before a0 Z = true := hw _ (List.mem_of_getElem? (i := 12) rfl)
theorem wd13 {Z : State} {a0 : Array Value} (hw : ∀ d ∈ tables_1, d.before a0 Z = true) : (Jvm.Cond.constantLong "com/example/scalewright/scalewright/LongDecimalsSubtractPinLaw" (11 : Nat) (255 : Int64)).before a0 Z = true := hw _ (List.mem_of_getElem? (i := 13) rfl)
theorem wd14 {Z : State} {a0 : Array Value} (hw : ∀ d ∈ tables_1, d.before a0 Z = true) : (Jvm.Cond.constantLong "com/example/scalewright/scalewright/LongDecimalsSubtractPinLaw" (15 : Nat) (128 : Int64)).before a0 Z = true := hw _ (List.mem_of_getElem? (i := 14) rfl)
theorem wd15 {Z : State} {a0 : Array Value} (hw : ∀ d ∈ tables_1, d.before a0 Z = true) : (Jvm.Cond.constantLong "com/example/scalewright/scalewright/LongDecimalsSubtractPinLaw" (13 : Nat) (9223372036854775807 : Int64)).before a0 Z = true := hw _ (List.mem_of_getElem? (i := 15) rfl)
theorem d1_0 : decode method_2_code 0 = .ok (.iload_n 2, 1) := by decide +kernel
theorem d1_1 : decode method_2_code 1 = .ok (.bipush 7, 2) := by decide +kernel
theorem d1_3 : decode method_2_code 3 = .ok (.iand, 1) := by decide +kernel
theorem d1_4 : decode method_2_code 4 = .ok (.istore_n 3, 1) := by decide +kernel
theorem d1_5 : decode method_2_code 5 = .ok (.iload_n 3, 1) := by decide +kernel
theorem d1_6 : decode method_2_code 6 = .ok (.iconst 1, 1) := by decide +kernel
theorem d1_7 : decode method_2_code 7 = .ok (.if_icmp .ne 13, 3) := by decide +kernel
theorem d1_10 : decode method_2_code 10 = .ok (.ldc2_w 9, 3) := by decide +kernel
theorem d1_13 : decode method_2_code 13 = .ok (.lload_n 0, 1) := by decide +kernel
theorem d1_14 : decode method_2_code 14 = .ok (.ldc2_w 11, 3) := by decide +kernel
theorem d1_17 : decode method_2_code 17 = .ok (.land, 1) := by decide +kernel
theorem d1_18 : decode method_2_code 18 = .ok (.ladd, 1) := by decide +kernel
theorem d1_19 : decode method_2_code 19 = .ok (.lreturn, 1) := by decide +kernel
theorem d1_20 : decode method_2_code 20 = .ok (.iload_n 3, 1) := by decide +kernel
theorem d1_21 : decode method_2_code 21 = .ok (.iconst 2, 1) := by decide +kernel
theorem d1_22 : decode method_2_code 22 = .ok (.if_icmp .ne 13, 3) := by decide +kernel
theorem d1_25 : decode method_2_code 25 = .ok (.ldc2_w 13, 3) := by decide +kernel
theorem d1_28 : decode method_2_code 28 = .ok (.lload_n 0, 1) := by decide +kernel
theorem d1_29 : decode method_2_code 29 = .ok (.ldc2_w 11, 3) := by decide +kernel
theorem d1_32 : decode method_2_code 32 = .ok (.land, 1) := by decide +kernel
theorem d1_33 : decode method_2_code 33 = .ok (.lsub, 1) := by decide +kernel
theorem d1_34 : decode method_2_code 34 = .ok (.lreturn, 1) := by decide +kernel
theorem d1_35 : decode method_2_code 35 = .ok (.iload_n 3, 1) := by decide +kernel
theorem d1_36 : decode method_2_code 36 = .ok (.iconst 3, 1) := by decide +kernel
theorem d1_37 : decode method_2_code 37 = .ok (.if_icmp .ne 13, 3) := by decide +kernel
theorem d1_40 : decode method_2_code 40 = .ok (.lload_n 0, 1) := by decide +kernel
theorem d1_41 : decode method_2_code 41 = .ok (.ldc2_w 11, 3) := by decide +kernel
theorem d1_44 : decode method_2_code 44 = .ok (.land, 1) := by decide +kernel
theorem d1_45 : decode method_2_code 45 = .ok (.ldc2_w 15, 3) := by decide +kernel
theorem d1_48 : decode method_2_code 48 = .ok (.lsub, 1) := by decide +kernel
theorem d1_49 : decode method_2_code 49 = .ok (.lreturn, 1) := by decide +kernel
theorem d1_50 : decode method_2_code 50 = .ok (.lload_n 0, 1) := by decide +kernel
theorem d1_51 : decode method_2_code 51 = .ok (.lreturn, 1) := by decide +kernel
theorem pn1 : plainFor (⟨"com/example/scalewright/scalewright/LongDecimalsSubtractPinLaw", "pick", "(JI)J"⟩ : MethodName) = true := plainFor_of_name (by first | (simp [plainName, overriddenIn]; done) | decide +kernel)
theorem pd1 : parseMethodDescriptor (⟨"com/example/scalewright/scalewright/LongDecimalsSubtractPinLaw", "pick", "(JI)J"⟩ : MethodName).desc = some ⟨[.long, .int], some .long⟩ := by decide +kernel
theorem ef1 (m : MethodId) (x0 : Int64) (x1 : Int32) : entryFrame m #[Value.long x0, Value.int x1] 4 = mkF m 0 #[.val (.long x0), .second, .val (.int x1), .unset] [] := by first | (simp [entryFrame, mkF, argsToLocals, Value.category]; done) | rfl
def sp1 (x0 : Int64) (x1 : Int32) : Int64 := (if (x1 &&& (7 : Int32)) = (1 : Int32) then ((-9223372036854775808 : Int64) + (x0 &&& (255 : Int64))) else (if (x1 &&& (7 : Int32)) = (2 : Int32) then ((9223372036854775807 : Int64) - (x0 &&& (255 : Int64))) else (if (x1 &&& (7 : Int32)) = (3 : Int32) then ((x0 &&& (255 : Int64)) - (128 : Int64)) else x0)))
set_option maxRecDepth 65536 in
set_option maxHeartbeats 40000000 in
theorem rm1 (l : Launch) (Z : State) (a0 : Array Value) (hw : ∀ d ∈ tables_1, d.before a0 Z = true) (ws : List Jvm.Cond) (x0 : Int64) (x1 : Int32) (hh : Heap) :
    MetFree l (⟨"com/example/scalewright/scalewright/LongDecimalsSubtractPinLaw", "pick", "(JI)J"⟩ : MethodName) (head1 (Jvm.Cond.code (⟨"com/example/scalewright/scalewright/LongDecimalsSubtractPinLaw", "pick", "(JI)J"⟩ : MethodName) method_2_code 4 (some .long) :: ws) ({ frames := 0, cells := 0, slots := 0, locals := 0 } : Room)) (fun a U => a = #[Value.long x0, Value.int x1] ∧ Z.Warmed39 U.vm ∧ U.heap = hh) (fun _ _ _ _ _ => True) (fun _ U o U' => ∃ v L, o = .returned v ∧ PureQ (Value.long (sp1 x0 x1)) hh v U'.heap L ∧ FrameEnd U o U' L ({ frames := 0, cells := 0, slots := 0, locals := 0 } : Room).cells ({ frames := 0, cells := 0, slots := 0, locals := 0 } : Room).slots) := by
  refine own_body pn1 ?_
  intro p e s m below meth c T0 hx hby hml hret hlk hown hnm hZ X0 e0
  refine own_cast (ef1 m x0 x1) ?_
  refine w_iloadN X0 hx (hb hby d1_0) rfl (pc' := 1) rfl ?_
  refine w_bipush (v := (7 : Int32)) X0 hx (hb hby d1_1) rfl (pc' := 3) rfl ?_
  refine w_iand X0 hx (hb hby d1_3) (pc' := 4) rfl ?_
  refine w_istoreN (l' := #[.val (.long x0), .second, .val (.int x1), .val (.int (x1 &&& (7 : Int32)))]) X0 hx (hb hby d1_4) rfl (pc' := 5) rfl ?_
  refine w_iloadN X0 hx (hb hby d1_5) rfl (pc' := 6) rfl ?_
  refine w_iconst (v := (1 : Int32)) X0 hx (hb hby d1_6) rfl (pc' := 7) rfl ?_
  refine w_icmp_ne X0 hx (hb hby d1_7) (by decide) (pcY := 20) (by decide) (pc' := 10) rfl (fun h0 => ?_) (fun h0 => ?_)
  · refine w_iloadN X0 hx (hb hby d1_20) rfl (pc' := 21) rfl ?_
    refine w_iconst (v := (2 : Int32)) X0 hx (hb hby d1_21) rfl (pc' := 22) rfl ?_
    refine w_icmp_ne X0 hx (hb hby d1_22) (by decide) (pcY := 35) (by decide) (pc' := 25) rfl (fun h1 => ?_) (fun h1 => ?_)
    · refine w_iloadN X0 hx (hb hby d1_35) rfl (pc' := 36) rfl ?_
      refine w_iconst (v := (3 : Int32)) X0 hx (hb hby d1_36) rfl (pc' := 37) rfl ?_
      refine w_icmp_ne X0 hx (hb hby d1_37) (by decide) (pcY := 50) (by decide) (pc' := 40) rfl (fun h2 => ?_) (fun h2 => ?_)
      · refine w_lloadN X0 hx (hb hby d1_50) rfl (pc' := 51) rfl ?_
        exact w_ret_l X0 hx hret hlk (hb hby d1_51) (by decide) (by decide) ⟨(congrArg (fun q => some (Value.long q)) (show x0 = sp1 x0 x1 from by rw [sp1, if_neg h0, if_neg h1, if_neg h2])), rfl, e0⟩
      · refine w_lloadN X0 hx (hb hby d1_40) rfl (pc' := 41) rfl ?_
        refine w_ldc2 X0 hx (hb hby d1_41) hown (mvT hZ (wd13 hw)) (pc' := 44) rfl ?_
        refine w_land X0 hx (hb hby d1_44) (pc' := 45) rfl ?_
        refine w_ldc2 X0 hx (hb hby d1_45) hown (mvT hZ (wd14 hw)) (pc' := 48) rfl ?_
        refine w_lsub X0 hx (hb hby d1_48) (pc' := 49) rfl ?_
        exact w_ret_l X0 hx hret hlk (hb hby d1_49) (by decide) (by decide) ⟨(congrArg (fun q => some (Value.long q)) (show ((x0 &&& (255 : Int64)) - (128 : Int64)) = sp1 x0 x1 from by rw [sp1, if_neg h0, if_neg h1, if_pos h2])), rfl, e0⟩
    · refine w_ldc2 X0 hx (hb hby d1_25) hown (mvT hZ (wd15 hw)) (pc' := 28) rfl ?_
      refine w_lloadN X0 hx (hb hby d1_28) rfl (pc' := 29) rfl ?_
      refine w_ldc2 X0 hx (hb hby d1_29) hown (mvT hZ (wd13 hw)) (pc' := 32) rfl ?_
      refine w_land X0 hx (hb hby d1_32) (pc' := 33) rfl ?_
      refine w_lsub X0 hx (hb hby d1_33) (pc' := 34) rfl ?_
      exact w_ret_l X0 hx hret hlk (hb hby d1_34) (by decide) (by decide) ⟨(congrArg (fun q => some (Value.long q)) (show ((9223372036854775807 : Int64) - (x0 &&& (255 : Int64))) = sp1 x0 x1 from by rw [sp1, if_neg h0, if_pos h1])), rfl, e0⟩
  · refine w_ldc2 X0 hx (hb hby d1_10) hown (mvT hZ (wd12 hw)) (pc' := 13) rfl ?_
    refine w_lloadN X0 hx (hb hby d1_13) rfl (pc' := 14) rfl ?_
    refine w_ldc2 X0 hx (hb hby d1_14) hown (mvT hZ (wd13 hw)) (pc' := 17) rfl ?_
    refine w_land X0 hx (hb hby d1_17) (pc' := 18) rfl ?_
    refine w_ladd X0 hx (hb hby d1_18) (pc' := 19) rfl ?_
    exact w_ret_l X0 hx hret hlk (hb hby d1_19) (by decide) (by decide) ⟨(congrArg (fun q => some (Value.long q)) (show ((-9223372036854775808 : Int64) + (x0 &&& (255 : Int64))) = sp1 x0 x1 from by rw [sp1, if_pos h0])), rfl, e0⟩
theorem d2_0 : decode prog_40_method_7_code 0 = .ok (.lload_n 0, 1) := by decide +kernel
theorem d2_1 : decode prog_40_method_7_code 1 = .ok (.lload_n 2, 1) := by decide +kernel
theorem d2_2 : decode prog_40_method_7_code 2 = .ok (.lsub, 1) := by decide +kernel
theorem d2_3 : decode prog_40_method_7_code 3 = .ok (.lstore 4, 2) := by decide +kernel
theorem d2_5 : decode prog_40_method_7_code 5 = .ok (.lload_n 0, 1) := by decide +kernel
theorem d2_6 : decode prog_40_method_7_code 6 = .ok (.ldc2_w 21, 3) := by decide +kernel
theorem d2_9 : decode prog_40_method_7_code 9 = .ok (.lcmp, 1) := by decide +kernel
theorem d2_10 : decode prog_40_method_7_code 10 = .ok (.ifCond .eq 24, 3) := by decide +kernel
theorem d2_13 : decode prog_40_method_7_code 13 = .ok (.lload_n 2, 1) := by decide +kernel
theorem d2_14 : decode prog_40_method_7_code 14 = .ok (.ldc2_w 21, 3) := by decide +kernel
theorem d2_17 : decode prog_40_method_7_code 17 = .ok (.lcmp, 1) := by decide +kernel
theorem d2_18 : decode prog_40_method_7_code 18 = .ok (.ifCond .eq 16, 3) := by decide +kernel
theorem d2_21 : decode prog_40_method_7_code 21 = .ok (.lload_n 0, 1) := by decide +kernel
theorem d2_22 : decode prog_40_method_7_code 22 = .ok (.lload_n 2, 1) := by decide +kernel
theorem d2_23 : decode prog_40_method_7_code 23 = .ok (.lxor, 1) := by decide +kernel
theorem d2_24 : decode prog_40_method_7_code 24 = .ok (.lload_n 0, 1) := by decide +kernel
theorem d2_25 : decode prog_40_method_7_code 25 = .ok (.lload 4, 2) := by decide +kernel
theorem d2_27 : decode prog_40_method_7_code 27 = .ok (.lxor, 1) := by decide +kernel
theorem d2_28 : decode prog_40_method_7_code 28 = .ok (.land, 1) := by decide +kernel
theorem d2_29 : decode prog_40_method_7_code 29 = .ok (.lconst 0, 1) := by decide +kernel
theorem d2_30 : decode prog_40_method_7_code 30 = .ok (.lcmp, 1) := by decide +kernel
theorem d2_31 : decode prog_40_method_7_code 31 = .ok (.ifCond .ge 9, 3) := by decide +kernel
theorem d2_34 : decode prog_40_method_7_code 34 = .ok (.ldc2_w 21, 3) := by decide +kernel
theorem d2_37 : decode prog_40_method_7_code 37 = .ok (.goto 5, 3) := by decide +kernel
theorem d2_40 : decode prog_40_method_7_code 40 = .ok (.lload 4, 2) := by decide +kernel
theorem d2_42 : decode prog_40_method_7_code 42 = .ok (.lreturn, 1) := by decide +kernel
theorem pn2 : plainFor (⟨"com/example/scalewright/scalewright/LongDecimals", "subtract", "(JJ)J"⟩ : MethodName) = true := plainFor_of_name (by first | (simp [plainName, overriddenIn]; done) | decide +kernel)
theorem pd2 : parseMethodDescriptor (⟨"com/example/scalewright/scalewright/LongDecimals", "subtract", "(JJ)J"⟩ : MethodName).desc = some ⟨[.long, .long], some .long⟩ := by decide +kernel
theorem ef2 (m : MethodId) (x0 : Int64) (x1 : Int64) : entryFrame m #[Value.long x0, Value.long x1] 6 = mkF m 0 #[.val (.long x0), .second, .val (.long x1), .second, .unset, .unset] [] := by first | (simp [entryFrame, mkF, argsToLocals, Value.category]; done) | rfl
def sp2 (x0 : Int64) (x1 : Int64) : Int64 := (if x0 = (-9223372036854775808 : Int64) then (-9223372036854775808 : Int64) else (if x1 = (-9223372036854775808 : Int64) then (-9223372036854775808 : Int64) else (if ((x0 ^^^ x1) &&& (x0 ^^^ (x0 - x1))) < (0 : Int64) then (-9223372036854775808 : Int64) else (x0 - x1))))
set_option maxRecDepth 65536 in
set_option maxHeartbeats 40000000 in
theorem rm2 (l : Launch) (Z : State) (a0 : Array Value) (hw : ∀ d ∈ tables_1, d.before a0 Z = true) (ws : List Jvm.Cond) (x0 : Int64) (x1 : Int64) (hh : Heap) :
    MetFree l (⟨"com/example/scalewright/scalewright/LongDecimals", "subtract", "(JJ)J"⟩ : MethodName) (head1 (Jvm.Cond.code (⟨"com/example/scalewright/scalewright/LongDecimals", "subtract", "(JJ)J"⟩ : MethodName) prog_40_method_7_code 6 (some .long) :: ws) ({ frames := 0, cells := 0, slots := 0, locals := 0 } : Room)) (fun a U => a = #[Value.long x0, Value.long x1] ∧ Z.Warmed39 U.vm ∧ U.heap = hh) (fun _ _ _ _ _ => True) (fun _ U o U' => ∃ v L, o = .returned v ∧ PureQ (Value.long (sp2 x0 x1)) hh v U'.heap L ∧ FrameEnd U o U' L ({ frames := 0, cells := 0, slots := 0, locals := 0 } : Room).cells ({ frames := 0, cells := 0, slots := 0, locals := 0 } : Room).slots) := by
  refine own_body pn2 ?_
  intro p e s m below meth c T0 hx hby hml hret hlk hown hnm hZ X0 e0
  refine own_cast (ef2 m x0 x1) ?_
  refine w_lloadN X0 hx (hb hby d2_0) rfl (pc' := 1) rfl ?_
  refine w_lloadN X0 hx (hb hby d2_1) rfl (pc' := 2) rfl ?_
  refine w_lsub X0 hx (hb hby d2_2) (pc' := 3) rfl ?_
  refine w_lstore (l' := #[.val (.long x0), .second, .val (.long x1), .second, .val (.long (x0 - x1)), .second]) X0 hx (hb hby d2_3) rfl (pc' := 5) rfl ?_
  refine w_lloadN X0 hx (hb hby d2_5) rfl (pc' := 6) rfl ?_
  refine w_ldc2 X0 hx (hb hby d2_6) hown (mvT hZ (wd8 hw)) (pc' := 9) rfl ?_
  refine w_lcmp_eq X0 hx (hb hby d2_9) rfl (hb hby d2_10) (by decide) (pcY := 34) (by decide) (pc' := 13) rfl (fun h0 => ?_) (fun h0 => ?_)
  · refine w_ldc2 X0 hx (hb hby d2_34) hown (mvT hZ (wd8 hw)) (pc' := 37) rfl ?_
    refine w_goto X0 hx (hb hby d2_37) (by decide) (pc' := 42) (by decide) ?_
    exact w_ret_l X0 hx hret hlk (hb hby d2_42) (by decide) (by decide) ⟨(congrArg (fun q => some (Value.long q)) (show (-9223372036854775808 : Int64) = sp2 x0 x1 from by rw [sp2, if_pos h0])), rfl, e0⟩
  · refine w_lloadN X0 hx (hb hby d2_13) rfl (pc' := 14) rfl ?_
    refine w_ldc2 X0 hx (hb hby d2_14) hown (mvT hZ (wd8 hw)) (pc' := 17) rfl ?_
    refine w_lcmp_eq X0 hx (hb hby d2_17) rfl (hb hby d2_18) (by decide) (pcY := 34) (by decide) (pc' := 21) rfl (fun h1 => ?_) (fun h1 => ?_)
    · refine w_ldc2 X0 hx (hb hby d2_34) hown (mvT hZ (wd8 hw)) (pc' := 37) rfl ?_
      refine w_goto X0 hx (hb hby d2_37) (by decide) (pc' := 42) (by decide) ?_
      exact w_ret_l X0 hx hret hlk (hb hby d2_42) (by decide) (by decide) ⟨(congrArg (fun q => some (Value.long q)) (show (-9223372036854775808 : Int64) = sp2 x0 x1 from by rw [sp2, if_neg h0, if_pos h1])), rfl, e0⟩
    · refine w_lloadN X0 hx (hb hby d2_21) rfl (pc' := 22) rfl ?_
      refine w_lloadN X0 hx (hb hby d2_22) rfl (pc' := 23) rfl ?_
      refine w_lxor X0 hx (hb hby d2_23) (pc' := 24) rfl ?_
      refine w_lloadN X0 hx (hb hby d2_24) rfl (pc' := 25) rfl ?_
      refine w_lload X0 hx (hb hby d2_25) rfl (pc' := 27) rfl ?_
      refine w_lxor X0 hx (hb hby d2_27) (pc' := 28) rfl ?_
      refine w_land X0 hx (hb hby d2_28) (pc' := 29) rfl ?_
      refine w_lconst (v := (0 : Int64)) X0 hx (hb hby d2_29) rfl (pc' := 30) rfl ?_
      refine w_lcmp_ge X0 hx (hb hby d2_30) rfl (hb hby d2_31) (by decide) (pcY := 40) (by decide) (pc' := 34) rfl (fun h2 => ?_) (fun h2 => ?_)
      · refine w_lload X0 hx (hb hby d2_40) rfl (pc' := 42) rfl ?_
        exact w_ret_l X0 hx hret hlk (hb hby d2_42) (by decide) (by decide) ⟨(congrArg (fun q => some (Value.long q)) (show (x0 - x1) = sp2 x0 x1 from by rw [sp2, if_neg h0, if_neg h1, if_neg h2])), rfl, e0⟩
      · refine w_ldc2 X0 hx (hb hby d2_34) hown (mvT hZ (wd8 hw)) (pc' := 37) rfl ?_
        refine w_goto X0 hx (hb hby d2_37) (by decide) (pc' := 42) (by decide) ?_
        exact w_ret_l X0 hx hret hlk (hb hby d2_42) (by decide) (by decide) ⟨(congrArg (fun q => some (Value.long q)) (show (-9223372036854775808 : Int64) = sp2 x0 x1 from by rw [sp2, if_neg h0, if_neg h1, if_pos h2])), rfl, e0⟩
theorem d3_0 : decode method_3_code 0 = .ok (.lload_n 0, 1) := by decide +kernel
theorem d3_1 : decode method_3_code 1 = .ok (.ldc2_w 9, 3) := by decide +kernel
theorem d3_4 : decode method_3_code 4 = .ok (.lcmp, 1) := by decide +kernel
theorem d3_5 : decode method_3_code 5 = .ok (.ifCond .eq 11, 3) := by decide +kernel
theorem d3_8 : decode method_3_code 8 = .ok (.lload_n 2, 1) := by decide +kernel
theorem d3_9 : decode method_3_code 9 = .ok (.ldc2_w 9, 3) := by decide +kernel
theorem d3_12 : decode method_3_code 12 = .ok (.lcmp, 1) := by decide +kernel
theorem d3_13 : decode method_3_code 13 = .ok (.ifCond .ne 7, 3) := by decide +kernel
theorem d3_16 : decode method_3_code 16 = .ok (.ldc2_w 9, 3) := by decide +kernel
theorem d3_19 : decode method_3_code 19 = .ok (.lreturn, 1) := by decide +kernel
theorem d3_20 : decode method_3_code 20 = .ok (.lload_n 2, 1) := by decide +kernel
theorem d3_21 : decode method_3_code 21 = .ok (.lconst 0, 1) := by decide +kernel
theorem d3_22 : decode method_3_code 22 = .ok (.lcmp, 1) := by decide +kernel
theorem d3_23 : decode method_3_code 23 = .ok (.ifCond .le 17, 3) := by decide +kernel
theorem d3_26 : decode method_3_code 26 = .ok (.lload_n 0, 1) := by decide +kernel
theorem d3_27 : decode method_3_code 27 = .ok (.ldc2_w 9, 3) := by decide +kernel
theorem d3_30 : decode method_3_code 30 = .ok (.lload_n 2, 1) := by decide +kernel
theorem d3_31 : decode method_3_code 31 = .ok (.ladd, 1) := by decide +kernel
theorem d3_32 : decode method_3_code 32 = .ok (.lcmp, 1) := by decide +kernel
theorem d3_33 : decode method_3_code 33 = .ok (.ifCond .ge 7, 3) := by decide +kernel
theorem d3_36 : decode method_3_code 36 = .ok (.ldc2_w 9, 3) := by decide +kernel
theorem d3_39 : decode method_3_code 39 = .ok (.lreturn, 1) := by decide +kernel
theorem d3_40 : decode method_3_code 40 = .ok (.lload_n 2, 1) := by decide +kernel
theorem d3_41 : decode method_3_code 41 = .ok (.lconst 0, 1) := by decide +kernel
theorem d3_42 : decode method_3_code 42 = .ok (.lcmp, 1) := by decide +kernel
theorem d3_43 : decode method_3_code 43 = .ok (.ifCond .ge 17, 3) := by decide +kernel
theorem d3_46 : decode method_3_code 46 = .ok (.lload_n 0, 1) := by decide +kernel
theorem d3_47 : decode method_3_code 47 = .ok (.ldc2_w 13, 3) := by decide +kernel
theorem d3_50 : decode method_3_code 50 = .ok (.lload_n 2, 1) := by decide +kernel
theorem d3_51 : decode method_3_code 51 = .ok (.ladd, 1) := by decide +kernel
theorem d3_52 : decode method_3_code 52 = .ok (.lcmp, 1) := by decide +kernel
theorem d3_53 : decode method_3_code 53 = .ok (.ifCond .le 7, 3) := by decide +kernel
theorem d3_56 : decode method_3_code 56 = .ok (.ldc2_w 9, 3) := by decide +kernel
theorem d3_59 : decode method_3_code 59 = .ok (.lreturn, 1) := by decide +kernel
theorem d3_60 : decode method_3_code 60 = .ok (.lload_n 0, 1) := by decide +kernel
theorem d3_61 : decode method_3_code 61 = .ok (.lload_n 2, 1) := by decide +kernel
theorem d3_62 : decode method_3_code 62 = .ok (.lsub, 1) := by decide +kernel
theorem d3_63 : decode method_3_code 63 = .ok (.lreturn, 1) := by decide +kernel
theorem pn3 : plainFor (⟨"com/example/scalewright/scalewright/LongDecimalsSubtractPinLaw", "expected", "(JJ)J"⟩ : MethodName) = true := plainFor_of_name (by first | (simp [plainName, overriddenIn]; done) | decide +kernel)
theorem pd3 : parseMethodDescriptor (⟨"com/example/scalewright/scalewright/LongDecimalsSubtractPinLaw", "expected", "(JJ)J"⟩ : MethodName).desc = some ⟨[.long, .long], some .long⟩ := by decide +kernel
theorem ef3 (m : MethodId) (x0 : Int64) (x1 : Int64) : entryFrame m #[Value.long x0, Value.long x1] 4 = mkF m 0 #[.val (.long x0), .second, .val (.long x1), .second] [] := by first | (simp [entryFrame, mkF, argsToLocals, Value.category]; done) | rfl
def sp3 (x0 : Int64) (x1 : Int64) : Int64 := (if x0 = (-9223372036854775808 : Int64) then (-9223372036854775808 : Int64) else (if x1 = (-9223372036854775808 : Int64) then (-9223372036854775808 : Int64) else (if (0 : Int64) < x1 then (if x0 < ((-9223372036854775808 : Int64) + x1) then (-9223372036854775808 : Int64) else (if x1 < (0 : Int64) then (if ((9223372036854775807 : Int64) + x1) < x0 then (-9223372036854775808 : Int64) else (x0 - x1)) else (x0 - x1))) else (if x1 < (0 : Int64) then (if ((9223372036854775807 : Int64) + x1) < x0 then (-9223372036854775808 : Int64) else (x0 - x1)) else (x0 - x1)))))
set_option maxRecDepth 65536 in
set_option maxHeartbeats 40000000 in
theorem rm3 (l : Launch) (Z : State) (a0 : Array Value) (hw : ∀ d ∈ tables_1, d.before a0 Z = true) (ws : List Jvm.Cond) (x0 : Int64) (x1 : Int64) (hh : Heap) :
    MetFree l (⟨"com/example/scalewright/scalewright/LongDecimalsSubtractPinLaw", "expected", "(JJ)J"⟩ : MethodName) (head1 (Jvm.Cond.code (⟨"com/example/scalewright/scalewright/LongDecimalsSubtractPinLaw", "expected", "(JJ)J"⟩ : MethodName) method_3_code 4 (some .long) :: ws) ({ frames := 0, cells := 0, slots := 0, locals := 0 } : Room)) (fun a U => a = #[Value.long x0, Value.long x1] ∧ Z.Warmed39 U.vm ∧ U.heap = hh) (fun _ _ _ _ _ => True) (fun _ U o U' => ∃ v L, o = .returned v ∧ PureQ (Value.long (sp3 x0 x1)) hh v U'.heap L ∧ FrameEnd U o U' L ({ frames := 0, cells := 0, slots := 0, locals := 0 } : Room).cells ({ frames := 0, cells := 0, slots := 0, locals := 0 } : Room).slots) := by
  refine own_body pn3 ?_
  intro p e s m below meth c T0 hx hby hml hret hlk hown hnm hZ X0 e0
  refine own_cast (ef3 m x0 x1) ?_
  refine w_lloadN X0 hx (hb hby d3_0) rfl (pc' := 1) rfl ?_
  refine w_ldc2 X0 hx (hb hby d3_1) hown (mvT hZ (wd12 hw)) (pc' := 4) rfl ?_
  refine w_lcmp_eq X0 hx (hb hby d3_4) rfl (hb hby d3_5) (by decide) (pcY := 16) (by decide) (pc' := 8) rfl (fun h0 => ?_) (fun h0 => ?_)
  · refine w_ldc2 X0 hx (hb hby d3_16) hown (mvT hZ (wd12 hw)) (pc' := 19) rfl ?_
    exact w_ret_l X0 hx hret hlk (hb hby d3_19) (by decide) (by decide) ⟨(congrArg (fun q => some (Value.long q)) (show (-9223372036854775808 : Int64) = sp3 x0 x1 from by rw [sp3, if_pos h0])), rfl, e0⟩
  · refine w_lloadN X0 hx (hb hby d3_8) rfl (pc' := 9) rfl ?_
    refine w_ldc2 X0 hx (hb hby d3_9) hown (mvT hZ (wd12 hw)) (pc' := 12) rfl ?_
    refine w_lcmp_ne X0 hx (hb hby d3_12) rfl (hb hby d3_13) (by decide) (pcY := 20) (by decide) (pc' := 16) rfl (fun h1 => ?_) (fun h1 => ?_)
    · refine w_lloadN X0 hx (hb hby d3_20) rfl (pc' := 21) rfl ?_
      refine w_lconst (v := (0 : Int64)) X0 hx (hb hby d3_21) rfl (pc' := 22) rfl ?_
      refine w_lcmp_le X0 hx (hb hby d3_22) rfl (hb hby d3_23) (by decide) (pcY := 40) (by decide) (pc' := 26) rfl (fun h2 => ?_) (fun h2 => ?_)
      · refine w_lloadN X0 hx (hb hby d3_40) rfl (pc' := 41) rfl ?_
        refine w_lconst (v := (0 : Int64)) X0 hx (hb hby d3_41) rfl (pc' := 42) rfl ?_
        refine w_lcmp_ge X0 hx (hb hby d3_42) rfl (hb hby d3_43) (by decide) (pcY := 60) (by decide) (pc' := 46) rfl (fun h3 => ?_) (fun h3 => ?_)
        · refine w_lloadN X0 hx (hb hby d3_60) rfl (pc' := 61) rfl ?_
          refine w_lloadN X0 hx (hb hby d3_61) rfl (pc' := 62) rfl ?_
          refine w_lsub X0 hx (hb hby d3_62) (pc' := 63) rfl ?_
          exact w_ret_l X0 hx hret hlk (hb hby d3_63) (by decide) (by decide) ⟨(congrArg (fun q => some (Value.long q)) (show (x0 - x1) = sp3 x0 x1 from by rw [sp3, if_neg h0, if_neg h1, if_neg h2, if_neg h3])), rfl, e0⟩
        · refine w_lloadN X0 hx (hb hby d3_46) rfl (pc' := 47) rfl ?_
          refine w_ldc2 X0 hx (hb hby d3_47) hown (mvT hZ (wd15 hw)) (pc' := 50) rfl ?_
          refine w_lloadN X0 hx (hb hby d3_50) rfl (pc' := 51) rfl ?_
          refine w_ladd X0 hx (hb hby d3_51) (pc' := 52) rfl ?_
          refine w_lcmp_le X0 hx (hb hby d3_52) rfl (hb hby d3_53) (by decide) (pcY := 60) (by decide) (pc' := 56) rfl (fun h4 => ?_) (fun h4 => ?_)
          · refine w_lloadN X0 hx (hb hby d3_60) rfl (pc' := 61) rfl ?_
            refine w_lloadN X0 hx (hb hby d3_61) rfl (pc' := 62) rfl ?_
            refine w_lsub X0 hx (hb hby d3_62) (pc' := 63) rfl ?_
            exact w_ret_l X0 hx hret hlk (hb hby d3_63) (by decide) (by decide) ⟨(congrArg (fun q => some (Value.long q)) (show (x0 - x1) = sp3 x0 x1 from by rw [sp3, if_neg h0, if_neg h1, if_neg h2, if_pos h3, if_neg h4])), rfl, e0⟩
          · refine w_ldc2 X0 hx (hb hby d3_56) hown (mvT hZ (wd12 hw)) (pc' := 59) rfl ?_
            exact w_ret_l X0 hx hret hlk (hb hby d3_59) (by decide) (by decide) ⟨(congrArg (fun q => some (Value.long q)) (show (-9223372036854775808 : Int64) = sp3 x0 x1 from by rw [sp3, if_neg h0, if_neg h1, if_neg h2, if_pos h3, if_pos h4])), rfl, e0⟩
      · refine w_lloadN X0 hx (hb hby d3_26) rfl (pc' := 27) rfl ?_
        refine w_ldc2 X0 hx (hb hby d3_27) hown (mvT hZ (wd12 hw)) (pc' := 30) rfl ?_
        refine w_lloadN X0 hx (hb hby d3_30) rfl (pc' := 31) rfl ?_
        refine w_ladd X0 hx (hb hby d3_31) (pc' := 32) rfl ?_
        refine w_lcmp_ge X0 hx (hb hby d3_32) rfl (hb hby d3_33) (by decide) (pcY := 40) (by decide) (pc' := 36) rfl (fun h5 => ?_) (fun h5 => ?_)
        · refine w_lloadN X0 hx (hb hby d3_40) rfl (pc' := 41) rfl ?_
          refine w_lconst (v := (0 : Int64)) X0 hx (hb hby d3_41) rfl (pc' := 42) rfl ?_
          refine w_lcmp_ge X0 hx (hb hby d3_42) rfl (hb hby d3_43) (by decide) (pcY := 60) (by decide) (pc' := 46) rfl (fun h6 => ?_) (fun h6 => ?_)
          · refine w_lloadN X0 hx (hb hby d3_60) rfl (pc' := 61) rfl ?_
            refine w_lloadN X0 hx (hb hby d3_61) rfl (pc' := 62) rfl ?_
            refine w_lsub X0 hx (hb hby d3_62) (pc' := 63) rfl ?_
            exact w_ret_l X0 hx hret hlk (hb hby d3_63) (by decide) (by decide) ⟨(congrArg (fun q => some (Value.long q)) (show (x0 - x1) = sp3 x0 x1 from by rw [sp3, if_neg h0, if_neg h1, if_pos h2, if_neg h5, if_neg h6])), rfl, e0⟩
          · refine w_lloadN X0 hx (hb hby d3_46) rfl (pc' := 47) rfl ?_
            refine w_ldc2 X0 hx (hb hby d3_47) hown (mvT hZ (wd15 hw)) (pc' := 50) rfl ?_
            refine w_lloadN X0 hx (hb hby d3_50) rfl (pc' := 51) rfl ?_
            refine w_ladd X0 hx (hb hby d3_51) (pc' := 52) rfl ?_
            refine w_lcmp_le X0 hx (hb hby d3_52) rfl (hb hby d3_53) (by decide) (pcY := 60) (by decide) (pc' := 56) rfl (fun h7 => ?_) (fun h7 => ?_)
            · refine w_lloadN X0 hx (hb hby d3_60) rfl (pc' := 61) rfl ?_
              refine w_lloadN X0 hx (hb hby d3_61) rfl (pc' := 62) rfl ?_
              refine w_lsub X0 hx (hb hby d3_62) (pc' := 63) rfl ?_
              exact w_ret_l X0 hx hret hlk (hb hby d3_63) (by decide) (by decide) ⟨(congrArg (fun q => some (Value.long q)) (show (x0 - x1) = sp3 x0 x1 from by rw [sp3, if_neg h0, if_neg h1, if_pos h2, if_neg h5, if_pos h6, if_neg h7])), rfl, e0⟩
            · refine w_ldc2 X0 hx (hb hby d3_56) hown (mvT hZ (wd12 hw)) (pc' := 59) rfl ?_
              exact w_ret_l X0 hx hret hlk (hb hby d3_59) (by decide) (by decide) ⟨(congrArg (fun q => some (Value.long q)) (show (-9223372036854775808 : Int64) = sp3 x0 x1 from by rw [sp3, if_neg h0, if_neg h1, if_pos h2, if_neg h5, if_pos h6, if_pos h7])), rfl, e0⟩
        · refine w_ldc2 X0 hx (hb hby d3_36) hown (mvT hZ (wd12 hw)) (pc' := 39) rfl ?_
          exact w_ret_l X0 hx hret hlk (hb hby d3_39) (by decide) (by decide) ⟨(congrArg (fun q => some (Value.long q)) (show (-9223372036854775808 : Int64) = sp3 x0 x1 from by rw [sp3, if_neg h0, if_neg h1, if_pos h2, if_pos h5])), rfl, e0⟩
    · refine w_ldc2 X0 hx (hb hby d3_16) hown (mvT hZ (wd12 hw)) (pc' := 19) rfl ?_
      exact w_ret_l X0 hx hret hlk (hb hby d3_19) (by decide) (by decide) ⟨(congrArg (fun q => some (Value.long q)) (show (-9223372036854775808 : Int64) = sp3 x0 x1 from by rw [sp3, if_neg h0, if_pos h1])), rfl, e0⟩
theorem pn0 : plainFor (⟨"com/example/scalewright/scalewright/LongDecimalsSubtractPinLaw", "law", "(JJI)Z"⟩ : MethodName) = true := plainFor_of_name (by first | (simp [plainName, overriddenIn]; done) | decide +kernel)
theorem pd0 : parseMethodDescriptor (⟨"com/example/scalewright/scalewright/LongDecimalsSubtractPinLaw", "law", "(JJI)Z"⟩ : MethodName).desc = some ⟨[.long, .long, .int], some .boolean⟩ := by decide +kernel
theorem ef0 (m : MethodId) (x0 : Int64) (x1 : Int64) (x2 : Int32) : entryFrame m #[Value.long x0, Value.long x1, Value.int x2] maxLocals = mkF m 0 #[.val (.long x0), .second, .val (.long x1), .second, .val (.int x2), .unset, .unset, .unset, .unset, .unset, .unset] [] := by first | (simp [entryFrame, mkF, argsToLocals, Value.category, maxLocals]; done) | rfl
def sp0 (x0 : Int64) (x1 : Int64) (x2 : Int32) : Int32 := (if (sp2 (sp1 x0 x2) (sp1 x1 (XT.ushr x2 (3 : Int32)))) = (sp3 (sp1 x0 x2) (sp1 x1 (XT.ushr x2 (3 : Int32)))) then (1 : Int32) else (0 : Int32))
set_option maxRecDepth 65536 in
set_option maxHeartbeats 40000000 in
theorem rm0 (l : Launch) (Z : State) (a0 : Array Value) (hw : ∀ d ∈ tables_1, d.before a0 Z = true) (ws : List Jvm.Cond) (x0 : Int64) (x1 : Int64) (x2 : Int32) (hh : Heap) :
    MetFree l x (head1 (Jvm.Cond.code x code maxLocals ret :: ws) room_1) (fun a U => a = #[Value.long x0, Value.long x1, Value.int x2] ∧ Z.Warmed39 U.vm ∧ U.heap = hh) (fun _ _ _ _ _ => True) (fun _ U o U' => ∃ v L, o = .returned v ∧ PureQ (Value.int (sp0 x0 x1 x2)) hh v U'.heap L ∧ FrameEnd U o U' L room_1.cells room_1.slots) := by
  refine own_body pn0 ?_
  intro p e s m below meth c T0 hx hby hml hret hlk hown hnm hZ X0 e0
  refine own_cast (ef0 m x0 x1 x2) ?_
  refine w_lloadN X0 hx (hb hby at_0) rfl (pc' := 1) rfl ?_
  refine w_iload X0 hx (hb hby at_1) rfl (pc' := 3) rfl ?_
  refine w_callP (W := 0) X0 hx hZ e0 hown hml.symm (wd0 hw) (wd1 hw) (wd2 hw) (wd3 hw) (rm1 l Z a0 hw [] x0 x2 hh) (by decide) (by decide) (by decide) rfl rfl (by decide) (by decide) (argsL := [.long x0, .int x2]) (rest := []) pd1 rfl rfl rfl (Nat.le_of_eq rfl) (hb hby at_3) (pc' := 6) rfl ?_
  intro T1 X1 e1
  refine w_lstore (l' := #[.val (.long x0), .second, .val (.long x1), .second, .val (.int x2), .val (.long (sp1 x0 x2)), .second, .unset, .unset, .unset, .unset]) X1 hx (hb hby at_6) rfl (pc' := 8) rfl ?_
  refine w_lloadN X1 hx (hb hby at_8) rfl (pc' := 9) rfl ?_
  refine w_iload X1 hx (hb hby at_9) rfl (pc' := 11) rfl ?_
  refine w_iconst (v := (3 : Int32)) X1 hx (hb hby at_11) rfl (pc' := 12) rfl ?_
  refine w_iushr X1 hx (hb hby at_12) (pc' := 13) rfl ?_
  refine w_callP (W := 0) X1 hx hZ e1 hown hml.symm (wd0 hw) (wd1 hw) (wd2 hw) (wd3 hw) (rm1 l Z a0 hw [] x1 (XT.ushr x2 (3 : Int32)) hh) (by decide) (by decide) (by decide) rfl rfl (by decide) (by decide) (argsL := [.long x1, .int (XT.ushr x2 (3 : Int32))]) (rest := []) pd1 rfl rfl rfl (Nat.le_of_eq rfl) (hb hby at_13) (pc' := 16) rfl ?_
  intro T2 X2 e2
  refine w_lstore (l' := #[.val (.long x0), .second, .val (.long x1), .second, .val (.int x2), .val (.long (sp1 x0 x2)), .second, .val (.long (sp1 x1 (XT.ushr x2 (3 : Int32)))), .second, .unset, .unset]) X2 hx (hb hby at_16) rfl (pc' := 18) rfl ?_
  refine w_lload X2 hx (hb hby at_18) rfl (pc' := 20) rfl ?_
  refine w_lload X2 hx (hb hby at_20) rfl (pc' := 22) rfl ?_
  refine w_callP (W := 0) X2 hx hZ e2 hown hml.symm (wd4 hw) (wd5 hw) (wd6 hw) (wd7 hw) (rm2 l Z a0 hw [] (sp1 x0 x2) (sp1 x1 (XT.ushr x2 (3 : Int32))) hh) (by decide) (by decide) (by decide) rfl rfl (by decide) (by decide) (argsL := [.long (sp1 x0 x2), .long (sp1 x1 (XT.ushr x2 (3 : Int32)))]) (rest := []) pd2 rfl rfl rfl (Nat.le_of_eq rfl) (hb hby at_22) (pc' := 25) rfl ?_
  intro T3 X3 e3
  refine w_lstore (l' := #[.val (.long x0), .second, .val (.long x1), .second, .val (.int x2), .val (.long (sp1 x0 x2)), .second, .val (.long (sp1 x1 (XT.ushr x2 (3 : Int32)))), .second, .val (.long (sp2 (sp1 x0 x2) (sp1 x1 (XT.ushr x2 (3 : Int32))))), .second]) X3 hx (hb hby at_25) rfl (pc' := 27) rfl ?_
  refine w_lload X3 hx (hb hby at_27) rfl (pc' := 29) rfl ?_
  refine w_lload X3 hx (hb hby at_29) rfl (pc' := 31) rfl ?_
  refine w_lload X3 hx (hb hby at_31) rfl (pc' := 33) rfl ?_
  refine w_callP (W := 2) X3 hx hZ e3 hown hml.symm (wd9 hw) (wd10 hw) (wd2 hw) (wd11 hw) (rm3 l Z a0 hw [] (sp1 x0 x2) (sp1 x1 (XT.ushr x2 (3 : Int32))) hh) (by decide) (by decide) (by decide) rfl rfl (by decide) (by decide) (argsL := [.long (sp1 x0 x2), .long (sp1 x1 (XT.ushr x2 (3 : Int32)))]) (rest := [.long (sp2 (sp1 x0 x2) (sp1 x1 (XT.ushr x2 (3 : Int32))))]) pd3 rfl rfl rfl (Nat.le_of_eq rfl) (hb hby at_33) (pc' := 36) rfl ?_
  intro T4 X4 e4
  refine w_lcmp_ne X4 hx (hb hby at_36) rfl (hb hby at_37) (by decide) (pcY := 44) (by decide) (pc' := 40) rfl (fun h0 => ?_) (fun h0 => ?_)
  · refine w_iconst (v := (0 : Int32)) X4 hx (hb hby at_44) rfl (pc' := 45) rfl ?_
    exact w_ret_n (t := .boolean) X4 hx hret hlk (by simp) (hb hby at_45) (z' := (0 : Int32)) rfl (by decide) (by decide) ⟨(congrArg (fun q => some (Value.int q)) (show (0 : Int32) = sp0 x0 x1 x2 from by rw [sp0, if_neg h0])), rfl, e4⟩
  · refine w_iconst (v := (1 : Int32)) X4 hx (hb hby at_40) rfl (pc' := 41) rfl ?_
    refine w_goto X4 hx (hb hby at_41) (by decide) (pc' := 45) (by decide) ?_
    exact w_ret_n (t := .boolean) X4 hx hret hlk (by simp) (hb hby at_45) (z' := (1 : Int32)) rfl (by decide) (by decide) ⟨(congrArg (fun q => some (Value.int q)) (show (1 : Int32) = sp0 x0 x1 x2 from by rw [sp0, if_pos h0])), rfl, e4⟩
theorem own_sx (a b : Int64) : (a ^^^ b) < 0 ↔ (a.toInt < 0 ↔ ¬ b.toInt < 0) := by
  obtain ⟨p1, p2, p3, p4⟩ := c_xorSL a b
  rw [Int64.lt_iff_toInt_lt]
  show (a ^^^ b).toInt < 0 ↔ _
  by_cases h1 : a.toInt < 0
  · by_cases h2 : b.toInt < 0
    · have := p1 h1 h2; omega
    · have := p2 h1 (by omega); omega
  · by_cases h2 : b.toInt < 0
    · have := p3 (by omega) h2; omega
    · have := p4 (by omega) (by omega); omega
theorem own_sa (a b : Int64) : (a &&& b) < 0 ↔ (a < 0 ∧ b < 0) := by
  obtain ⟨p1, p2, p3⟩ := c_andSL a b
  rw [Int64.lt_iff_toInt_lt, Int64.lt_iff_toInt_lt, Int64.lt_iff_toInt_lt]
  show (a &&& b).toInt < 0 ↔ (a.toInt < 0 ∧ b.toInt < 0)
  by_cases h1 : a.toInt < 0
  · by_cases h2 : b.toInt < 0
    · have := p1 h1 h2; omega
    · have := p3 (by omega); omega
  · have := p2 (by omega); omega

theorem own_same (a b : Int64) : sp2 a b = sp3 a b := by
  have ha := rng64 a
  have hb := rng64 b
  have hs := rng64 (a - b)
  have h1 := c_lsub a b
  have h2 := c_ladd 9223372036854775807 b
  have h3 := c_ladd (-9223372036854775808) b
  have r2 := rng64 (9223372036854775807 + b)
  have r3 := rng64 (-9223372036854775808 + b)
  unfold sp2 sp3
  by_cases q1 : a = -9223372036854775808
  · rw [if_pos q1, if_pos q1]
  · by_cases q2 : b = -9223372036854775808
    · rw [if_neg q1, if_neg q1, if_pos q2, if_pos q2]
    · rw [if_neg q1, if_neg q1, if_neg q2, if_neg q2]
      have q3 : b.toInt ≠ -9223372036854775808 := fun h => q2 (Int64.toInt_inj.mp h)
      simp only [own_sa, own_sx]
      simp only [Int64.lt_iff_toInt_lt, Int64.reduceToInt] at *
      (repeat' split) <;> first | rfl | (exfalso; omega)
theorem own_law (x0 x1 : Int64) (x2 : Int32) : sp0 x0 x1 x2 = 1 := by
  unfold sp0
  rw [if_pos (own_same _ _)]
set_option maxRecDepth 65536 in
set_option maxHeartbeats 40000000 in
theorem comes_1 {Post : Tables → Env → Array Value → State → Outcome → State → Prop} (hpost : ∀ tb e args s v u, (limb_1_1.after args s (.returned v) u = true ∧ limb_1_2.after args s (.returned v) u = true ∧ True) → FrameEnd s (.returned v) u (Jvm.fieldLocs frame_1_writes args s ++ Jvm.arrayLocs frame_1_arrays args s ++ Jvm.staticLocs frame_1_statics s) 0 0 → Post tb e args s (.returned v) u) :
    ArmFor flags0 classFile x code maxLocals ret World_1 tables_1 room_1 Calls_1 rest_1 Pre_1 Post := by
  intro l hfl _ _ p e ha hc hk s m args below hf hA hF happ hP
  obtain ⟨hcalls, hrest, hpre⟩ := hP
  obtain ⟨-, -, -, hnamed, -, -, -, hat⟩ := (Spec.applies_iff hf).mp happ
  obtain ⟨hg, hn⟩ := and_e (Cond.before_iff.mp (show (Jvm.Cond.and given_1 narrow_1).before args s = true from hpre))
  obtain ⟨g0, k0⟩ := and_e hg
  obtain ⟨q0, k1⟩ := and_e k0
  obtain ⟨q1, k2⟩ := and_e k1
  have q2 := k2
  obtain ⟨w0, w1, w2, rfl⟩ : ∃ w0 w1 w2 : Value, args = #[w0, w1, w2] := by
    have hs : args.size = 3 := by simpa [Cond.value, given_1] using g0
    obtain ⟨L⟩ := args
    match L, hs with
    | [w0, w1, w2], _ => exact ⟨w0, w1, w2, rfl⟩
  have hw := fun d (hd : d ∈ tables_1) => atoms_spec (ws := Jvm.Cond.code x code maxLocals ret :: tables_1) hat d (List.mem_cons_of_mem _ hd)
  obtain ⟨i0, ei0⟩ := isL_v q0
  obtain rfl : w0 = (.long i0) := Option.some.inj ei0
  obtain ⟨i1, ei1⟩ := isL_v q1
  obtain rfl : w1 = (.long i1) := Option.some.inj ei1
  obtain ⟨i2, ei2⟩ := is_v q2
  obtain rfl : w2 = (.int i2) := Option.some.inj ei2
  obtain ⟨n, o, h1, h2, h3, _, L, rfl, ⟨rfl, rfl, -⟩, hq⟩ := rm0 l s _ hw tables_1 i0 i1 i2 s.heap p e ha hc hk s m _ below hf ((Spec.applies_iff_loose hf).mp happ).1 ⟨rfl, State.Warmed39.refl s, rfl⟩ trivial
  have hv := own_law i0 i1 i2
  rw [hv] at hq h3
  have N : Fr s.heap.size [] := Fr.nil _
  refine ⟨n, _, h1, h2, h3, hpost _ _ _ _ _ _ ⟨Cond.after_iff.mpr rfl, Cond.after_iff.mpr (eq_i res_at (Term.int_eval (1)) rfl), trivial⟩ ⟨hq.1, hq.2.1, (hq.2.2.sift fun y hy => Or.inr (N y hy)).mono (by decide) (by decide)⟩⟩
theorem main_1_1 : Claimed_1_1 := comes_1 fun _ _ _ _ _ _ h hF => ⟨h.1, hF⟩
theorem main_1_2 : Claimed_1_2 := comes_1 fun _ _ _ _ _ _ h hF => ⟨h.2.1, hF⟩
end Jvm.Pilot.@@N@@
namespace Jvm.Pilot.@@N@@
open Jvm Jvm.ClassFile Sem Op Lib Jvm.Free Jvm.Stand Jvm.Pilot.@@N@@.Jvm.D
/-! MADE BY PROGRAM (witnessworld.py) out of the Statement's table words and the real class files: 9 classes; the members and pool entries that the words name. The judged class is class 1, her method 3. -/
namespace start1
open Jvm.ClassFile
def u (s : String) : CpInfo := .utf8 (stringToUtf16 s)
/-- a pool by its gaps: so many unusable entries, then the entry; so many at the end -/
def gap : Nat → List CpInfo → List CpInfo
  | 0, r => r
  | n + 1, r => .unusable :: gap n r
def poolList (es : List (Nat × CpInfo)) (last : Nat) : List CpInfo := es.foldr (fun e r => gap e.1 (e.2 :: r)) (gap last [])
def pool (es : List (Nat × CpInfo)) (last : Nat) : Array CpInfo := ⟨poolList es last⟩
def fileOf (pool : Array CpInfo) (this : Nat) (attrs : Array Attribute := #[]) (ms : Array MethodInfo := #[]) (fl : Nat := 33) (sup : Nat := 0) (ifs : Array Nat := #[]) (fds : Array FieldInfo := #[]) : ClassFile where
  minorVersion := 0
  majorVersion := 65
  constantPool := pool
  accessFlags := fl
  thisClass := this
  superClass := sup
  interfaces := ifs
  fields := fds
  methods := ms
  attributes := attrs
def plain (name : String) (sup : Option ClassId) : Class where
  name := name
  kind := .ordinary
  loader := none
  accessFlags := 33
  super := sup
  interfaces := #[]
  cf := none
  fields := #[]
  methods := #[]
  instanceTypes := #[]
  staticTypes := #[]
  resolved := #[]
  callSites := []
  init := .initialized
  statics := none
  mirror := none

def pool0 : Array CpInfo := pool [(5, u "<init>"), (0, u "()V"), (1, .class_ 10), (1, u "java/lang/Object")] 113

def k0m0 : Method := { name := "<init>", desc := "()V", sig := { parameters := [], returnType := none }, accessFlags := 1, code := none }
/-- java/lang/Object -/
def k0 : Class := { plain "java/lang/Object" none with
  accessFlags := 33
  interfaces := #[]
  cf := some (fileOf pool0 8 #[] #[{ accessFlags := 1, nameIndex := 5, descriptorIndex := 6, attributes := #[] }] 33 0 #[] #[])
  fields := #[]
  methods := #[k0m0]
  instanceTypes := #[]
  staticTypes := #[]
  resolved := Array.replicate 124 none
  statics := none }

def pool1 : Array CpInfo := pool [(2, .class_ 4), (1, u "java/lang/Object"), (0, u "<init>"), (0, u "()V"), (2, .long 9223372036854775808), (1, .long 255), (1, .long 9223372036854775807), (1, .long 128), (1, .methodref 18 19), (0, .class_ 20), (0, .nameAndType 21 22), (0, u "com/example/scalewright/scalewright/LongDecimalsSubtractPinLaw"), (0, u "pick"), (0, u "(JI)J"), (0, .methodref 24 25), (0, .class_ 26), (0, .nameAndType 27 28), (0, u "com/example/scalewright/scalewright/LongDecimals"), (0, u "subtract"), (0, u "(JJ)J"), (0, .methodref 18 30), (0, .nameAndType 31 28), (0, u "expected"), (3, u "law"), (0, u "(JJI)Z")] 2

def k1m0 : Method := { name := "<init>", desc := "()V", sig := { parameters := [], returnType := none }, accessFlags := 2, code := none }
def k1c1 : Code := { maxStack := 6, maxLocals := 4, code := method_2_code, exceptionTable := #[], attributes := #[] }
def k1m1 : Method := { name := "pick", desc := "(JI)J", sig := { parameters := [.long, .int], returnType := some .long }, accessFlags := 10, code := some k1c1 }
def k1c2 : Code := { maxStack := 6, maxLocals := 4, code := method_3_code, exceptionTable := #[], attributes := #[] }
def k1m2 : Method := { name := "expected", desc := "(JJ)J", sig := { parameters := [.long, .long], returnType := some .long }, accessFlags := 10, code := some k1c2 }
def k1c3 : Code := { maxStack := 6, maxLocals := 11, code := code, exceptionTable := #[], attributes := #[] }
def k1m3 : Method := { name := "law", desc := "(JJI)Z", sig := { parameters := [.long, .long, .int], returnType := some .boolean }, accessFlags := 9, code := some k1c3 }
/-- com/example/scalewright/scalewright/LongDecimalsSubtractPinLaw -/
def k1 : Class := { plain "com/example/scalewright/scalewright/LongDecimalsSubtractPinLaw" (some 0) with
  accessFlags := 49
  interfaces := #[]
  cf := some (fileOf pool1 18 #[] #[{ accessFlags := 2, nameIndex := 5, descriptorIndex := 6, attributes := #[] }, { accessFlags := 10, nameIndex := 21, descriptorIndex := 22, attributes := #[] }, { accessFlags := 10, nameIndex := 31, descriptorIndex := 28, attributes := #[] }, { accessFlags := 9, nameIndex := 35, descriptorIndex := 36, attributes := #[] }] 49 2 #[] #[])
  fields := #[]
  methods := #[k1m0, k1m1, k1m2, k1m3]
  instanceTypes := #[]
  staticTypes := #[]
  resolved := Array.replicate 39 none
  statics := none }

def pool2 : Array CpInfo := pool [(4, .class_ 6), (1, u "java/lang/Object"), (0, u "<init>"), (0, u "()V"), (1, .class_ 12), (1, u "com/example/scalewright/scalewright/LongDecimals"), (0, u "POWERS_OF_TEN"), (0, u "[J"), (6, .long 9223372036854775808), (21, u "(JJ)J"), (17, u "NONE"), (0, u "J"), (1, u "MAX_DIGITS"), (0, u "I"), (1, u "EXACT_IN_DOUBLE"), (9, u "subtract")] 24

def k2m0 : Method := { name := "<init>", desc := "()V", sig := { parameters := [], returnType := none }, accessFlags := 2, code := none }
def k2c1 : Code := { maxStack := 6, maxLocals := 6, code := prog_40_method_7_code, exceptionTable := #[], attributes := #[] }
def k2m1 : Method := { name := "subtract", desc := "(JJ)J", sig := { parameters := [.long, .long], returnType := some .long }, accessFlags := 8, code := some k2c1 }
/-- com/example/scalewright/scalewright/LongDecimals -/
def k2 : Class := { plain "com/example/scalewright/scalewright/LongDecimals" (some 0) with
  accessFlags := 48
  interfaces := #[]
  cf := some (fileOf pool2 10 #[] #[{ accessFlags := 2, nameIndex := 7, descriptorIndex := 8, attributes := #[] }, { accessFlags := 8, nameIndex := 77, descriptorIndex := 43, attributes := #[] }] 48 4 #[] #[{ accessFlags := 24, nameIndex := 61, descriptorIndex := 62, attributes := #[] }, { accessFlags := 24, nameIndex := 64, descriptorIndex := 65, attributes := #[] }, { accessFlags := 26, nameIndex := 67, descriptorIndex := 62, attributes := #[] }, { accessFlags := 26, nameIndex := 13, descriptorIndex := 14, attributes := #[] }])
  fields := #[{ name := "NONE", type := .long, accessFlags := 24, slot := 0, constantValue := 0 }, { name := "MAX_DIGITS", type := .int, accessFlags := 24, slot := 1, constantValue := 0 }, { name := "EXACT_IN_DOUBLE", type := .long, accessFlags := 26, slot := 2, constantValue := 0 }, { name := "POWERS_OF_TEN", type := (.array .long), accessFlags := 26, slot := 3, constantValue := 0 }]
  methods := #[k2m0, k2m1]
  instanceTypes := #[]
  staticTypes := #[.long, .int, .long, (.array .long)]
  resolved := Array.replicate 102 none
  statics := none }

def pool3 : Array CpInfo := pool [(1, u "java/lang/Cloneable"), (0, .class_ 1), (0, u "java/lang/Object"), (0, .class_ 3)] 3

/-- java/lang/Cloneable -/
def k3 : Class := { plain "java/lang/Cloneable" (some 0) with
  accessFlags := 1537
  interfaces := #[]
  cf := some (fileOf pool3 2 #[] #[] 1537 4 #[] #[])
  fields := #[]
  methods := #[]
  instanceTypes := #[]
  staticTypes := #[]
  resolved := Array.replicate 8 none
  statics := none }

def pool4 : Array CpInfo := pool [(1, u "java/io/Serializable"), (0, .class_ 1), (0, u "java/lang/Object"), (0, .class_ 3)] 3

/-- java/io/Serializable -/
def k4 : Class := { plain "java/io/Serializable" (some 0) with
  accessFlags := 1537
  interfaces := #[]
  cf := some (fileOf pool4 2 #[] #[] 1537 4 #[] #[])
  fields := #[]
  methods := #[]
  instanceTypes := #[]
  staticTypes := #[]
  resolved := Array.replicate 8 none
  statics := none }

/-- the primitive byte -/
def k5 : Class := { plain "byte" none with kind := .primitive 'B', accessFlags := 0x411 }
/-- [B -/
def k6 : Class := { plain "[B" (some 0) with kind := .array 5 .byte, interfaces := #[3, 4], accessFlags := 1041 }

/-- the primitive int -/
def k7 : Class := { plain "int" none with kind := .primitive 'I', accessFlags := 0x411 }
/-- [I -/
def k8 : Class := { plain "[I" (some 0) with kind := .array 7 .int, interfaces := #[3, 4], accessFlags := 1041 }

def heap : Heap := #[]
def classes : Array Class := #[k0, k1, k2, k3, k4, k5, k6, k7, k8]
def interned : List (Array UInt16 × Addr) := []
def slotsUsed : Nat := 0
def theMethod : MethodId := ⟨1, 3⟩
def args0 : Array Value := #[.long 65, .long 3, .int 3]
def aboutOver (below : List Frame) : State where
  vm := { classes := classes, interned := interned.toArray }
  heap := heap
  slotsUsed := slotsUsed
  threads := #[{ frames := .invoking theMethod args0 :: below }]
def below0 : List Frame := [.native { method := ⟨0, 0⟩, args := #[] }]
def about1 : State := aboutOver below0
def p0 : Program := .bare "" "" ""
def e0 : Env := launch0.env 0 0 0
theorem w_frames : about1.frames = Frame.invoking theMethod args0 :: below0 := rfl
set_option maxRecDepth 65536 in
theorem w_args : argsFit about1.vm theMethod args0 = true := by decide +kernel
set_option maxRecDepth 65536 in
theorem w_heap : heapFits about1 = true := by decide +kernel
set_option maxRecDepth 65536 in
theorem w_runnable : about1.curStatus? = some .runnable := by decide +kernel
set_option maxRecDepth 65536 in
theorem w_alone : about1.alone = true := by decide +kernel
set_option maxRecDepth 65536 in
theorem w_named : about1.methodNamed? x = some theMethod := by decide +kernel
set_option maxRecDepth 65536 in
theorem w_hears : about1.hears theMethod below0 = true := by decide +kernel
set_option maxRecDepth 65536 in
theorem w_ripe : about1.ripe theMethod args0 below0 = true := by decide +kernel
theorem w_running : about1.status = .running := rfl
set_option maxRecDepth 65536 in
theorem w_room : about1.hasRoom e0.platform room_1 = true :=
  launch0.hasRoom_least _ room_1 (by decide +kernel) (by decide +kernel) (by decide +kernel) (by decide +kernel) (by decide +kernel) (by decide +kernel)
theorem allAtoms_all (ts : List Jvm.Cond) (a : Array Jvm.Value) (st : Jvm.State) : (allAtoms ts).before a st = ts.all (fun c => c.before a st) := by
  induction ts with
  | nil => rfl
  | cons c t ih =>
    show (Jvm.Cond.and c (allAtoms t)).before a st = _
    rw [Jvm.Cond.before_and, ih, List.all_cons]
def words1 : List Jvm.Cond := Jvm.Cond.code x code maxLocals ret :: tables_1
/-- a 'code' word, met by the world's own term for the bytes: nothing is compared byte by byte -/
theorem code_word {y : MethodName} {bytes : ByteArray} {mx : Nat} {rt : Option FieldType} {a : Array Value} {s : State} {m : MethodId} {meth : Method} {c : Code} (h1 : s.methodNamed? y = some m) (h2 : s.vm.method? m = some meth) (h3 : meth.code = some c) (h4 : c.code = bytes)
    (h5 : (c.maxLocals == mx && c.exceptionTable.isEmpty && decide (c.maxStack ≤ mostOperands) && decide (meth.sig.returnType = rt) && !meth.locks && decide (parseMethodDescriptor y.desc = some meth.sig)) = true) : (Jvm.Cond.code y bytes mx rt).before a s = true := by
  simp only [Bool.and_eq_true, beq_iff_eq, Bool.not_eq_true', decide_eq_true_eq] at h5
  obtain ⟨⟨⟨⟨⟨g1, g2⟩, g3⟩, g4⟩, g5⟩, g6⟩ := h5
  simp [Cond.before, Cond.holds, Cond.value, h1, h2, h3, h4, g1, g2, g3, g4, g5, g6]
def isCode : Jvm.Cond → Bool
  | .code _ _ _ _ => true
  | _ => false
theorem all_split {L : List Jvm.Cond} {P : Jvm.Cond → Bool} (h1 : L.all (fun c => isCode c || P c) = true) (h2 : ∀ c ∈ L.filter isCode, P c = true) : L.all P = true := by
  refine List.all_eq_true.mpr fun c hc => ?_
  have h := List.all_eq_true.mp h1 c hc
  rcases Bool.eq_false_or_eq_true (isCode c) with hi | hi
  · exact h2 c (List.mem_filter.mpr ⟨hc, hi⟩)
  · simpa [hi] using h
set_option maxRecDepth 65536 in
theorem w_c0 : (Jvm.Cond.code x code maxLocals ret).before args0 about1 = true := code_word (m := ⟨1, 3⟩) (meth := k1m3) (c := k1c3) (by decide +kernel) rfl rfl rfl (by decide +kernel)
set_option maxRecDepth 65536 in
theorem w_c1 : (Jvm.Cond.code ({ cls := "com/example/scalewright/scalewright/LongDecimalsSubtractPinLaw", name := "pick", desc := "(JI)J" } : Jvm.MethodName) method_2_code (4 : Nat) (Option.some Jvm.ClassFile.FieldType.long)).before args0 about1 = true := code_word (m := ⟨1, 1⟩) (meth := k1m1) (c := k1c1) (by decide +kernel) rfl rfl rfl (by decide +kernel)
set_option maxRecDepth 65536 in
theorem w_c2 : (Jvm.Cond.code ({ cls := "com/example/scalewright/scalewright/LongDecimals", name := "subtract", desc := "(JJ)J" } : Jvm.MethodName) prog_40_method_7_code (6 : Nat) (Option.some Jvm.ClassFile.FieldType.long)).before args0 about1 = true := code_word (m := ⟨2, 1⟩) (meth := k2m1) (c := k2c1) (by decide +kernel) rfl rfl rfl (by decide +kernel)
set_option maxRecDepth 65536 in
theorem w_c3 : (Jvm.Cond.code ({ cls := "com/example/scalewright/scalewright/LongDecimalsSubtractPinLaw", name := "expected", desc := "(JJ)J" } : Jvm.MethodName) method_3_code (4 : Nat) (Option.some Jvm.ClassFile.FieldType.long)).before args0 about1 = true := code_word (m := ⟨1, 2⟩) (meth := k1m2) (c := k1c2) (by decide +kernel) rfl rfl rfl (by decide +kernel)
def codes1 : List Jvm.Cond := [Jvm.Cond.code x code maxLocals ret, Jvm.Cond.code ({ cls := "com/example/scalewright/scalewright/LongDecimalsSubtractPinLaw", name := "pick", desc := "(JI)J" } : Jvm.MethodName) method_2_code (4 : Nat) (Option.some Jvm.ClassFile.FieldType.long), Jvm.Cond.code ({ cls := "com/example/scalewright/scalewright/LongDecimals", name := "subtract", desc := "(JJ)J" } : Jvm.MethodName) prog_40_method_7_code (6 : Nat) (Option.some Jvm.ClassFile.FieldType.long), Jvm.Cond.code ({ cls := "com/example/scalewright/scalewright/LongDecimalsSubtractPinLaw", name := "expected", desc := "(JJ)J" } : Jvm.MethodName) method_3_code (4 : Nat) (Option.some Jvm.ClassFile.FieldType.long)]
set_option maxRecDepth 65536 in
theorem codes_eq : words1.filter isCode = codes1 := rfl
theorem w_codes : ∀ c ∈ words1.filter isCode, c.before args0 about1 = true := by
  rw [codes_eq]
  intro c hc
  simp only [codes1, List.mem_cons, List.not_mem_nil, or_false] at hc
  rcases hc with rfl | rfl | rfl | rfl
  · exact w_c0
  · exact w_c1
  · exact w_c2
  · exact w_c3
set_option maxRecDepth 65536 in
theorem w_t1 : words1.all (fun c => isCode c || c.before args0 about1) = true := by decide +kernel
theorem w_tables : (allAtoms (Jvm.Cond.code x code maxLocals ret :: tables_1)).before args0 about1 = true := by
  rw [allAtoms_all]
  show words1.all (fun c => c.before args0 about1) = true
  refine all_split ?_ w_codes
  rw [w_t1]
set_option maxRecDepth 65536 in
theorem w_case : (Jvm.Cond.and given_1 narrow_1).before args0 about1 = true := by decide +kernel
theorem w_applies : (headSpec (Jvm.Cond.code x code maxLocals ret :: tables_1) room_1).applies x e0.platform about1 = true :=
  (Spec.applies_iff w_frames).mpr ⟨w_running, w_runnable, w_alone, w_named, w_hears, w_ripe, w_room, w_tables⟩
theorem atStart : AtStart classFile x code maxLocals ret World_1 tables_1 room_1 Calls_1 rest_1 Pre_1 launch0 p0 e0 about1 theMethod args0 below0 :=
  ⟨lists_1, trivial, launch0.admits_env _ _ _, launch0.least_env, fairChoices_fair.cas, fairChoices_fair.clock, w_frames, w_args, w_heap, w_applies, trivial, trivial, w_case⟩
end start1
theorem witness_1 : WitnessClaimed_1 := ⟨start1.p0, start1.e0, start1.about1, start1.theMethod, start1.args0, start1.below0, start1.atStart⟩
end Jvm.Pilot.@@N@@
