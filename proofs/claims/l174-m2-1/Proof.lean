import JvmDerived
import JvmDerived.Pilot.@@N@@Statement
import JvmDerived.Pilot.@@N@@Code
set_option linter.unusedVariables false
set_option linter.unusedSimpArgs false
namespace Jvm.RoadKit
open Sem ClassFile Op Lib Jvm.Stand Jvm.Free Jvm.LawKit
section New
variable {p : Program} {l : Launch} {e : Env} {R : Room} {s : State} {m : MethodId} {args : Array Value} {below : List Frame} {meth : Method} {c : Code} {T : State} {locs : List Loc} {cells slots : Nat}
theorem retI (X : Stand p l e R s m args below meth c T locs cells slots) (hx : p.tables.exec = Jvm.exec) {pc : Nat} {Ls : Array Slot} {z : Int32} {rest : List Value} (hret : meth.sig.returnType = some .int) (hd : decode c.code pc = .ok (.ireturn, 1)) {fs : List Frame}
    (hl : ∀ (f : JFrame) (acts : List Action), f.method = m → f.locked = none → f.entered = [] → (doReturn e (T.setTop f) acts (some (.int z))).1 = T.setFrames fs) : Steps p.tables e below (T.setTop (mkF m pc Ls (.int z :: rest))) (T.setFrames fs) := by
  have hm' : T.vm.method? m = some meth := X.method'
  have hn : narrow .int (.int z) = .int z := rfl
  show Steps p.tables e below (T.setTop { method := m, pc := pc, locals := Ls, stack := _ :: rest, locked := none }) _
  jvm_step X.here [X.here.top, hx, hd, hm', hret, hn]
  first | (intro acts; rw [hl _ acts rfl rfl rfl]) | rw [hl _ _ rfl rfl rfl]
  exact Steps.refl _
end New
end Jvm.RoadKit
namespace Jvm.Pilot.@@N@@
open Jvm Jvm.ClassFile Sem Op Lib Jvm.Free Jvm.Stand Jvm.LawKit Jvm.RoadKit Bundle Jvm.Pilot.@@N@@.Jvm.D
def Wp (p : Program) (e : Env) (s : State) (below : List Frame) (C S : Nat) (Q : Option Value → Heap → List Loc → Prop) (T : State) (g : JFrame) : Prop :=
  ∃ s₂ o, Steps p.tables e below (T.setTop g) s₂ ∧ s₂.status = .running ∧ Ended s₂ below o ∧ ∃ v L, o = .returned v ∧ Q v s₂.heap L ∧ FrameEnd s o s₂ L C S
section OwnW
variable {p : Program} {l : Launch} {e : Env} {R : Room} {s : State} {m : MethodId} {args : Array Value} {below : List Frame} {meth : Method} {c : Code} {T : State} {locs : List Loc} {cells slots : Nat} {C S : Nat} {Q : Option Value → Heap → List Loc → Prop} {pc pc' : Nat} {Ls : Array Slot} {st : List Value}
theorem Wp.via {T' : State} {g g' : JFrame} (st : ∀ t, Steps p.tables e below (T'.setTop g') t → Steps p.tables e below (T.setTop g) t) (k : Wp p e s below C S Q T' g') : Wp p e s below C S Q T g := by
  obtain ⟨s₂, o, h1, h2⟩ := k
  exact ⟨s₂, o, st _ h1, h2⟩
theorem w_iload (X : Stand p l e R s m args below meth c T locs cells slots) (hx : p.tables.exec = Jvm.exec) {k : Nat} {v : Int32} (hd : decode c.code pc = .ok (.iload k, 2)) (hl : Ls[k]? = some (.val (.int v))) (hp : pc + 2 = pc') (k : Wp p e s below C S Q T (mkF m pc' Ls (Value.int v :: st))) : Wp p e s below C S Q T (mkF m pc Ls (st)) := by
  subst hp
  exact Wp.via (fun _ h => XS.iload X.here hx rfl hd hl h) k
theorem w_iloadN (X : Stand p l e R s m args below meth c T locs cells slots) (hx : p.tables.exec = Jvm.exec) {k : Fin 4} {v : Int32} (hd : decode c.code pc = .ok (.iload_n k, 1)) (hl : Ls[k.val]? = some (.val (.int v))) (hp : pc + 1 = pc') (k : Wp p e s below C S Q T (mkF m pc' Ls (Value.int v :: st))) : Wp p e s below C S Q T (mkF m pc Ls (st)) := by
  subst hp
  exact Wp.via (fun _ h => XS.iloadN X.here hx rfl hd hl h) k
theorem w_lload (X : Stand p l e R s m args below meth c T locs cells slots) (hx : p.tables.exec = Jvm.exec) {k : Nat} {v : Int64} (hd : decode c.code pc = .ok (.lload k, 2)) (hl : Ls[k]? = some (.val (.long v))) (hp : pc + 2 = pc') (k : Wp p e s below C S Q T (mkF m pc' Ls (Value.long v :: st))) : Wp p e s below C S Q T (mkF m pc Ls (st)) := by
  subst hp
  exact Wp.via (fun _ h => XT.lload X.here hx rfl hd hl h) k
theorem w_lloadN (X : Stand p l e R s m args below meth c T locs cells slots) (hx : p.tables.exec = Jvm.exec) {k : Fin 4} {v : Int64} (hd : decode c.code pc = .ok (.lload_n k, 1)) (hl : Ls[k.val]? = some (.val (.long v))) (hp : pc + 1 = pc') (k : Wp p e s below C S Q T (mkF m pc' Ls (Value.long v :: st))) : Wp p e s below C S Q T (mkF m pc Ls (st)) := by
  subst hp
  exact Wp.via (fun _ h => XT.lloadN X.here hx rfl hd hl h) k
theorem w_aload (X : Stand p l e R s m args below meth c T locs cells slots) (hx : p.tables.exec = Jvm.exec) {k : Nat} {v : Value} (hd : decode c.code pc = .ok (.aload k, 2)) (hl : Ls[k]? = some (.val v)) (hv : v.isRef = true) (hp : pc + 2 = pc') (k : Wp p e s below C S Q T (mkF m pc' Ls (v :: st))) : Wp p e s below C S Q T (mkF m pc Ls (st)) := by
  subst hp
  exact Wp.via (fun _ h => XS.aload X.here hx rfl hd hl hv h) k
theorem w_aloadN (X : Stand p l e R s m args below meth c T locs cells slots) (hx : p.tables.exec = Jvm.exec) {k : Fin 4} {v : Value} (hd : decode c.code pc = .ok (.aload_n k, 1)) (hl : Ls[k.val]? = some (.val v)) (hv : v.isRef = true) (hp : pc + 1 = pc') (k : Wp p e s below C S Q T (mkF m pc' Ls (v :: st))) : Wp p e s below C S Q T (mkF m pc Ls (st)) := by
  subst hp
  exact Wp.via (fun _ h => XS.aloadN X.here hx rfl hd hl hv h) k
theorem w_istore (X : Stand p l e R s m args below meth c T locs cells slots) (hx : p.tables.exec = Jvm.exec) {k : Nat} {v : Int32} {l' : Array Slot} (hd : decode c.code pc = .ok (.istore k, 2)) (hl : storeLocals Ls k (Value.int v) = some l') (hp : pc + 2 = pc') (k : Wp p e s below C S Q T (mkF m pc' l' (st))) : Wp p e s below C S Q T (mkF m pc Ls (Value.int v :: st)) := by
  subst hp
  exact Wp.via (fun _ h => XS.istore X.here hx rfl hd rfl hl h) k
theorem w_istoreN (X : Stand p l e R s m args below meth c T locs cells slots) (hx : p.tables.exec = Jvm.exec) {k : Fin 4} {v : Int32} {l' : Array Slot} (hd : decode c.code pc = .ok (.istore_n k, 1)) (hl : storeLocals Ls k.val (Value.int v) = some l') (hp : pc + 1 = pc') (k : Wp p e s below C S Q T (mkF m pc' l' (st))) : Wp p e s below C S Q T (mkF m pc Ls (Value.int v :: st)) := by
  subst hp
  exact Wp.via (fun _ h => XS.istoreN X.here hx rfl hd rfl hl h) k
theorem w_lstore (X : Stand p l e R s m args below meth c T locs cells slots) (hx : p.tables.exec = Jvm.exec) {k : Nat} {v : Int64} {l' : Array Slot} (hd : decode c.code pc = .ok (.lstore k, 2)) (hl : storeLocals Ls k (Value.long v) = some l') (hp : pc + 2 = pc') (k : Wp p e s below C S Q T (mkF m pc' l' (st))) : Wp p e s below C S Q T (mkF m pc Ls (Value.long v :: st)) := by
  subst hp
  exact Wp.via (fun _ h => XT.lstore X.here hx rfl hd rfl hl h) k
theorem w_lstoreN (X : Stand p l e R s m args below meth c T locs cells slots) (hx : p.tables.exec = Jvm.exec) {k : Fin 4} {v : Int64} {l' : Array Slot} (hd : decode c.code pc = .ok (.lstore_n k, 1)) (hl : storeLocals Ls k.val (Value.long v) = some l') (hp : pc + 1 = pc') (k : Wp p e s below C S Q T (mkF m pc' l' (st))) : Wp p e s below C S Q T (mkF m pc Ls (Value.long v :: st)) := by
  subst hp
  exact Wp.via (fun _ h => XT.lstoreN X.here hx rfl hd rfl hl h) k
theorem w_astore (X : Stand p l e R s m args below meth c T locs cells slots) (hx : p.tables.exec = Jvm.exec) {k : Nat} {v : Value} {l' : Array Slot} (hd : decode c.code pc = .ok (.astore k, 2)) (hv : v.isRef = true) (hl : storeLocals Ls k v = some l') (hp : pc + 2 = pc') (k : Wp p e s below C S Q T (mkF m pc' l' (st))) : Wp p e s below C S Q T (mkF m pc Ls (v :: st)) := by
  subst hp
  exact Wp.via (fun _ h => XS.astore X.here hx rfl hd rfl hv hl h) k
theorem w_astoreN (X : Stand p l e R s m args below meth c T locs cells slots) (hx : p.tables.exec = Jvm.exec) {k : Fin 4} {v : Value} {l' : Array Slot} (hd : decode c.code pc = .ok (.astore_n k, 1)) (hv : v.isRef = true) (hl : storeLocals Ls k.val v = some l') (hp : pc + 1 = pc') (k : Wp p e s below C S Q T (mkF m pc' l' (st))) : Wp p e s below C S Q T (mkF m pc Ls (v :: st)) := by
  subst hp
  exact Wp.via (fun _ h => XS.astoreN X.here hx rfl hd rfl hv hl h) k
theorem w_iconst (X : Stand p l e R s m args below meth c T locs cells slots) (hx : p.tables.exec = Jvm.exec) {i : Int} {v : Int32} (hd : decode c.code pc = .ok (.iconst i, 1)) (hv : Int32.ofInt i = v) (hp : pc + 1 = pc') (k : Wp p e s below C S Q T (mkF m pc' Ls (Value.int v :: st))) : Wp p e s below C S Q T (mkF m pc Ls (st)) := by
  subst hp hv
  exact Wp.via (fun _ h => XS.iconst X.here hx rfl hd h) k
theorem w_bipush (X : Stand p l e R s m args below meth c T locs cells slots) (hx : p.tables.exec = Jvm.exec) {i : Int} {v : Int32} (hd : decode c.code pc = .ok (.bipush i, 2)) (hv : (Int8.ofInt i).toInt32 = v) (hp : pc + 2 = pc') (k : Wp p e s below C S Q T (mkF m pc' Ls (Value.int v :: st))) : Wp p e s below C S Q T (mkF m pc Ls (st)) := by
  subst hp hv
  exact Wp.via (fun _ h => XS.bipush X.here hx rfl hd h) k
theorem w_sipush (X : Stand p l e R s m args below meth c T locs cells slots) (hx : p.tables.exec = Jvm.exec) {i : Int} {v : Int32} (hd : decode c.code pc = .ok (.sipush i, 3)) (hv : (Int16.ofInt i).toInt32 = v) (hp : pc + 3 = pc') (k : Wp p e s below C S Q T (mkF m pc' Ls (Value.int v :: st))) : Wp p e s below C S Q T (mkF m pc Ls (st)) := by
  subst hp hv
  exact Wp.via (fun _ h => XS.sipush X.here hx rfl hd h) k
theorem w_lconst (X : Stand p l e R s m args below meth c T locs cells slots) (hx : p.tables.exec = Jvm.exec) {k : Fin 2} {v : Int64} (hd : decode c.code pc = .ok (.lconst k, 1)) (hv : Int64.ofNat k = v) (hp : pc + 1 = pc') (k : Wp p e s below C S Q T (mkF m pc' Ls (Value.long v :: st))) : Wp p e s below C S Q T (mkF m pc Ls (st)) := by
  subst hp hv
  exact Wp.via (fun _ h => XT.lconst X.here hx rfl hd h) k
theorem w_aconst (X : Stand p l e R s m args below meth c T locs cells slots) (hx : p.tables.exec = Jvm.exec)  (hd : decode c.code pc = .ok (.aconst_null, 1))  (hp : pc + 1 = pc') (k : Wp p e s below C S Q T (mkF m pc' Ls (Value.null :: st))) : Wp p e s below C S Q T (mkF m pc Ls (st)) := by
  subst hp
  exact Wp.via (fun _ h => XS.aconstNull X.here hx rfl hd h) k
theorem w_ldc (X : Stand p l e R s m args below meth c T locs cells slots) (hx : p.tables.exec = Jvm.exec) {i : Nat} {v : Int32} {own : String} (hd : decode c.code pc = .ok (.ldc i, 2)) (hown : s.vm.findClass own = some m.cls) (hc : (Jvm.Cond.constant own i v).before args s = true) (hp : pc + 2 = pc') (k : Wp p e s below C S Q T (mkF m pc' Ls (Value.int v :: st))) : Wp p e s below C S Q T (mkF m pc Ls (st)) := by
  subst hp
  exact Wp.via (fun _ h => X.ldcInt hx hown hc (g := mkF m pc Ls st) rfl hd _ h) k
theorem w_ldc2 (X : Stand p l e R s m args below meth c T locs cells slots) (hx : p.tables.exec = Jvm.exec) {i : Nat} {v : Int64} {own : String} (hd : decode c.code pc = .ok (.ldc2_w i, 3)) (hown : s.vm.findClass own = some m.cls) (hc : (Jvm.Cond.constantLong own i v).before args s = true) (hp : pc + 3 = pc') (k : Wp p e s below C S Q T (mkF m pc' Ls (Value.long v :: st))) : Wp p e s below C S Q T (mkF m pc Ls (st)) := by
  subst hp
  exact Wp.via (fun _ h => X.ldc2Long hx hown hc (g := mkF m pc Ls st) rfl hd _ h) k
theorem w_iadd (X : Stand p l e R s m args below meth c T locs cells slots) (hx : p.tables.exec = Jvm.exec) {x y : Int32} (hd : decode c.code pc = .ok (.iadd, 1))  (hp : pc + 1 = pc') (k : Wp p e s below C S Q T (mkF m pc' Ls (Value.int (x + y) :: st))) : Wp p e s below C S Q T (mkF m pc Ls (Value.int y :: Value.int x :: st)) := by
  subst hp
  exact Wp.via (fun _ h => XS.iadd X.here hx rfl hd rfl h) k
theorem w_isub (X : Stand p l e R s m args below meth c T locs cells slots) (hx : p.tables.exec = Jvm.exec) {x y : Int32} (hd : decode c.code pc = .ok (.isub, 1))  (hp : pc + 1 = pc') (k : Wp p e s below C S Q T (mkF m pc' Ls (Value.int (x - y) :: st))) : Wp p e s below C S Q T (mkF m pc Ls (Value.int y :: Value.int x :: st)) := by
  subst hp
  exact Wp.via (fun _ h => XS.isub X.here hx rfl hd rfl h) k
theorem w_iand (X : Stand p l e R s m args below meth c T locs cells slots) (hx : p.tables.exec = Jvm.exec) {x y : Int32} (hd : decode c.code pc = .ok (.iand, 1))  (hp : pc + 1 = pc') (k : Wp p e s below C S Q T (mkF m pc' Ls (Value.int (x &&& y) :: st))) : Wp p e s below C S Q T (mkF m pc Ls (Value.int y :: Value.int x :: st)) := by
  subst hp
  exact Wp.via (fun _ h => XS.iand X.here hx rfl hd rfl h) k
theorem w_imul (X : Stand p l e R s m args below meth c T locs cells slots) (hx : p.tables.exec = Jvm.exec) {x y : Int32} (hd : decode c.code pc = .ok (.imul, 1))  (hp : pc + 1 = pc') (k : Wp p e s below C S Q T (mkF m pc' Ls (Value.int (x * y) :: st))) : Wp p e s below C S Q T (mkF m pc Ls (Value.int y :: Value.int x :: st)) := by
  subst hp
  exact Wp.via (fun _ h => XS.imul X.here hx rfl hd rfl h) k
theorem w_ixor (X : Stand p l e R s m args below meth c T locs cells slots) (hx : p.tables.exec = Jvm.exec) {x y : Int32} (hd : decode c.code pc = .ok (.ixor, 1))  (hp : pc + 1 = pc') (k : Wp p e s below C S Q T (mkF m pc' Ls (Value.int (x ^^^ y) :: st))) : Wp p e s below C S Q T (mkF m pc Ls (Value.int y :: Value.int x :: st)) := by
  subst hp
  exact Wp.via (fun _ h => XT.ixor X.here hx rfl hd rfl h) k
theorem w_ior (X : Stand p l e R s m args below meth c T locs cells slots) (hx : p.tables.exec = Jvm.exec) {x y : Int32} (hd : decode c.code pc = .ok (.ior, 1))  (hp : pc + 1 = pc') (k : Wp p e s below C S Q T (mkF m pc' Ls (Value.int (x ||| y) :: st))) : Wp p e s below C S Q T (mkF m pc Ls (Value.int y :: Value.int x :: st)) := by
  subst hp
  exact Wp.via (fun _ h => XT.ior X.here hx rfl hd rfl h) k
theorem w_ishl (X : Stand p l e R s m args below meth c T locs cells slots) (hx : p.tables.exec = Jvm.exec) {x y : Int32} (hd : decode c.code pc = .ok (.ishl, 1))  (hp : pc + 1 = pc') (k : Wp p e s below C S Q T (mkF m pc' Ls (Value.int (x <<< (y &&& 31)) :: st))) : Wp p e s below C S Q T (mkF m pc Ls (Value.int y :: Value.int x :: st)) := by
  subst hp
  exact Wp.via (fun _ h => XT.ishl X.here hx rfl hd rfl h) k
theorem w_ishr (X : Stand p l e R s m args below meth c T locs cells slots) (hx : p.tables.exec = Jvm.exec) {x y : Int32} (hd : decode c.code pc = .ok (.ishr, 1))  (hp : pc + 1 = pc') (k : Wp p e s below C S Q T (mkF m pc' Ls (Value.int (x >>> (y &&& 31)) :: st))) : Wp p e s below C S Q T (mkF m pc Ls (Value.int y :: Value.int x :: st)) := by
  subst hp
  exact Wp.via (fun _ h => XT.ishr X.here hx rfl hd rfl h) k
theorem w_iushr (X : Stand p l e R s m args below meth c T locs cells slots) (hx : p.tables.exec = Jvm.exec) {x y : Int32} (hd : decode c.code pc = .ok (.iushr, 1))  (hp : pc + 1 = pc') (k : Wp p e s below C S Q T (mkF m pc' Ls (Value.int (XT.ushr x y) :: st))) : Wp p e s below C S Q T (mkF m pc Ls (Value.int y :: Value.int x :: st)) := by
  subst hp
  exact Wp.via (fun _ h => XT.iushr X.here hx rfl hd rfl h) k
theorem w_idiv (X : Stand p l e R s m args below meth c T locs cells slots) (hx : p.tables.exec = Jvm.exec) {x y : Int32} (hd : decode c.code pc = .ok (.idiv, 1)) (hy : y ≠ 0) (hp : pc + 1 = pc') (k : Wp p e s below C S Q T (mkF m pc' Ls (Value.int (x / y) :: st))) : Wp p e s below C S Q T (mkF m pc Ls (Value.int y :: Value.int x :: st)) := by
  subst hp
  exact Wp.via (fun _ h => XS.idiv X.here hx rfl hd rfl hy h) k
theorem w_irem (X : Stand p l e R s m args below meth c T locs cells slots) (hx : p.tables.exec = Jvm.exec) {x y : Int32} (hd : decode c.code pc = .ok (.irem, 1)) (hy : y ≠ 0) (hp : pc + 1 = pc') (k : Wp p e s below C S Q T (mkF m pc' Ls (Value.int (x % y) :: st))) : Wp p e s below C S Q T (mkF m pc Ls (Value.int y :: Value.int x :: st)) := by
  subst hp
  exact Wp.via (fun _ h => iremM X hx rfl hd rfl hy h) k
theorem w_ladd (X : Stand p l e R s m args below meth c T locs cells slots) (hx : p.tables.exec = Jvm.exec) {x y : Int64} (hd : decode c.code pc = .ok (.ladd, 1))  (hp : pc + 1 = pc') (k : Wp p e s below C S Q T (mkF m pc' Ls (Value.long (x + y) :: st))) : Wp p e s below C S Q T (mkF m pc Ls (Value.long y :: Value.long x :: st)) := by
  subst hp
  exact Wp.via (fun _ h => XT.ladd X.here hx rfl hd rfl h) k
theorem w_lsub (X : Stand p l e R s m args below meth c T locs cells slots) (hx : p.tables.exec = Jvm.exec) {x y : Int64} (hd : decode c.code pc = .ok (.lsub, 1))  (hp : pc + 1 = pc') (k : Wp p e s below C S Q T (mkF m pc' Ls (Value.long (x - y) :: st))) : Wp p e s below C S Q T (mkF m pc Ls (Value.long y :: Value.long x :: st)) := by
  subst hp
  exact Wp.via (fun _ h => XT.lsub X.here hx rfl hd rfl h) k
theorem w_lmul (X : Stand p l e R s m args below meth c T locs cells slots) (hx : p.tables.exec = Jvm.exec) {x y : Int64} (hd : decode c.code pc = .ok (.lmul, 1))  (hp : pc + 1 = pc') (k : Wp p e s below C S Q T (mkF m pc' Ls (Value.long (x * y) :: st))) : Wp p e s below C S Q T (mkF m pc Ls (Value.long y :: Value.long x :: st)) := by
  subst hp
  exact Wp.via (fun _ h => XT.lmul X.here hx rfl hd rfl h) k
theorem w_land (X : Stand p l e R s m args below meth c T locs cells slots) (hx : p.tables.exec = Jvm.exec) {x y : Int64} (hd : decode c.code pc = .ok (.land, 1))  (hp : pc + 1 = pc') (k : Wp p e s below C S Q T (mkF m pc' Ls (Value.long (x &&& y) :: st))) : Wp p e s below C S Q T (mkF m pc Ls (Value.long y :: Value.long x :: st)) := by
  subst hp
  exact Wp.via (fun _ h => XT.land X.here hx rfl hd rfl h) k
theorem w_lor (X : Stand p l e R s m args below meth c T locs cells slots) (hx : p.tables.exec = Jvm.exec) {x y : Int64} (hd : decode c.code pc = .ok (.lor, 1))  (hp : pc + 1 = pc') (k : Wp p e s below C S Q T (mkF m pc' Ls (Value.long (x ||| y) :: st))) : Wp p e s below C S Q T (mkF m pc Ls (Value.long y :: Value.long x :: st)) := by
  subst hp
  exact Wp.via (fun _ h => XT.lor X.here hx rfl hd rfl h) k
theorem w_lxor (X : Stand p l e R s m args below meth c T locs cells slots) (hx : p.tables.exec = Jvm.exec) {x y : Int64} (hd : decode c.code pc = .ok (.lxor, 1))  (hp : pc + 1 = pc') (k : Wp p e s below C S Q T (mkF m pc' Ls (Value.long (x ^^^ y) :: st))) : Wp p e s below C S Q T (mkF m pc Ls (Value.long y :: Value.long x :: st)) := by
  subst hp
  exact Wp.via (fun _ h => XT.lxor X.here hx rfl hd rfl h) k
theorem w_ldiv (X : Stand p l e R s m args below meth c T locs cells slots) (hx : p.tables.exec = Jvm.exec) {x y : Int64} (hd : decode c.code pc = .ok (.ldiv, 1)) (hy : y ≠ 0) (hp : pc + 1 = pc') (k : Wp p e s below C S Q T (mkF m pc' Ls (Value.long (x / y) :: st))) : Wp p e s below C S Q T (mkF m pc Ls (Value.long y :: Value.long x :: st)) := by
  subst hp
  exact Wp.via (fun _ h => XT.ldiv X.here hx rfl hd rfl hy h) k
theorem w_lrem (X : Stand p l e R s m args below meth c T locs cells slots) (hx : p.tables.exec = Jvm.exec) {x y : Int64} (hd : decode c.code pc = .ok (.lrem, 1)) (hy : y ≠ 0) (hp : pc + 1 = pc') (k : Wp p e s below C S Q T (mkF m pc' Ls (Value.long (x % y) :: st))) : Wp p e s below C S Q T (mkF m pc Ls (Value.long y :: Value.long x :: st)) := by
  subst hp
  exact Wp.via (fun _ h => XT.lrem X.here hx rfl hd rfl hy (by rw [lrem_mod]; exact h)) k
theorem w_lshl (X : Stand p l e R s m args below meth c T locs cells slots) (hx : p.tables.exec = Jvm.exec) {x : Int64} {y : Int32} (hd : decode c.code pc = .ok (.lshl, 1))  (hp : pc + 1 = pc') (k : Wp p e s below C S Q T (mkF m pc' Ls (Value.long (x <<< (y.toInt64 &&& 63)) :: st))) : Wp p e s below C S Q T (mkF m pc Ls (Value.int y :: Value.long x :: st)) := by
  subst hp
  exact Wp.via (fun _ h => XT.lshl X.here hx rfl hd rfl h) k
theorem w_lshr (X : Stand p l e R s m args below meth c T locs cells slots) (hx : p.tables.exec = Jvm.exec) {x : Int64} {y : Int32} (hd : decode c.code pc = .ok (.lshr, 1))  (hp : pc + 1 = pc') (k : Wp p e s below C S Q T (mkF m pc' Ls (Value.long (x >>> (y.toInt64 &&& 63)) :: st))) : Wp p e s below C S Q T (mkF m pc Ls (Value.int y :: Value.long x :: st)) := by
  subst hp
  exact Wp.via (fun _ h => XT.lshr X.here hx rfl hd rfl h) k
theorem w_lushr (X : Stand p l e R s m args below meth c T locs cells slots) (hx : p.tables.exec = Jvm.exec) {x : Int64} {y : Int32} (hd : decode c.code pc = .ok (.lushr, 1))  (hp : pc + 1 = pc') (k : Wp p e s below C S Q T (mkF m pc' Ls (Value.long (XT.ushrL x y) :: st))) : Wp p e s below C S Q T (mkF m pc Ls (Value.int y :: Value.long x :: st)) := by
  subst hp
  exact Wp.via (fun _ h => XT.lushr X.here hx rfl hd rfl h) k
theorem w_lcmp (X : Stand p l e R s m args below meth c T locs cells slots) (hx : p.tables.exec = Jvm.exec) {x y : Int64} (hd : decode c.code pc = .ok (.lcmp, 1))  (hp : pc + 1 = pc') (k : Wp p e s below C S Q T (mkF m pc' Ls (Value.int (XT.cmpL x y) :: st))) : Wp p e s below C S Q T (mkF m pc Ls (Value.long y :: Value.long x :: st)) := by
  subst hp
  exact Wp.via (fun _ h => XT.lcmp X.here hx rfl hd rfl h) k
theorem w_ineg (X : Stand p l e R s m args below meth c T locs cells slots) (hx : p.tables.exec = Jvm.exec) {x : Int32} (hd : decode c.code pc = .ok (.ineg, 1))  (hp : pc + 1 = pc') (k : Wp p e s below C S Q T (mkF m pc' Ls (Value.int (-x) :: st))) : Wp p e s below C S Q T (mkF m pc Ls (Value.int x :: st)) := by
  subst hp
  exact Wp.via (fun _ h => XS.ineg X.here hx rfl hd rfl h) k
theorem w_lneg (X : Stand p l e R s m args below meth c T locs cells slots) (hx : p.tables.exec = Jvm.exec) {x : Int64} (hd : decode c.code pc = .ok (.lneg, 1))  (hp : pc + 1 = pc') (k : Wp p e s below C S Q T (mkF m pc' Ls (Value.long (-x) :: st))) : Wp p e s below C S Q T (mkF m pc Ls (Value.long x :: st)) := by
  subst hp
  exact Wp.via (fun _ h => XT.lneg X.here hx rfl hd rfl h) k
theorem w_i2l (X : Stand p l e R s m args below meth c T locs cells slots) (hx : p.tables.exec = Jvm.exec) {x : Int32} (hd : decode c.code pc = .ok (.i2l, 1))  (hp : pc + 1 = pc') (k : Wp p e s below C S Q T (mkF m pc' Ls (Value.long x.toInt64 :: st))) : Wp p e s below C S Q T (mkF m pc Ls (Value.int x :: st)) := by
  subst hp
  exact Wp.via (fun _ h => XT.i2l X.here hx rfl hd rfl h) k
theorem w_l2i (X : Stand p l e R s m args below meth c T locs cells slots) (hx : p.tables.exec = Jvm.exec) {x : Int64} (hd : decode c.code pc = .ok (.l2i, 1))  (hp : pc + 1 = pc') (k : Wp p e s below C S Q T (mkF m pc' Ls (Value.int x.toInt32 :: st))) : Wp p e s below C S Q T (mkF m pc Ls (Value.long x :: st)) := by
  subst hp
  exact Wp.via (fun _ h => XT.l2i X.here hx rfl hd rfl h) k
theorem w_i2b (X : Stand p l e R s m args below meth c T locs cells slots) (hx : p.tables.exec = Jvm.exec) {x : Int32} (hd : decode c.code pc = .ok (.i2b, 1))  (hp : pc + 1 = pc') (k : Wp p e s below C S Q T (mkF m pc' Ls (Value.int x.toInt8.toInt32 :: st))) : Wp p e s below C S Q T (mkF m pc Ls (Value.int x :: st)) := by
  subst hp
  exact Wp.via (fun _ h => XT.i2b X.here hx rfl hd rfl h) k
theorem w_i2c (X : Stand p l e R s m args below meth c T locs cells slots) (hx : p.tables.exec = Jvm.exec) {x : Int32} (hd : decode c.code pc = .ok (.i2c, 1))  (hp : pc + 1 = pc') (k : Wp p e s below C S Q T (mkF m pc' Ls (Value.int x.toUInt32.toUInt16.toUInt32.toInt32 :: st))) : Wp p e s below C S Q T (mkF m pc Ls (Value.int x :: st)) := by
  subst hp
  exact Wp.via (fun _ h => XT.i2c X.here hx rfl hd rfl h) k
theorem w_iinc (X : Stand p l e R s m args below meth c T locs cells slots) (hx : p.tables.exec = Jvm.exec) {k : Nat} {cst : Int} {v : Int32} {l' : Array Slot} (hd : decode c.code pc = .ok (.iinc k cst, 3)) (hl : Ls[k]? = some (.val (.int v))) (hl' : storeLocals Ls k (.int (v + Int32.ofInt cst)) = some l') (hp : pc + 3 = pc') (k : Wp p e s below C S Q T (mkF m pc' l' (st))) : Wp p e s below C S Q T (mkF m pc Ls (st)) := by
  subst hp
  exact Wp.via (fun _ h => XS.iinc X.here hx rfl hd hl hl' h) k
theorem w_dup (X : Stand p l e R s m args below meth c T locs cells slots) (hx : p.tables.exec = Jvm.exec) {x : Value} (hd : decode c.code pc = .ok (.dup, 1)) (hc : x.category = 1) (hp : pc + 1 = pc') (k : Wp p e s below C S Q T (mkF m pc' Ls (x :: x :: st))) : Wp p e s below C S Q T (mkF m pc Ls (x :: st)) := by
  subst hp
  exact Wp.via (fun _ h => XS.dup X.here hx rfl hd rfl hc h) k
theorem w_dup2 (X : Stand p l e R s m args below meth c T locs cells slots) (hx : p.tables.exec = Jvm.exec) {x y : Value} (hd : decode c.code pc = .ok (.dup2, 1)) (hc : x.category = 1) (hc' : y.category = 1) (hp : pc + 1 = pc') (k : Wp p e s below C S Q T (mkF m pc' Ls (x :: y :: x :: y :: st))) : Wp p e s below C S Q T (mkF m pc Ls (x :: y :: st)) := by
  subst hp
  exact Wp.via (fun _ h => XT.dup2 X.here hx rfl hd rfl hc hc' h) k
theorem w_dup2L (X : Stand p l e R s m args below meth c T locs cells slots) (hx : p.tables.exec = Jvm.exec) {x : Int64} (hd : decode c.code pc = .ok (.dup2, 1))  (hp : pc + 1 = pc') (k : Wp p e s below C S Q T (mkF m pc' Ls (Value.long x :: Value.long x :: st))) : Wp p e s below C S Q T (mkF m pc Ls (Value.long x :: st)) := by
  subst hp
  exact Wp.via (fun _ h => XT.dup2L X.here hx rfl hd rfl h) k
theorem w_dupX1 (X : Stand p l e R s m args below meth c T locs cells slots) (hx : p.tables.exec = Jvm.exec) {x y : Value} (hd : decode c.code pc = .ok (.dup_x1, 1)) (hc : x.category = 1) (hc' : y.category = 1) (hp : pc + 1 = pc') (k : Wp p e s below C S Q T (mkF m pc' Ls (x :: y :: x :: st))) : Wp p e s below C S Q T (mkF m pc Ls (x :: y :: st)) := by
  subst hp
  exact Wp.via (fun _ h => XT.dupX1 X.here hx rfl hd rfl hc hc' h) k
theorem w_pop (X : Stand p l e R s m args below meth c T locs cells slots) (hx : p.tables.exec = Jvm.exec) {x : Value} (hd : decode c.code pc = .ok (.pop, 1)) (hc : x.category = 1) (hp : pc + 1 = pc') (k : Wp p e s below C S Q T (mkF m pc' Ls (st))) : Wp p e s below C S Q T (mkF m pc Ls (x :: st)) := by
  subst hp
  exact Wp.via (fun _ h => XT.pop X.here hx rfl hd rfl hc h) k
theorem w_goto (X : Stand p l e R s m args below meth c T locs cells slots) (hx : p.tables.exec = Jvm.exec) {o : Int} (hd : decode c.code pc = .ok (.goto o, 3)) (ho : 0 ≤ (pc : Int) + o) (hp : ((pc : Int) + o).toNat = pc') (k : Wp p e s below C S Q T (mkF m pc' Ls st)) : Wp p e s below C S Q T (mkF m pc Ls st) :=
  Wp.via (fun _ h => XS.goto X.here hx rfl (pc0 := pc) (pc' := pc') rfl hd ho hp h) k
theorem w_icmp_eq (X : Stand p l e R s m args below meth c T locs cells slots) (hx : p.tables.exec = Jvm.exec) {o : Int} {pcY : Nat} {x y : Int32} (hd : decode c.code pc = .ok (.if_icmp .eq o, 3)) (ho : 0 ≤ (pc : Int) + o) (hy : ((pc : Int) + o).toNat = pcY) (hp : pc + 3 = pc') (kY : x = y → Wp p e s below C S Q T (mkF m pcY Ls st)) (kN : ¬ x = y → Wp p e s below C S Q T (mkF m pc' Ls st)) : Wp p e s below C S Q T (mkF m pc Ls (Value.int y :: Value.int x :: st)) := by
  by_cases q : x = y
  · exact Wp.via (fun _ h => XS.icmpYes X.here hx rfl (pc0 := pc) (pc' := pcY) rfl hd rfl (teq q).1 ho hy h) (kY q)
  · exact Wp.via (fun _ h => XS.icmpNo X.here hx rfl hd rfl (feq (by simpa using q)).1 h) (by subst hp; exact kN (by simpa using q))
theorem w_if_eq (X : Stand p l e R s m args below meth c T locs cells slots) (hx : p.tables.exec = Jvm.exec) {o : Int} {pcY : Nat} {x : Int32} (hd : decode c.code pc = .ok (.ifCond .eq o, 3)) (ho : 0 ≤ (pc : Int) + o) (hy : ((pc : Int) + o).toNat = pcY) (hp : pc + 3 = pc') (kY : x = 0 → Wp p e s below C S Q T (mkF m pcY Ls st)) (kN : ¬ x = 0 → Wp p e s below C S Q T (mkF m pc' Ls st)) : Wp p e s below C S Q T (mkF m pc Ls (Value.int x :: st)) := by
  by_cases q : x = 0
  · exact Wp.via (fun _ h => XS.ifYes X.here hx rfl (pc0 := pc) (pc' := pcY) rfl hd rfl ((if0 _ _).trans (teq q).1) ho hy h) (kY q)
  · exact Wp.via (fun _ h => XS.ifNo X.here hx rfl hd rfl ((if0 _ _).trans (feq (by simpa using q)).1) h) (by subst hp; exact kN (by simpa using q))
theorem w_icmp_ne (X : Stand p l e R s m args below meth c T locs cells slots) (hx : p.tables.exec = Jvm.exec) {o : Int} {pcY : Nat} {x y : Int32} (hd : decode c.code pc = .ok (.if_icmp .ne o, 3)) (ho : 0 ≤ (pc : Int) + o) (hy : ((pc : Int) + o).toNat = pcY) (hp : pc + 3 = pc') (kY : ¬ x = y → Wp p e s below C S Q T (mkF m pcY Ls st)) (kN : x = y → Wp p e s below C S Q T (mkF m pc' Ls st)) : Wp p e s below C S Q T (mkF m pc Ls (Value.int y :: Value.int x :: st)) := by
  by_cases q : ¬ x = y
  · exact Wp.via (fun _ h => XS.icmpYes X.here hx rfl (pc0 := pc) (pc' := pcY) rfl hd rfl (feq q).2 ho hy h) (kY q)
  · exact Wp.via (fun _ h => XS.icmpNo X.here hx rfl hd rfl (teq (by simpa using q)).2 h) (by subst hp; exact kN (by simpa using q))
theorem w_if_ne (X : Stand p l e R s m args below meth c T locs cells slots) (hx : p.tables.exec = Jvm.exec) {o : Int} {pcY : Nat} {x : Int32} (hd : decode c.code pc = .ok (.ifCond .ne o, 3)) (ho : 0 ≤ (pc : Int) + o) (hy : ((pc : Int) + o).toNat = pcY) (hp : pc + 3 = pc') (kY : ¬ x = 0 → Wp p e s below C S Q T (mkF m pcY Ls st)) (kN : x = 0 → Wp p e s below C S Q T (mkF m pc' Ls st)) : Wp p e s below C S Q T (mkF m pc Ls (Value.int x :: st)) := by
  by_cases q : ¬ x = 0
  · exact Wp.via (fun _ h => XS.ifYes X.here hx rfl (pc0 := pc) (pc' := pcY) rfl hd rfl ((if0 _ _).trans (feq q).2) ho hy h) (kY q)
  · exact Wp.via (fun _ h => XS.ifNo X.here hx rfl hd rfl ((if0 _ _).trans (teq (by simpa using q)).2) h) (by subst hp; exact kN (by simpa using q))
theorem w_icmp_lt (X : Stand p l e R s m args below meth c T locs cells slots) (hx : p.tables.exec = Jvm.exec) {o : Int} {pcY : Nat} {x y : Int32} (hd : decode c.code pc = .ok (.if_icmp .lt o, 3)) (ho : 0 ≤ (pc : Int) + o) (hy : ((pc : Int) + o).toNat = pcY) (hp : pc + 3 = pc') (kY : x < y → Wp p e s below C S Q T (mkF m pcY Ls st)) (kN : ¬ x < y → Wp p e s below C S Q T (mkF m pc' Ls st)) : Wp p e s below C S Q T (mkF m pc Ls (Value.int y :: Value.int x :: st)) := by
  by_cases q : x < y
  · exact Wp.via (fun _ h => XS.icmpYes X.here hx rfl (pc0 := pc) (pc' := pcY) rfl hd rfl (tlt q).1 ho hy h) (kY q)
  · exact Wp.via (fun _ h => XS.icmpNo X.here hx rfl hd rfl (flt (by simpa using q)).1 h) (by subst hp; exact kN (by simpa using q))
theorem w_if_lt (X : Stand p l e R s m args below meth c T locs cells slots) (hx : p.tables.exec = Jvm.exec) {o : Int} {pcY : Nat} {x : Int32} (hd : decode c.code pc = .ok (.ifCond .lt o, 3)) (ho : 0 ≤ (pc : Int) + o) (hy : ((pc : Int) + o).toNat = pcY) (hp : pc + 3 = pc') (kY : x < 0 → Wp p e s below C S Q T (mkF m pcY Ls st)) (kN : ¬ x < 0 → Wp p e s below C S Q T (mkF m pc' Ls st)) : Wp p e s below C S Q T (mkF m pc Ls (Value.int x :: st)) := by
  by_cases q : x < 0
  · exact Wp.via (fun _ h => XS.ifYes X.here hx rfl (pc0 := pc) (pc' := pcY) rfl hd rfl ((if0 _ _).trans (tlt q).1) ho hy h) (kY q)
  · exact Wp.via (fun _ h => XS.ifNo X.here hx rfl hd rfl ((if0 _ _).trans (flt (by simpa using q)).1) h) (by subst hp; exact kN (by simpa using q))
theorem w_icmp_ge (X : Stand p l e R s m args below meth c T locs cells slots) (hx : p.tables.exec = Jvm.exec) {o : Int} {pcY : Nat} {x y : Int32} (hd : decode c.code pc = .ok (.if_icmp .ge o, 3)) (ho : 0 ≤ (pc : Int) + o) (hy : ((pc : Int) + o).toNat = pcY) (hp : pc + 3 = pc') (kY : ¬ x < y → Wp p e s below C S Q T (mkF m pcY Ls st)) (kN : x < y → Wp p e s below C S Q T (mkF m pc' Ls st)) : Wp p e s below C S Q T (mkF m pc Ls (Value.int y :: Value.int x :: st)) := by
  by_cases q : ¬ x < y
  · exact Wp.via (fun _ h => XS.icmpYes X.here hx rfl (pc0 := pc) (pc' := pcY) rfl hd rfl (flt q).2.1 ho hy h) (kY q)
  · exact Wp.via (fun _ h => XS.icmpNo X.here hx rfl hd rfl (tlt (by simpa using q)).2.1 h) (by subst hp; exact kN (by simpa using q))
theorem w_if_ge (X : Stand p l e R s m args below meth c T locs cells slots) (hx : p.tables.exec = Jvm.exec) {o : Int} {pcY : Nat} {x : Int32} (hd : decode c.code pc = .ok (.ifCond .ge o, 3)) (ho : 0 ≤ (pc : Int) + o) (hy : ((pc : Int) + o).toNat = pcY) (hp : pc + 3 = pc') (kY : ¬ x < 0 → Wp p e s below C S Q T (mkF m pcY Ls st)) (kN : x < 0 → Wp p e s below C S Q T (mkF m pc' Ls st)) : Wp p e s below C S Q T (mkF m pc Ls (Value.int x :: st)) := by
  by_cases q : ¬ x < 0
  · exact Wp.via (fun _ h => XS.ifYes X.here hx rfl (pc0 := pc) (pc' := pcY) rfl hd rfl ((if0 _ _).trans (flt q).2.1) ho hy h) (kY q)
  · exact Wp.via (fun _ h => XS.ifNo X.here hx rfl hd rfl ((if0 _ _).trans (tlt (by simpa using q)).2.1) h) (by subst hp; exact kN (by simpa using q))
theorem w_icmp_gt (X : Stand p l e R s m args below meth c T locs cells slots) (hx : p.tables.exec = Jvm.exec) {o : Int} {pcY : Nat} {x y : Int32} (hd : decode c.code pc = .ok (.if_icmp .gt o, 3)) (ho : 0 ≤ (pc : Int) + o) (hy : ((pc : Int) + o).toNat = pcY) (hp : pc + 3 = pc') (kY : y < x → Wp p e s below C S Q T (mkF m pcY Ls st)) (kN : ¬ y < x → Wp p e s below C S Q T (mkF m pc' Ls st)) : Wp p e s below C S Q T (mkF m pc Ls (Value.int y :: Value.int x :: st)) := by
  by_cases q : y < x
  · exact Wp.via (fun _ h => XS.icmpYes X.here hx rfl (pc0 := pc) (pc' := pcY) rfl hd rfl (tlt q).2.2.1 ho hy h) (kY q)
  · exact Wp.via (fun _ h => XS.icmpNo X.here hx rfl hd rfl (flt (by simpa using q)).2.2.1 h) (by subst hp; exact kN (by simpa using q))
theorem w_if_gt (X : Stand p l e R s m args below meth c T locs cells slots) (hx : p.tables.exec = Jvm.exec) {o : Int} {pcY : Nat} {x : Int32} (hd : decode c.code pc = .ok (.ifCond .gt o, 3)) (ho : 0 ≤ (pc : Int) + o) (hy : ((pc : Int) + o).toNat = pcY) (hp : pc + 3 = pc') (kY : 0 < x → Wp p e s below C S Q T (mkF m pcY Ls st)) (kN : ¬ 0 < x → Wp p e s below C S Q T (mkF m pc' Ls st)) : Wp p e s below C S Q T (mkF m pc Ls (Value.int x :: st)) := by
  by_cases q : 0 < x
  · exact Wp.via (fun _ h => XS.ifYes X.here hx rfl (pc0 := pc) (pc' := pcY) rfl hd rfl ((if0 _ _).trans (tlt q).2.2.1) ho hy h) (kY q)
  · exact Wp.via (fun _ h => XS.ifNo X.here hx rfl hd rfl ((if0 _ _).trans (flt (by simpa using q)).2.2.1) h) (by subst hp; exact kN (by simpa using q))
theorem w_icmp_le (X : Stand p l e R s m args below meth c T locs cells slots) (hx : p.tables.exec = Jvm.exec) {o : Int} {pcY : Nat} {x y : Int32} (hd : decode c.code pc = .ok (.if_icmp .le o, 3)) (ho : 0 ≤ (pc : Int) + o) (hy : ((pc : Int) + o).toNat = pcY) (hp : pc + 3 = pc') (kY : ¬ y < x → Wp p e s below C S Q T (mkF m pcY Ls st)) (kN : y < x → Wp p e s below C S Q T (mkF m pc' Ls st)) : Wp p e s below C S Q T (mkF m pc Ls (Value.int y :: Value.int x :: st)) := by
  by_cases q : ¬ y < x
  · exact Wp.via (fun _ h => XS.icmpYes X.here hx rfl (pc0 := pc) (pc' := pcY) rfl hd rfl (flt q).2.2.2 ho hy h) (kY q)
  · exact Wp.via (fun _ h => XS.icmpNo X.here hx rfl hd rfl (tlt (by simpa using q)).2.2.2 h) (by subst hp; exact kN (by simpa using q))
theorem w_if_le (X : Stand p l e R s m args below meth c T locs cells slots) (hx : p.tables.exec = Jvm.exec) {o : Int} {pcY : Nat} {x : Int32} (hd : decode c.code pc = .ok (.ifCond .le o, 3)) (ho : 0 ≤ (pc : Int) + o) (hy : ((pc : Int) + o).toNat = pcY) (hp : pc + 3 = pc') (kY : ¬ 0 < x → Wp p e s below C S Q T (mkF m pcY Ls st)) (kN : 0 < x → Wp p e s below C S Q T (mkF m pc' Ls st)) : Wp p e s below C S Q T (mkF m pc Ls (Value.int x :: st)) := by
  by_cases q : ¬ 0 < x
  · exact Wp.via (fun _ h => XS.ifYes X.here hx rfl (pc0 := pc) (pc' := pcY) rfl hd rfl ((if0 _ _).trans (flt q).2.2.2) ho hy h) (kY q)
  · exact Wp.via (fun _ h => XS.ifNo X.here hx rfl hd rfl ((if0 _ _).trans (tlt (by simpa using q)).2.2.2) h) (by subst hp; exact kN (by simpa using q))
theorem own_cl_lt (x y : Int64) : XT.cmpL x y < 0 ↔ x < y := by
  unfold XT.cmpL
  by_cases h1 : y < x
  · rw [if_pos h1]
    refine ⟨fun h => absurd h (by decide), fun h => absurd (Int64.lt_trans h1 h) Int64.lt_irrefl⟩
  · rw [if_neg h1]
    by_cases h2 : x = y
    · rw [if_pos h2]
      refine ⟨fun h => absurd h (by decide), fun h => absurd (h2 ▸ h) Int64.lt_irrefl⟩
    · rw [if_neg h2]
      refine ⟨fun _ => ?_, fun _ => by decide⟩
      rw [Int64.lt_iff_toInt_lt] at *
      have : x.toInt ≠ y.toInt := fun q => h2 (Int64.toInt_inj.mp q)
      omega
theorem own_cl_gt (x y : Int64) : 0 < XT.cmpL x y ↔ y < x := by
  unfold XT.cmpL
  by_cases h1 : y < x
  · rw [if_pos h1]
    exact ⟨fun _ => h1, fun _ => by decide⟩
  · rw [if_neg h1]
    by_cases h2 : x = y
    · rw [if_pos h2]
      exact ⟨fun h => absurd h (by decide), fun h => absurd h h1⟩
    · rw [if_neg h2]
      exact ⟨fun h => absurd h (by decide), fun h => absurd h h1⟩
theorem own_cl_eq (x y : Int64) : XT.cmpL x y = 0 ↔ x = y := by
  unfold XT.cmpL
  by_cases h1 : y < x
  · rw [if_pos h1]
    exact ⟨fun h => absurd h (by decide), fun h => absurd (h ▸ h1) Int64.lt_irrefl⟩
  · rw [if_neg h1]
    by_cases h2 : x = y
    · rw [if_pos h2]
      exact ⟨fun _ => h2, fun _ => rfl⟩
    · rw [if_neg h2]
      exact ⟨fun h => absurd h (by decide), fun h => absurd h h2⟩
theorem w_lcmp_eq (X : Stand p l e R s m args below meth c T locs cells slots) (hx : p.tables.exec = Jvm.exec) {o : Int} {pcY pc1 : Nat} {x y : Int64} (hd : decode c.code pc = .ok (.lcmp, 1)) (hp1 : pc + 1 = pc1) (hd1 : decode c.code pc1 = .ok (.ifCond .eq o, 3)) (ho : 0 ≤ (pc1 : Int) + o) (hy : ((pc1 : Int) + o).toNat = pcY) (hp : pc1 + 3 = pc') (kY : x = y → Wp p e s below C S Q T (mkF m pcY Ls st)) (kN : ¬ x = y → Wp p e s below C S Q T (mkF m pc' Ls st)) : Wp p e s below C S Q T (mkF m pc Ls (Value.long y :: Value.long x :: st)) :=
  w_lcmp X hx hd hp1 (w_if_eq X hx hd1 ho hy hp (fun q => kY ((own_cl_eq x y).mp q)) (fun q => kN fun r => q ((own_cl_eq x y).mpr r)))
theorem w_lcmp_ne (X : Stand p l e R s m args below meth c T locs cells slots) (hx : p.tables.exec = Jvm.exec) {o : Int} {pcY pc1 : Nat} {x y : Int64} (hd : decode c.code pc = .ok (.lcmp, 1)) (hp1 : pc + 1 = pc1) (hd1 : decode c.code pc1 = .ok (.ifCond .ne o, 3)) (ho : 0 ≤ (pc1 : Int) + o) (hy : ((pc1 : Int) + o).toNat = pcY) (hp : pc1 + 3 = pc') (kY : ¬ x = y → Wp p e s below C S Q T (mkF m pcY Ls st)) (kN : x = y → Wp p e s below C S Q T (mkF m pc' Ls st)) : Wp p e s below C S Q T (mkF m pc Ls (Value.long y :: Value.long x :: st)) :=
  w_lcmp X hx hd hp1 (w_if_ne X hx hd1 ho hy hp (fun q => kY fun r => q ((own_cl_eq x y).mpr r)) (fun q => kN ((own_cl_eq x y).mp q)))
theorem w_lcmp_lt (X : Stand p l e R s m args below meth c T locs cells slots) (hx : p.tables.exec = Jvm.exec) {o : Int} {pcY pc1 : Nat} {x y : Int64} (hd : decode c.code pc = .ok (.lcmp, 1)) (hp1 : pc + 1 = pc1) (hd1 : decode c.code pc1 = .ok (.ifCond .lt o, 3)) (ho : 0 ≤ (pc1 : Int) + o) (hy : ((pc1 : Int) + o).toNat = pcY) (hp : pc1 + 3 = pc') (kY : x < y → Wp p e s below C S Q T (mkF m pcY Ls st)) (kN : ¬ x < y → Wp p e s below C S Q T (mkF m pc' Ls st)) : Wp p e s below C S Q T (mkF m pc Ls (Value.long y :: Value.long x :: st)) :=
  w_lcmp X hx hd hp1 (w_if_lt X hx hd1 ho hy hp (fun q => kY ((own_cl_lt x y).mp q)) (fun q => kN fun r => q ((own_cl_lt x y).mpr r)))
theorem w_lcmp_ge (X : Stand p l e R s m args below meth c T locs cells slots) (hx : p.tables.exec = Jvm.exec) {o : Int} {pcY pc1 : Nat} {x y : Int64} (hd : decode c.code pc = .ok (.lcmp, 1)) (hp1 : pc + 1 = pc1) (hd1 : decode c.code pc1 = .ok (.ifCond .ge o, 3)) (ho : 0 ≤ (pc1 : Int) + o) (hy : ((pc1 : Int) + o).toNat = pcY) (hp : pc1 + 3 = pc') (kY : ¬ x < y → Wp p e s below C S Q T (mkF m pcY Ls st)) (kN : x < y → Wp p e s below C S Q T (mkF m pc' Ls st)) : Wp p e s below C S Q T (mkF m pc Ls (Value.long y :: Value.long x :: st)) :=
  w_lcmp X hx hd hp1 (w_if_ge X hx hd1 ho hy hp (fun q => kY fun r => q ((own_cl_lt x y).mpr r)) (fun q => kN ((own_cl_lt x y).mp q)))
theorem w_lcmp_gt (X : Stand p l e R s m args below meth c T locs cells slots) (hx : p.tables.exec = Jvm.exec) {o : Int} {pcY pc1 : Nat} {x y : Int64} (hd : decode c.code pc = .ok (.lcmp, 1)) (hp1 : pc + 1 = pc1) (hd1 : decode c.code pc1 = .ok (.ifCond .gt o, 3)) (ho : 0 ≤ (pc1 : Int) + o) (hy : ((pc1 : Int) + o).toNat = pcY) (hp : pc1 + 3 = pc') (kY : y < x → Wp p e s below C S Q T (mkF m pcY Ls st)) (kN : ¬ y < x → Wp p e s below C S Q T (mkF m pc' Ls st)) : Wp p e s below C S Q T (mkF m pc Ls (Value.long y :: Value.long x :: st)) :=
  w_lcmp X hx hd hp1 (w_if_gt X hx hd1 ho hy hp (fun q => kY ((own_cl_gt x y).mp q)) (fun q => kN fun r => q ((own_cl_gt x y).mpr r)))
theorem w_lcmp_le (X : Stand p l e R s m args below meth c T locs cells slots) (hx : p.tables.exec = Jvm.exec) {o : Int} {pcY pc1 : Nat} {x y : Int64} (hd : decode c.code pc = .ok (.lcmp, 1)) (hp1 : pc + 1 = pc1) (hd1 : decode c.code pc1 = .ok (.ifCond .le o, 3)) (ho : 0 ≤ (pc1 : Int) + o) (hy : ((pc1 : Int) + o).toNat = pcY) (hp : pc1 + 3 = pc') (kY : ¬ y < x → Wp p e s below C S Q T (mkF m pcY Ls st)) (kN : y < x → Wp p e s below C S Q T (mkF m pc' Ls st)) : Wp p e s below C S Q T (mkF m pc Ls (Value.long y :: Value.long x :: st)) :=
  w_lcmp X hx hd hp1 (w_if_le X hx hd1 ho hy hp (fun q => kY fun r => q ((own_cl_gt x y).mpr r)) (fun q => kN ((own_cl_gt x y).mp q)))
theorem w_eqI {x z : Int32} (h : x = z) (k : Wp p e s below C S Q T (mkF m pc Ls (Value.int z :: st))) : Wp p e s below C S Q T (mkF m pc Ls (Value.int x :: st)) := h ▸ k
theorem w_genI {x : Int32} (k : ∀ z, z = x → Wp p e s below C S Q T (mkF m pc Ls (Value.int z :: st))) : Wp p e s below C S Q T (mkF m pc Ls (Value.int x :: st)) := k x rfl
theorem w_eqJ {x z : Int64} (h : x = z) (k : Wp p e s below C S Q T (mkF m pc Ls (Value.long z :: st))) : Wp p e s below C S Q T (mkF m pc Ls (Value.long x :: st)) := h ▸ k
theorem w_genJ {x : Int64} (k : ∀ z, z = x → Wp p e s below C S Q T (mkF m pc Ls (Value.long z :: st))) : Wp p e s below C S Q T (mkF m pc Ls (Value.long x :: st)) := k x rfl
theorem w_iincE (X : Stand p l e R s m args below meth c T locs cells slots) (hx : p.tables.exec = Jvm.exec) {k : Nat} {cst : Int} {v z : Int32} {l' : Array Slot} (hd : decode c.code pc = .ok (.iinc k cst, 3)) (hl : Ls[k]? = some (.val (.int v))) (hz : v + Int32.ofInt cst = z) (hl' : storeLocals Ls k (.int z) = some l') (hp : pc + 3 = pc') (k : Wp p e s below C S Q T (mkF m pc' l' (st))) : Wp p e s below C S Q T (mkF m pc Ls (st)) := by
  subst hp
  exact Wp.via (fun _ h => XS.iinc X.here hx rfl hd hl (hz ▸ hl') h) k
theorem w_ifnullY (X : Stand p l e R s m args below meth c T locs cells slots) (hx : p.tables.exec = Jvm.exec) {o : Int}  (hd : decode c.code pc = .ok (.ifnull o, 3)) (ho : 0 ≤ (pc : Int) + o) (hp : ((pc : Int) + o).toNat = pc') (k : Wp p e s below C S Q T (mkF m pc' Ls st)) : Wp p e s below C S Q T (mkF m pc Ls (Value.null :: st)) :=
  Wp.via (fun _ h => XS.ifnullYes X.here hx rfl (pc0 := pc) (pc' := pc') rfl hd rfl ho hp h) k
theorem w_ifnonnullY (X : Stand p l e R s m args below meth c T locs cells slots) (hx : p.tables.exec = Jvm.exec) {o : Int} {b : Addr} (hd : decode c.code pc = .ok (.ifnonnull o, 3)) (ho : 0 ≤ (pc : Int) + o) (hp : ((pc : Int) + o).toNat = pc') (k : Wp p e s below C S Q T (mkF m pc' Ls st)) : Wp p e s below C S Q T (mkF m pc Ls (Value.ref b :: st)) :=
  Wp.via (fun _ h => XT.ifnonnullYes X.here hx rfl (pc0 := pc) (pc' := pc') rfl hd rfl ho hp h) k
theorem w_ifnullN (X : Stand p l e R s m args below meth c T locs cells slots) (hx : p.tables.exec = Jvm.exec) {o : Int} {b : Addr} (hd : decode c.code pc = .ok (.ifnull o, 3))  (hp : pc + 3 = pc') (k : Wp p e s below C S Q T (mkF m pc' Ls (st))) : Wp p e s below C S Q T (mkF m pc Ls (Value.ref b :: st)) := by
  subst hp
  exact Wp.via (fun _ h => XS.ifnullNo X.here hx rfl hd rfl h) k
theorem w_ifnonnullN (X : Stand p l e R s m args below meth c T locs cells slots) (hx : p.tables.exec = Jvm.exec) {o : Int} (hd : decode c.code pc = .ok (.ifnonnull o, 3))  (hp : pc + 3 = pc') (k : Wp p e s below C S Q T (mkF m pc' Ls (st))) : Wp p e s below C S Q T (mkF m pc Ls (Value.null :: st)) := by
  subst hp
  exact Wp.via (fun _ h => XT.ifnonnullNo X.here hx rfl hd rfl h) k
theorem own_out {fs : List Frame} {v : Option Value} {g : JFrame} (hs : Steps p.tables e below (T.setTop g) (T.setFrames fs)) (h1 : (T.setFrames fs).status = .running) (h2 : Ended (T.setFrames fs) below (.returned v)) (h3 : s.WarmedH (T.setFrames fs).vm) (h4 : s.sameButNew ({ T.setFrames fs with vm := s.vm } : State) locs cells slots)
    (hc : cells ≤ C) (hl : slots ≤ S) (hq : Q v T.heap locs) : Wp p e s below C S Q T g :=
  ⟨_, _, hs, h1, h2, _, _, rfl, hq, ⟨_, rfl⟩, h3, h4.mono hc hl⟩
theorem w_ret_i (X : Stand p l e R s m args below meth c T locs cells slots) (hx : p.tables.exec = Jvm.exec) {z : Int32} (hret : meth.sig.returnType = some .int) (hlk : meth.locks = false) (hd : decode c.code pc = .ok (.ireturn, 1)) (hc : cells ≤ C) (hl : slots ≤ S) (hq : Q (some (.int z)) T.heap locs) : Wp p e s below C S Q T (mkF m pc Ls (Value.int z :: st)) := by
  obtain ⟨fs, hr, h1, h2, h3, h4⟩ := X.leave (v := some (.int z)) (fun h => by rw [hret] at h; cases h) hlk
  exact own_out (retI X hx hret hd hr) h1 h2 h3 h4 hc hl hq
theorem w_ret_n (X : Stand p l e R s m args below meth c T locs cells slots) (hx : p.tables.exec = Jvm.exec) {z z' : Int32} {t : FieldType} (hret : meth.sig.returnType = some t) (hlk : meth.locks = false) (ht : t = .boolean ∨ t = .byte ∨ t = .char ∨ t = .short) (hd : decode c.code pc = .ok (.ireturn, 1)) (hz : nar t z = z') (hc : cells ≤ C) (hl : slots ≤ S) (hq : Q (some (.int z')) T.heap locs) : Wp p e s below C S Q T (mkF m pc Ls (Value.int z :: st)) := by
  subst hz
  obtain ⟨fs, hr, h1, h2, h3, h4⟩ := X.leave (v := some (.int (nar t z))) (fun h => by rw [hret] at h; cases h) hlk
  exact own_out (retN X hx hret ht hd hr) h1 h2 h3 h4 hc hl hq
theorem w_ret_l (X : Stand p l e R s m args below meth c T locs cells slots) (hx : p.tables.exec = Jvm.exec) {z : Int64} (hret : meth.sig.returnType = some .long) (hlk : meth.locks = false) (hd : decode c.code pc = .ok (.lreturn, 1)) (hc : cells ≤ C) (hl : slots ≤ S) (hq : Q (some (.long z)) T.heap locs) : Wp p e s below C S Q T (mkF m pc Ls [Value.long z]) := by
  obtain ⟨fs, hr, h1, h2, h3, h4⟩ := X.leave (v := some (.long z)) (fun h => by rw [hret] at h; cases h) hlk
  exact own_out (X.lreturnOut hx hret hd hr) h1 h2 h3 h4 hc hl hq
theorem w_ret_a (X : Stand p l e R s m args below meth c T locs cells slots) (hx : p.tables.exec = Jvm.exec) {w : Value} {t : FieldType} (hw : w.isRef = true) (hret : meth.sig.returnType = some t) (ht : t.isReference = true) (hlk : meth.locks = false) (hd : decode c.code pc = .ok (.areturn, 1)) (hc : cells ≤ C) (hl : slots ≤ S) (hq : Q (some w) T.heap locs) : Wp p e s below C S Q T (mkF m pc Ls [w]) := by
  obtain ⟨fs, hr, h1, h2, h3, h4⟩ := X.leave (v := some w) (fun h => by rw [hret] at h; cases h) hlk
  exact own_out (X.areturnOut hx hw hret ht hd hr) h1 h2 h3 h4 hc hl hq
theorem w_ret_v (X : Stand p l e R s m args below meth c T locs cells slots) (hx : p.tables.exec = Jvm.exec) (hret : meth.sig.returnType = none) (hlk : meth.locks = false) (hd : decode c.code pc = .ok (.return_, 1)) (hc : cells ≤ C) (hl : slots ≤ S) (hq : Q none T.heap locs) : Wp p e s below C S Q T (mkF m pc Ls []) := by
  obtain ⟨fs, hr, h1, h2, h3, h4⟩ := X.leave (v := none) (fun h => rfl) hlk
  exact own_out (X.returnOut hx hret hd hr) h1 h2 h3 h4 hc hl hq
theorem own_call (X : Stand p l e R s m args below meth c T locs cells slots) (hx : p.tables.exec = Jvm.exec) {Z : State} {a0 : Array Value} {h : Heap} (hZ : Z.Warmed39 s.vm) (eT : T.heap = h) {own : String} {i : Nat} {y : MethodName} {bytes : ByteArray} {maxL : Nat} {ret : Option FieldType} {rm : Room} {W : Nat} {as' : Array Value} {Qc : Option Value → Heap → List Loc → Prop}
    (hown : s.vm.findClass own = some m.cls) (hml : Ls.size = c.maxLocals) (w1 : (Jvm.Cond.methodLink own i y).before a0 Z = true) (w2 : (Jvm.Cond.static y).before a0 Z = true) (w3 : (Jvm.Cond.initialized y.cls).before a0 Z = true) (w4 : (Jvm.Cond.code y bytes maxL ret).before a0 Z = true)
    (hM : MetFree l y (head1 [Jvm.Cond.code y bytes maxL ret] rm) (fun a U => a = as' ∧ Z.Warmed39 U.vm ∧ U.heap = h) (fun _ _ _ _ _ => True) (fun _ U o U' => ∃ v L, o = .returned v ∧ Qc v U'.heap L ∧ FrameEnd U o U' L rm.cells rm.slots))
    (hy : y.cls ≠ "java/lang/invoke/MethodHandle" ∧ y.cls ≠ "java/lang/invoke/VarHandle") (hf : rm.frames + 1 ≤ R.frames) (hl : W + (maxL + 11) + rm.locals ≤ R.locals) (hc : cells + rm.cells ≤ R.cells) (hsl : slots + rm.slots ≤ R.slots)
    {argsL rest : List Value} {ps : List FieldType} {r : Option FieldType} (hpd : parseMethodDescriptor y.desc = some ⟨ps, r⟩) (hlen : argsL.length = ps.length) (has : argsL.toArray = as') (hst : st = argsL.reverse ++ rest) (hW : (rest.map fun v => v.category).sum ≤ W) (hd : decode c.code pc = .ok (.invokestatic i, 3)) (hp : pc + 3 = pc')
    (k : ∀ (v : Option Value) (T' : State) (L : List Loc), Stand p l e R s m args below meth c T' (locs ++ L) (cells + rm.cells) (slots + rm.slots) → Qc v T'.heap L → Wp p e s below C S Q T' (mkF m pc' Ls (v.toList ++ rest))) : Wp p e s below C S Q T (mkF m pc Ls st) := by
  obtain ⟨v, _, ⟨T1, L1, k1, n1⟩, -, X1, ⟨Lc1, hQ1, l1, y1, z1⟩, st1⟩ := Jvm.LawKit.callS X hx (y := y) hown (mvT hZ w1) (mvT hZ w2) (mvT hZ w3) (mvT hZ w4) hy (backOf (W := W) hM hZ w4 w3 hf hl) (g := mkF m pc Ls st) rfl hml (argsL := argsL) (rest := rest) (lenOf hpd hlen) hst (by show 2 * 0 + _ ≤ _; omega) hd (fun _ _ => ⟨has, eT, hc, hsl⟩)
  dsimp only [Pt.U, Pt.locs, Pt.cells, Pt.slots] at X1 l1 y1 z1 st1 hQ1
  subst l1 y1 z1
  subst hp
  exact Wp.via st1 (k v T1 Lc1 X1 hQ1)
theorem own_cast {g g' : JFrame} (q : g = g') (k : Wp p e s below C S Q T g') : Wp p e s below C S Q T g := q ▸ k
def PureQ (r : Value) (h0 : Heap) (v : Option Value) (h : Heap) (L : List Loc) : Prop := v = some r ∧ L = [] ∧ h = h0
theorem w_callP (X : Stand p l e R s m args below meth c T locs cells slots) (hx : p.tables.exec = Jvm.exec) {Z : State} {a0 : Array Value} {h : Heap} (hZ : Z.Warmed39 s.vm) (eT : T.heap = h) {own : String} {i : Nat} {y : MethodName} {bytes : ByteArray} {maxL : Nat} {ret : Option FieldType} {rm : Room} {W : Nat} {as' : Array Value} {r0 : Value}
    (hown : s.vm.findClass own = some m.cls) (hml : Ls.size = c.maxLocals) (w1 : (Jvm.Cond.methodLink own i y).before a0 Z = true) (w2 : (Jvm.Cond.static y).before a0 Z = true) (w3 : (Jvm.Cond.initialized y.cls).before a0 Z = true) (w4 : (Jvm.Cond.code y bytes maxL ret).before a0 Z = true)
    (hM : MetFree l y (head1 [Jvm.Cond.code y bytes maxL ret] rm) (fun a U => a = as' ∧ Z.Warmed39 U.vm ∧ U.heap = h) (fun _ _ _ _ _ => True) (fun _ U o U' => ∃ v L, o = .returned v ∧ PureQ r0 h v U'.heap L ∧ FrameEnd U o U' L rm.cells rm.slots))
    (hy : y.cls ≠ "java/lang/invoke/MethodHandle" ∧ y.cls ≠ "java/lang/invoke/VarHandle") (hf : rm.frames + 1 ≤ R.frames) (hl : W + (maxL + 11) + rm.locals ≤ R.locals) (hc : rm.cells = 0) (hsl : rm.slots = 0) (hc' : cells ≤ R.cells) (hsl' : slots ≤ R.slots)
    {argsL rest : List Value} {ps : List FieldType} {r : Option FieldType} (hpd : parseMethodDescriptor y.desc = some ⟨ps, r⟩) (hlen : argsL.length = ps.length) (has : argsL.toArray = as') (hst : st = argsL.reverse ++ rest) (hW : (rest.map fun v => v.category).sum ≤ W) (hd : decode c.code pc = .ok (.invokestatic i, 3)) (hp : pc + 3 = pc')
    (k : ∀ (T' : State), Stand p l e R s m args below meth c T' locs cells slots → T'.heap = h → Wp p e s below C S Q T' (mkF m pc' Ls (r0 :: rest))) : Wp p e s below C S Q T (mkF m pc Ls st) := by
  refine own_call X hx hZ eT hown hml w1 w2 w3 w4 hM hy hf hl (by omega) (by omega) hpd hlen has hst hW hd hp ?_
  intro v T' L X' hq
  obtain ⟨rfl, rfl, e1⟩ := hq
  rw [List.append_nil, hc, hsl] at X'
  exact k T' X' e1
def PureQV (h0 : Heap) (v : Option Value) (h : Heap) (L : List Loc) : Prop := v = none ∧ L = [] ∧ h = h0
theorem w_callPV (X : Stand p l e R s m args below meth c T locs cells slots) (hx : p.tables.exec = Jvm.exec) {Z : State} {a0 : Array Value} {h : Heap} (hZ : Z.Warmed39 s.vm) (eT : T.heap = h) {own : String} {i : Nat} {y : MethodName} {bytes : ByteArray} {maxL : Nat} {ret : Option FieldType} {rm : Room} {W : Nat} {as' : Array Value}
    (hown : s.vm.findClass own = some m.cls) (hml : Ls.size = c.maxLocals) (w1 : (Jvm.Cond.methodLink own i y).before a0 Z = true) (w2 : (Jvm.Cond.static y).before a0 Z = true) (w3 : (Jvm.Cond.initialized y.cls).before a0 Z = true) (w4 : (Jvm.Cond.code y bytes maxL ret).before a0 Z = true)
    (hM : MetFree l y (head1 [Jvm.Cond.code y bytes maxL ret] rm) (fun a U => a = as' ∧ Z.Warmed39 U.vm ∧ U.heap = h) (fun _ _ _ _ _ => True) (fun _ U o U' => ∃ v L, o = .returned v ∧ PureQV h v U'.heap L ∧ FrameEnd U o U' L rm.cells rm.slots))
    (hy : y.cls ≠ "java/lang/invoke/MethodHandle" ∧ y.cls ≠ "java/lang/invoke/VarHandle") (hf : rm.frames + 1 ≤ R.frames) (hl : W + (maxL + 11) + rm.locals ≤ R.locals) (hc : rm.cells = 0) (hsl : rm.slots = 0) (hc' : cells ≤ R.cells) (hsl' : slots ≤ R.slots)
    {argsL rest : List Value} {ps : List FieldType} {r : Option FieldType} (hpd : parseMethodDescriptor y.desc = some ⟨ps, r⟩) (hlen : argsL.length = ps.length) (has : argsL.toArray = as') (hst : st = argsL.reverse ++ rest) (hW : (rest.map fun v => v.category).sum ≤ W) (hd : decode c.code pc = .ok (.invokestatic i, 3)) (hp : pc + 3 = pc')
    (k : ∀ (T' : State), Stand p l e R s m args below meth c T' locs cells slots → T'.heap = h → Wp p e s below C S Q T' (mkF m pc' Ls rest)) : Wp p e s below C S Q T (mkF m pc Ls st) := by
  refine own_call X hx hZ eT hown hml w1 w2 w3 w4 hM hy hf hl (by omega) (by omega) hpd hlen has hst hW hd hp ?_
  intro v T' L X' hq
  obtain ⟨rfl, rfl, e1⟩ := hq
  rw [List.append_nil, hc, hsl] at X'
  exact k T' X' e1
theorem own_body {x : MethodName} {code : ByteArray} {maxL : Nat} {ret : Option FieldType} {ws : List Jvm.Cond} {rm : Room} {Z : State} {as : Array Value} {h0 : Heap} (hx : plainFor x = true)
    (body : ∀ (p : Program) (e : Env) (s : State) (m : MethodId) (below : List Frame) (meth : Method) (c : Code) (T : State), p.tables.exec = Jvm.exec → c.code = code → c.maxLocals = maxL → meth.sig.returnType = ret → meth.locks = false → s.vm.findClass x.cls = some m.cls → meth.name = x.name → Z.Warmed39 s.vm → Stand p l e rm s m as below meth c T [] 0 0 → T.heap = h0 → Wp p e s below rm.cells rm.slots Q T (entryFrame m as maxL)) :
    MetFree l x (head1 (Jvm.Cond.code x code maxL ret :: ws) rm) (fun a U => a = as ∧ Z.Warmed39 U.vm ∧ U.heap = h0) (fun _ _ _ _ _ => True) (fun _ U o U' => ∃ v L, o = .returned v ∧ Q v U'.heap L ∧ FrameEnd U o U' L rm.cells rm.slots) := by
  refine MetFree.of_bodySF hx hisR ?_
  intro p e s m args below meth c s₁ Bd hml0 hP hK
  obtain ⟨rfl, hZ, hh⟩ := hP
  exact body p e s m below meth c s₁ Bd.exec Bd.bytes hml0 Bd.returns Bd.notSynchronized (findClass_of_methodNamed Bd.named) (name_of_methodNamed Bd.named Bd.method).1 hZ (Stand.of_body Bd) (by rw [← hh, Bd.state]; rfl)
end OwnW
/-! cells made since the start: explicit -/
def HP (n0 : Nat) (h : Heap) (cs : List Cell) : Prop := h.size = n0 + cs.length ∧ ∀ (i : Nat) (c : Cell), cs[i]? = some c → h[n0 + i]? = some c
def IsA (Z : State) (k : ClassId) (ty : FieldType) : Prop := (∃ kc, Z.vm.classes[k]? = some kc ∧ ∃ comp, kc.kind = .array comp ty) ∧ Z.vm.findClass ("[" ++ ty.toString) = some k
def AC (k : ClassId) (vs : List Value) : Cell := { cls := k, slots := vs.toArray, vm := .none }
def FldC (Z : State) (cell : Cell) (C n d : String) (v : Value) : Prop := ∃ (cf : ClassId) (k : Class) (i : Nat) (f : Field), Z.fieldFound? C n d = some (cf, k, i, f) ∧ f.isStatic = false ∧ cell.vm ≠ .unknown ∧ cell.vm.isStatics = false ∧ Z.vm.assignable cell.cls cf = true ∧ cell.slots[f.slot]? = some v
def ExaC (Z : State) (cell : Cell) (C : String) : Prop := ∃ (k : Class), Z.vm.findClass C = some cell.cls ∧ Z.vm.classes[cell.cls]? = some k ∧ cell.vm.isStatics = false ∧ (k.kind = .ordinary → cell.slots.size = k.instanceTypes.size)
def ObjF (Z : State) (cell : Cell) (C : String) (fl : List (String × String)) (vs : List Value) : Prop := ExaC Z cell C ∧ vs.length = fl.length ∧ ∀ (j : Nat) (n d : String) (v : Value), fl[j]? = some (n, d) → vs[j]? = some v → FldC Z cell C n d v
def Dis (Z : State) (C : String) (fl : List (String × String)) : Prop := ∀ (i j : Nat) (a b : String × String), fl[i]? = some a → fl[j]? = some b → i ≠ j → Jvm.RoadKit.slotOf Z C a.1 a.2 ≠ Jvm.RoadKit.slotOf Z C b.1 b.2
section OwnHP
variable {Z : State} {h h' : Heap} {n0 : Nat} {cs : List Cell} {i sl : Nat} {cell : Cell} {v : Value} {k : ClassId} {vs : List Value} {ty : FieldType} {C : String} {fl : List (String × String)}
theorem HP.nil (h : Heap) : HP h.size h [] := ⟨by simp, fun i c q => by simp at q⟩
theorem HP.push (P : HP n0 h cs) (c : Cell) : HP n0 (h.push c) (cs ++ [c]) := by
  refine ⟨by simp [P.1]; omega, fun i c' q => ?_⟩
  by_cases hi : i < cs.length
  · rw [List.getElem?_append_left hi] at q
    have := P.2 i c' q
    rw [Array.getElem?_push_lt (by rw [P.1]; omega)]
    rw [Array.getElem?_eq_getElem (by rw [P.1]; omega)] at this
    exact this
  · have hl : i < (cs ++ [c]).length := (List.getElem?_eq_some_iff.mp q).1
    have e : i = cs.length := by simp at hl; omega
    subst e
    rw [List.getElem?_append_right (Nat.le_refl _)] at q
    simp at q
    subst q
    rw [← P.1]; simp
theorem HP.wr (P : HP n0 h cs) (W : Wr h h' (n0 + i) sl v) (q : cs[i]? = some cell) : HP n0 h' (cs.set i (cell.setSlot sl v)) := by
  obtain ⟨c0, h1, h2, h3, rfl⟩ := W
  cases h1.symm.trans (P.2 i cell q)
  refine ⟨by simp [P.1], fun j c' r => ?_⟩
  by_cases e : i = j
  · subst e
    have hl : i < cs.length := (List.getElem?_eq_some_iff.mp q).1
    rw [List.getElem?_set_self hl] at r
    cases r
    rw [Array.getElem?_setIfInBounds_self_of_lt (by rw [P.1]; omega)]
  · rw [List.getElem?_set_ne e] at r
    rw [Array.getElem?_setIfInBounds_ne (by omega)]
    exact P.2 j c' r
theorem HP.arr (P : HP n0 h cs) (q : cs[i]? = some (AC k vs)) (a : IsA Z k ty) : Arr Z h (n0 + i) (AC k vs) ty := ⟨P.2 _ _ q, ⟨fun _ => by simp [AC], a.1⟩, by simp [AC]⟩
theorem HP.exaA (P : HP n0 h cs) (q : cs[i]? = some (AC k vs)) (a : IsA Z k ty) {ad : String} (had : "[" ++ ty.toString = ad) : Exa Z h (n0 + i) ad := by
  obtain ⟨⟨kc, h1, comp, h2⟩, h3⟩ := a
  exact ⟨AC k vs, kc, P.2 _ _ q, by rw [← had]; exact h3, h1, rfl, fun z => by rw [h2] at z; cases z⟩
theorem HP.fld (P : HP n0 h cs) (q : cs[i]? = some cell) {n d : String} (F : FldC Z cell C n d v) : Fld Z h (n0 + i) C n d v := by
  obtain ⟨cf, k, j, f, r⟩ := F
  exact ⟨cell, cf, k, j, f, P.2 _ _ q, r⟩
theorem HP.exa (P : HP n0 h cs) (q : cs[i]? = some cell) (F : ExaC Z cell C) : Exa Z h (n0 + i) C := by
  obtain ⟨k, r⟩ := F
  exact ⟨cell, k, P.2 _ _ q, r⟩
theorem AC.set (k : ClassId) (vs : List Value) (j : Nat) (v : Value) : (AC k vs).setSlot j v = AC k (vs.set j v) := by simp [AC, Cell.setSlot]
theorem ExaC.set (F : ExaC Z cell C) (sl : Nat) (v : Value) : ExaC Z (cell.setSlot sl v) C := by
  obtain ⟨k, h1, h2, h3, h4⟩ := F
  exact ⟨k, h1, h2, h3, fun q => by rw [← h4 q]; simp [Cell.setSlot]⟩
theorem ObjF.set (F : ObjF Z cell C fl vs) (D : Dis Z C fl) {j : Nat} {n d : String} (hj : fl[j]? = some (n, d)) (v : Value) : ObjF Z (cell.setSlot (Jvm.RoadKit.slotOf Z C n d) v) C fl (vs.set j v) := by
  obtain ⟨E, hl, F⟩ := F
  refine ⟨E.set _ _, by simp [hl], fun i n' d' v' h1 h2 => ?_⟩
  have hjl : j < fl.length := (List.getElem?_eq_some_iff.mp hj).1
  by_cases e : j = i
  · subst e
    cases hj.symm.trans h1
    rw [List.getElem?_set_self (by omega)] at h2
    cases h2
    obtain ⟨cf, k, x, f, g1, g2, g3, g4, g5, g6⟩ := F j n d _ hj (List.getElem?_eq_getElem (by omega))
    have es : Jvm.RoadKit.slotOf Z C n d = f.slot := by simp [Jvm.RoadKit.slotOf, g1]
    refine ⟨cf, k, x, f, g1, g2, g3, g4, g5, ?_⟩
    rw [es]
    have := (Array.getElem?_eq_some_iff.mp g6).1
    simp [Cell.setSlot, this]
  · rw [List.getElem?_set_ne e] at h2
    obtain ⟨cf, k, x, f, g1, g2, g3, g4, g5, g6⟩ := F i n' d' v' h1 h2
    have es : Jvm.RoadKit.slotOf Z C n' d' = f.slot := by simp [Jvm.RoadKit.slotOf, g1]
    have ne := D j i _ _ hj h1 e
    refine ⟨cf, k, x, f, g1, g2, g3, g4, g5, ?_⟩
    show ((cell.slots.setIfInBounds _ _)[_]?) = _
    rw [Array.getElem?_setIfInBounds_ne (by rw [← es]; exact ne)]
    exact g6
theorem own_dis {a0 : Array Value} (hL : ∀ (j : Nat) (n d : String), fl[j]? = some (n, d) → Laid Z a0 C C n d ∧ ∃ t, parseFieldDescriptor d = some t) (hN : (fl.map Prod.fst).Nodup) : Dis Z C fl := by
  intro i j a b h1 h2 hne
  obtain ⟨L1, t1, p1⟩ := hL i a.1 a.2 h1
  obtain ⟨L2, t2, p2⟩ := hL j b.1 b.2 h2
  refine slot_ne L1 L2 (fun q => hne ?_) p1 p2
  have i1 := (List.getElem?_eq_some_iff.mp h1).1
  have i2 := (List.getElem?_eq_some_iff.mp h2).1
  have e1 : (fl.map Prod.fst)[i]? = some a.1 := by simp [h1]
  have e2 : (fl.map Prod.fst)[j]? = some b.1 := by simp [h2]
  exact (List.getElem?_inj (by simpa using i1) hN).mp (by rw [e1, e2, q])
theorem own_one {n0 : Nat} {L : List Loc} (N : Fr n0 L) (i sl : Nat) : Fr n0 (L ++ [⟨n0 + i, sl⟩]) := N.app fun y hy => by cases List.mem_singleton.mp hy; exact Nat.le_add_right _ _
theorem own_idx {j : Int32} {jn N : Nat} (hj : j.toInt = (jn : Int)) (hn : jn < N) : j.toNatClampNeg = jn ∧ ¬ (j < 0 ∨ N ≤ j.toNatClampNeg) := by
  have e : j.toNatClampNeg = jn := by simp [Int32.toNatClampNeg, hj]
  refine ⟨e, ?_⟩
  rw [e, Int32.lt_iff_toInt_lt, hj]
  simp
  omega
end OwnHP
theorem own_get {α : Type} {f : α → Value} {l : List α} {j : Nat} {d : α} (h : j < l.length) : (List.map f l)[j]? = some (f (l.getD j d)) := by
  simp [List.getD_eq_getElem?_getD, h]
theorem own_sl {α : Type} {l : List α} {i N : Nat} {x : α} (h : l.length = N) : (l.set i x).length = N := by simp [h]
theorem own_llt {α : Type} {l : List α} {j N : Nat} (h : l.length = N) (q : j < N) : j < l.length := by omega
theorem own_oN {n : Nat} (h : n < 2147483648) : (Int32.ofNat n).toInt = (n : Int) := Int32.toInt_ofNat_of_lt h
theorem own_oadd (a b : Nat) : Int32.ofNat a + Int32.ofNat b = Int32.ofNat (a + b) := (Int32.ofNat_add a b).symm
theorem own_osub {a b : Nat} (h : b ≤ a) : Int32.ofNat a - Int32.ofNat b = Int32.ofNat (a - b) := by
  have := own_oadd (a - b) b
  rw [Nat.sub_add_cancel h] at this
  rw [← this, Int32.add_sub_cancel]
theorem own_omul (a b : Nat) : Int32.ofNat a * Int32.ofNat b = Int32.ofNat (a * b) := (Int32.ofNat_mul a b).symm
theorem own_olt {a b : Nat} (ha : a < 2147483648) (hb : b < 2147483648) : Int32.ofNat a < Int32.ofNat b ↔ a < b := by
  rw [Int32.lt_iff_toInt_lt, own_oN ha, own_oN hb]; omega
theorem own_oeq {a b : Nat} (ha : a < 2147483648) (hb : b < 2147483648) : Int32.ofNat a = Int32.ofNat b ↔ a = b := by
  rw [← Int32.toInt_inj, own_oN ha, own_oN hb]; omega
theorem own_len {α : Type} {f : α → Value} {l : List α} {N : Nat} (h : l.length = N) : (List.map f l).length.toInt32 = Int32.ofNat N := by
  rw [List.length_map, h]
section OwnH
variable {p : Program} {l : Launch} {e : Env} {R : Room} {s : State} {m : MethodId} {args : Array Value} {below : List Frame} {meth : Method} {c : Code} {T : State} {locs : List Loc} {cells slots : Nat} {C S : Nat} {Q : Option Value → Heap → List Loc → Prop} {pc pc' : Nat} {Ls : Array Slot} {st : List Value}
  {Z : State} {a0 : Array Value} {n0 : Nat} {cs : List Cell}
theorem w_newarr (X : Stand p l e R s m args below meth c T locs cells slots) (hx : p.tables.exec = Jvm.exec) (hZ : Z.Warmed39 s.vm) (P : HP n0 T.heap cs) {aty : ArrayType} {ty : FieldType} (hty : newarray.typeOf aty = ty) (w : (Jvm.Cond.arrayClass ty).before a0 Z = true) (hd : decode c.code pc = .ok (.newarray aty, 2))
    {n : Int32} {N j : Nat} (hn : n.toInt = (N : Int)) (hN : N ≤ 1000) (hc : cells + 1 ≤ R.cells) (hl : slots + N ≤ R.slots) (hj : cs.length = j) (hp : pc + 2 = pc')
    (k : ∀ (T' : State) (kA : ClassId), Stand p l e R s m args below meth c T' locs (cells + 1) (slots + N) → IsA Z kA ty → HP n0 T'.heap (cs ++ [AC kA (List.replicate N (defaultValue ty))]) → Wp p e s below C S Q T' (mkF m pc' Ls (.ref (n0 + j) :: st))) :
    Wp p e s below C S Q T (mkF m pc Ls (.int n :: st)) := by
  subst hp hty hj
  have en : n.toNatClampNeg = N := by simp [Int32.toNatClampNeg, hn]
  have hcb : componentBytes (newarray.typeOf aty) ≤ 8 := by cases aty <;> decide
  obtain ⟨cA, kA, comp, h1, h2, h3, X', st1⟩ := X.newarrayPrim hx (mvA hZ w) (g := mkF m pc Ls (.int n :: st)) rfl hd rfl (by rw [Int32.lt_iff_toInt_lt, hn]; simp) (by rw [en]; exact Nat.le_trans (Nat.mul_le_mul hN hcb) (by decide)) hc (by rw [en]; exact hl)
  rw [en] at X' st1
  rw [hZ.alike.findClass] at h1
  obtain ⟨kZ, z1, -⟩ := Vm.findClass_spec h1
  obtain ⟨k', z2, z3⟩ := hZ.alike.2.2 _ _ z1
  cases h2.symm.trans z2
  rw [P.1] at st1
  have ec : ({ cls := cA, slots := Array.replicate N (defaultValue (newarray.typeOf aty)), vm := .none } : Cell) = AC cA (List.replicate N (defaultValue (newarray.typeOf aty))) := by simp [AC]
  rw [ec] at X' st1
  exact Wp.via st1 (k _ cA X' ⟨⟨kZ, z1, comp, by rw [← h3, z3]⟩, h1⟩ (P.push _))
theorem w_arrlen (X : Stand p l e R s m args below meth c T locs cells slots) (hx : p.tables.exec = Jvm.exec) (hZ : Z.Warmed39 s.vm) (P : HP n0 T.heap cs) {i : Nat} {kA : ClassId} {vs : List Value} {ty : FieldType} (q : cs[i]? = some (AC kA vs)) (hk : IsA Z kA ty) (hd : decode c.code pc = .ok (.arraylength, 1)) {z : Int32} (hz : vs.length.toInt32 = z) (hp : pc + 1 = pc')
    (k : Wp p e s below C S Q T (mkF m pc' Ls (.int z :: st))) : Wp p e s below C S Q T (mkF m pc Ls (.ref (n0 + i) :: st)) := by
  subst hp hz
  have A := P.arr q hk
  refine Wp.via (fun t ht => X.arraylength hx (cell := AC kA vs) A.1 (State.isArrayOf_alike hZ.alike A.2.1) (g := mkF m pc Ls (.ref (n0 + i) :: st)) rfl (rest := st) rfl hd _ ?_) k
  simpa [AC] using ht
theorem w_iaload (X : Stand p l e R s m args below meth c T locs cells slots) (hx : p.tables.exec = Jvm.exec) (hZ : Z.Warmed39 s.vm) (P : HP n0 T.heap cs) {i : Nat} {kA : ClassId} {vs : List Value} (q : cs[i]? = some (AC kA vs)) (hk : IsA Z kA .int) (hd : decode c.code pc = .ok (.iaload, 1)) {j : Int32} {jn : Nat} (hj : j.toInt = (jn : Int)) {v : Value} (hv : vs[jn]? = some v) (hp : pc + 1 = pc')
    (k : Wp p e s below C S Q T (mkF m pc' Ls (v :: st))) : Wp p e s below C S Q T (mkF m pc Ls (.int j :: .ref (n0 + i) :: st)) := by
  subst hp
  have A := P.arr q hk
  have hl : jn < (AC kA vs).slots.size := by simp [AC]; exact (List.getElem?_eq_some_iff.mp hv).1
  obtain ⟨e1, e2⟩ := own_idx hj hl
  exact Wp.via (fun t ht => X.iaload hx (j := j) (v := v) A.1 (State.isArrayOf_alike hZ.alike A.2.1) A.2.2 e2 (by rw [e1]; simpa [AC] using hv) (g := mkF m pc Ls (.int j :: .ref (n0 + i) :: st)) rfl rfl hd _ ht) k
theorem w_laload (X : Stand p l e R s m args below meth c T locs cells slots) (hx : p.tables.exec = Jvm.exec) (hZ : Z.Warmed39 s.vm) (P : HP n0 T.heap cs) {i : Nat} {kA : ClassId} {vs : List Value} (q : cs[i]? = some (AC kA vs)) (hk : IsA Z kA .long) (hd : decode c.code pc = .ok (.laload, 1)) {j : Int32} {jn : Nat} (hj : j.toInt = (jn : Int)) {v : Value} (hv : vs[jn]? = some v) (hp : pc + 1 = pc')
    (k : Wp p e s below C S Q T (mkF m pc' Ls (v :: st))) : Wp p e s below C S Q T (mkF m pc Ls (.int j :: .ref (n0 + i) :: st)) := by
  subst hp
  have A := P.arr q hk
  have hl : jn < (AC kA vs).slots.size := by simp [AC]; exact (List.getElem?_eq_some_iff.mp hv).1
  obtain ⟨e1, e2⟩ := own_idx hj hl
  exact Wp.via (fun t ht => X.laload hx (j := j) (v := v) A.1 (State.isArrayOf_alike hZ.alike A.2.1) A.2.2 e2 (by rw [e1]; simpa [AC] using hv) (g := mkF m pc Ls (.int j :: .ref (n0 + i) :: st)) rfl rfl hd _ ht) k
theorem w_baload (X : Stand p l e R s m args below meth c T locs cells slots) (hx : p.tables.exec = Jvm.exec) (hZ : Z.Warmed39 s.vm) (P : HP n0 T.heap cs) {i : Nat} {kA : ClassId} {vs : List Value} (q : cs[i]? = some (AC kA vs)) (hk : IsA Z kA .byte) (hd : decode c.code pc = .ok (.baload, 1)) {j : Int32} {jn : Nat} (hj : j.toInt = (jn : Int)) {v : Value} (hv : vs[jn]? = some v) (hp : pc + 1 = pc')
    (k : Wp p e s below C S Q T (mkF m pc' Ls (v :: st))) : Wp p e s below C S Q T (mkF m pc Ls (.int j :: .ref (n0 + i) :: st)) := by
  subst hp
  have A := P.arr q hk
  have hl : jn < (AC kA vs).slots.size := by simp [AC]; exact (List.getElem?_eq_some_iff.mp hv).1
  obtain ⟨e1, e2⟩ := own_idx hj hl
  exact Wp.via (fun t ht => X.baloadBytes hx (j := j) (v := v) A.1 (State.isArrayOf_alike hZ.alike A.2.1) A.2.2 e2 (by rw [e1]; simpa [AC] using hv) (g := mkF m pc Ls (.int j :: .ref (n0 + i) :: st)) rfl rfl hd _ ht) k
theorem w_caload (X : Stand p l e R s m args below meth c T locs cells slots) (hx : p.tables.exec = Jvm.exec) (hZ : Z.Warmed39 s.vm) (P : HP n0 T.heap cs) {i : Nat} {kA : ClassId} {vs : List Value} (q : cs[i]? = some (AC kA vs)) (hk : IsA Z kA .char) (hd : decode c.code pc = .ok (.caload, 1)) {j : Int32} {jn : Nat} (hj : j.toInt = (jn : Int)) {v : Value} (hv : vs[jn]? = some v) (hp : pc + 1 = pc')
    (k : Wp p e s below C S Q T (mkF m pc' Ls (v :: st))) : Wp p e s below C S Q T (mkF m pc Ls (.int j :: .ref (n0 + i) :: st)) := by
  subst hp
  have A := P.arr q hk
  have hl : jn < (AC kA vs).slots.size := by simp [AC]; exact (List.getElem?_eq_some_iff.mp hv).1
  obtain ⟨e1, e2⟩ := own_idx hj hl
  exact Wp.via (fun t ht => X.caload hx (j := j) (v := v) A.1 (State.isArrayOf_alike hZ.alike A.2.1) A.2.2 e2 (by rw [e1]; simpa [AC] using hv) (g := mkF m pc Ls (.int j :: .ref (n0 + i) :: st)) rfl rfl hd _ ht) k
theorem w_iastore (X : Stand p l e R s m args below meth c T locs cells slots) (hx : p.tables.exec = Jvm.exec) (hZ : Z.Warmed39 s.vm) (N : Fr n0 locs) (P : HP n0 T.heap cs) {i : Nat} {kA : ClassId} {vs : List Value} (q : cs[i]? = some (AC kA vs)) (hk : IsA Z kA .int) (hd : decode c.code pc = .ok (.iastore, 1)) {j : Int32} {x : Int32} {jn : Nat} (hj : j.toInt = (jn : Int)) (hl : jn < vs.length) (hp : pc + 1 = pc')
    (k : ∀ (T' : State) (L' : List Loc), Fr n0 L' → Stand p l e R s m args below meth c T' L' cells slots → HP n0 T'.heap (cs.set i (AC kA (vs.set jn (.int x)))) → Wp p e s below C S Q T' (mkF m pc' Ls st)) : Wp p e s below C S Q T (mkF m pc Ls (.int x :: .int j :: .ref (n0 + i) :: st)) := by
  subst hp
  have A := P.arr q hk
  obtain ⟨e1, e2⟩ := own_idx hj (N := (AC kA vs).slots.size) (by simpa [AC] using hl)
  obtain ⟨T', h', X', eh, W, st1⟩ := stI X hx hZ rfl A e2 (g := mkF m pc Ls (.int x :: .int j :: .ref (n0 + i) :: st)) rfl rfl hd
  rw [e1] at X' W
  subst eh
  have P' := P.wr W q
  rw [AC.set] at P'
  exact Wp.via st1 (k T' _ (own_one N _ _) X' P')
theorem w_lastore (X : Stand p l e R s m args below meth c T locs cells slots) (hx : p.tables.exec = Jvm.exec) (hZ : Z.Warmed39 s.vm) (N : Fr n0 locs) (P : HP n0 T.heap cs) {i : Nat} {kA : ClassId} {vs : List Value} (q : cs[i]? = some (AC kA vs)) (hk : IsA Z kA .long) (hd : decode c.code pc = .ok (.lastore, 1)) {j : Int32} {x : Int64} {jn : Nat} (hj : j.toInt = (jn : Int)) (hl : jn < vs.length) (hp : pc + 1 = pc')
    (k : ∀ (T' : State) (L' : List Loc), Fr n0 L' → Stand p l e R s m args below meth c T' L' cells slots → HP n0 T'.heap (cs.set i (AC kA (vs.set jn (.long x)))) → Wp p e s below C S Q T' (mkF m pc' Ls st)) : Wp p e s below C S Q T (mkF m pc Ls (.long x :: .int j :: .ref (n0 + i) :: st)) := by
  subst hp
  have A := P.arr q hk
  obtain ⟨e1, e2⟩ := own_idx hj (N := (AC kA vs).slots.size) (by simpa [AC] using hl)
  obtain ⟨T', h', X', eh, W, st1⟩ := stJ X hx hZ rfl A e2 (g := mkF m pc Ls (.long x :: .int j :: .ref (n0 + i) :: st)) rfl rfl hd
  rw [e1] at X' W
  subst eh
  have P' := P.wr W q
  rw [AC.set] at P'
  exact Wp.via st1 (k T' _ (own_one N _ _) X' P')
theorem w_bastore (X : Stand p l e R s m args below meth c T locs cells slots) (hx : p.tables.exec = Jvm.exec) (hZ : Z.Warmed39 s.vm) (N : Fr n0 locs) (P : HP n0 T.heap cs) {i : Nat} {kA : ClassId} {vs : List Value} (q : cs[i]? = some (AC kA vs)) (hk : IsA Z kA .byte) (hd : decode c.code pc = .ok (.bastore, 1)) {j : Int32} {x : Int32} {jn : Nat} (hj : j.toInt = (jn : Int)) (hl : jn < vs.length) (hp : pc + 1 = pc')
    (k : ∀ (T' : State) (L' : List Loc), Fr n0 L' → Stand p l e R s m args below meth c T' L' cells slots → HP n0 T'.heap (cs.set i (AC kA (vs.set jn (.int (nar .byte x))))) → Wp p e s below C S Q T' (mkF m pc' Ls st)) : Wp p e s below C S Q T (mkF m pc Ls (.int x :: .int j :: .ref (n0 + i) :: st)) := by
  subst hp
  have A := P.arr q hk
  obtain ⟨e1, e2⟩ := own_idx hj (N := (AC kA vs).slots.size) (by simpa [AC] using hl)
  obtain ⟨T', h', X', eh, W, st1⟩ := stB X hx hZ rfl A e2 (g := mkF m pc Ls (.int x :: .int j :: .ref (n0 + i) :: st)) rfl rfl hd
  rw [e1] at X' W
  subst eh
  have P' := P.wr W q
  rw [AC.set] at P'
  exact Wp.via st1 (k T' _ (own_one N _ _) X' P')
theorem w_bastoreE (X : Stand p l e R s m args below meth c T locs cells slots) (hx : p.tables.exec = Jvm.exec) (hZ : Z.Warmed39 s.vm) (N : Fr n0 locs) (P : HP n0 T.heap cs) {i : Nat} {kA : ClassId} {vs : List Value} (q : cs[i]? = some (AC kA vs)) (hk : IsA Z kA .byte) (hd : decode c.code pc = .ok (.bastore, 1)) {j : Int32} {x z : Int32} {jn : Nat} (hz : nar .byte x = z) (hj : j.toInt = (jn : Int)) (hl : jn < vs.length) (hp : pc + 1 = pc')
    (k : ∀ (T' : State) (L' : List Loc), Fr n0 L' → Stand p l e R s m args below meth c T' L' cells slots → HP n0 T'.heap (cs.set i (AC kA (vs.set jn (.int z)))) → Wp p e s below C S Q T' (mkF m pc' Ls st)) : Wp p e s below C S Q T (mkF m pc Ls (.int x :: .int j :: .ref (n0 + i) :: st)) := by
  subst hp hz
  have A := P.arr q hk
  obtain ⟨e1, e2⟩ := own_idx hj (N := (AC kA vs).slots.size) (by simpa [AC] using hl)
  obtain ⟨T', h', X', eh, W, st1⟩ := stB X hx hZ rfl A e2 (g := mkF m pc Ls (.int x :: .int j :: .ref (n0 + i) :: st)) rfl rfl hd
  rw [e1] at X' W
  subst eh
  have P' := P.wr W q
  rw [AC.set] at P'
  exact Wp.via st1 (k T' _ (own_one N _ _) X' P')
theorem w_getf (X : Stand p l e R s m args below meth c T locs cells slots) (hx : p.tables.exec = Jvm.exec) (hZ : Z.Warmed39 s.vm) {own O n d : String} {idx : Nat} (hown : s.vm.findClass own = some m.cls) (w : (Jvm.Cond.fieldLink own idx O n d).before a0 Z = true) (P : HP n0 T.heap cs) {i : Nat} {cell : Cell} (q : cs[i]? = some cell) {fl : List (String × String)} {vs : List Value} (F : ObjF Z cell O fl vs) (j : Nat) (hf : fl[j]? = some (n, d)) {v : Value} (hv : vs[j]? = some v) (hd : decode c.code pc = .ok (.getfield idx, 3)) (hp : pc + 3 = pc')
    (k : ∀ (T' : State), Stand p l e R s m args below meth c T' locs cells slots → HP n0 T'.heap cs → Wp p e s below C S Q T' (mkF m pc' Ls (v :: st))) : Wp p e s below C S Q T (mkF m pc Ls (.ref (n0 + i) :: st)) := by
  subst hp
  obtain ⟨T', X', eh, st1⟩ := getF X hx hZ hown (host := "") (Or.inl w) Via.refl rfl (P.fld q (F.2.2 j n d v hf hv)) (g := mkF m pc Ls (.ref (n0 + i) :: st)) rfl rfl hd
  exact Wp.via st1 (k T' X' (by rw [eh]; exact P))
theorem w_putf (X : Stand p l e R s m args below meth c T locs cells slots) (hx : p.tables.exec = Jvm.exec) (hZ : Z.Warmed39 s.vm) {own O n d : String} {idx kk : Nat} {ty : FieldType} (hown : s.vm.findClass own = some m.cls) (w : (Jvm.Cond.fieldLink own idx O n d).before a0 Z = true) (N : Fr n0 locs) (P : HP n0 T.heap cs) {i : Nat} {cell : Cell} (q : cs[i]? = some cell) {fl : List (String × String)} {vs : List Value} (F : ObjF Z cell O fl vs) (D : Dis Z O fl) (j : Nat) (hf : fl[j]? = some (n, d))
    (L : (Jvm.Cond.lays O O n d).before a0 Z = true ∨ ((Jvm.Cond.laysFinal O O n d).before a0 Z = true ∧ own = O ∧ meth.name = "<init>")) (wi : (Jvm.Cond.instantiable O kk).before a0 Z = true) (hty : parseFieldDescriptor d = some ty) {v : Value} (hn : narrow ty v = v) (hfit : fits ty v = true) (hd : decode c.code pc = .ok (.putfield idx, 3)) (hp : pc + 3 = pc')
    (k : ∀ (T' : State) (L' : List Loc) (cell' : Cell), Fr n0 L' → Stand p l e R s m args below meth c T' L' cells slots → HP n0 T'.heap (cs.set i cell') → ObjF Z cell' O fl (vs.set j v) → Wp p e s below C S Q T' (mkF m pc' Ls st)) : Wp p e s below C S Q T (mkF m pc Ls (v :: .ref (n0 + i) :: st)) := by
  subst hp
  have hjl : j < vs.length := by rw [F.2.1]; exact (List.getElem?_eq_some_iff.mp hf).1
  obtain ⟨T', h', X', eh, W, st1⟩ := putF X hx hZ hown (host := "") (Or.inl w) Via.refl rfl (P.fld q (F.2.2 j n d _ hf (List.getElem?_eq_getElem hjl))) (P.exa q F.1) L wi hty hn hfit (g := mkF m pc Ls (v :: .ref (n0 + i) :: st)) rfl rfl hd
  subst eh
  exact Wp.via st1 (k T' _ _ (own_one N _ _) X' (P.wr W q) (F.set D hf v))
theorem w_new (X : Stand p l e R s m args below meth c T locs cells slots) (hx : p.tables.exec = Jvm.exec) (hZ : Z.Warmed39 s.vm) {own K : String} {idx n j : Nat} (hown : s.vm.findClass own = some m.cls) (w : (Jvm.Cond.classLink own idx K).before a0 Z = true) (wi : (Jvm.Cond.instantiable K n).before a0 Z = true) (wz : (Jvm.Cond.initialized K).before a0 Z = true) (P : HP n0 T.heap cs)
    (fl : List (String × String)) (vs : List Value) (hfl : vs.length = fl.length) (hlay : ∀ (j : Nat) (n d : String) (v : Value), fl[j]? = some (n, d) → vs[j]? = some v → Laid Z a0 K K n d ∧ ∃ ty, parseFieldDescriptor d = some ty ∧ defaultValue ty = v) (hd : decode c.code pc = .ok (.new idx, 3)) (hc : cells + 1 ≤ R.cells) (hl : slots + n ≤ R.slots) (hj : cs.length = j) (hp : pc + 3 = pc')
    (k : ∀ (T' : State) (cell' : Cell), Stand p l e R s m args below meth c T' locs (cells + 1) (slots + n) → HP n0 T'.heap (cs ++ [cell']) → ObjF Z cell' K fl vs → Wp p e s below C S Q T' (mkF m pc' Ls (.ref (n0 + j) :: st))) : Wp p e s below C S Q T (mkF m pc Ls st) := by
  subst hp hj
  obtain ⟨vm', cC, kC, h1, h2, h3, h4, X', st1⟩ := X.newCold hx hown (mv hZ w) (mv hZ wi) (mv hZ wz) (g := mkF m pc Ls st) rfl hd hc hl
  rw [hZ.alike.findClass] at h1
  obtain ⟨kZ, z1, -⟩ := Vm.findClass_spec h1
  obtain ⟨k', z2, z3⟩ := hZ.alike.2.2 _ _ z1
  cases h2.symm.trans z2
  have ei : kC.instanceTypes = kZ.instanceTypes := by rw [z3]
  rw [P.1] at st1
  refine Wp.via st1 (k _ _ X' (P.push _) ⟨⟨kZ, h1, z1, rfl, fun _ => by simp [ei]⟩, hfl, fun j n d v a b => ?_⟩)
  obtain ⟨L, ty, ht, hv⟩ := hlay j n d v a b
  obtain ⟨c1, k1, cf, kf, i, f, a1, a2, a3, a4, a5, a6, -⟩ := L.spec
  cases h1.symm.trans a1
  cases z1.symm.trans a2
  exact ⟨cf, kf, i, f, a3, a4, by simp, rfl, a5, by simp [ei, a6, (State.fieldFound?_type a3 ht).2, hv]⟩
theorem w_initO (X : Stand p l e R s m args below meth c T locs cells slots) (hx : p.tables.exec = Jvm.exec) (hZ : Z.Warmed39 s.vm) {own : String} {idx : Nat} (hown : s.vm.findClass own = some m.cls) (hml : Ls.size = c.maxLocals) (w1 : (Jvm.Cond.methodLink own idx Lib.objectInit).before a0 Z = true) (w2 : (Jvm.Cond.instanceMethod Lib.objectInit).before a0 Z = true)
    (w3 : (Jvm.Cond.code Lib.objectInit ⟨#[0xb1]⟩ 1 none).before a0 Z = true) (P : HP n0 T.heap cs) {a : Addr} (hd : decode c.code pc = .ok (.invokespecial idx, 3)) (hf : 1 ≤ R.frames) {W : Nat} (hW : (st.map fun v => v.category).sum ≤ W) (hl : W + 12 ≤ R.locals) (hp : pc + 3 = pc')
    (k : ∀ (T' : State), Stand p l e R s m args below meth c T' locs cells slots → HP n0 T'.heap cs → Wp p e s below C S Q T' (mkF m pc' Ls st)) : Wp p e s below C S Q T (mkF m pc Ls (.ref a :: st)) := by
  subst hp
  obtain ⟨T', X', eh, st1⟩ := initO X hx hZ hown w1 w2 w3 rfl (g := mkF m pc Ls (.ref a :: st)) rfl hml (rest := st) rfl hd hf (W := W) (by show 2 * 0 + _ ≤ _; omega) hl
  exact Wp.via st1 (k T' X' (by rw [eh]; exact P))
theorem own_callI (X : Stand p l e R s m args below meth c T locs cells slots) (hx : p.tables.exec = Jvm.exec) {h : Heap} (hZ : Z.Warmed39 s.vm) (eT : T.heap = h) {own : String} {i : Nat} {y : MethodName} {bytes : ByteArray} {maxL : Nat} {rm : Room} {W : Nat} {as' : Array Value} {Qc : Option Value → Heap → List Loc → Prop} (hy1 : y.name = "<init>")
    (hown : s.vm.findClass own = some m.cls) (hml : Ls.size = c.maxLocals) (w1 : (Jvm.Cond.methodLink own i y).before a0 Z = true) (w2 : (Jvm.Cond.instanceMethod y).before a0 Z = true) (w3 : (Jvm.Cond.initialized y.cls).before a0 Z = true) (w4 : (Jvm.Cond.code y bytes maxL none).before a0 Z = true)
    (hM : MetFree l y (head1 [Jvm.Cond.code y bytes maxL none] rm) (fun a U => a = as' ∧ Z.Warmed39 U.vm ∧ U.heap = h) (fun _ _ _ _ _ => True) (fun _ U o U' => ∃ v L, o = .returned v ∧ Qc v U'.heap L ∧ FrameEnd U o U' L rm.cells rm.slots))
    (hy : y.cls ≠ "java/lang/invoke/MethodHandle" ∧ y.cls ≠ "java/lang/invoke/VarHandle") (hf : rm.frames + 1 ≤ R.frames) (hl : W + (maxL + 11) + rm.locals ≤ R.locals) (hc : cells + rm.cells ≤ R.cells) (hsl : slots + rm.slots ≤ R.slots)
    {a : Addr} {argsL rest : List Value} {ps : List FieldType} {r : Option FieldType} (hpd : parseMethodDescriptor y.desc = some ⟨ps, r⟩) (hlen : argsL.length = ps.length) (has : (.ref a :: argsL).toArray = as') (hst : st = argsL.reverse ++ .ref a :: rest) (hW : (rest.map fun v => v.category).sum ≤ W) (hd : decode c.code pc = .ok (.invokespecial i, 3)) (hp : pc + 3 = pc')
    (k : ∀ (v : Option Value) (T' : State) (L : List Loc), Stand p l e R s m args below meth c T' (locs ++ L) (cells + rm.cells) (slots + rm.slots) → Qc v T'.heap L → Wp p e s below C S Q T' (mkF m pc' Ls (v.toList ++ rest))) : Wp p e s below C S Q T (mkF m pc Ls st) := by
  obtain ⟨v, _, ⟨T1, L1, k1, n1⟩, -, X1, ⟨Lc1, hQ1, l1, y1, z1⟩, st1⟩ := X.specialBack hx (y := y) hy1 hown (mvT hZ w1) (mvT hZ w2) (mvT hZ w4) hy (backOf (W := W) hM hZ w4 w3 hf hl) (g := mkF m pc Ls st) rfl hml (Steps.refl _) (a := a) (argsL := argsL) (rest := rest) (lenOf hpd hlen) hst (by show 2 * 0 + _ ≤ _; omega) hd (fun _ _ => ⟨has, eT, hc, hsl⟩)
  dsimp only [Pt.U, Pt.locs, Pt.cells, Pt.slots] at X1 l1 y1 z1 st1 hQ1
  subst l1 y1 z1
  subst hp
  exact Wp.via (fun _ h => st1.trans h) (k v T1 Lc1 X1 hQ1)
theorem own_callV (X : Stand p l e R s m args below meth c T locs cells slots) (hx : p.tables.exec = Jvm.exec) {h : Heap} (hZ : Z.Warmed39 s.vm) (eT : T.heap = h) {own K : String} {i : Nat} {y : MethodName} {bytes : ByteArray} {maxL : Nat} {ret : Option FieldType} {rm : Room} {W : Nat} {as' : Array Value} {Qc : Option Value → Heap → List Loc → Prop}
    (hown : s.vm.findClass own = some m.cls) (hml : Ls.size = c.maxLocals) (w1 : (Jvm.Cond.methodLink own i y).before a0 Z = true) (w2 : (Jvm.Cond.declares y).before a0 Z = true) (w5 : (Jvm.Cond.selects K y y).before a0 Z = true) (w6 : (Jvm.Cond.instanceMethod y).before a0 Z = true) (w3 : (Jvm.Cond.initialized y.cls).before a0 Z = true) (w4 : (Jvm.Cond.code y bytes maxL ret).before a0 Z = true)
    (hM : MetFree l y (head1 [Jvm.Cond.code y bytes maxL ret] rm) (fun a U => a = as' ∧ Z.Warmed39 U.vm ∧ U.heap = h) (fun _ _ _ _ _ => True) (fun _ U o U' => ∃ v L, o = .returned v ∧ Qc v U'.heap L ∧ FrameEnd U o U' L rm.cells rm.slots))
    {a : Addr} (E : Exa Z h a K) (hy : y.cls ≠ "java/lang/invoke/MethodHandle" ∧ y.cls ≠ "java/lang/invoke/VarHandle") (hf : rm.frames + 1 ≤ R.frames) (hl : W + (maxL + 11) + rm.locals ≤ R.locals) (hc : cells + rm.cells ≤ R.cells) (hsl : slots + rm.slots ≤ R.slots)
    {argsL rest : List Value} {ps : List FieldType} {r : Option FieldType} (hpd : parseMethodDescriptor y.desc = some ⟨ps, r⟩) (hlen : argsL.length = ps.length) (has : (.ref a :: argsL).toArray = as') (hst : st = argsL.reverse ++ .ref a :: rest) (hW : (rest.map fun v => v.category).sum ≤ W) (hd : decode c.code pc = .ok (.invokevirtual i, 3)) (hp : pc + 3 = pc')
    (k : ∀ (v : Option Value) (T' : State) (L : List Loc), Stand p l e R s m args below meth c T' (locs ++ L) (cells + rm.cells) (slots + rm.slots) → Qc v T'.heap L → Wp p e s below C S Q T' (mkF m pc' Ls (v.toList ++ rest))) : Wp p e s below C S Q T (mkF m pc Ls st) := by
  obtain ⟨cq, kq, qa, qb, qc⟩ := isOf hZ eT E
  obtain ⟨v, _, ⟨T1, L1, k1, n1⟩, -, X1, ⟨Lc1, hQ1, l1, y1, z1⟩, st1⟩ := X.virtualBack hx (y := y) (z := y) hown (mvT hZ w1) (mvT hZ w2) (notFace_of_selects (args := #[]) (mvT hZ w5)) (mvT hZ w5) (mvT hZ w6) hy (backOf (W := W) hM hZ w4 w3 hf hl) qa qc (g := mkF m pc Ls st) rfl hml (Steps.refl _) (argsL := argsL) (rest := rest) (lenOf hpd hlen) hst (by show 2 * 0 + _ ≤ _; omega) hd (fun _ _ => ⟨has, eT, hc, hsl⟩)
  dsimp only [Pt.U, Pt.locs, Pt.cells, Pt.slots] at X1 l1 y1 z1 st1 hQ1
  subst l1 y1 z1
  subst hp
  exact Wp.via (fun _ h => st1.trans h) (k v T1 Lc1 X1 hQ1)
theorem w_clone (X : Stand p l e R s m args below meth c T locs cells slots) (hx : p.tables.exec = Jvm.exec) (hZ : Z.Warmed39 s.vm) {own ad : String} {idx : Nat} (hown : s.vm.findClass own = some m.cls) (hml : Ls.size = c.maxLocals)
    (w1 : (Jvm.Cond.methodLink own idx ⟨ad, "clone", "()Ljava/lang/Object;"⟩).before a0 Z = true) (w2 : (Jvm.Cond.sameMethod ad "java/lang/Object" "clone" "()Ljava/lang/Object;").before a0 Z = true) (w3 : (Jvm.Cond.native ⟨"java/lang/Object", "clone", "()Ljava/lang/Object;"⟩).before a0 Z = true)
    (w4 : (Jvm.Cond.instanceMethod ⟨"java/lang/Object", "clone", "()Ljava/lang/Object;"⟩).before a0 Z = true) (w5 : (Jvm.Cond.selects ad ⟨ad, "clone", "()Ljava/lang/Object;"⟩ ⟨"java/lang/Object", "clone", "()Ljava/lang/Object;"⟩).before a0 Z = true) (w6 : (Jvm.Cond.castable ad "java/lang/Cloneable").before a0 Z = true)
    (P : HP n0 T.heap cs) {i : Nat} {kA : ClassId} {vs : List Value} {ty : FieldType} (q : cs[i]? = some (AC kA vs)) (hk : IsA Z kA ty) (had : "[" ++ ty.toString = ad) (hfit : ∀ v ∈ vs, fits ty v = true) (hd : decode c.code pc = .ok (.invokevirtual idx, 3)) (hf : 1 ≤ R.frames) {W N j : Nat} (hW : (st.map fun v => v.category).sum ≤ W) (hl : W + 14 ≤ R.locals) (hN : vs.length = N) (hc : cells + 1 ≤ R.cells) (hsl : slots + N ≤ R.slots) (hj : cs.length = j) (hp : pc + 3 = pc')
    (k : ∀ (T' : State), Stand p l e R s m args below meth c T' locs (cells + 1) (slots + N) → HP n0 T'.heap (cs ++ [AC kA vs]) → Wp p e s below C S Q T' (mkF m pc' Ls (.ref (n0 + j) :: st))) : Wp p e s below C S Q T (mkF m pc Ls (.ref (n0 + i) :: st)) := by
  subst hp hj hN
  have A := P.arr q hk
  have E := P.exaA q hk had
  have F : FitC Z (AC kA vs) := fitC_of A fun i hi v hv => hfit v (by simp [AC] at hv; exact List.mem_of_getElem? hv)
  obtain ⟨c1, cC, g1, g2, g3⟩ := Cond.castable_spec w6
  have e2 : Z.vm.findClass ad = some (AC kA vs).cls := by rw [← had]; exact hk.2
  cases e2.symm.trans g1
  have hal : Z.vm.Alike T.vm := hZ.alike.trans X.warmed.alike
  obtain ⟨vm', X', st1⟩ := X.cloneArray hx hown (mv hZ w1) (mv hZ w2) (mv hZ w3) (mv hZ w4) (mv hZ w5) (a := n0 + i) A.1 A.2.1.1 A.2.2 (by rw [hZ.alike.findClass]; exact e2) (by rw [hZ.alike.findClass]; exact g2) (by rw [hZ.alike.assignable]; exact g3)
    (fun i v hv => by have q := F i v hv; rw [← State.fitsSlot_setVm hal] at q; exact q) (g := mkF m pc Ls (.ref (n0 + i) :: st)) rfl hml rfl hd hf (by show 2 * 0 + _ + 14 ≤ _; omega) hc (by simpa [AC] using hsl)
    (by obtain ⟨-, k2, hk2, comp, hkind⟩ := A.2.1; rw [hZ.alike.clonesLoader]; exact Vm.clonesLoader_of_array hk2 hkind)
  rw [P.1] at st1
  have es : (AC kA vs).slots.size = vs.length := by simp [AC]
  rw [es] at X'
  exact Wp.via st1 (k _ X' (P.push _))
theorem w_ccastA (X : Stand p l e R s m args below meth c T locs cells slots) (hx : p.tables.exec = Jvm.exec) (hZ : Z.Warmed39 s.vm) {own ad : String} {idx : Nat} (hown : s.vm.findClass own = some m.cls) (w : (Jvm.Cond.classLink own idx ad).before a0 Z = true) (P : HP n0 T.heap cs) {i : Nat} {kA : ClassId} {vs : List Value} {ty : FieldType} (q : cs[i]? = some (AC kA vs)) (hk : IsA Z kA ty) (had : "[" ++ ty.toString = ad) (hd : decode c.code pc = .ok (.checkcast idx, 3)) (hp : pc + 3 = pc')
    (k : ∀ (T' : State), Stand p l e R s m args below meth c T' locs cells slots → HP n0 T'.heap cs → Wp p e s below C S Q T' (mkF m pc' Ls (.ref (n0 + i) :: st))) : Wp p e s below C S Q T (mkF m pc Ls (.ref (n0 + i) :: st)) := by
  subst hp
  obtain ⟨T', X', eh, st1⟩ := castY X hx hZ hown w rfl (Ins.self (P.exaA q hk had)) (g := mkF m pc Ls (.ref (n0 + i) :: st)) rfl rfl hd
  exact Wp.via st1 (k T' X' (by rw [eh]; exact P))
theorem w_ialoadL (X : Stand p l e R s m args below meth c T locs cells slots) (hx : p.tables.exec = Jvm.exec) (hZ : Z.Warmed39 s.vm) (P : HP n0 T.heap cs) {i : Nat} {kA : ClassId} {ll : List Int32} (q : cs[i]? = some (AC kA (List.map Value.int ll))) (hk : IsA Z kA .int) (hd : decode c.code pc = .ok (.iaload, 1)) {j : Int32} {jn : Nat} (hj : j.toInt = (jn : Int)) (hl : jn < ll.length) (hp : pc + 1 = pc')
    (k : Wp p e s below C S Q T (mkF m pc' Ls (.int (ll.getD jn 0) :: st))) : Wp p e s below C S Q T (mkF m pc Ls (.int j :: .ref (n0 + i) :: st)) :=
  w_iaload X hx hZ P q hk hd hj (own_get hl) hp k
theorem w_laloadL (X : Stand p l e R s m args below meth c T locs cells slots) (hx : p.tables.exec = Jvm.exec) (hZ : Z.Warmed39 s.vm) (P : HP n0 T.heap cs) {i : Nat} {kA : ClassId} {ll : List Int64} (q : cs[i]? = some (AC kA (List.map Value.long ll))) (hk : IsA Z kA .long) (hd : decode c.code pc = .ok (.laload, 1)) {j : Int32} {jn : Nat} (hj : j.toInt = (jn : Int)) (hl : jn < ll.length) (hp : pc + 1 = pc')
    (k : Wp p e s below C S Q T (mkF m pc' Ls (.long (ll.getD jn 0) :: st))) : Wp p e s below C S Q T (mkF m pc Ls (.int j :: .ref (n0 + i) :: st)) :=
  w_laload X hx hZ P q hk hd hj (own_get hl) hp k
theorem w_baloadL (X : Stand p l e R s m args below meth c T locs cells slots) (hx : p.tables.exec = Jvm.exec) (hZ : Z.Warmed39 s.vm) (P : HP n0 T.heap cs) {i : Nat} {kA : ClassId} {ll : List Int32} (q : cs[i]? = some (AC kA (List.map Value.int ll))) (hk : IsA Z kA .byte) (hd : decode c.code pc = .ok (.baload, 1)) {j : Int32} {jn : Nat} (hj : j.toInt = (jn : Int)) (hl : jn < ll.length) (hp : pc + 1 = pc')
    (k : Wp p e s below C S Q T (mkF m pc' Ls (.int (ll.getD jn 0) :: st))) : Wp p e s below C S Q T (mkF m pc Ls (.int j :: .ref (n0 + i) :: st)) :=
  w_baload X hx hZ P q hk hd hj (own_get hl) hp k
theorem w_iastoreL (X : Stand p l e R s m args below meth c T locs cells slots) (hx : p.tables.exec = Jvm.exec) (hZ : Z.Warmed39 s.vm) (N : Fr n0 locs) (P : HP n0 T.heap cs) {i : Nat} {kA : ClassId} {ll : List Int32} (q : cs[i]? = some (AC kA (List.map Value.int ll))) (hk : IsA Z kA .int) (hd : decode c.code pc = .ok (.iastore, 1)) {j : Int32} {x : Int32} {jn : Nat} (hj : j.toInt = (jn : Int)) (hl : jn < ll.length) (hp : pc + 1 = pc')
    (k : ∀ (T' : State) (L' : List Loc), Fr n0 L' → Stand p l e R s m args below meth c T' L' cells slots → HP n0 T'.heap (cs.set i (AC kA (List.map Value.int (ll.set jn x)))) → Wp p e s below C S Q T' (mkF m pc' Ls st)) : Wp p e s below C S Q T (mkF m pc Ls (.int x :: .int j :: .ref (n0 + i) :: st)) :=
  w_iastore X hx hZ N P q hk hd hj (by simpa using hl) hp (fun T' L' N' X' P' => k T' L' N' X' (by rw [List.map_set]; exact P'))
theorem w_lastoreL (X : Stand p l e R s m args below meth c T locs cells slots) (hx : p.tables.exec = Jvm.exec) (hZ : Z.Warmed39 s.vm) (N : Fr n0 locs) (P : HP n0 T.heap cs) {i : Nat} {kA : ClassId} {ll : List Int64} (q : cs[i]? = some (AC kA (List.map Value.long ll))) (hk : IsA Z kA .long) (hd : decode c.code pc = .ok (.lastore, 1)) {j : Int32} {x : Int64} {jn : Nat} (hj : j.toInt = (jn : Int)) (hl : jn < ll.length) (hp : pc + 1 = pc')
    (k : ∀ (T' : State) (L' : List Loc), Fr n0 L' → Stand p l e R s m args below meth c T' L' cells slots → HP n0 T'.heap (cs.set i (AC kA (List.map Value.long (ll.set jn x)))) → Wp p e s below C S Q T' (mkF m pc' Ls st)) : Wp p e s below C S Q T (mkF m pc Ls (.long x :: .int j :: .ref (n0 + i) :: st)) :=
  w_lastore X hx hZ N P q hk hd hj (by simpa using hl) hp (fun T' L' N' X' P' => k T' L' N' X' (by rw [List.map_set]; exact P'))
theorem w_bastoreEL (X : Stand p l e R s m args below meth c T locs cells slots) (hx : p.tables.exec = Jvm.exec) (hZ : Z.Warmed39 s.vm) (N : Fr n0 locs) (P : HP n0 T.heap cs) {i : Nat} {kA : ClassId} {ll : List Int32} (q : cs[i]? = some (AC kA (List.map Value.int ll))) (hk : IsA Z kA .byte) (hd : decode c.code pc = .ok (.bastore, 1)) {j : Int32} {x : Int32} {z : Int32} (hz : nar .byte x = z) {jn : Nat} (hj : j.toInt = (jn : Int)) (hl : jn < ll.length) (hp : pc + 1 = pc')
    (k : ∀ (T' : State) (L' : List Loc), Fr n0 L' → Stand p l e R s m args below meth c T' L' cells slots → HP n0 T'.heap (cs.set i (AC kA (List.map Value.int (ll.set jn z)))) → Wp p e s below C S Q T' (mkF m pc' Ls st)) : Wp p e s below C S Q T (mkF m pc Ls (.int x :: .int j :: .ref (n0 + i) :: st)) :=
  w_bastoreE X hx hZ N P q hk hd hz hj (by simpa using hl) hp (fun T' L' N' X' P' => k T' L' N' X' (by rw [List.map_set]; exact P'))
end OwnH
/-! small numbers -/
theorem own_small {x : Int32} {n : Nat} (h0 : 0 ≤ x.toInt) (h1 : x.toInt < n) (hn : n ≤ 2147483648) : ∃ k : Nat, k < n ∧ x = Int32.ofNat k := by
  refine ⟨x.toInt.toNat, by omega, Int32.toInt_inj.mp ?_⟩
  rw [Int32.toInt_ofNat_of_lt (by omega)]
  omega
theorem own_mask (a : Int32) : 0 ≤ (a &&& 2147483647).toInt ∧ (a &&& 2147483647).toInt < 2147483648 := by
  have h := c_mask a 2147483647 31 (by decide) (by decide)
  omega
theorem own_rem (a d : Int32) (D : Nat) (hd : d.toInt = (D : Int)) (h0 : 0 < D) : ∃ k : Nat, k < D ∧ (a &&& 2147483647) % d = Int32.ofNat k := by
  have h := own_mask a
  have h2 := (c_irem (a &&& 2147483647) d D hd).1 h.1
  have h3 := Int.emod_nonneg (a &&& 2147483647).toInt (b := (D : Int)) (by omega)
  have h4 := Int.emod_lt_of_pos (a &&& 2147483647).toInt (b := (D : Int)) (by omega)
  have h5 := d.toInt_lt
  exact own_small (by omega) (by omega) (by omega)
theorem own_remP (y d : Int32) (D : Nat) (h0 : 0 ≤ y.toInt) (hd : d.toInt = (D : Int)) (h1 : 0 < D) : ∃ k : Nat, k < D ∧ y % d = Int32.ofNat k := by
  have h2 := (c_irem y d D hd).1 h0
  have h3 := Int.emod_nonneg y.toInt (b := (D : Int)) (by omega)
  have h4 := Int.emod_lt_of_pos y.toInt (b := (D : Int)) (by omega)
  have h5 := d.toInt_lt
  exact own_small (by omega) (by omega) (by omega)
theorem own_andk (a m : Int32) (M : Nat) (hm : m.toInt = (M : Int)) : ∃ k : Nat, k < M + 1 ∧ a &&& m = Int32.ofNat k := by
  have h := c_and a m (by omega)
  have h5 := m.toInt_lt
  exact own_small h.1 (by omega) (by omega)
theorem own_c1 {x : Int32} (h : ∃ k : Nat, k < 1 ∧ x = Int32.ofNat k) : x = 0 := by
  obtain ⟨k, hk, e⟩ := h
  obtain rfl : k = 0 := by omega
  exact e
theorem own_c2 {x : Int32} (h : ∃ k : Nat, k < 2 ∧ x = Int32.ofNat k) : x = 0 ∨ x = 1 := by
  obtain ⟨k, hk, e⟩ := h
  have q : k = 0 ∨ k = 1 := by omega
  rcases q with rfl | rfl
  · exact Or.inl e
  · exact Or.inr (e)
theorem own_c3 {x : Int32} (h : ∃ k : Nat, k < 3 ∧ x = Int32.ofNat k) : x = 0 ∨ x = 1 ∨ x = 2 := by
  obtain ⟨k, hk, e⟩ := h
  have q : k = 0 ∨ k = 1 ∨ k = 2 := by omega
  rcases q with rfl | rfl | rfl
  · exact Or.inl e
  · exact Or.inr (Or.inl e)
  · exact Or.inr (Or.inr (e))
theorem own_c4 {x : Int32} (h : ∃ k : Nat, k < 4 ∧ x = Int32.ofNat k) : x = 0 ∨ x = 1 ∨ x = 2 ∨ x = 3 := by
  obtain ⟨k, hk, e⟩ := h
  have q : k = 0 ∨ k = 1 ∨ k = 2 ∨ k = 3 := by omega
  rcases q with rfl | rfl | rfl | rfl
  · exact Or.inl e
  · exact Or.inr (Or.inl e)
  · exact Or.inr (Or.inr (Or.inl e))
  · exact Or.inr (Or.inr (Or.inr (e)))
theorem own_c5 {x : Int32} (h : ∃ k : Nat, k < 5 ∧ x = Int32.ofNat k) : x = 0 ∨ x = 1 ∨ x = 2 ∨ x = 3 ∨ x = 4 := by
  obtain ⟨k, hk, e⟩ := h
  have q : k = 0 ∨ k = 1 ∨ k = 2 ∨ k = 3 ∨ k = 4 := by omega
  rcases q with rfl | rfl | rfl | rfl | rfl
  · exact Or.inl e
  · exact Or.inr (Or.inl e)
  · exact Or.inr (Or.inr (Or.inl e))
  · exact Or.inr (Or.inr (Or.inr (Or.inl e)))
  · exact Or.inr (Or.inr (Or.inr (Or.inr (e))))
theorem own_c6 {x : Int32} (h : ∃ k : Nat, k < 6 ∧ x = Int32.ofNat k) : x = 0 ∨ x = 1 ∨ x = 2 ∨ x = 3 ∨ x = 4 ∨ x = 5 := by
  obtain ⟨k, hk, e⟩ := h
  have q : k = 0 ∨ k = 1 ∨ k = 2 ∨ k = 3 ∨ k = 4 ∨ k = 5 := by omega
  rcases q with rfl | rfl | rfl | rfl | rfl | rfl
  · exact Or.inl e
  · exact Or.inr (Or.inl e)
  · exact Or.inr (Or.inr (Or.inl e))
  · exact Or.inr (Or.inr (Or.inr (Or.inl e)))
  · exact Or.inr (Or.inr (Or.inr (Or.inr (Or.inl e))))
  · exact Or.inr (Or.inr (Or.inr (Or.inr (Or.inr (e)))))
theorem own_c7 {x : Int32} (h : ∃ k : Nat, k < 7 ∧ x = Int32.ofNat k) : x = 0 ∨ x = 1 ∨ x = 2 ∨ x = 3 ∨ x = 4 ∨ x = 5 ∨ x = 6 := by
  obtain ⟨k, hk, e⟩ := h
  have q : k = 0 ∨ k = 1 ∨ k = 2 ∨ k = 3 ∨ k = 4 ∨ k = 5 ∨ k = 6 := by omega
  rcases q with rfl | rfl | rfl | rfl | rfl | rfl | rfl
  · exact Or.inl e
  · exact Or.inr (Or.inl e)
  · exact Or.inr (Or.inr (Or.inl e))
  · exact Or.inr (Or.inr (Or.inr (Or.inl e)))
  · exact Or.inr (Or.inr (Or.inr (Or.inr (Or.inl e))))
  · exact Or.inr (Or.inr (Or.inr (Or.inr (Or.inr (Or.inl e)))))
  · exact Or.inr (Or.inr (Or.inr (Or.inr (Or.inr (Or.inr (e))))))
theorem own_c8 {x : Int32} (h : ∃ k : Nat, k < 8 ∧ x = Int32.ofNat k) : x = 0 ∨ x = 1 ∨ x = 2 ∨ x = 3 ∨ x = 4 ∨ x = 5 ∨ x = 6 ∨ x = 7 := by
  obtain ⟨k, hk, e⟩ := h
  have q : k = 0 ∨ k = 1 ∨ k = 2 ∨ k = 3 ∨ k = 4 ∨ k = 5 ∨ k = 6 ∨ k = 7 := by omega
  rcases q with rfl | rfl | rfl | rfl | rfl | rfl | rfl | rfl
  · exact Or.inl e
  · exact Or.inr (Or.inl e)
  · exact Or.inr (Or.inr (Or.inl e))
  · exact Or.inr (Or.inr (Or.inr (Or.inl e)))
  · exact Or.inr (Or.inr (Or.inr (Or.inr (Or.inl e))))
  · exact Or.inr (Or.inr (Or.inr (Or.inr (Or.inr (Or.inl e)))))
  · exact Or.inr (Or.inr (Or.inr (Or.inr (Or.inr (Or.inr (Or.inl e))))))
  · exact Or.inr (Or.inr (Or.inr (Or.inr (Or.inr (Or.inr (Or.inr (e)))))))
theorem own_c9 {x : Int32} (h : ∃ k : Nat, k < 9 ∧ x = Int32.ofNat k) : x = 0 ∨ x = 1 ∨ x = 2 ∨ x = 3 ∨ x = 4 ∨ x = 5 ∨ x = 6 ∨ x = 7 ∨ x = 8 := by
  obtain ⟨k, hk, e⟩ := h
  have q : k = 0 ∨ k = 1 ∨ k = 2 ∨ k = 3 ∨ k = 4 ∨ k = 5 ∨ k = 6 ∨ k = 7 ∨ k = 8 := by omega
  rcases q with rfl | rfl | rfl | rfl | rfl | rfl | rfl | rfl | rfl
  · exact Or.inl e
  · exact Or.inr (Or.inl e)
  · exact Or.inr (Or.inr (Or.inl e))
  · exact Or.inr (Or.inr (Or.inr (Or.inl e)))
  · exact Or.inr (Or.inr (Or.inr (Or.inr (Or.inl e))))
  · exact Or.inr (Or.inr (Or.inr (Or.inr (Or.inr (Or.inl e)))))
  · exact Or.inr (Or.inr (Or.inr (Or.inr (Or.inr (Or.inr (Or.inl e))))))
  · exact Or.inr (Or.inr (Or.inr (Or.inr (Or.inr (Or.inr (Or.inr (Or.inl e)))))))
  · exact Or.inr (Or.inr (Or.inr (Or.inr (Or.inr (Or.inr (Or.inr (Or.inr (e))))))))
theorem own_c10 {x : Int32} (h : ∃ k : Nat, k < 10 ∧ x = Int32.ofNat k) : x = 0 ∨ x = 1 ∨ x = 2 ∨ x = 3 ∨ x = 4 ∨ x = 5 ∨ x = 6 ∨ x = 7 ∨ x = 8 ∨ x = 9 := by
  obtain ⟨k, hk, e⟩ := h
  have q : k = 0 ∨ k = 1 ∨ k = 2 ∨ k = 3 ∨ k = 4 ∨ k = 5 ∨ k = 6 ∨ k = 7 ∨ k = 8 ∨ k = 9 := by omega
  rcases q with rfl | rfl | rfl | rfl | rfl | rfl | rfl | rfl | rfl | rfl
  · exact Or.inl e
  · exact Or.inr (Or.inl e)
  · exact Or.inr (Or.inr (Or.inl e))
  · exact Or.inr (Or.inr (Or.inr (Or.inl e)))
  · exact Or.inr (Or.inr (Or.inr (Or.inr (Or.inl e))))
  · exact Or.inr (Or.inr (Or.inr (Or.inr (Or.inr (Or.inl e)))))
  · exact Or.inr (Or.inr (Or.inr (Or.inr (Or.inr (Or.inr (Or.inl e))))))
  · exact Or.inr (Or.inr (Or.inr (Or.inr (Or.inr (Or.inr (Or.inr (Or.inl e)))))))
  · exact Or.inr (Or.inr (Or.inr (Or.inr (Or.inr (Or.inr (Or.inr (Or.inr (Or.inl e))))))))
  · exact Or.inr (Or.inr (Or.inr (Or.inr (Or.inr (Or.inr (Or.inr (Or.inr (Or.inr (e)))))))))
theorem own_c11 {x : Int32} (h : ∃ k : Nat, k < 11 ∧ x = Int32.ofNat k) : x = 0 ∨ x = 1 ∨ x = 2 ∨ x = 3 ∨ x = 4 ∨ x = 5 ∨ x = 6 ∨ x = 7 ∨ x = 8 ∨ x = 9 ∨ x = 10 := by
  obtain ⟨k, hk, e⟩ := h
  have q : k = 0 ∨ k = 1 ∨ k = 2 ∨ k = 3 ∨ k = 4 ∨ k = 5 ∨ k = 6 ∨ k = 7 ∨ k = 8 ∨ k = 9 ∨ k = 10 := by omega
  rcases q with rfl | rfl | rfl | rfl | rfl | rfl | rfl | rfl | rfl | rfl | rfl
  · exact Or.inl e
  · exact Or.inr (Or.inl e)
  · exact Or.inr (Or.inr (Or.inl e))
  · exact Or.inr (Or.inr (Or.inr (Or.inl e)))
  · exact Or.inr (Or.inr (Or.inr (Or.inr (Or.inl e))))
  · exact Or.inr (Or.inr (Or.inr (Or.inr (Or.inr (Or.inl e)))))
  · exact Or.inr (Or.inr (Or.inr (Or.inr (Or.inr (Or.inr (Or.inl e))))))
  · exact Or.inr (Or.inr (Or.inr (Or.inr (Or.inr (Or.inr (Or.inr (Or.inl e)))))))
  · exact Or.inr (Or.inr (Or.inr (Or.inr (Or.inr (Or.inr (Or.inr (Or.inr (Or.inl e))))))))
  · exact Or.inr (Or.inr (Or.inr (Or.inr (Or.inr (Or.inr (Or.inr (Or.inr (Or.inr (Or.inl e)))))))))
  · exact Or.inr (Or.inr (Or.inr (Or.inr (Or.inr (Or.inr (Or.inr (Or.inr (Or.inr (Or.inr (e))))))))))
theorem own_c12 {x : Int32} (h : ∃ k : Nat, k < 12 ∧ x = Int32.ofNat k) : x = 0 ∨ x = 1 ∨ x = 2 ∨ x = 3 ∨ x = 4 ∨ x = 5 ∨ x = 6 ∨ x = 7 ∨ x = 8 ∨ x = 9 ∨ x = 10 ∨ x = 11 := by
  obtain ⟨k, hk, e⟩ := h
  have q : k = 0 ∨ k = 1 ∨ k = 2 ∨ k = 3 ∨ k = 4 ∨ k = 5 ∨ k = 6 ∨ k = 7 ∨ k = 8 ∨ k = 9 ∨ k = 10 ∨ k = 11 := by omega
  rcases q with rfl | rfl | rfl | rfl | rfl | rfl | rfl | rfl | rfl | rfl | rfl | rfl
  · exact Or.inl e
  · exact Or.inr (Or.inl e)
  · exact Or.inr (Or.inr (Or.inl e))
  · exact Or.inr (Or.inr (Or.inr (Or.inl e)))
  · exact Or.inr (Or.inr (Or.inr (Or.inr (Or.inl e))))
  · exact Or.inr (Or.inr (Or.inr (Or.inr (Or.inr (Or.inl e)))))
  · exact Or.inr (Or.inr (Or.inr (Or.inr (Or.inr (Or.inr (Or.inl e))))))
  · exact Or.inr (Or.inr (Or.inr (Or.inr (Or.inr (Or.inr (Or.inr (Or.inl e)))))))
  · exact Or.inr (Or.inr (Or.inr (Or.inr (Or.inr (Or.inr (Or.inr (Or.inr (Or.inl e))))))))
  · exact Or.inr (Or.inr (Or.inr (Or.inr (Or.inr (Or.inr (Or.inr (Or.inr (Or.inr (Or.inl e)))))))))
  · exact Or.inr (Or.inr (Or.inr (Or.inr (Or.inr (Or.inr (Or.inr (Or.inr (Or.inr (Or.inr (Or.inl e))))))))))
  · exact Or.inr (Or.inr (Or.inr (Or.inr (Or.inr (Or.inr (Or.inr (Or.inr (Or.inr (Or.inr (Or.inr (e)))))))))))
theorem own_c13 {x : Int32} (h : ∃ k : Nat, k < 13 ∧ x = Int32.ofNat k) : x = 0 ∨ x = 1 ∨ x = 2 ∨ x = 3 ∨ x = 4 ∨ x = 5 ∨ x = 6 ∨ x = 7 ∨ x = 8 ∨ x = 9 ∨ x = 10 ∨ x = 11 ∨ x = 12 := by
  obtain ⟨k, hk, e⟩ := h
  have q : k = 0 ∨ k = 1 ∨ k = 2 ∨ k = 3 ∨ k = 4 ∨ k = 5 ∨ k = 6 ∨ k = 7 ∨ k = 8 ∨ k = 9 ∨ k = 10 ∨ k = 11 ∨ k = 12 := by omega
  rcases q with rfl | rfl | rfl | rfl | rfl | rfl | rfl | rfl | rfl | rfl | rfl | rfl | rfl
  · exact Or.inl e
  · exact Or.inr (Or.inl e)
  · exact Or.inr (Or.inr (Or.inl e))
  · exact Or.inr (Or.inr (Or.inr (Or.inl e)))
  · exact Or.inr (Or.inr (Or.inr (Or.inr (Or.inl e))))
  · exact Or.inr (Or.inr (Or.inr (Or.inr (Or.inr (Or.inl e)))))
  · exact Or.inr (Or.inr (Or.inr (Or.inr (Or.inr (Or.inr (Or.inl e))))))
  · exact Or.inr (Or.inr (Or.inr (Or.inr (Or.inr (Or.inr (Or.inr (Or.inl e)))))))
  · exact Or.inr (Or.inr (Or.inr (Or.inr (Or.inr (Or.inr (Or.inr (Or.inr (Or.inl e))))))))
  · exact Or.inr (Or.inr (Or.inr (Or.inr (Or.inr (Or.inr (Or.inr (Or.inr (Or.inr (Or.inl e)))))))))
  · exact Or.inr (Or.inr (Or.inr (Or.inr (Or.inr (Or.inr (Or.inr (Or.inr (Or.inr (Or.inr (Or.inl e))))))))))
  · exact Or.inr (Or.inr (Or.inr (Or.inr (Or.inr (Or.inr (Or.inr (Or.inr (Or.inr (Or.inr (Or.inr (Or.inl e)))))))))))
  · exact Or.inr (Or.inr (Or.inr (Or.inr (Or.inr (Or.inr (Or.inr (Or.inr (Or.inr (Or.inr (Or.inr (Or.inr (e))))))))))))
theorem own_c14 {x : Int32} (h : ∃ k : Nat, k < 14 ∧ x = Int32.ofNat k) : x = 0 ∨ x = 1 ∨ x = 2 ∨ x = 3 ∨ x = 4 ∨ x = 5 ∨ x = 6 ∨ x = 7 ∨ x = 8 ∨ x = 9 ∨ x = 10 ∨ x = 11 ∨ x = 12 ∨ x = 13 := by
  obtain ⟨k, hk, e⟩ := h
  have q : k = 0 ∨ k = 1 ∨ k = 2 ∨ k = 3 ∨ k = 4 ∨ k = 5 ∨ k = 6 ∨ k = 7 ∨ k = 8 ∨ k = 9 ∨ k = 10 ∨ k = 11 ∨ k = 12 ∨ k = 13 := by omega
  rcases q with rfl | rfl | rfl | rfl | rfl | rfl | rfl | rfl | rfl | rfl | rfl | rfl | rfl | rfl
  · exact Or.inl e
  · exact Or.inr (Or.inl e)
  · exact Or.inr (Or.inr (Or.inl e))
  · exact Or.inr (Or.inr (Or.inr (Or.inl e)))
  · exact Or.inr (Or.inr (Or.inr (Or.inr (Or.inl e))))
  · exact Or.inr (Or.inr (Or.inr (Or.inr (Or.inr (Or.inl e)))))
  · exact Or.inr (Or.inr (Or.inr (Or.inr (Or.inr (Or.inr (Or.inl e))))))
  · exact Or.inr (Or.inr (Or.inr (Or.inr (Or.inr (Or.inr (Or.inr (Or.inl e)))))))
  · exact Or.inr (Or.inr (Or.inr (Or.inr (Or.inr (Or.inr (Or.inr (Or.inr (Or.inl e))))))))
  · exact Or.inr (Or.inr (Or.inr (Or.inr (Or.inr (Or.inr (Or.inr (Or.inr (Or.inr (Or.inl e)))))))))
  · exact Or.inr (Or.inr (Or.inr (Or.inr (Or.inr (Or.inr (Or.inr (Or.inr (Or.inr (Or.inr (Or.inl e))))))))))
  · exact Or.inr (Or.inr (Or.inr (Or.inr (Or.inr (Or.inr (Or.inr (Or.inr (Or.inr (Or.inr (Or.inr (Or.inl e)))))))))))
  · exact Or.inr (Or.inr (Or.inr (Or.inr (Or.inr (Or.inr (Or.inr (Or.inr (Or.inr (Or.inr (Or.inr (Or.inr (Or.inl e))))))))))))
  · exact Or.inr (Or.inr (Or.inr (Or.inr (Or.inr (Or.inr (Or.inr (Or.inr (Or.inr (Or.inr (Or.inr (Or.inr (Or.inr (e)))))))))))))
theorem own_c15 {x : Int32} (h : ∃ k : Nat, k < 15 ∧ x = Int32.ofNat k) : x = 0 ∨ x = 1 ∨ x = 2 ∨ x = 3 ∨ x = 4 ∨ x = 5 ∨ x = 6 ∨ x = 7 ∨ x = 8 ∨ x = 9 ∨ x = 10 ∨ x = 11 ∨ x = 12 ∨ x = 13 ∨ x = 14 := by
  obtain ⟨k, hk, e⟩ := h
  have q : k = 0 ∨ k = 1 ∨ k = 2 ∨ k = 3 ∨ k = 4 ∨ k = 5 ∨ k = 6 ∨ k = 7 ∨ k = 8 ∨ k = 9 ∨ k = 10 ∨ k = 11 ∨ k = 12 ∨ k = 13 ∨ k = 14 := by omega
  rcases q with rfl | rfl | rfl | rfl | rfl | rfl | rfl | rfl | rfl | rfl | rfl | rfl | rfl | rfl | rfl
  · exact Or.inl e
  · exact Or.inr (Or.inl e)
  · exact Or.inr (Or.inr (Or.inl e))
  · exact Or.inr (Or.inr (Or.inr (Or.inl e)))
  · exact Or.inr (Or.inr (Or.inr (Or.inr (Or.inl e))))
  · exact Or.inr (Or.inr (Or.inr (Or.inr (Or.inr (Or.inl e)))))
  · exact Or.inr (Or.inr (Or.inr (Or.inr (Or.inr (Or.inr (Or.inl e))))))
  · exact Or.inr (Or.inr (Or.inr (Or.inr (Or.inr (Or.inr (Or.inr (Or.inl e)))))))
  · exact Or.inr (Or.inr (Or.inr (Or.inr (Or.inr (Or.inr (Or.inr (Or.inr (Or.inl e))))))))
  · exact Or.inr (Or.inr (Or.inr (Or.inr (Or.inr (Or.inr (Or.inr (Or.inr (Or.inr (Or.inl e)))))))))
  · exact Or.inr (Or.inr (Or.inr (Or.inr (Or.inr (Or.inr (Or.inr (Or.inr (Or.inr (Or.inr (Or.inl e))))))))))
  · exact Or.inr (Or.inr (Or.inr (Or.inr (Or.inr (Or.inr (Or.inr (Or.inr (Or.inr (Or.inr (Or.inr (Or.inl e)))))))))))
  · exact Or.inr (Or.inr (Or.inr (Or.inr (Or.inr (Or.inr (Or.inr (Or.inr (Or.inr (Or.inr (Or.inr (Or.inr (Or.inl e))))))))))))
  · exact Or.inr (Or.inr (Or.inr (Or.inr (Or.inr (Or.inr (Or.inr (Or.inr (Or.inr (Or.inr (Or.inr (Or.inr (Or.inr (Or.inl e)))))))))))))
  · exact Or.inr (Or.inr (Or.inr (Or.inr (Or.inr (Or.inr (Or.inr (Or.inr (Or.inr (Or.inr (Or.inr (Or.inr (Or.inr (Or.inr (e))))))))))))))
theorem own_c16 {x : Int32} (h : ∃ k : Nat, k < 16 ∧ x = Int32.ofNat k) : x = 0 ∨ x = 1 ∨ x = 2 ∨ x = 3 ∨ x = 4 ∨ x = 5 ∨ x = 6 ∨ x = 7 ∨ x = 8 ∨ x = 9 ∨ x = 10 ∨ x = 11 ∨ x = 12 ∨ x = 13 ∨ x = 14 ∨ x = 15 := by
  obtain ⟨k, hk, e⟩ := h
  have q : k = 0 ∨ k = 1 ∨ k = 2 ∨ k = 3 ∨ k = 4 ∨ k = 5 ∨ k = 6 ∨ k = 7 ∨ k = 8 ∨ k = 9 ∨ k = 10 ∨ k = 11 ∨ k = 12 ∨ k = 13 ∨ k = 14 ∨ k = 15 := by omega
  rcases q with rfl | rfl | rfl | rfl | rfl | rfl | rfl | rfl | rfl | rfl | rfl | rfl | rfl | rfl | rfl | rfl
  · exact Or.inl e
  · exact Or.inr (Or.inl e)
  · exact Or.inr (Or.inr (Or.inl e))
  · exact Or.inr (Or.inr (Or.inr (Or.inl e)))
  · exact Or.inr (Or.inr (Or.inr (Or.inr (Or.inl e))))
  · exact Or.inr (Or.inr (Or.inr (Or.inr (Or.inr (Or.inl e)))))
  · exact Or.inr (Or.inr (Or.inr (Or.inr (Or.inr (Or.inr (Or.inl e))))))
  · exact Or.inr (Or.inr (Or.inr (Or.inr (Or.inr (Or.inr (Or.inr (Or.inl e)))))))
  · exact Or.inr (Or.inr (Or.inr (Or.inr (Or.inr (Or.inr (Or.inr (Or.inr (Or.inl e))))))))
  · exact Or.inr (Or.inr (Or.inr (Or.inr (Or.inr (Or.inr (Or.inr (Or.inr (Or.inr (Or.inl e)))))))))
  · exact Or.inr (Or.inr (Or.inr (Or.inr (Or.inr (Or.inr (Or.inr (Or.inr (Or.inr (Or.inr (Or.inl e))))))))))
  · exact Or.inr (Or.inr (Or.inr (Or.inr (Or.inr (Or.inr (Or.inr (Or.inr (Or.inr (Or.inr (Or.inr (Or.inl e)))))))))))
  · exact Or.inr (Or.inr (Or.inr (Or.inr (Or.inr (Or.inr (Or.inr (Or.inr (Or.inr (Or.inr (Or.inr (Or.inr (Or.inl e))))))))))))
  · exact Or.inr (Or.inr (Or.inr (Or.inr (Or.inr (Or.inr (Or.inr (Or.inr (Or.inr (Or.inr (Or.inr (Or.inr (Or.inr (Or.inl e)))))))))))))
  · exact Or.inr (Or.inr (Or.inr (Or.inr (Or.inr (Or.inr (Or.inr (Or.inr (Or.inr (Or.inr (Or.inr (Or.inr (Or.inr (Or.inr (Or.inl e))))))))))))))
  · exact Or.inr (Or.inr (Or.inr (Or.inr (Or.inr (Or.inr (Or.inr (Or.inr (Or.inr (Or.inr (Or.inr (Or.inr (Or.inr (Or.inr (Or.inr (e)))))))))))))))
theorem own_c17 {x : Int32} (h : ∃ k : Nat, k < 17 ∧ x = Int32.ofNat k) : x = 0 ∨ x = 1 ∨ x = 2 ∨ x = 3 ∨ x = 4 ∨ x = 5 ∨ x = 6 ∨ x = 7 ∨ x = 8 ∨ x = 9 ∨ x = 10 ∨ x = 11 ∨ x = 12 ∨ x = 13 ∨ x = 14 ∨ x = 15 ∨ x = 16 := by
  obtain ⟨k, hk, e⟩ := h
  have q : k = 0 ∨ k = 1 ∨ k = 2 ∨ k = 3 ∨ k = 4 ∨ k = 5 ∨ k = 6 ∨ k = 7 ∨ k = 8 ∨ k = 9 ∨ k = 10 ∨ k = 11 ∨ k = 12 ∨ k = 13 ∨ k = 14 ∨ k = 15 ∨ k = 16 := by omega
  rcases q with rfl | rfl | rfl | rfl | rfl | rfl | rfl | rfl | rfl | rfl | rfl | rfl | rfl | rfl | rfl | rfl | rfl
  · exact Or.inl e
  · exact Or.inr (Or.inl e)
  · exact Or.inr (Or.inr (Or.inl e))
  · exact Or.inr (Or.inr (Or.inr (Or.inl e)))
  · exact Or.inr (Or.inr (Or.inr (Or.inr (Or.inl e))))
  · exact Or.inr (Or.inr (Or.inr (Or.inr (Or.inr (Or.inl e)))))
  · exact Or.inr (Or.inr (Or.inr (Or.inr (Or.inr (Or.inr (Or.inl e))))))
  · exact Or.inr (Or.inr (Or.inr (Or.inr (Or.inr (Or.inr (Or.inr (Or.inl e)))))))
  · exact Or.inr (Or.inr (Or.inr (Or.inr (Or.inr (Or.inr (Or.inr (Or.inr (Or.inl e))))))))
  · exact Or.inr (Or.inr (Or.inr (Or.inr (Or.inr (Or.inr (Or.inr (Or.inr (Or.inr (Or.inl e)))))))))
  · exact Or.inr (Or.inr (Or.inr (Or.inr (Or.inr (Or.inr (Or.inr (Or.inr (Or.inr (Or.inr (Or.inl e))))))))))
  · exact Or.inr (Or.inr (Or.inr (Or.inr (Or.inr (Or.inr (Or.inr (Or.inr (Or.inr (Or.inr (Or.inr (Or.inl e)))))))))))
  · exact Or.inr (Or.inr (Or.inr (Or.inr (Or.inr (Or.inr (Or.inr (Or.inr (Or.inr (Or.inr (Or.inr (Or.inr (Or.inl e))))))))))))
  · exact Or.inr (Or.inr (Or.inr (Or.inr (Or.inr (Or.inr (Or.inr (Or.inr (Or.inr (Or.inr (Or.inr (Or.inr (Or.inr (Or.inl e)))))))))))))
  · exact Or.inr (Or.inr (Or.inr (Or.inr (Or.inr (Or.inr (Or.inr (Or.inr (Or.inr (Or.inr (Or.inr (Or.inr (Or.inr (Or.inr (Or.inl e))))))))))))))
  · exact Or.inr (Or.inr (Or.inr (Or.inr (Or.inr (Or.inr (Or.inr (Or.inr (Or.inr (Or.inr (Or.inr (Or.inr (Or.inr (Or.inr (Or.inr (Or.inl e)))))))))))))))
  · exact Or.inr (Or.inr (Or.inr (Or.inr (Or.inr (Or.inr (Or.inr (Or.inr (Or.inr (Or.inr (Or.inr (Or.inr (Or.inr (Or.inr (Or.inr (Or.inr (e))))))))))))))))
theorem wd0 {Z : State} {a0 : Array Value} (hw : ∀ d ∈ tables_1, d.before a0 Z = true) : (Jvm.Cond.arrayClass Jvm.ClassFile.FieldType.byte).before a0 Z = true := hw _ (List.mem_of_getElem? (i := 0) rfl)
theorem wd1 {Z : State} {a0 : Array Value} (hw : ∀ d ∈ tables_1, d.before a0 Z = true) : (Jvm.Cond.methodLink "com/example/normfeld/normfeld/io/FieldPerLineReaderValueEndPinLaw" (13 : Nat) ({ cls := "com/example/normfeld/normfeld/io/FieldPerLineReaderValueEndPinLaw", name := "token", desc := "([BIII)I" } : Jvm.MethodName)).before a0 Z = true := hw _ (List.mem_of_getElem? (i := 1) rfl)
theorem wd2 {Z : State} {a0 : Array Value} (hw : ∀ d ∈ tables_1, d.before a0 Z = true) : (Jvm.Cond.static ({ cls := "com/example/normfeld/normfeld/io/FieldPerLineReaderValueEndPinLaw", name := "token", desc := "([BIII)I" } : Jvm.MethodName)).before a0 Z = true := hw _ (List.mem_of_getElem? (i := 2) rfl)
theorem wd3 {Z : State} {a0 : Array Value} (hw : ∀ d ∈ tables_1, d.before a0 Z = true) : (Jvm.Cond.initialized "com/example/normfeld/normfeld/io/FieldPerLineReaderValueEndPinLaw").before a0 Z = true := hw _ (List.mem_of_getElem? (i := 3) rfl)
theorem wd4 {Z : State} {a0 : Array Value} (hw : ∀ d ∈ tables_1, d.before a0 Z = true) : (Jvm.Cond.code ({ cls := "com/example/normfeld/normfeld/io/FieldPerLineReaderValueEndPinLaw", name := "token", desc := "([BIII)I" } : Jvm.MethodName) method_3_code (4 : Nat) (Option.some Jvm.ClassFile.FieldType.int)).before a0 Z = true := hw _ (List.mem_of_getElem? (i := 4) rfl)
theorem wd5 {Z : State} {a0 : Array Value} (hw : ∀ d ∈ tables_1, d.before a0 Z = true) : (Jvm.Cond.methodLink "com/example/normfeld/normfeld/io/FieldPerLineReaderValueEndPinLaw" (17 : Nat) ({ cls := "com/example/normfeld/normfeld/io/FieldPerLineReader", name := "valueEnd", desc := "([BII)I" } : Jvm.MethodName)).before a0 Z = true := hw _ (List.mem_of_getElem? (i := 5) rfl)
theorem wd6 {Z : State} {a0 : Array Value} (hw : ∀ d ∈ tables_1, d.before a0 Z = true) : (Jvm.Cond.static ({ cls := "com/example/normfeld/normfeld/io/FieldPerLineReader", name := "valueEnd", desc := "([BII)I" } : Jvm.MethodName)).before a0 Z = true := hw _ (List.mem_of_getElem? (i := 6) rfl)
theorem wd7 {Z : State} {a0 : Array Value} (hw : ∀ d ∈ tables_1, d.before a0 Z = true) : (Jvm.Cond.initialized "com/example/normfeld/normfeld/io/FieldPerLineReader").before a0 Z = true := hw _ (List.mem_of_getElem? (i := 7) rfl)
theorem wd8 {Z : State} {a0 : Array Value} (hw : ∀ d ∈ tables_1, d.before a0 Z = true) : (Jvm.Cond.code ({ cls := "com/example/normfeld/normfeld/io/FieldPerLineReader", name := "valueEnd", desc := "([BII)I" } : Jvm.MethodName) prog_78_method_6_code (4 : Nat) (Option.some Jvm.ClassFile.FieldType.int)).before a0 Z = true := hw _ (List.mem_of_getElem? (i := 8) rfl)
theorem wd9 {Z : State} {a0 : Array Value} (hw : ∀ d ∈ tables_1, d.before a0 Z = true) : (Jvm.Cond.methodLink "com/example/normfeld/normfeld/io/FieldPerLineReaderValueEndPinLaw" (7 : Nat) ({ cls := "com/example/normfeld/normfeld/io/FieldPerLineReaderValueEndPinLaw", name := "other", desc := "(I)B" } : Jvm.MethodName)).before a0 Z = true := hw _ (List.mem_of_getElem? (i := 9) rfl)
theorem wd10 {Z : State} {a0 : Array Value} (hw : ∀ d ∈ tables_1, d.before a0 Z = true) : (Jvm.Cond.static ({ cls := "com/example/normfeld/normfeld/io/FieldPerLineReaderValueEndPinLaw", name := "other", desc := "(I)B" } : Jvm.MethodName)).before a0 Z = true := hw _ (List.mem_of_getElem? (i := 10) rfl)
theorem wd11 {Z : State} {a0 : Array Value} (hw : ∀ d ∈ tables_1, d.before a0 Z = true) : (Jvm.Cond.code ({ cls := "com/example/normfeld/normfeld/io/FieldPerLineReaderValueEndPinLaw", name := "other", desc := "(I)B" } : Jvm.MethodName) method_2_code (2 : Nat) (Option.some Jvm.ClassFile.FieldType.byte)).before a0 Z = true := hw _ (List.mem_of_getElem? (i := 11) rfl)
theorem d3_0 : decode method_2_code 0 = .ok (.iload_n 0, 1) := by decide +kernel
theorem d3_1 : decode method_2_code 1 = .ok (.i2b, 1) := by decide +kernel
theorem d3_2 : decode method_2_code 2 = .ok (.istore_n 1, 1) := by decide +kernel
theorem d3_3 : decode method_2_code 3 = .ok (.iload_n 1, 1) := by decide +kernel
theorem d3_4 : decode method_2_code 4 = .ok (.bipush 36, 2) := by decide +kernel
theorem d3_6 : decode method_2_code 6 = .ok (.if_icmp .ne 8, 3) := by decide +kernel
theorem d3_9 : decode method_2_code 9 = .ok (.bipush 37, 2) := by decide +kernel
theorem d3_11 : decode method_2_code 11 = .ok (.goto 4, 3) := by decide +kernel
theorem d3_14 : decode method_2_code 14 = .ok (.iload_n 1, 1) := by decide +kernel
theorem d3_15 : decode method_2_code 15 = .ok (.ireturn, 1) := by decide +kernel
theorem pn3 : plainFor (⟨"com/example/normfeld/normfeld/io/FieldPerLineReaderValueEndPinLaw", "other", "(I)B"⟩ : MethodName) = true := plainFor_of_name (by first | (simp [plainName, overriddenIn]; done) | decide +kernel)
theorem pd3 : parseMethodDescriptor (⟨"com/example/normfeld/normfeld/io/FieldPerLineReaderValueEndPinLaw", "other", "(I)B"⟩ : MethodName).desc = some ⟨[.int], some .byte⟩ := by decide +kernel
theorem ef3 (m : MethodId) (x0 : Int32) : entryFrame m #[Value.int x0] 2 = mkF m 0 #[.val (.int x0), .unset] [] := by first | (simp [entryFrame, mkF, argsToLocals, Value.category]; done) | rfl
def sp3 (x0 : Int32) : Int32 := (if (Int8.toInt32 (Int32.toInt8 x0)) = (36 : Int32) then (nar .byte (37 : Int32)) else (nar .byte (Int8.toInt32 (Int32.toInt8 x0))))
set_option maxRecDepth 65536 in
set_option maxHeartbeats 40000000 in
theorem rm3 (l : Launch) (Z : State) (a0 : Array Value) (hw : ∀ d ∈ tables_1, d.before a0 Z = true) (ws : List Jvm.Cond) (x0 : Int32) (hh : Heap) :
    MetFree l (⟨"com/example/normfeld/normfeld/io/FieldPerLineReaderValueEndPinLaw", "other", "(I)B"⟩ : MethodName) (head1 (Jvm.Cond.code (⟨"com/example/normfeld/normfeld/io/FieldPerLineReaderValueEndPinLaw", "other", "(I)B"⟩ : MethodName) method_2_code 2 (some .byte) :: ws) ({ frames := 0, cells := 0, slots := 0, locals := 0 } : Room)) (fun a U => a = #[Value.int x0] ∧ Z.Warmed39 U.vm ∧ U.heap = hh) (fun _ _ _ _ _ => True) (fun _ U o U' => ∃ v L, o = .returned v ∧ PureQ (Value.int (sp3 x0)) hh v U'.heap L ∧ FrameEnd U o U' L ({ frames := 0, cells := 0, slots := 0, locals := 0 } : Room).cells ({ frames := 0, cells := 0, slots := 0, locals := 0 } : Room).slots) := by
  refine own_body pn3 ?_
  intro p e s m below meth c T0 hx hby hml hret hlk hown hnm hZ X0 e0
  refine own_cast (ef3 m x0) ?_
  refine w_iloadN X0 hx (hb hby d3_0) rfl (pc' := 1) rfl ?_
  refine w_i2b X0 hx (hb hby d3_1) (pc' := 2) rfl ?_
  refine w_istoreN (l' := #[.val (.int x0), .val (.int (Int8.toInt32 (Int32.toInt8 x0)))]) X0 hx (hb hby d3_2) rfl (pc' := 3) rfl ?_
  refine w_iloadN X0 hx (hb hby d3_3) rfl (pc' := 4) rfl ?_
  refine w_bipush (v := (36 : Int32)) X0 hx (hb hby d3_4) rfl (pc' := 6) rfl ?_
  refine w_icmp_ne X0 hx (hb hby d3_6) (by decide) (pcY := 14) (by decide) (pc' := 9) rfl (fun h0 => ?_) (fun h0 => ?_)
  · refine w_iloadN X0 hx (hb hby d3_14) rfl (pc' := 15) rfl ?_
    exact w_ret_n (t := .byte) X0 hx hret hlk (by simp) (hb hby d3_15) (z' := (nar .byte (Int8.toInt32 (Int32.toInt8 x0)))) rfl (by decide) (by decide) ⟨(congrArg (fun q => some (Value.int q)) (show (nar .byte (Int8.toInt32 (Int32.toInt8 x0))) = sp3 x0 from by rw [sp3, if_neg h0])), rfl, e0⟩
  · refine w_bipush (v := (37 : Int32)) X0 hx (hb hby d3_9) rfl (pc' := 11) rfl ?_
    refine w_goto X0 hx (hb hby d3_11) (by decide) (pc' := 15) (by decide) ?_
    exact w_ret_n (t := .byte) X0 hx hret hlk (by simp) (hb hby d3_15) (z' := (nar .byte (37 : Int32))) rfl (by decide) (by decide) ⟨(congrArg (fun q => some (Value.int q)) (show (nar .byte (37 : Int32)) = sp3 x0 from by rw [sp3, if_pos h0])), rfl, e0⟩
theorem own_ot (v : Int32) : nar .byte (sp3 v) ≠ 36 := by
  unfold sp3
  split
  · decide
  · rename_i h
    have e : ∀ y : Int8, nar .byte (nar .byte y.toInt32) = y.toInt32 := fun y => by simp [nar]
    rw [e]
    exact h
def own_ve (B : List Int32) (to : Nat) : Nat → Nat → Nat
  | 0, _ => to
  | f + 1, p => if p < to then (if B.getD p 0 = 36 then (if p + 1 = to then p else (if B.getD (p + 1) 0 = 36 then own_ve B to f (p + 2) else p)) else own_ve B to f (p + 1)) else to
theorem own_vf (B : List Int32) (to : Nat) : ∀ (f g p : Nat), to - p < f → to - p < g → own_ve B to f p = own_ve B to g p := by
  intro f
  induction f with
  | zero => intro g p h; omega
  | succ f ih =>
    intro g p h h'
    cases g with
    | zero => omega
    | succ g =>
      unfold own_ve
      by_cases c : p < to
      · rw [ih g (p + 1) (by omega) (by omega), ih g (p + 2) (by omega) (by omega)]
      · rw [if_neg c, if_neg c]
theorem own_vs (B : List Int32) (to p : Nat) (hto : to ≤ 16) : own_ve B to 17 p = if p < to then (if B.getD p 0 = 36 then (if p + 1 = to then p else (if B.getD (p + 1) 0 = 36 then own_ve B to 17 (p + 2) else p)) else own_ve B to 17 (p + 1)) else to := by
  show own_ve B to (16 + 1) p = _
  rw [own_ve]
  by_cases c : p < to
  · rw [own_vf B to 16 17 (p + 1) (by omega) (by omega), own_vf B to 16 17 (p + 2) (by omega) (by omega)]
  · rw [if_neg c, if_neg c]
def own_inv (A : List Int32) (fr q : Nat) : Prop := ∀ (B : List Int32) (to : Nat), (∀ i, i < q → B.getD i 0 = A.getD i 0) → q ≤ to → to ≤ 16 → own_ve B to 17 fr = own_ve B to 17 q
theorem own_gs (l : List Int32) (i j : Nat) (x : Int32) : (l.set i x).getD j 0 = if i = j ∧ j < l.length then x else l.getD j 0 := by
  simp only [List.getD_eq_getElem?_getD, List.getElem?_set]
  by_cases h : i = j
  · subst h
    by_cases h2 : i < l.length
    · simp [h2]
    · simp [h2]
  · simp [h]
theorem own_i0 (A : List Int32) (fr : Nat) : own_inv A fr fr := fun _ _ _ _ _ => rfl
theorem own_i1 {A : List Int32} {fr q : Nat} {z : Int32} (h : own_inv A fr q) (hz : z ≠ 36) (hA : A.length = 16) (hq : q ≤ 15) : own_inv (A.set q z) fr (q + 1) := by
  intro B to hB h1 h2
  rw [h B to (fun i hi => by rw [hB i (by omega), own_gs, if_neg (by omega)]) (by omega) h2, own_vs B to q h2, if_pos (by omega)]
  have e : B.getD q 0 = z := by rw [hB q (by omega), own_gs, if_pos (by omega)]
  rw [e, if_neg hz]
theorem own_i2 {A : List Int32} {fr q : Nat} (h : own_inv A fr q) (hA : A.length = 16) (hq : q ≤ 14) : own_inv ((A.set q 36).set (q + 1) 36) fr (q + 2) := by
  intro B to hB h1 h2
  rw [h B to (fun i hi => by rw [hB i (by omega), own_gs, if_neg (by omega), own_gs, if_neg (by omega)]) (by omega) h2, own_vs B to q h2, if_pos (by omega)]
  have e : B.getD q 0 = 36 := by rw [hB q (by omega), own_gs, if_neg (by omega), own_gs, if_pos (by omega)]
  have e2 : B.getD (q + 1) 0 = 36 := by rw [hB (q + 1) (by omega), own_gs, if_pos (by simp; omega)]
  rw [e, if_pos rfl, if_neg (by omega), e2, if_pos rfl]
theorem own_f0 {A B : List Int32} {fr q to : Nat} (h : own_inv A fr q) (hB : ∀ i, i < q → B.getD i 0 = A.getD i 0) (ht : to = q) (hq : q ≤ 16) : own_ve B to 17 fr = q := by
  subst ht
  rw [h B to hB (by omega) hq, own_vs B to to hq, if_neg (by omega)]
theorem own_f1 {A B : List Int32} {fr q to : Nat} (h : own_inv A fr q) (hB : ∀ i, i < q → B.getD i 0 = A.getD i 0) (h1 : B.getD q 0 = 36) (ht : q < to) (h2 : q + 1 = to ∨ B.getD (q + 1) 0 ≠ 36) (hq : to ≤ 16) : own_ve B to 17 fr = q := by
  rw [h B to hB (by omega) hq, own_vs B to q hq, if_pos ht, h1, if_pos rfl]
  rcases h2 with h2 | h2
  · rw [if_pos h2]
  · by_cases c : q + 1 = to
    · rw [if_pos c]
    · rw [if_neg c, if_neg h2]
theorem d1_0 : decode method_3_code 0 = .ok (.iload_n 2, 1) := by decide +kernel
theorem d1_1 : decode method_3_code 1 = .ok (.ifCond .ne 5, 3) := by decide +kernel
theorem d1_4 : decode method_3_code 4 = .ok (.iload_n 1, 1) := by decide +kernel
theorem d1_5 : decode method_3_code 5 = .ok (.ireturn, 1) := by decide +kernel
theorem d1_6 : decode method_3_code 6 = .ok (.iload_n 2, 1) := by decide +kernel
theorem d1_7 : decode method_3_code 7 = .ok (.iconst 2, 1) := by decide +kernel
theorem d1_8 : decode method_3_code 8 = .ok (.if_icmp .ne 19, 3) := by decide +kernel
theorem d1_11 : decode method_3_code 11 = .ok (.aload_n 0, 1) := by decide +kernel
theorem d1_12 : decode method_3_code 12 = .ok (.iload_n 1, 1) := by decide +kernel
theorem d1_13 : decode method_3_code 13 = .ok (.bipush 36, 2) := by decide +kernel
theorem d1_15 : decode method_3_code 15 = .ok (.bastore, 1) := by decide +kernel
theorem d1_16 : decode method_3_code 16 = .ok (.aload_n 0, 1) := by decide +kernel
theorem d1_17 : decode method_3_code 17 = .ok (.iload_n 1, 1) := by decide +kernel
theorem d1_18 : decode method_3_code 18 = .ok (.iconst 1, 1) := by decide +kernel
theorem d1_19 : decode method_3_code 19 = .ok (.iadd, 1) := by decide +kernel
theorem d1_20 : decode method_3_code 20 = .ok (.bipush 36, 2) := by decide +kernel
theorem d1_22 : decode method_3_code 22 = .ok (.bastore, 1) := by decide +kernel
theorem d1_23 : decode method_3_code 23 = .ok (.iload_n 1, 1) := by decide +kernel
theorem d1_24 : decode method_3_code 24 = .ok (.iconst 2, 1) := by decide +kernel
theorem d1_25 : decode method_3_code 25 = .ok (.iadd, 1) := by decide +kernel
theorem d1_26 : decode method_3_code 26 = .ok (.ireturn, 1) := by decide +kernel
theorem d1_27 : decode method_3_code 27 = .ok (.aload_n 0, 1) := by decide +kernel
theorem d1_28 : decode method_3_code 28 = .ok (.iload_n 1, 1) := by decide +kernel
theorem d1_29 : decode method_3_code 29 = .ok (.iload_n 3, 1) := by decide +kernel
theorem d1_30 : decode method_3_code 30 = .ok (.invokestatic 7, 3) := by decide +kernel
theorem d1_33 : decode method_3_code 33 = .ok (.bastore, 1) := by decide +kernel
theorem d1_34 : decode method_3_code 34 = .ok (.iload_n 1, 1) := by decide +kernel
theorem d1_35 : decode method_3_code 35 = .ok (.iconst 1, 1) := by decide +kernel
theorem d1_36 : decode method_3_code 36 = .ok (.iadd, 1) := by decide +kernel
theorem d1_37 : decode method_3_code 37 = .ok (.ireturn, 1) := by decide +kernel
theorem pn1 : plainFor (⟨"com/example/normfeld/normfeld/io/FieldPerLineReaderValueEndPinLaw", "token", "([BIII)I"⟩ : MethodName) = true := plainFor_of_name (by first | (simp [plainName, overriddenIn]; done) | decide +kernel)
theorem pd1 : parseMethodDescriptor (⟨"com/example/normfeld/normfeld/io/FieldPerLineReaderValueEndPinLaw", "token", "([BIII)I"⟩ : MethodName).desc = some ⟨[(.array .byte), .int, .int, .int], some .int⟩ := by decide +kernel
theorem ef_tok (m : MethodId) (n0 : Nat) (q : Nat) (kk : Int32) (vv : Int32) : entryFrame m #[.ref (n0 + 0), .int (Int32.ofNat q), .int kk, .int vv] 4 = mkF m 0 #[.val (.ref (n0 + 0)), .val (.int (Int32.ofNat q)), .val (.int kk), .val (.int vv)] [] := by first | (simp [entryFrame, mkF, argsToLocals, Value.category]; done) | rfl
def Q_tok (Z : State) (n0 : Nat) (k0 : ClassId) (A : List Int32) (q : Nat) (kk : Int32) (vv : Int32) (v : Option Value) (h : Heap) (L : List Loc) : Prop := Fr n0 L ∧ ((v = some (.int (Int32.ofNat q)) ∧ HP n0 h [AC k0 (List.map Value.int A)]) ∨ (v = some (.int (Int32.ofNat (q + 2))) ∧ HP n0 h [AC k0 (List.map Value.int ((A.set q 36).set (q + 1) 36))]) ∨ (v = some (.int (Int32.ofNat (q + 1))) ∧ HP n0 h [AC k0 (List.map Value.int (A.set q (nar .byte (sp3 vv))))]))
set_option maxRecDepth 65536 in
set_option maxHeartbeats 40000000 in
theorem rm_tok (l : Launch) (Z : State) (a0 : Array Value) (hw : ∀ d ∈ tables_1, d.before a0 Z = true) (ws : List Jvm.Cond) (n0 : Nat) (k0 : ClassId) (A : List Int32) (q : Nat) (kk : Int32) (vv : Int32) (h0 : Heap) (P0 : HP n0 h0 [AC k0 (List.map Value.int A)]) (hk0 : IsA Z k0 .byte) (hA : A.length = 16) (hq : q ≤ 14) :
    MetFree l (⟨"com/example/normfeld/normfeld/io/FieldPerLineReaderValueEndPinLaw", "token", "([BIII)I"⟩ : MethodName) (head1 (Jvm.Cond.code (⟨"com/example/normfeld/normfeld/io/FieldPerLineReaderValueEndPinLaw", "token", "([BIII)I"⟩ : MethodName) method_3_code 4 (some .int) :: ws) ({ frames := 1, cells := 0, slots := 0, locals := 15 } : Room)) (fun a U => a = #[.ref (n0 + 0), .int (Int32.ofNat q), .int kk, .int vv] ∧ Z.Warmed39 U.vm ∧ U.heap = h0) (fun _ _ _ _ _ => True) (fun _ U o U' => ∃ v L, o = .returned v ∧ Q_tok Z n0 k0 A q kk vv v U'.heap L ∧ FrameEnd U o U' L ({ frames := 1, cells := 0, slots := 0, locals := 15 } : Room).cells ({ frames := 1, cells := 0, slots := 0, locals := 15 } : Room).slots) := by
  refine own_body pn1 ?_
  intro p e s m below meth c T0 hx hby hml hret hlk hown hnm hZ X0 e0
  subst e0
  have N0 : Fr n0 [] := Fr.nil n0
  refine own_cast (ef_tok m n0 q kk vv) ?_
  refine w_iloadN X0 hx (hb hby d1_0) rfl (pc' := 1) rfl ?_
  refine w_if_ne X0 hx (hb hby d1_1) (by decide) (pcY := 6) (by decide) (pc' := 4) rfl (fun h0 => ?_) (fun h0 => ?_)
  · refine w_iloadN X0 hx (hb hby d1_6) rfl (pc' := 7) rfl ?_
    refine w_iconst (v := (2 : Int32)) X0 hx (hb hby d1_7) rfl (pc' := 8) rfl ?_
    refine w_icmp_ne X0 hx (hb hby d1_8) (by decide) (pcY := 27) (by decide) (pc' := 11) rfl (fun h1 => ?_) (fun h1 => ?_)
    · refine w_aloadN X0 hx (hb hby d1_27) rfl rfl (pc' := 28) rfl ?_
      refine w_iloadN X0 hx (hb hby d1_28) rfl (pc' := 29) rfl ?_
      refine w_iloadN X0 hx (hb hby d1_29) rfl (pc' := 30) rfl ?_
      refine w_callP (W := 2) X0 hx hZ rfl hown hml.symm (wd9 hw) (wd10 hw) (wd3 hw) (wd11 hw) (rm3 l Z a0 hw [] vv _) (by decide) (by decide) (by decide) rfl rfl (by decide) (by decide) (argsL := [.int vv]) (rest := [.int (Int32.ofNat q), .ref (n0 + 0)]) pd3 rfl rfl rfl (Nat.le_of_eq rfl) (hb hby d1_30) (pc' := 33) rfl ?_
      intro T1 X1 e1
      have P1 : HP n0 T1.heap [AC k0 (List.map Value.int A)] := by rw [e1]; exact P0
      refine w_bastoreEL (i := 0) (jn := q) X1 hx hZ N0 P1 rfl hk0 (hb hby d1_33) rfl (own_oN (by omega)) (own_llt hA (by omega)) (pc' := 34) rfl ?_
      intro T2 L1 N1 X2 P2
      replace P2 : HP n0 T2.heap [AC k0 (List.map Value.int (A.set q (nar .byte (sp3 vv))))] := P2
      refine w_iloadN X2 hx (hb hby d1_34) rfl (pc' := 35) rfl ?_
      refine w_iconst (v := (1 : Int32)) X2 hx (hb hby d1_35) rfl (pc' := 36) rfl ?_
      refine w_iadd X2 hx (hb hby d1_36) (pc' := 37) rfl ?_
      refine w_eqI (z := (Int32.ofNat (q + 1))) (own_oadd q 1) ?_
      exact w_ret_i X2 hx hret hlk (hb hby d1_37) (by decide) (by decide) ⟨N1, Or.inr (Or.inr ⟨rfl, P2⟩)⟩
    · refine w_aloadN X0 hx (hb hby d1_11) rfl rfl (pc' := 12) rfl ?_
      refine w_iloadN X0 hx (hb hby d1_12) rfl (pc' := 13) rfl ?_
      refine w_bipush (v := (36 : Int32)) X0 hx (hb hby d1_13) rfl (pc' := 15) rfl ?_
      refine w_bastoreEL (i := 0) (jn := q) X0 hx hZ N0 P0 rfl hk0 (hb hby d1_15) (z := (36 : Int32)) (by decide) (own_oN (by omega)) (own_llt hA (by omega)) (pc' := 16) rfl ?_
      intro T3 L2 N2 X3 P3
      replace P3 : HP n0 T3.heap [AC k0 (List.map Value.int (A.set q (36 : Int32)))] := P3
      refine w_aloadN X3 hx (hb hby d1_16) rfl rfl (pc' := 17) rfl ?_
      refine w_iloadN X3 hx (hb hby d1_17) rfl (pc' := 18) rfl ?_
      refine w_iconst (v := (1 : Int32)) X3 hx (hb hby d1_18) rfl (pc' := 19) rfl ?_
      refine w_iadd X3 hx (hb hby d1_19) (pc' := 20) rfl ?_
      refine w_eqI (z := (Int32.ofNat (q + 1))) (own_oadd q 1) ?_
      refine w_bipush (v := (36 : Int32)) X3 hx (hb hby d1_20) rfl (pc' := 22) rfl ?_
      refine w_bastoreEL (i := 0) (jn := (q + 1)) X3 hx hZ N2 P3 rfl hk0 (hb hby d1_22) (z := (36 : Int32)) (by decide) (own_oN (by omega)) (own_llt (own_sl hA) (by omega)) (pc' := 23) rfl ?_
      intro T4 L3 N3 X4 P4
      replace P4 : HP n0 T4.heap [AC k0 (List.map Value.int ((A.set q (36 : Int32)).set (q + 1) (36 : Int32)))] := P4
      refine w_iloadN X4 hx (hb hby d1_23) rfl (pc' := 24) rfl ?_
      refine w_iconst (v := (2 : Int32)) X4 hx (hb hby d1_24) rfl (pc' := 25) rfl ?_
      refine w_iadd X4 hx (hb hby d1_25) (pc' := 26) rfl ?_
      refine w_eqI (z := (Int32.ofNat (q + 2))) (own_oadd q 2) ?_
      exact w_ret_i X4 hx hret hlk (hb hby d1_26) (by decide) (by decide) ⟨N3, Or.inr (Or.inl ⟨rfl, P4⟩)⟩
  · refine w_iloadN X0 hx (hb hby d1_4) rfl (pc' := 5) rfl ?_
    exact w_ret_i X0 hx hret hlk (hb hby d1_5) (by decide) (by decide) ⟨N0, Or.inl ⟨rfl, P0⟩⟩
theorem d2_0 : decode prog_78_method_6_code 0 = .ok (.iload_n 1, 1) := by decide +kernel
theorem d2_1 : decode prog_78_method_6_code 1 = .ok (.istore_n 3, 1) := by decide +kernel
theorem d2_2 : decode prog_78_method_6_code 2 = .ok (.iload_n 3, 1) := by decide +kernel
theorem d2_3 : decode prog_78_method_6_code 3 = .ok (.iload_n 2, 1) := by decide +kernel
theorem d2_4 : decode prog_78_method_6_code 4 = .ok (.if_icmp .ge 39, 3) := by decide +kernel
theorem d2_7 : decode prog_78_method_6_code 7 = .ok (.aload_n 0, 1) := by decide +kernel
theorem d2_8 : decode prog_78_method_6_code 8 = .ok (.iload_n 3, 1) := by decide +kernel
theorem d2_9 : decode prog_78_method_6_code 9 = .ok (.baload, 1) := by decide +kernel
theorem d2_10 : decode prog_78_method_6_code 10 = .ok (.bipush 36, 2) := by decide +kernel
theorem d2_12 : decode prog_78_method_6_code 12 = .ok (.if_icmp .ne 25, 3) := by decide +kernel
theorem d2_15 : decode prog_78_method_6_code 15 = .ok (.iload_n 3, 1) := by decide +kernel
theorem d2_16 : decode prog_78_method_6_code 16 = .ok (.iconst 1, 1) := by decide +kernel
theorem d2_17 : decode prog_78_method_6_code 17 = .ok (.iadd, 1) := by decide +kernel
theorem d2_18 : decode prog_78_method_6_code 18 = .ok (.iload_n 2, 1) := by decide +kernel
theorem d2_19 : decode prog_78_method_6_code 19 = .ok (.if_icmp .eq 13, 3) := by decide +kernel
theorem d2_22 : decode prog_78_method_6_code 22 = .ok (.aload_n 0, 1) := by decide +kernel
theorem d2_23 : decode prog_78_method_6_code 23 = .ok (.iload_n 3, 1) := by decide +kernel
theorem d2_24 : decode prog_78_method_6_code 24 = .ok (.iconst 1, 1) := by decide +kernel
theorem d2_25 : decode prog_78_method_6_code 25 = .ok (.iadd, 1) := by decide +kernel
theorem d2_26 : decode prog_78_method_6_code 26 = .ok (.baload, 1) := by decide +kernel
theorem d2_27 : decode prog_78_method_6_code 27 = .ok (.bipush 36, 2) := by decide +kernel
theorem d2_29 : decode prog_78_method_6_code 29 = .ok (.if_icmp .eq 5, 3) := by decide +kernel
theorem d2_32 : decode prog_78_method_6_code 32 = .ok (.iload_n 3, 1) := by decide +kernel
theorem d2_33 : decode prog_78_method_6_code 33 = .ok (.ireturn, 1) := by decide +kernel
theorem d2_34 : decode prog_78_method_6_code 34 = .ok (.iinc 3 1, 3) := by decide +kernel
theorem d2_37 : decode prog_78_method_6_code 37 = .ok (.iinc 3 1, 3) := by decide +kernel
theorem d2_40 : decode prog_78_method_6_code 40 = .ok (.goto (-38), 3) := by decide +kernel
theorem d2_43 : decode prog_78_method_6_code 43 = .ok (.iload_n 2, 1) := by decide +kernel
theorem d2_44 : decode prog_78_method_6_code 44 = .ok (.ireturn, 1) := by decide +kernel
theorem pn2 : plainFor (⟨"com/example/normfeld/normfeld/io/FieldPerLineReader", "valueEnd", "([BII)I"⟩ : MethodName) = true := plainFor_of_name (by first | (simp [plainName, overriddenIn]; done) | decide +kernel)
theorem pd2 : parseMethodDescriptor (⟨"com/example/normfeld/normfeld/io/FieldPerLineReader", "valueEnd", "([BII)I"⟩ : MethodName).desc = some ⟨[(.array .byte), .int, .int], some .int⟩ := by decide +kernel
theorem ef_vend (m : MethodId) (n0 : Nat) (fr : Nat) (to : Nat) : entryFrame m #[.ref (n0 + 0), .int (Int32.ofNat fr), .int (Int32.ofNat to)] 4 = mkF m 0 #[.val (.ref (n0 + 0)), .val (.int (Int32.ofNat fr)), .val (.int (Int32.ofNat to)), .unset] [] := by first | (simp [entryFrame, mkF, argsToLocals, Value.category]; done) | rfl
def Q_vend (Z : State) (n0 : Nat) (k0 : ClassId) (B : List Int32) (fr : Nat) (to : Nat) (v : Option Value) (h : Heap) (L : List Loc) : Prop := v = some (.int (Int32.ofNat (own_ve B to 17 fr))) ∧ Fr n0 L ∧ HP n0 h [AC k0 (List.map Value.int B)]
set_option maxRecDepth 65536 in
set_option maxHeartbeats 40000000 in
theorem rm_vend (l : Launch) (Z : State) (a0 : Array Value) (hw : ∀ d ∈ tables_1, d.before a0 Z = true) (ws : List Jvm.Cond) (n0 : Nat) (k0 : ClassId) (B : List Int32) (fr : Nat) (to : Nat) (h0 : Heap) (P0 : HP n0 h0 [AC k0 (List.map Value.int B)]) (hk0 : IsA Z k0 .byte) (hB : B.length = 16) (hft : fr ≤ to) (hto : to ≤ 16) :
    MetFree l (⟨"com/example/normfeld/normfeld/io/FieldPerLineReader", "valueEnd", "([BII)I"⟩ : MethodName) (head1 (Jvm.Cond.code (⟨"com/example/normfeld/normfeld/io/FieldPerLineReader", "valueEnd", "([BII)I"⟩ : MethodName) prog_78_method_6_code 4 (some .int) :: ws) ({ frames := 0, cells := 0, slots := 0, locals := 0 } : Room)) (fun a U => a = #[.ref (n0 + 0), .int (Int32.ofNat fr), .int (Int32.ofNat to)] ∧ Z.Warmed39 U.vm ∧ U.heap = h0) (fun _ _ _ _ _ => True) (fun _ U o U' => ∃ v L, o = .returned v ∧ Q_vend Z n0 k0 B fr to v U'.heap L ∧ FrameEnd U o U' L ({ frames := 0, cells := 0, slots := 0, locals := 0 } : Room).cells ({ frames := 0, cells := 0, slots := 0, locals := 0 } : Room).slots) := by
  refine own_body pn2 ?_
  intro p e s m below meth c T0 hx hby hml hret hlk hown hnm hZ X0 e0
  subst e0
  have N0 : Fr n0 [] := Fr.nil n0
  refine own_cast (ef_vend m n0 fr to) ?_
  have J2 : ∀ (f pp : Nat) (T1 : State) (L1 : List Loc), to - pp < f → pp ≤ to → own_ve B to f pp = own_ve B to 17 fr → Fr n0 L1 → Stand p l e ({ frames := 0, cells := 0, slots := 0, locals := 0 } : Room) s m #[.ref (n0 + 0), .int (Int32.ofNat fr), .int (Int32.ofNat to)] below meth c T1 L1 0 0 → HP n0 T1.heap [AC k0 (List.map Value.int B)] → Wp p e s below ({ frames := 0, cells := 0, slots := 0, locals := 0 } : Room).cells ({ frames := 0, cells := 0, slots := 0, locals := 0 } : Room).slots (Q_vend Z n0 k0 B fr to) T1 (mkF m 2 #[.val (.ref (n0 + 0)), .val (.int (Int32.ofNat fr)), .val (.int (Int32.ofNat to)), .val (.int (Int32.ofNat pp))] []) := by
    intro f
    induction f with
    | zero => intro pp T1 L1 h; omega
    | succ f ih =>
      intro pp T1 L1 hf hpp hv N1 X1 P1
      refine w_iloadN X1 hx (hb hby d2_2) rfl (pc' := 3) rfl ?_
      refine w_iloadN X1 hx (hb hby d2_3) rfl (pc' := 4) rfl ?_
      refine w_icmp_ge X1 hx (hb hby d2_4) (by decide) (pcY := 43) (by decide) (pc' := 7) rfl (fun h0 => ?_) (fun h0 => ?_)
      · have h0n : ¬ pp < to := fun q => h0 ((own_olt (a := pp) (b := to) (by omega) (by omega)).mpr q)
        refine w_iloadN X1 hx (hb hby d2_43) rfl (pc' := 44) rfl ?_
        exact w_ret_i X1 hx hret hlk (hb hby d2_44) (by decide) (by decide) ⟨congrArg (fun q => some (Value.int (Int32.ofNat q))) (show to = own_ve B to 17 fr from by rw [← hv, own_ve, if_neg h0n]), N1, P1⟩
      · have h0n : pp < to := (own_olt (a := pp) (b := to) (by omega) (by omega)).mp h0
        refine w_aloadN X1 hx (hb hby d2_7) rfl rfl (pc' := 8) rfl ?_
        refine w_iloadN X1 hx (hb hby d2_8) rfl (pc' := 9) rfl ?_
        refine w_baloadL (i := 0) (jn := pp) X1 hx hZ P1 rfl hk0 (hb hby d2_9) (own_oN (by omega)) (own_llt hB (by omega)) (pc' := 10) rfl ?_
        refine w_bipush (v := (36 : Int32)) X1 hx (hb hby d2_10) rfl (pc' := 12) rfl ?_
        refine w_icmp_ne X1 hx (hb hby d2_12) (by decide) (pcY := 37) (by decide) (pc' := 15) rfl (fun h1 => ?_) (fun h1 => ?_)
        · refine w_iincE (z := (Int32.ofNat (pp + 1))) (l' := #[.val (.ref (n0 + 0)), .val (.int (Int32.ofNat fr)), .val (.int (Int32.ofNat to)), .val (.int (Int32.ofNat (pp + 1)))]) X1 hx (hb hby d2_37) rfl (own_oadd pp 1) rfl (pc' := 40) rfl ?_
          refine w_goto X1 hx (hb hby d2_40) (by decide) (pc' := 2) (by decide) ?_
          exact ih ((pp + 1)) T1 L1 (by omega) (by omega) (by rw [← hv, own_ve, if_pos h0n, if_neg h1]) N1 X1 P1
        · refine w_iloadN X1 hx (hb hby d2_15) rfl (pc' := 16) rfl ?_
          refine w_iconst (v := (1 : Int32)) X1 hx (hb hby d2_16) rfl (pc' := 17) rfl ?_
          refine w_iadd X1 hx (hb hby d2_17) (pc' := 18) rfl ?_
          refine w_eqI (z := (Int32.ofNat (pp + 1))) (own_oadd pp 1) ?_
          refine w_iloadN X1 hx (hb hby d2_18) rfl (pc' := 19) rfl ?_
          refine w_icmp_eq X1 hx (hb hby d2_19) (by decide) (pcY := 32) (by decide) (pc' := 22) rfl (fun h2 => ?_) (fun h2 => ?_)
          · have h2n : (pp + 1) = to := (own_oeq (a := (pp + 1)) (b := to) (by omega) (by omega)).mp h2
            refine w_iloadN X1 hx (hb hby d2_32) rfl (pc' := 33) rfl ?_
            exact w_ret_i X1 hx hret hlk (hb hby d2_33) (by decide) (by decide) ⟨congrArg (fun q => some (Value.int (Int32.ofNat q))) (show pp = own_ve B to 17 fr from by rw [← hv, own_ve, if_pos h0n, if_pos h1, if_pos h2n]), N1, P1⟩
          · have h2n : ¬ (pp + 1) = to := fun q => h2 ((own_oeq (a := (pp + 1)) (b := to) (by omega) (by omega)).mpr q)
            refine w_aloadN X1 hx (hb hby d2_22) rfl rfl (pc' := 23) rfl ?_
            refine w_iloadN X1 hx (hb hby d2_23) rfl (pc' := 24) rfl ?_
            refine w_iconst (v := (1 : Int32)) X1 hx (hb hby d2_24) rfl (pc' := 25) rfl ?_
            refine w_iadd X1 hx (hb hby d2_25) (pc' := 26) rfl ?_
            refine w_eqI (z := (Int32.ofNat (pp + 1))) (own_oadd pp 1) ?_
            refine w_baloadL (i := 0) (jn := (pp + 1)) X1 hx hZ P1 rfl hk0 (hb hby d2_26) (own_oN (by omega)) (own_llt hB (by omega)) (pc' := 27) rfl ?_
            refine w_bipush (v := (36 : Int32)) X1 hx (hb hby d2_27) rfl (pc' := 29) rfl ?_
            refine w_icmp_eq X1 hx (hb hby d2_29) (by decide) (pcY := 34) (by decide) (pc' := 32) rfl (fun h3 => ?_) (fun h3 => ?_)
            · refine w_iincE (z := (Int32.ofNat (pp + 1))) (l' := #[.val (.ref (n0 + 0)), .val (.int (Int32.ofNat fr)), .val (.int (Int32.ofNat to)), .val (.int (Int32.ofNat (pp + 1)))]) X1 hx (hb hby d2_34) rfl (own_oadd pp 1) rfl (pc' := 37) rfl ?_
              refine w_iincE (z := (Int32.ofNat ((pp + 1) + 1))) (l' := #[.val (.ref (n0 + 0)), .val (.int (Int32.ofNat fr)), .val (.int (Int32.ofNat to)), .val (.int (Int32.ofNat ((pp + 1) + 1)))]) X1 hx (hb hby d2_37) rfl (own_oadd (pp + 1) 1) rfl (pc' := 40) rfl ?_
              refine w_goto X1 hx (hb hby d2_40) (by decide) (pc' := 2) (by decide) ?_
              exact ih (((pp + 1) + 1)) T1 L1 (by omega) (by omega) (by rw [← hv, own_ve, if_pos h0n, if_pos h1, if_neg h2n, if_pos h3]) N1 X1 P1
            · refine w_iloadN X1 hx (hb hby d2_32) rfl (pc' := 33) rfl ?_
              exact w_ret_i X1 hx hret hlk (hb hby d2_33) (by decide) (by decide) ⟨congrArg (fun q => some (Value.int (Int32.ofNat q))) (show pp = own_ve B to 17 fr from by rw [← hv, own_ve, if_pos h0n, if_pos h1, if_neg h2n, if_neg h3]), N1, P1⟩
  refine w_iloadN X0 hx (hb hby d2_0) rfl (pc' := 1) rfl ?_
  refine w_istoreN (l' := #[.val (.ref (n0 + 0)), .val (.int (Int32.ofNat fr)), .val (.int (Int32.ofNat to)), .val (.int (Int32.ofNat fr))]) X0 hx (hb hby d2_1) rfl (pc' := 2) rfl ?_
  exact J2 17 fr T0 [] (by omega) hft rfl N0 X0 P0
theorem pn0 : plainFor (⟨"com/example/normfeld/normfeld/io/FieldPerLineReaderValueEndPinLaw", "law", "(IIII)Z"⟩ : MethodName) = true := plainFor_of_name (by first | (simp [plainName, overriddenIn]; done) | decide +kernel)
theorem pd0 : parseMethodDescriptor (⟨"com/example/normfeld/normfeld/io/FieldPerLineReaderValueEndPinLaw", "law", "(IIII)Z"⟩ : MethodName).desc = some ⟨[.int, .int, .int, .int], some .boolean⟩ := by decide +kernel
theorem ef0 (m : MethodId) (x0 : Int32) (x1 : Int32) (x2 : Int32) (x3 : Int32) : entryFrame m #[Value.int x0, Value.int x1, Value.int x2, Value.int x3] maxLocals = mkF m 0 #[.val (.int x0), .val (.int x1), .val (.int x2), .val (.int x3), .unset, .unset, .unset, .unset, .unset, .unset] [] := by first | (simp [entryFrame, mkF, argsToLocals, Value.category, maxLocals]; done) | rfl
def LawQ (n0 : Nat) (v : Option Value) (h : Heap) (L : List Loc) : Prop := v = some (.int 1) ∧ Fr n0 L
set_option maxRecDepth 65536 in
set_option maxHeartbeats 40000000 in
theorem rm0 (l : Launch) (Z : State) (a0 : Array Value) (hw : ∀ d ∈ tables_1, d.before a0 Z = true) (ws : List Jvm.Cond) (x0 : Int32) (x1 : Int32) (x2 : Int32) (x3 : Int32) (h0 : Heap) (n0 : Nat) (Z0 : h0.size = n0) :
    MetFree l x (head1 (Jvm.Cond.code x code maxLocals ret :: ws) room_1) (fun a U => a = #[Value.int x0, Value.int x1, Value.int x2, Value.int x3] ∧ Z.Warmed39 U.vm ∧ U.heap = h0) (fun _ _ _ _ _ => True) (fun _ U o U' => ∃ v L, o = .returned v ∧ LawQ n0 v U'.heap L ∧ FrameEnd U o U' L room_1.cells room_1.slots) := by
  refine own_body pn0 ?_
  intro p e s m below meth c T0 hx hby hml hret hlk hown hnm hZ X0 e0
  subst e0 Z0
  have P0 := HP.nil T0.heap
  generalize T0.heap.size = n0 at P0 ⊢
  have N0 : Fr n0 [] := Fr.nil n0
  refine own_cast (ef0 m x0 x1 x2 x3) ?_
  obtain ⟨fr, hfr, efr⟩ := own_andk x0 3 3 (by decide)
  have J91 : ∀ (T1 : State) (L1 : List Loc), Fr n0 L1 → Stand p l e room_1 s m #[Value.int x0, Value.int x1, Value.int x2, Value.int x3] below meth c T1 L1 (0 + 1) (0 + 16) → ∀ (kA : ClassId) (A : List Int32) (q : Nat), IsA Z kA .byte → A.length = 16 → HP n0 T1.heap [AC kA (List.map Value.int A)] → own_inv A fr q → fr ≤ q → q ≤ fr + 6 → Wp p e s below room_1.cells room_1.slots (LawQ n0) T1 (mkF m 91 #[.val (.int x0), .val (.int x1), .val (.int x2), .val (.int x3), .val (.ref (n0 + 0)), .val (.int (Int32.ofNat fr)), .val (.int (Int32.ofNat q)), .unset, .unset, .unset] []) := by
    intro T1 L1 N1 X1 kA A q hkA hA P1 hI hfq hq
    refine w_iloadN X1 hx (hb hby at_91) rfl (pc' := 92) rfl ?_
    refine w_bipush (v := (8 : Int32)) X1 hx (hb hby at_92) rfl (pc' := 94) rfl ?_
    refine w_ishr X1 hx (hb hby at_94) (pc' := 95) rfl ?_
    refine w_iconst (v := (3 : Int32)) X1 hx (hb hby at_95) rfl (pc' := 96) rfl ?_
    refine w_iand X1 hx (hb hby at_96) (pc' := 97) rfl ?_
    refine w_istore (l' := #[.val (.int x0), .val (.int x1), .val (.int x2), .val (.int x3), .val (.ref (n0 + 0)), .val (.int (Int32.ofNat fr)), .val (.int (Int32.ofNat q)), .val (.int ((x0 >>> ((8 : Int32) &&& 31)) &&& (3 : Int32))), .unset, .unset]) X1 hx (hb hby at_97) rfl (pc' := 99) rfl ?_
    refine w_iload X1 hx (hb hby at_99) rfl (pc' := 101) rfl ?_
    refine w_if_ne X1 hx (hb hby at_101) (by decide) (pcY := 115) (by decide) (pc' := 104) rfl (fun h0 => ?_) (fun h0 => ?_)
    · refine w_aload X1 hx (hb hby at_115) rfl rfl (pc' := 117) rfl ?_
      refine w_iload X1 hx (hb hby at_117) rfl (pc' := 119) rfl ?_
      refine w_bipush (v := (36 : Int32)) X1 hx (hb hby at_119) rfl (pc' := 121) rfl ?_
      refine w_bastoreEL (i := 0) (jn := q) X1 hx hZ N1 P1 rfl hkA (hb hby at_121) (z := (36 : Int32)) (by decide) (own_oN (by omega)) (own_llt hA (by omega)) (pc' := 122) rfl ?_
      intro T2 L2 N2 X2 P2
      replace P2 : HP n0 T2.heap [AC kA (List.map Value.int (A.set q (36 : Int32)))] := P2
      refine w_iload X2 hx (hb hby at_122) rfl (pc' := 124) rfl ?_
      refine w_iconst (v := (1 : Int32)) X2 hx (hb hby at_124) rfl (pc' := 125) rfl ?_
      refine w_iadd X2 hx (hb hby at_125) (pc' := 126) rfl ?_
      refine w_eqI (z := (Int32.ofNat (q + 1))) (own_oadd q 1) ?_
      refine w_istore (l' := #[.val (.int x0), .val (.int x1), .val (.int x2), .val (.int x3), .val (.ref (n0 + 0)), .val (.int (Int32.ofNat fr)), .val (.int (Int32.ofNat q)), .val (.int ((x0 >>> ((8 : Int32) &&& 31)) &&& (3 : Int32))), .unset, .val (.int (Int32.ofNat (q + 1)))]) X2 hx (hb hby at_126) rfl (pc' := 128) rfl ?_
      refine w_iload X2 hx (hb hby at_128) rfl (pc' := 130) rfl ?_
      refine w_iconst (v := (2 : Int32)) X2 hx (hb hby at_130) rfl (pc' := 131) rfl ?_
      refine w_icmp_lt X2 hx (hb hby at_131) (by decide) (pcY := 154) (by decide) (pc' := 134) rfl (fun h1 => ?_) (fun h1 => ?_)
      · refine w_iload X2 hx (hb hby at_154) rfl (pc' := 156) rfl ?_
        refine w_iconst (v := (3 : Int32)) X2 hx (hb hby at_156) rfl (pc' := 157) rfl ?_
        refine w_icmp_ne X2 hx (hb hby at_157) (by decide) (pcY := 187) (by decide) (pc' := 160) rfl (fun h2 => ?_) (fun h2 => absurd (h2 ▸ h1 : (3 : Int32) < 2) (by decide))
        refine w_iload X2 hx (hb hby at_187) rfl (pc' := 189) rfl ?_
        refine w_istore (l' := #[.val (.int x0), .val (.int x1), .val (.int x2), .val (.int x3), .val (.ref (n0 + 0)), .val (.int (Int32.ofNat fr)), .val (.int (Int32.ofNat q)), .val (.int ((x0 >>> ((8 : Int32) &&& 31)) &&& (3 : Int32))), .val (.int (Int32.ofNat q)), .val (.int (Int32.ofNat (q + 1)))]) X2 hx (hb hby at_189) rfl (pc' := 191) rfl ?_
        refine w_aload X2 hx (hb hby at_191) rfl rfl (pc' := 193) rfl ?_
        refine w_iload X2 hx (hb hby at_193) rfl (pc' := 195) rfl ?_
        refine w_iloadN X2 hx (hb hby at_195) rfl (pc' := 196) rfl ?_
        refine w_bipush (v := (8 : Int32)) X2 hx (hb hby at_196) rfl (pc' := 198) rfl ?_
        refine w_ishr X2 hx (hb hby at_198) (pc' := 199) rfl ?_
        refine w_i2b X2 hx (hb hby at_199) (pc' := 200) rfl ?_
        refine w_bastoreEL (i := 0) (jn := (q + 1)) X2 hx hZ N2 P2 rfl hkA (hb hby at_200) rfl (own_oN (by omega)) (own_llt (own_sl hA) (by omega)) (pc' := 201) rfl ?_
        intro T3 L3 N3 X3 P3
        replace P3 : HP n0 T3.heap [AC kA (List.map Value.int ((A.set q (36 : Int32)).set (q + 1) (nar .byte (Int8.toInt32 (Int32.toInt8 (x3 >>> ((8 : Int32) &&& 31)))))))] := P3
        refine w_aload X3 hx (hb hby at_201) rfl rfl (pc' := 203) rfl ?_
        refine w_iload X3 hx (hb hby at_203) rfl (pc' := 205) rfl ?_
        refine w_iconst (v := (1 : Int32)) X3 hx (hb hby at_205) rfl (pc' := 206) rfl ?_
        refine w_iadd X3 hx (hb hby at_206) (pc' := 207) rfl ?_
        refine w_eqI (z := (Int32.ofNat ((q + 1) + 1))) (own_oadd (q + 1) 1) ?_
        refine w_iloadN X3 hx (hb hby at_207) rfl (pc' := 208) rfl ?_
        refine w_bipush (v := (16 : Int32)) X3 hx (hb hby at_208) rfl (pc' := 210) rfl ?_
        refine w_ishr X3 hx (hb hby at_210) (pc' := 211) rfl ?_
        refine w_i2b X3 hx (hb hby at_211) (pc' := 212) rfl ?_
        refine w_bastoreEL (i := 0) (jn := ((q + 1) + 1)) X3 hx hZ N3 P3 rfl hkA (hb hby at_212) rfl (own_oN (by omega)) (own_llt (own_sl (own_sl hA)) (by omega)) (pc' := 213) rfl ?_
        intro T4 L4 N4 X4 P4
        replace P4 : HP n0 T4.heap [AC kA (List.map Value.int (((A.set q (36 : Int32)).set (q + 1) (nar .byte (Int8.toInt32 (Int32.toInt8 (x3 >>> ((8 : Int32) &&& 31)))))).set ((q + 1) + 1) (nar .byte (Int8.toInt32 (Int32.toInt8 (x3 >>> ((16 : Int32) &&& 31)))))))] := P4
        refine w_aload X4 hx (hb hby at_213) rfl rfl (pc' := 215) rfl ?_
        refine w_iload X4 hx (hb hby at_215) rfl (pc' := 217) rfl ?_
        refine w_iload X4 hx (hb hby at_217) rfl (pc' := 219) rfl ?_
        refine own_call (W := 0) X4 hx hZ rfl hown hml.symm (wd5 hw) (wd6 hw) (wd7 hw) (wd8 hw) (rm_vend l Z a0 hw [] n0 kA (((A.set q (36 : Int32)).set (q + 1) (nar .byte (Int8.toInt32 (Int32.toInt8 (x3 >>> ((8 : Int32) &&& 31)))))).set ((q + 1) + 1) (nar .byte (Int8.toInt32 (Int32.toInt8 (x3 >>> ((16 : Int32) &&& 31)))))) fr (q + 1) _ P4 hkA (own_sl (own_sl (own_sl hA))) (by omega) (by omega)) (by decide) (by decide) (by decide) (by decide) (by decide) (argsL := [.ref (n0 + 0), .int (Int32.ofNat fr), .int (Int32.ofNat (q + 1))]) (rest := []) pd2 rfl rfl rfl (Nat.le_of_eq rfl) (hb hby at_219) (pc' := 222) rfl ?_
        intro v5 T5 L5 X5 hq
        obtain ⟨rfl, N5, P5⟩ := hq
        replace N5 := Fr.app N4 N5
        refine w_iload X5 hx (hb hby at_222) rfl (pc' := 224) rfl ?_
        refine w_icmp_ne X5 hx (hb hby at_224) (by decide) (pcY := 231) (by decide) (pc' := 227) rfl (fun h3 => absurd (congrArg Int32.ofNat (own_f1 hI (fun i hi => by rw [own_gs, if_neg (by omega), own_gs, if_neg (by omega), own_gs, if_neg (by omega)]) (by rw [own_gs, if_neg (by omega), own_gs, if_neg (by omega), own_gs, if_pos ⟨by omega, by simp only [List.length_set, hA]; omega⟩]) (by omega) (Or.inl rfl) (by omega))) h3) (fun h3 => ?_)
        refine w_iconst (v := (1 : Int32)) X5 hx (hb hby at_227) rfl (pc' := 228) rfl ?_
        refine w_goto X5 hx (hb hby at_228) (by decide) (pc' := 232) (by decide) ?_
        exact w_ret_n (t := .boolean) X5 hx hret hlk (by simp) (hb hby at_232) (z' := (1 : Int32)) rfl (by decide) (by decide) ⟨rfl, N5⟩
      · refine w_aload X2 hx (hb hby at_134) rfl rfl (pc' := 136) rfl ?_
        refine w_iload X2 hx (hb hby at_136) rfl (pc' := 138) rfl ?_
        refine w_iconst (v := (1 : Int32)) X2 hx (hb hby at_138) rfl (pc' := 139) rfl ?_
        refine w_iadd X2 hx (hb hby at_139) (pc' := 140) rfl ?_
        refine w_eqI (z := (Int32.ofNat (q + 1))) (own_oadd q 1) ?_
        refine w_iloadN X2 hx (hb hby at_140) rfl (pc' := 141) rfl ?_
        refine w_bipush (v := (24 : Int32)) X2 hx (hb hby at_141) rfl (pc' := 143) rfl ?_
        refine w_ishr X2 hx (hb hby at_143) (pc' := 144) rfl ?_
        refine w_callP (W := 2) X2 hx hZ rfl hown hml.symm (wd9 hw) (wd10 hw) (wd3 hw) (wd11 hw) (rm3 l Z a0 hw [] (x1 >>> ((24 : Int32) &&& 31)) _) (by decide) (by decide) (by decide) rfl rfl (by decide) (by decide) (argsL := [.int (x1 >>> ((24 : Int32) &&& 31))]) (rest := [.int (Int32.ofNat (q + 1)), .ref (n0 + 0)]) pd3 rfl rfl rfl (Nat.le_of_eq rfl) (hb hby at_144) (pc' := 147) rfl ?_
        intro T6 X6 e6
        have P6 : HP n0 T6.heap [AC kA (List.map Value.int (A.set q (36 : Int32)))] := by rw [e6]; exact P2
        refine w_bastoreEL (i := 0) (jn := (q + 1)) X6 hx hZ N2 P6 rfl hkA (hb hby at_147) rfl (own_oN (by omega)) (own_llt (own_sl hA) (by omega)) (pc' := 148) rfl ?_
        intro T7 L6 N6 X7 P7
        replace P7 : HP n0 T7.heap [AC kA (List.map Value.int ((A.set q (36 : Int32)).set (q + 1) (nar .byte (sp3 (x1 >>> ((24 : Int32) &&& 31))))))] := P7
        refine w_iload X7 hx (hb hby at_148) rfl (pc' := 150) rfl ?_
        refine w_iconst (v := (2 : Int32)) X7 hx (hb hby at_150) rfl (pc' := 151) rfl ?_
        refine w_iadd X7 hx (hb hby at_151) (pc' := 152) rfl ?_
        refine w_eqI (z := (Int32.ofNat (q + 2))) (own_oadd q 2) ?_
        refine w_istore (l' := #[.val (.int x0), .val (.int x1), .val (.int x2), .val (.int x3), .val (.ref (n0 + 0)), .val (.int (Int32.ofNat fr)), .val (.int (Int32.ofNat q)), .val (.int ((x0 >>> ((8 : Int32) &&& 31)) &&& (3 : Int32))), .unset, .val (.int (Int32.ofNat (q + 2)))]) X7 hx (hb hby at_152) rfl (pc' := 154) rfl ?_
        refine w_iload X7 hx (hb hby at_154) rfl (pc' := 156) rfl ?_
        refine w_iconst (v := (3 : Int32)) X7 hx (hb hby at_156) rfl (pc' := 157) rfl ?_
        refine w_icmp_ne X7 hx (hb hby at_157) (by decide) (pcY := 187) (by decide) (pc' := 160) rfl (fun h4 => ?_) (fun h4 => ?_)
        · refine w_iload X7 hx (hb hby at_187) rfl (pc' := 189) rfl ?_
          refine w_istore (l' := #[.val (.int x0), .val (.int x1), .val (.int x2), .val (.int x3), .val (.ref (n0 + 0)), .val (.int (Int32.ofNat fr)), .val (.int (Int32.ofNat q)), .val (.int ((x0 >>> ((8 : Int32) &&& 31)) &&& (3 : Int32))), .val (.int (Int32.ofNat q)), .val (.int (Int32.ofNat (q + 2)))]) X7 hx (hb hby at_189) rfl (pc' := 191) rfl ?_
          refine w_aload X7 hx (hb hby at_191) rfl rfl (pc' := 193) rfl ?_
          refine w_iload X7 hx (hb hby at_193) rfl (pc' := 195) rfl ?_
          refine w_iloadN X7 hx (hb hby at_195) rfl (pc' := 196) rfl ?_
          refine w_bipush (v := (8 : Int32)) X7 hx (hb hby at_196) rfl (pc' := 198) rfl ?_
          refine w_ishr X7 hx (hb hby at_198) (pc' := 199) rfl ?_
          refine w_i2b X7 hx (hb hby at_199) (pc' := 200) rfl ?_
          refine w_bastoreEL (i := 0) (jn := (q + 2)) X7 hx hZ N6 P7 rfl hkA (hb hby at_200) rfl (own_oN (by omega)) (own_llt (own_sl (own_sl hA)) (by omega)) (pc' := 201) rfl ?_
          intro T8 L7 N7 X8 P8
          replace P8 : HP n0 T8.heap [AC kA (List.map Value.int (((A.set q (36 : Int32)).set (q + 1) (nar .byte (sp3 (x1 >>> ((24 : Int32) &&& 31))))).set (q + 2) (nar .byte (Int8.toInt32 (Int32.toInt8 (x3 >>> ((8 : Int32) &&& 31)))))))] := P8
          refine w_aload X8 hx (hb hby at_201) rfl rfl (pc' := 203) rfl ?_
          refine w_iload X8 hx (hb hby at_203) rfl (pc' := 205) rfl ?_
          refine w_iconst (v := (1 : Int32)) X8 hx (hb hby at_205) rfl (pc' := 206) rfl ?_
          refine w_iadd X8 hx (hb hby at_206) (pc' := 207) rfl ?_
          refine w_eqI (z := (Int32.ofNat ((q + 2) + 1))) (own_oadd (q + 2) 1) ?_
          refine w_iloadN X8 hx (hb hby at_207) rfl (pc' := 208) rfl ?_
          refine w_bipush (v := (16 : Int32)) X8 hx (hb hby at_208) rfl (pc' := 210) rfl ?_
          refine w_ishr X8 hx (hb hby at_210) (pc' := 211) rfl ?_
          refine w_i2b X8 hx (hb hby at_211) (pc' := 212) rfl ?_
          refine w_bastoreEL (i := 0) (jn := ((q + 2) + 1)) X8 hx hZ N7 P8 rfl hkA (hb hby at_212) rfl (own_oN (by omega)) (own_llt (own_sl (own_sl (own_sl hA))) (by omega)) (pc' := 213) rfl ?_
          intro T9 L8 N8 X9 P9
          replace P9 : HP n0 T9.heap [AC kA (List.map Value.int ((((A.set q (36 : Int32)).set (q + 1) (nar .byte (sp3 (x1 >>> ((24 : Int32) &&& 31))))).set (q + 2) (nar .byte (Int8.toInt32 (Int32.toInt8 (x3 >>> ((8 : Int32) &&& 31)))))).set ((q + 2) + 1) (nar .byte (Int8.toInt32 (Int32.toInt8 (x3 >>> ((16 : Int32) &&& 31)))))))] := P9
          refine w_aload X9 hx (hb hby at_213) rfl rfl (pc' := 215) rfl ?_
          refine w_iload X9 hx (hb hby at_215) rfl (pc' := 217) rfl ?_
          refine w_iload X9 hx (hb hby at_217) rfl (pc' := 219) rfl ?_
          refine own_call (W := 0) X9 hx hZ rfl hown hml.symm (wd5 hw) (wd6 hw) (wd7 hw) (wd8 hw) (rm_vend l Z a0 hw [] n0 kA ((((A.set q (36 : Int32)).set (q + 1) (nar .byte (sp3 (x1 >>> ((24 : Int32) &&& 31))))).set (q + 2) (nar .byte (Int8.toInt32 (Int32.toInt8 (x3 >>> ((8 : Int32) &&& 31)))))).set ((q + 2) + 1) (nar .byte (Int8.toInt32 (Int32.toInt8 (x3 >>> ((16 : Int32) &&& 31)))))) fr (q + 2) _ P9 hkA (own_sl (own_sl (own_sl (own_sl hA)))) (by omega) (by omega)) (by decide) (by decide) (by decide) (by decide) (by decide) (argsL := [.ref (n0 + 0), .int (Int32.ofNat fr), .int (Int32.ofNat (q + 2))]) (rest := []) pd2 rfl rfl rfl (Nat.le_of_eq rfl) (hb hby at_219) (pc' := 222) rfl ?_
          intro v10 T10 L9 X10 hq
          obtain ⟨rfl, N9, P10⟩ := hq
          replace N9 := Fr.app N8 N9
          refine w_iload X10 hx (hb hby at_222) rfl (pc' := 224) rfl ?_
          refine w_icmp_ne X10 hx (hb hby at_224) (by decide) (pcY := 231) (by decide) (pc' := 227) rfl (fun h5 => absurd (congrArg Int32.ofNat (own_f1 hI (fun i hi => by rw [own_gs, if_neg (by omega), own_gs, if_neg (by omega), own_gs, if_neg (by omega), own_gs, if_neg (by omega)]) (by rw [own_gs, if_neg (by omega), own_gs, if_neg (by omega), own_gs, if_neg (by omega), own_gs, if_pos ⟨by omega, by simp only [List.length_set, hA]; omega⟩]) (by omega) (Or.inr (by have ee : (((((A.set q (36 : Int32)).set (q + 1) (nar .byte (sp3 (x1 >>> ((24 : Int32) &&& 31))))).set (q + 2) (nar .byte (Int8.toInt32 (Int32.toInt8 (x3 >>> ((8 : Int32) &&& 31)))))).set ((q + 2) + 1) (nar .byte (Int8.toInt32 (Int32.toInt8 (x3 >>> ((16 : Int32) &&& 31))))))).getD (q + 1) 0 = nar .byte (sp3 (x1 >>> ((24 : Int32) &&& 31))) := (by rw [own_gs, if_neg (by omega), own_gs, if_neg (by omega), own_gs, if_pos ⟨by omega, by simp only [List.length_set, hA]; omega⟩]); rw [ee]; exact own_ot _)) (by omega))) h5) (fun h5 => ?_)
          refine w_iconst (v := (1 : Int32)) X10 hx (hb hby at_227) rfl (pc' := 228) rfl ?_
          refine w_goto X10 hx (hb hby at_228) (by decide) (pc' := 232) (by decide) ?_
          exact w_ret_n (t := .boolean) X10 hx hret hlk (by simp) (hb hby at_232) (z' := (1 : Int32)) rfl (by decide) (by decide) ⟨rfl, N9⟩
        · refine w_aload X7 hx (hb hby at_160) rfl rfl (pc' := 162) rfl ?_
          refine w_iload X7 hx (hb hby at_162) rfl (pc' := 164) rfl ?_
          refine w_iconst (v := (2 : Int32)) X7 hx (hb hby at_164) rfl (pc' := 165) rfl ?_
          refine w_iadd X7 hx (hb hby at_165) (pc' := 166) rfl ?_
          refine w_eqI (z := (Int32.ofNat (q + 2))) (own_oadd q 2) ?_
          refine w_iloadN X7 hx (hb hby at_166) rfl (pc' := 167) rfl ?_
          refine w_bipush (v := (24 : Int32)) X7 hx (hb hby at_167) rfl (pc' := 169) rfl ?_
          refine w_ishr X7 hx (hb hby at_169) (pc' := 170) rfl ?_
          refine w_i2b X7 hx (hb hby at_170) (pc' := 171) rfl ?_
          refine w_bastoreEL (i := 0) (jn := (q + 2)) X7 hx hZ N6 P7 rfl hkA (hb hby at_171) rfl (own_oN (by omega)) (own_llt (own_sl (own_sl hA)) (by omega)) (pc' := 172) rfl ?_
          intro T11 L10 N10 X11 P11
          replace P11 : HP n0 T11.heap [AC kA (List.map Value.int (((A.set q (36 : Int32)).set (q + 1) (nar .byte (sp3 (x1 >>> ((24 : Int32) &&& 31))))).set (q + 2) (nar .byte (Int8.toInt32 (Int32.toInt8 (x2 >>> ((24 : Int32) &&& 31)))))))] := P11
          refine w_aload X11 hx (hb hby at_172) rfl rfl (pc' := 174) rfl ?_
          refine w_iload X11 hx (hb hby at_174) rfl (pc' := 176) rfl ?_
          refine w_iconst (v := (3 : Int32)) X11 hx (hb hby at_176) rfl (pc' := 177) rfl ?_
          refine w_iadd X11 hx (hb hby at_177) (pc' := 178) rfl ?_
          refine w_eqI (z := (Int32.ofNat (q + 3))) (own_oadd q 3) ?_
          refine w_iloadN X11 hx (hb hby at_178) rfl (pc' := 179) rfl ?_
          refine w_i2b X11 hx (hb hby at_179) (pc' := 180) rfl ?_
          refine w_bastoreEL (i := 0) (jn := (q + 3)) X11 hx hZ N10 P11 rfl hkA (hb hby at_180) rfl (own_oN (by omega)) (own_llt (own_sl (own_sl (own_sl hA))) (by omega)) (pc' := 181) rfl ?_
          intro T12 L11 N11 X12 P12
          replace P12 : HP n0 T12.heap [AC kA (List.map Value.int ((((A.set q (36 : Int32)).set (q + 1) (nar .byte (sp3 (x1 >>> ((24 : Int32) &&& 31))))).set (q + 2) (nar .byte (Int8.toInt32 (Int32.toInt8 (x2 >>> ((24 : Int32) &&& 31)))))).set (q + 3) (nar .byte (Int8.toInt32 (Int32.toInt8 x3)))))] := P12
          refine w_iload X12 hx (hb hby at_181) rfl (pc' := 183) rfl ?_
          refine w_iconst (v := (4 : Int32)) X12 hx (hb hby at_183) rfl (pc' := 184) rfl ?_
          refine w_iadd X12 hx (hb hby at_184) (pc' := 185) rfl ?_
          refine w_eqI (z := (Int32.ofNat (q + 4))) (own_oadd q 4) ?_
          refine w_istore (l' := #[.val (.int x0), .val (.int x1), .val (.int x2), .val (.int x3), .val (.ref (n0 + 0)), .val (.int (Int32.ofNat fr)), .val (.int (Int32.ofNat q)), .val (.int ((x0 >>> ((8 : Int32) &&& 31)) &&& (3 : Int32))), .unset, .val (.int (Int32.ofNat (q + 4)))]) X12 hx (hb hby at_185) rfl (pc' := 187) rfl ?_
          refine w_iload X12 hx (hb hby at_187) rfl (pc' := 189) rfl ?_
          refine w_istore (l' := #[.val (.int x0), .val (.int x1), .val (.int x2), .val (.int x3), .val (.ref (n0 + 0)), .val (.int (Int32.ofNat fr)), .val (.int (Int32.ofNat q)), .val (.int ((x0 >>> ((8 : Int32) &&& 31)) &&& (3 : Int32))), .val (.int (Int32.ofNat q)), .val (.int (Int32.ofNat (q + 4)))]) X12 hx (hb hby at_189) rfl (pc' := 191) rfl ?_
          refine w_aload X12 hx (hb hby at_191) rfl rfl (pc' := 193) rfl ?_
          refine w_iload X12 hx (hb hby at_193) rfl (pc' := 195) rfl ?_
          refine w_iloadN X12 hx (hb hby at_195) rfl (pc' := 196) rfl ?_
          refine w_bipush (v := (8 : Int32)) X12 hx (hb hby at_196) rfl (pc' := 198) rfl ?_
          refine w_ishr X12 hx (hb hby at_198) (pc' := 199) rfl ?_
          refine w_i2b X12 hx (hb hby at_199) (pc' := 200) rfl ?_
          refine w_bastoreEL (i := 0) (jn := (q + 4)) X12 hx hZ N11 P12 rfl hkA (hb hby at_200) rfl (own_oN (by omega)) (own_llt (own_sl (own_sl (own_sl (own_sl hA)))) (by omega)) (pc' := 201) rfl ?_
          intro T13 L12 N12 X13 P13
          replace P13 : HP n0 T13.heap [AC kA (List.map Value.int (((((A.set q (36 : Int32)).set (q + 1) (nar .byte (sp3 (x1 >>> ((24 : Int32) &&& 31))))).set (q + 2) (nar .byte (Int8.toInt32 (Int32.toInt8 (x2 >>> ((24 : Int32) &&& 31)))))).set (q + 3) (nar .byte (Int8.toInt32 (Int32.toInt8 x3)))).set (q + 4) (nar .byte (Int8.toInt32 (Int32.toInt8 (x3 >>> ((8 : Int32) &&& 31)))))))] := P13
          refine w_aload X13 hx (hb hby at_201) rfl rfl (pc' := 203) rfl ?_
          refine w_iload X13 hx (hb hby at_203) rfl (pc' := 205) rfl ?_
          refine w_iconst (v := (1 : Int32)) X13 hx (hb hby at_205) rfl (pc' := 206) rfl ?_
          refine w_iadd X13 hx (hb hby at_206) (pc' := 207) rfl ?_
          refine w_eqI (z := (Int32.ofNat ((q + 4) + 1))) (own_oadd (q + 4) 1) ?_
          refine w_iloadN X13 hx (hb hby at_207) rfl (pc' := 208) rfl ?_
          refine w_bipush (v := (16 : Int32)) X13 hx (hb hby at_208) rfl (pc' := 210) rfl ?_
          refine w_ishr X13 hx (hb hby at_210) (pc' := 211) rfl ?_
          refine w_i2b X13 hx (hb hby at_211) (pc' := 212) rfl ?_
          refine w_bastoreEL (i := 0) (jn := ((q + 4) + 1)) X13 hx hZ N12 P13 rfl hkA (hb hby at_212) rfl (own_oN (by omega)) (own_llt (own_sl (own_sl (own_sl (own_sl (own_sl hA))))) (by omega)) (pc' := 213) rfl ?_
          intro T14 L13 N13 X14 P14
          replace P14 : HP n0 T14.heap [AC kA (List.map Value.int ((((((A.set q (36 : Int32)).set (q + 1) (nar .byte (sp3 (x1 >>> ((24 : Int32) &&& 31))))).set (q + 2) (nar .byte (Int8.toInt32 (Int32.toInt8 (x2 >>> ((24 : Int32) &&& 31)))))).set (q + 3) (nar .byte (Int8.toInt32 (Int32.toInt8 x3)))).set (q + 4) (nar .byte (Int8.toInt32 (Int32.toInt8 (x3 >>> ((8 : Int32) &&& 31)))))).set ((q + 4) + 1) (nar .byte (Int8.toInt32 (Int32.toInt8 (x3 >>> ((16 : Int32) &&& 31)))))))] := P14
          refine w_aload X14 hx (hb hby at_213) rfl rfl (pc' := 215) rfl ?_
          refine w_iload X14 hx (hb hby at_215) rfl (pc' := 217) rfl ?_
          refine w_iload X14 hx (hb hby at_217) rfl (pc' := 219) rfl ?_
          refine own_call (W := 0) X14 hx hZ rfl hown hml.symm (wd5 hw) (wd6 hw) (wd7 hw) (wd8 hw) (rm_vend l Z a0 hw [] n0 kA ((((((A.set q (36 : Int32)).set (q + 1) (nar .byte (sp3 (x1 >>> ((24 : Int32) &&& 31))))).set (q + 2) (nar .byte (Int8.toInt32 (Int32.toInt8 (x2 >>> ((24 : Int32) &&& 31)))))).set (q + 3) (nar .byte (Int8.toInt32 (Int32.toInt8 x3)))).set (q + 4) (nar .byte (Int8.toInt32 (Int32.toInt8 (x3 >>> ((8 : Int32) &&& 31)))))).set ((q + 4) + 1) (nar .byte (Int8.toInt32 (Int32.toInt8 (x3 >>> ((16 : Int32) &&& 31)))))) fr (q + 4) _ P14 hkA (own_sl (own_sl (own_sl (own_sl (own_sl (own_sl hA)))))) (by omega) (by omega)) (by decide) (by decide) (by decide) (by decide) (by decide) (argsL := [.ref (n0 + 0), .int (Int32.ofNat fr), .int (Int32.ofNat (q + 4))]) (rest := []) pd2 rfl rfl rfl (Nat.le_of_eq rfl) (hb hby at_219) (pc' := 222) rfl ?_
          intro v15 T15 L14 X15 hq
          obtain ⟨rfl, N14, P15⟩ := hq
          replace N14 := Fr.app N13 N14
          refine w_iload X15 hx (hb hby at_222) rfl (pc' := 224) rfl ?_
          refine w_icmp_ne X15 hx (hb hby at_224) (by decide) (pcY := 231) (by decide) (pc' := 227) rfl (fun h6 => absurd (congrArg Int32.ofNat (own_f1 hI (fun i hi => by rw [own_gs, if_neg (by omega), own_gs, if_neg (by omega), own_gs, if_neg (by omega), own_gs, if_neg (by omega), own_gs, if_neg (by omega), own_gs, if_neg (by omega)]) (by rw [own_gs, if_neg (by omega), own_gs, if_neg (by omega), own_gs, if_neg (by omega), own_gs, if_neg (by omega), own_gs, if_neg (by omega), own_gs, if_pos ⟨by omega, by simp only [List.length_set, hA]; omega⟩]) (by omega) (Or.inr (by have ee : (((((((A.set q (36 : Int32)).set (q + 1) (nar .byte (sp3 (x1 >>> ((24 : Int32) &&& 31))))).set (q + 2) (nar .byte (Int8.toInt32 (Int32.toInt8 (x2 >>> ((24 : Int32) &&& 31)))))).set (q + 3) (nar .byte (Int8.toInt32 (Int32.toInt8 x3)))).set (q + 4) (nar .byte (Int8.toInt32 (Int32.toInt8 (x3 >>> ((8 : Int32) &&& 31)))))).set ((q + 4) + 1) (nar .byte (Int8.toInt32 (Int32.toInt8 (x3 >>> ((16 : Int32) &&& 31))))))).getD (q + 1) 0 = nar .byte (sp3 (x1 >>> ((24 : Int32) &&& 31))) := (by rw [own_gs, if_neg (by omega), own_gs, if_neg (by omega), own_gs, if_neg (by omega), own_gs, if_neg (by omega), own_gs, if_pos ⟨by omega, by simp only [List.length_set, hA]; omega⟩]); rw [ee]; exact own_ot _)) (by omega))) h6) (fun h6 => ?_)
          refine w_iconst (v := (1 : Int32)) X15 hx (hb hby at_227) rfl (pc' := 228) rfl ?_
          refine w_goto X15 hx (hb hby at_228) (by decide) (pc' := 232) (by decide) ?_
          exact w_ret_n (t := .boolean) X15 hx hret hlk (by simp) (hb hby at_232) (z' := (1 : Int32)) rfl (by decide) (by decide) ⟨rfl, N14⟩
    · refine w_iload X1 hx (hb hby at_104) rfl (pc' := 106) rfl ?_
      refine w_istore (l' := #[.val (.int x0), .val (.int x1), .val (.int x2), .val (.int x3), .val (.ref (n0 + 0)), .val (.int (Int32.ofNat fr)), .val (.int (Int32.ofNat q)), .val (.int ((x0 >>> ((8 : Int32) &&& 31)) &&& (3 : Int32))), .unset, .val (.int (Int32.ofNat q))]) X1 hx (hb hby at_106) rfl (pc' := 108) rfl ?_
      refine w_iload X1 hx (hb hby at_108) rfl (pc' := 110) rfl ?_
      refine w_istore (l' := #[.val (.int x0), .val (.int x1), .val (.int x2), .val (.int x3), .val (.ref (n0 + 0)), .val (.int (Int32.ofNat fr)), .val (.int (Int32.ofNat q)), .val (.int ((x0 >>> ((8 : Int32) &&& 31)) &&& (3 : Int32))), .val (.int (Int32.ofNat q)), .val (.int (Int32.ofNat q))]) X1 hx (hb hby at_110) rfl (pc' := 112) rfl ?_
      refine w_goto X1 hx (hb hby at_112) (by decide) (pc' := 191) (by decide) ?_
      refine w_aload X1 hx (hb hby at_191) rfl rfl (pc' := 193) rfl ?_
      refine w_iload X1 hx (hb hby at_193) rfl (pc' := 195) rfl ?_
      refine w_iloadN X1 hx (hb hby at_195) rfl (pc' := 196) rfl ?_
      refine w_bipush (v := (8 : Int32)) X1 hx (hb hby at_196) rfl (pc' := 198) rfl ?_
      refine w_ishr X1 hx (hb hby at_198) (pc' := 199) rfl ?_
      refine w_i2b X1 hx (hb hby at_199) (pc' := 200) rfl ?_
      refine w_bastoreEL (i := 0) (jn := q) X1 hx hZ N1 P1 rfl hkA (hb hby at_200) rfl (own_oN (by omega)) (own_llt hA (by omega)) (pc' := 201) rfl ?_
      intro T16 L15 N15 X16 P16
      replace P16 : HP n0 T16.heap [AC kA (List.map Value.int (A.set q (nar .byte (Int8.toInt32 (Int32.toInt8 (x3 >>> ((8 : Int32) &&& 31)))))))] := P16
      refine w_aload X16 hx (hb hby at_201) rfl rfl (pc' := 203) rfl ?_
      refine w_iload X16 hx (hb hby at_203) rfl (pc' := 205) rfl ?_
      refine w_iconst (v := (1 : Int32)) X16 hx (hb hby at_205) rfl (pc' := 206) rfl ?_
      refine w_iadd X16 hx (hb hby at_206) (pc' := 207) rfl ?_
      refine w_eqI (z := (Int32.ofNat (q + 1))) (own_oadd q 1) ?_
      refine w_iloadN X16 hx (hb hby at_207) rfl (pc' := 208) rfl ?_
      refine w_bipush (v := (16 : Int32)) X16 hx (hb hby at_208) rfl (pc' := 210) rfl ?_
      refine w_ishr X16 hx (hb hby at_210) (pc' := 211) rfl ?_
      refine w_i2b X16 hx (hb hby at_211) (pc' := 212) rfl ?_
      refine w_bastoreEL (i := 0) (jn := (q + 1)) X16 hx hZ N15 P16 rfl hkA (hb hby at_212) rfl (own_oN (by omega)) (own_llt (own_sl hA) (by omega)) (pc' := 213) rfl ?_
      intro T17 L16 N16 X17 P17
      replace P17 : HP n0 T17.heap [AC kA (List.map Value.int ((A.set q (nar .byte (Int8.toInt32 (Int32.toInt8 (x3 >>> ((8 : Int32) &&& 31)))))).set (q + 1) (nar .byte (Int8.toInt32 (Int32.toInt8 (x3 >>> ((16 : Int32) &&& 31)))))))] := P17
      refine w_aload X17 hx (hb hby at_213) rfl rfl (pc' := 215) rfl ?_
      refine w_iload X17 hx (hb hby at_215) rfl (pc' := 217) rfl ?_
      refine w_iload X17 hx (hb hby at_217) rfl (pc' := 219) rfl ?_
      refine own_call (W := 0) X17 hx hZ rfl hown hml.symm (wd5 hw) (wd6 hw) (wd7 hw) (wd8 hw) (rm_vend l Z a0 hw [] n0 kA ((A.set q (nar .byte (Int8.toInt32 (Int32.toInt8 (x3 >>> ((8 : Int32) &&& 31)))))).set (q + 1) (nar .byte (Int8.toInt32 (Int32.toInt8 (x3 >>> ((16 : Int32) &&& 31)))))) fr q _ P17 hkA (own_sl (own_sl hA)) (by omega) (by omega)) (by decide) (by decide) (by decide) (by decide) (by decide) (argsL := [.ref (n0 + 0), .int (Int32.ofNat fr), .int (Int32.ofNat q)]) (rest := []) pd2 rfl rfl rfl (Nat.le_of_eq rfl) (hb hby at_219) (pc' := 222) rfl ?_
      intro v18 T18 L17 X18 hq
      obtain ⟨rfl, N17, P18⟩ := hq
      replace N17 := Fr.app N16 N17
      refine w_iload X18 hx (hb hby at_222) rfl (pc' := 224) rfl ?_
      refine w_icmp_ne X18 hx (hb hby at_224) (by decide) (pcY := 231) (by decide) (pc' := 227) rfl (fun h7 => absurd (congrArg Int32.ofNat (own_f0 hI (fun i hi => by rw [own_gs, if_neg (by omega), own_gs, if_neg (by omega)]) rfl (by omega))) h7) (fun h7 => ?_)
      refine w_iconst (v := (1 : Int32)) X18 hx (hb hby at_227) rfl (pc' := 228) rfl ?_
      refine w_goto X18 hx (hb hby at_228) (by decide) (pc' := 232) (by decide) ?_
      exact w_ret_n (t := .boolean) X18 hx hret hlk (by simp) (hb hby at_232) (z' := (1 : Int32)) rfl (by decide) (by decide) ⟨rfl, N17⟩
  have J72 : ∀ (T19 : State) (L18 : List Loc), Fr n0 L18 → Stand p l e room_1 s m #[Value.int x0, Value.int x1, Value.int x2, Value.int x3] below meth c T19 L18 (0 + 1) (0 + 16) → ∀ (kA : ClassId) (A : List Int32) (q : Nat), IsA Z kA .byte → A.length = 16 → HP n0 T19.heap [AC kA (List.map Value.int A)] → own_inv A fr q → fr ≤ q → q ≤ fr + 4 → Wp p e s below room_1.cells room_1.slots (LawQ n0) T19 (mkF m 72 #[.val (.int x0), .val (.int x1), .val (.int x2), .val (.int x3), .val (.ref (n0 + 0)), .val (.int (Int32.ofNat fr)), .val (.int (Int32.ofNat q)), .unset, .unset, .unset] []) := by
    intro T19 L18 N18 X19 kA A q hkA hA P19 hI hfq hq
    refine w_aload X19 hx (hb hby at_72) rfl rfl (pc' := 74) rfl ?_
    refine w_iload X19 hx (hb hby at_74) rfl (pc' := 76) rfl ?_
    refine w_iloadN X19 hx (hb hby at_76) rfl (pc' := 77) rfl ?_
    refine w_bipush (v := (6 : Int32)) X19 hx (hb hby at_77) rfl (pc' := 79) rfl ?_
    refine w_ishr X19 hx (hb hby at_79) (pc' := 80) rfl ?_
    refine w_iconst (v := (3 : Int32)) X19 hx (hb hby at_80) rfl (pc' := 81) rfl ?_
    refine w_iand X19 hx (hb hby at_81) (pc' := 82) rfl ?_
    refine w_iloadN X19 hx (hb hby at_82) rfl (pc' := 83) rfl ?_
    refine w_bipush (v := (16 : Int32)) X19 hx (hb hby at_83) rfl (pc' := 85) rfl ?_
    refine w_ishr X19 hx (hb hby at_85) (pc' := 86) rfl ?_
    refine own_call (W := 0) X19 hx hZ rfl hown hml.symm (wd1 hw) (wd2 hw) (wd3 hw) (wd4 hw) (rm_tok l Z a0 hw [] n0 kA A q ((x0 >>> ((6 : Int32) &&& 31)) &&& (3 : Int32)) (x1 >>> ((16 : Int32) &&& 31)) _ P19 hkA hA (by omega)) (by decide) (by decide) (by decide) (by decide) (by decide) (argsL := [.ref (n0 + 0), .int (Int32.ofNat q), .int ((x0 >>> ((6 : Int32) &&& 31)) &&& (3 : Int32)), .int (x1 >>> ((16 : Int32) &&& 31))]) (rest := []) pd1 rfl rfl rfl (Nat.le_of_eq rfl) (hb hby at_86) (pc' := 89) rfl ?_
    intro v20 T20 L19 X20 hq
    obtain ⟨N19, hq⟩ := hq
    replace N19 := Fr.app N18 N19
    rcases hq with ⟨rfl, P20⟩ | ⟨rfl, P20⟩ | ⟨rfl, P20⟩
    · refine w_istore (l' := #[.val (.int x0), .val (.int x1), .val (.int x2), .val (.int x3), .val (.ref (n0 + 0)), .val (.int (Int32.ofNat fr)), .val (.int (Int32.ofNat q)), .unset, .unset, .unset]) X20 hx (hb hby at_89) rfl (pc' := 91) rfl ?_
      exact J91 T20 _ N19 X20 kA A (q) hkA hA P20 hI (by omega) (by omega)
    · refine w_istore (l' := #[.val (.int x0), .val (.int x1), .val (.int x2), .val (.int x3), .val (.ref (n0 + 0)), .val (.int (Int32.ofNat fr)), .val (.int (Int32.ofNat (q + 2))), .unset, .unset, .unset]) X20 hx (hb hby at_89) rfl (pc' := 91) rfl ?_
      exact J91 T20 _ N19 X20 kA ((A.set q 36).set (q + 1) 36) ((q + 2)) hkA (own_sl (own_sl hA)) P20 (own_i2 hI hA (by omega)) (by omega) (by omega)
    · refine w_istore (l' := #[.val (.int x0), .val (.int x1), .val (.int x2), .val (.int x3), .val (.ref (n0 + 0)), .val (.int (Int32.ofNat fr)), .val (.int (Int32.ofNat (q + 1))), .unset, .unset, .unset]) X20 hx (hb hby at_89) rfl (pc' := 91) rfl ?_
      exact J91 T20 _ N19 X20 kA (A.set q (nar .byte (sp3 (x1 >>> ((16 : Int32) &&& 31))))) ((q + 1)) hkA (own_sl hA) P20 (own_i1 hI (own_ot _) hA (by omega)) (by omega) (by omega)
  have J54 : ∀ (T21 : State) (L20 : List Loc), Fr n0 L20 → Stand p l e room_1 s m #[Value.int x0, Value.int x1, Value.int x2, Value.int x3] below meth c T21 L20 (0 + 1) (0 + 16) → ∀ (kA : ClassId) (A : List Int32) (q : Nat), IsA Z kA .byte → A.length = 16 → HP n0 T21.heap [AC kA (List.map Value.int A)] → own_inv A fr q → fr ≤ q → q ≤ fr + 2 → Wp p e s below room_1.cells room_1.slots (LawQ n0) T21 (mkF m 54 #[.val (.int x0), .val (.int x1), .val (.int x2), .val (.int x3), .val (.ref (n0 + 0)), .val (.int (Int32.ofNat fr)), .val (.int (Int32.ofNat q)), .unset, .unset, .unset] []) := by
    intro T21 L20 N20 X21 kA A q hkA hA P21 hI hfq hq
    refine w_aload X21 hx (hb hby at_54) rfl rfl (pc' := 56) rfl ?_
    refine w_iload X21 hx (hb hby at_56) rfl (pc' := 58) rfl ?_
    refine w_iloadN X21 hx (hb hby at_58) rfl (pc' := 59) rfl ?_
    refine w_iconst (v := (4 : Int32)) X21 hx (hb hby at_59) rfl (pc' := 60) rfl ?_
    refine w_ishr X21 hx (hb hby at_60) (pc' := 61) rfl ?_
    refine w_iconst (v := (3 : Int32)) X21 hx (hb hby at_61) rfl (pc' := 62) rfl ?_
    refine w_iand X21 hx (hb hby at_62) (pc' := 63) rfl ?_
    refine w_iloadN X21 hx (hb hby at_63) rfl (pc' := 64) rfl ?_
    refine w_bipush (v := (8 : Int32)) X21 hx (hb hby at_64) rfl (pc' := 66) rfl ?_
    refine w_ishr X21 hx (hb hby at_66) (pc' := 67) rfl ?_
    refine own_call (W := 0) X21 hx hZ rfl hown hml.symm (wd1 hw) (wd2 hw) (wd3 hw) (wd4 hw) (rm_tok l Z a0 hw [] n0 kA A q ((x0 >>> ((4 : Int32) &&& 31)) &&& (3 : Int32)) (x1 >>> ((8 : Int32) &&& 31)) _ P21 hkA hA (by omega)) (by decide) (by decide) (by decide) (by decide) (by decide) (argsL := [.ref (n0 + 0), .int (Int32.ofNat q), .int ((x0 >>> ((4 : Int32) &&& 31)) &&& (3 : Int32)), .int (x1 >>> ((8 : Int32) &&& 31))]) (rest := []) pd1 rfl rfl rfl (Nat.le_of_eq rfl) (hb hby at_67) (pc' := 70) rfl ?_
    intro v22 T22 L21 X22 hq
    obtain ⟨N21, hq⟩ := hq
    replace N21 := Fr.app N20 N21
    rcases hq with ⟨rfl, P22⟩ | ⟨rfl, P22⟩ | ⟨rfl, P22⟩
    · refine w_istore (l' := #[.val (.int x0), .val (.int x1), .val (.int x2), .val (.int x3), .val (.ref (n0 + 0)), .val (.int (Int32.ofNat fr)), .val (.int (Int32.ofNat q)), .unset, .unset, .unset]) X22 hx (hb hby at_70) rfl (pc' := 72) rfl ?_
      exact J72 T22 _ N21 X22 kA A (q) hkA hA P22 hI (by omega) (by omega)
    · refine w_istore (l' := #[.val (.int x0), .val (.int x1), .val (.int x2), .val (.int x3), .val (.ref (n0 + 0)), .val (.int (Int32.ofNat fr)), .val (.int (Int32.ofNat (q + 2))), .unset, .unset, .unset]) X22 hx (hb hby at_70) rfl (pc' := 72) rfl ?_
      exact J72 T22 _ N21 X22 kA ((A.set q 36).set (q + 1) 36) ((q + 2)) hkA (own_sl (own_sl hA)) P22 (own_i2 hI hA (by omega)) (by omega) (by omega)
    · refine w_istore (l' := #[.val (.int x0), .val (.int x1), .val (.int x2), .val (.int x3), .val (.ref (n0 + 0)), .val (.int (Int32.ofNat fr)), .val (.int (Int32.ofNat (q + 1))), .unset, .unset, .unset]) X22 hx (hb hby at_70) rfl (pc' := 72) rfl ?_
      exact J72 T22 _ N21 X22 kA (A.set q (nar .byte (sp3 (x1 >>> ((8 : Int32) &&& 31))))) ((q + 1)) hkA (own_sl hA) P22 (own_i1 hI (own_ot _) hA (by omega)) (by omega) (by omega)
  have J39 : ∀ (T23 : State) (L22 : List Loc), Fr n0 L22 → Stand p l e room_1 s m #[Value.int x0, Value.int x1, Value.int x2, Value.int x3] below meth c T23 L22 (0 + 1) (0 + 16) → ∀ (kA : ClassId) (A : List Int32) (q : Nat), IsA Z kA .byte → A.length = 16 → HP n0 T23.heap [AC kA (List.map Value.int A)] → own_inv A fr q → fr ≤ q → q ≤ fr + 0 → Wp p e s below room_1.cells room_1.slots (LawQ n0) T23 (mkF m 39 #[.val (.int x0), .val (.int x1), .val (.int x2), .val (.int x3), .val (.ref (n0 + 0)), .val (.int (Int32.ofNat fr)), .val (.int (Int32.ofNat q)), .unset, .unset, .unset] []) := by
    intro T23 L22 N22 X23 kA A q hkA hA P23 hI hfq hq
    refine w_aload X23 hx (hb hby at_39) rfl rfl (pc' := 41) rfl ?_
    refine w_iload X23 hx (hb hby at_41) rfl (pc' := 43) rfl ?_
    refine w_iloadN X23 hx (hb hby at_43) rfl (pc' := 44) rfl ?_
    refine w_iconst (v := (2 : Int32)) X23 hx (hb hby at_44) rfl (pc' := 45) rfl ?_
    refine w_ishr X23 hx (hb hby at_45) (pc' := 46) rfl ?_
    refine w_iconst (v := (3 : Int32)) X23 hx (hb hby at_46) rfl (pc' := 47) rfl ?_
    refine w_iand X23 hx (hb hby at_47) (pc' := 48) rfl ?_
    refine w_iloadN X23 hx (hb hby at_48) rfl (pc' := 49) rfl ?_
    refine own_call (W := 0) X23 hx hZ rfl hown hml.symm (wd1 hw) (wd2 hw) (wd3 hw) (wd4 hw) (rm_tok l Z a0 hw [] n0 kA A q ((x0 >>> ((2 : Int32) &&& 31)) &&& (3 : Int32)) x1 _ P23 hkA hA (by omega)) (by decide) (by decide) (by decide) (by decide) (by decide) (argsL := [.ref (n0 + 0), .int (Int32.ofNat q), .int ((x0 >>> ((2 : Int32) &&& 31)) &&& (3 : Int32)), .int x1]) (rest := []) pd1 rfl rfl rfl (Nat.le_of_eq rfl) (hb hby at_49) (pc' := 52) rfl ?_
    intro v24 T24 L23 X24 hq
    obtain ⟨N23, hq⟩ := hq
    replace N23 := Fr.app N22 N23
    rcases hq with ⟨rfl, P24⟩ | ⟨rfl, P24⟩ | ⟨rfl, P24⟩
    · refine w_istore (l' := #[.val (.int x0), .val (.int x1), .val (.int x2), .val (.int x3), .val (.ref (n0 + 0)), .val (.int (Int32.ofNat fr)), .val (.int (Int32.ofNat q)), .unset, .unset, .unset]) X24 hx (hb hby at_52) rfl (pc' := 54) rfl ?_
      exact J54 T24 _ N23 X24 kA A (q) hkA hA P24 hI (by omega) (by omega)
    · refine w_istore (l' := #[.val (.int x0), .val (.int x1), .val (.int x2), .val (.int x3), .val (.ref (n0 + 0)), .val (.int (Int32.ofNat fr)), .val (.int (Int32.ofNat (q + 2))), .unset, .unset, .unset]) X24 hx (hb hby at_52) rfl (pc' := 54) rfl ?_
      exact J54 T24 _ N23 X24 kA ((A.set q 36).set (q + 1) 36) ((q + 2)) hkA (own_sl (own_sl hA)) P24 (own_i2 hI hA (by omega)) (by omega) (by omega)
    · refine w_istore (l' := #[.val (.int x0), .val (.int x1), .val (.int x2), .val (.int x3), .val (.ref (n0 + 0)), .val (.int (Int32.ofNat fr)), .val (.int (Int32.ofNat (q + 1))), .unset, .unset, .unset]) X24 hx (hb hby at_52) rfl (pc' := 54) rfl ?_
      exact J54 T24 _ N23 X24 kA (A.set q (nar .byte (sp3 x1))) ((q + 1)) hkA (own_sl hA) P24 (own_i1 hI (own_ot _) hA (by omega)) (by omega) (by omega)
  refine w_bipush (v := (16 : Int32)) X0 hx (hb hby at_0) rfl (pc' := 2) rfl ?_
  refine w_newarr (N := 16) (j := 0) X0 hx hZ P0 (ty := .byte) rfl (wd0 hw) (hb hby at_2) (by decide) (by decide) (by decide) (by decide) rfl (pc' := 4) rfl ?_
  intro T25 kA1 X25 hkA1 P25
  replace P25 : HP n0 T25.heap [AC kA1 [.int (0 : Int32), .int (0 : Int32), .int (0 : Int32), .int (0 : Int32), .int (0 : Int32), .int (0 : Int32), .int (0 : Int32), .int (0 : Int32), .int (0 : Int32), .int (0 : Int32), .int (0 : Int32), .int (0 : Int32), .int (0 : Int32), .int (0 : Int32), .int (0 : Int32), .int (0 : Int32)]] := P25
  refine w_astore (l' := #[.val (.int x0), .val (.int x1), .val (.int x2), .val (.int x3), .val (.ref (n0 + 0)), .unset, .unset, .unset, .unset, .unset]) X25 hx (hb hby at_4) rfl rfl (pc' := 6) rfl ?_
  refine w_aload X25 hx (hb hby at_6) rfl rfl (pc' := 8) rfl ?_
  refine w_iconst (v := (0 : Int32)) X25 hx (hb hby at_8) rfl (pc' := 9) rfl ?_
  refine w_iloadN X25 hx (hb hby at_9) rfl (pc' := 10) rfl ?_
  refine w_i2b X25 hx (hb hby at_10) (pc' := 11) rfl ?_
  obtain ⟨b0, eb0⟩ : ∃ z : Int32, z = nar .byte (Int8.toInt32 (Int32.toInt8 x2)) := ⟨_, rfl⟩
  refine w_bastoreE (i := 0) (jn := 0) X25 hx hZ N0 P25 rfl hkA1 (hb hby at_11) eb0.symm (by decide) (Nat.le_of_ble_eq_true rfl) (pc' := 12) rfl ?_
  intro T26 L24 N24 X26 P26
  replace P26 : HP n0 T26.heap [AC kA1 [.int b0, .int (0 : Int32), .int (0 : Int32), .int (0 : Int32), .int (0 : Int32), .int (0 : Int32), .int (0 : Int32), .int (0 : Int32), .int (0 : Int32), .int (0 : Int32), .int (0 : Int32), .int (0 : Int32), .int (0 : Int32), .int (0 : Int32), .int (0 : Int32), .int (0 : Int32)]] := P26
  refine w_aload X26 hx (hb hby at_12) rfl rfl (pc' := 14) rfl ?_
  refine w_iconst (v := (1 : Int32)) X26 hx (hb hby at_14) rfl (pc' := 15) rfl ?_
  refine w_iloadN X26 hx (hb hby at_15) rfl (pc' := 16) rfl ?_
  refine w_bipush (v := (8 : Int32)) X26 hx (hb hby at_16) rfl (pc' := 18) rfl ?_
  refine w_ishr X26 hx (hb hby at_18) (pc' := 19) rfl ?_
  refine w_i2b X26 hx (hb hby at_19) (pc' := 20) rfl ?_
  obtain ⟨b1, eb1⟩ : ∃ z : Int32, z = nar .byte (Int8.toInt32 (Int32.toInt8 (x2 >>> ((8 : Int32) &&& 31)))) := ⟨_, rfl⟩
  refine w_bastoreE (i := 0) (jn := 1) X26 hx hZ N24 P26 rfl hkA1 (hb hby at_20) eb1.symm (by decide) (Nat.le_of_ble_eq_true rfl) (pc' := 21) rfl ?_
  intro T27 L25 N25 X27 P27
  replace P27 : HP n0 T27.heap [AC kA1 [.int b0, .int b1, .int (0 : Int32), .int (0 : Int32), .int (0 : Int32), .int (0 : Int32), .int (0 : Int32), .int (0 : Int32), .int (0 : Int32), .int (0 : Int32), .int (0 : Int32), .int (0 : Int32), .int (0 : Int32), .int (0 : Int32), .int (0 : Int32), .int (0 : Int32)]] := P27
  refine w_aload X27 hx (hb hby at_21) rfl rfl (pc' := 23) rfl ?_
  refine w_iconst (v := (2 : Int32)) X27 hx (hb hby at_23) rfl (pc' := 24) rfl ?_
  refine w_iloadN X27 hx (hb hby at_24) rfl (pc' := 25) rfl ?_
  refine w_bipush (v := (16 : Int32)) X27 hx (hb hby at_25) rfl (pc' := 27) rfl ?_
  refine w_ishr X27 hx (hb hby at_27) (pc' := 28) rfl ?_
  refine w_i2b X27 hx (hb hby at_28) (pc' := 29) rfl ?_
  obtain ⟨b2, eb2⟩ : ∃ z : Int32, z = nar .byte (Int8.toInt32 (Int32.toInt8 (x2 >>> ((16 : Int32) &&& 31)))) := ⟨_, rfl⟩
  refine w_bastoreE (i := 0) (jn := 2) X27 hx hZ N25 P27 rfl hkA1 (hb hby at_29) eb2.symm (by decide) (Nat.le_of_ble_eq_true rfl) (pc' := 30) rfl ?_
  intro T28 L26 N26 X28 P28
  replace P28 : HP n0 T28.heap [AC kA1 [.int b0, .int b1, .int b2, .int (0 : Int32), .int (0 : Int32), .int (0 : Int32), .int (0 : Int32), .int (0 : Int32), .int (0 : Int32), .int (0 : Int32), .int (0 : Int32), .int (0 : Int32), .int (0 : Int32), .int (0 : Int32), .int (0 : Int32), .int (0 : Int32)]] := P28
  refine w_iloadN X28 hx (hb hby at_30) rfl (pc' := 31) rfl ?_
  refine w_iconst (v := (3 : Int32)) X28 hx (hb hby at_31) rfl (pc' := 32) rfl ?_
  refine w_iand X28 hx (hb hby at_32) (pc' := 33) rfl ?_
  refine w_eqI (z := (Int32.ofNat fr)) efr ?_
  refine w_istore (l' := #[.val (.int x0), .val (.int x1), .val (.int x2), .val (.int x3), .val (.ref (n0 + 0)), .val (.int (Int32.ofNat fr)), .unset, .unset, .unset, .unset]) X28 hx (hb hby at_33) rfl (pc' := 35) rfl ?_
  refine w_iload X28 hx (hb hby at_35) rfl (pc' := 37) rfl ?_
  refine w_istore (l' := #[.val (.int x0), .val (.int x1), .val (.int x2), .val (.int x3), .val (.ref (n0 + 0)), .val (.int (Int32.ofNat fr)), .val (.int (Int32.ofNat fr)), .unset, .unset, .unset]) X28 hx (hb hby at_37) rfl (pc' := 39) rfl ?_
  exact J39 T28 L26 N26 X28 kA1 [b0, b1, b2, (0 : Int32), (0 : Int32), (0 : Int32), (0 : Int32), (0 : Int32), (0 : Int32), (0 : Int32), (0 : Int32), (0 : Int32), (0 : Int32), (0 : Int32), (0 : Int32), (0 : Int32)] fr hkA1 rfl P28 (own_i0 _ _) (by omega) (by omega)
set_option maxRecDepth 65536 in
set_option maxHeartbeats 40000000 in
theorem comes_1 {Post : Tables → Env → Array Value → State → Outcome → State → Prop} (hpost : ∀ tb e args s v u, (limb_1_1.after args s (.returned v) u = true ∧ limb_1_2.after args s (.returned v) u = true ∧ True) → FrameEnd s (.returned v) u (Jvm.fieldLocs frame_1_writes args s ++ Jvm.arrayLocs frame_1_arrays args s ++ Jvm.staticLocs frame_1_statics s) 16 128 → Post tb e args s (.returned v) u) :
    ArmFor flags0 classFile x code maxLocals ret World_1 tables_1 room_1 Calls_1 rest_1 Pre_1 Post := by
  intro l hfl _ _ p e ha hc hk s m args below hf hA hF happ hP
  obtain ⟨hcalls, hrest, hpre⟩ := hP
  obtain ⟨-, -, -, hnamed, -, -, -, hat⟩ := (Spec.applies_iff hf).mp happ
  obtain ⟨hg, hn⟩ := and_e (Cond.before_iff.mp (show (Jvm.Cond.and given_1 narrow_1).before args s = true from hpre))
  obtain ⟨g0, k0⟩ := and_e hg
  obtain ⟨q0, k1⟩ := and_e k0
  obtain ⟨q1, k2⟩ := and_e k1
  obtain ⟨q2, k3⟩ := and_e k2
  have q3 := k3
  obtain ⟨w0, w1, w2, w3, rfl⟩ : ∃ w0 w1 w2 w3 : Value, args = #[w0, w1, w2, w3] := by
    have hs : args.size = 4 := by simpa [Cond.value, given_1] using g0
    obtain ⟨L⟩ := args
    match L, hs with
    | [w0, w1, w2, w3], _ => exact ⟨w0, w1, w2, w3, rfl⟩
  have hw := fun d (hd : d ∈ tables_1) => atoms_spec (ws := Jvm.Cond.code x code maxLocals ret :: tables_1) hat d (List.mem_cons_of_mem _ hd)
  obtain ⟨i0, ei0⟩ := is_v q0
  obtain rfl : w0 = (.int i0) := Option.some.inj ei0
  obtain ⟨i1, ei1⟩ := is_v q1
  obtain rfl : w1 = (.int i1) := Option.some.inj ei1
  obtain ⟨i2, ei2⟩ := is_v q2
  obtain rfl : w2 = (.int i2) := Option.some.inj ei2
  obtain ⟨i3, ei3⟩ := is_v q3
  obtain rfl : w3 = (.int i3) := Option.some.inj ei3
  obtain ⟨n, o, h1, h2, h3, _, L, rfl, ⟨rfl, N⟩, hq⟩ := rm0 l s _ hw tables_1 i0 i1 i2 i3 s.heap s.heap.size rfl p e ha hc hk s m _ below hf ((Spec.applies_iff_loose hf).mp happ).1 ⟨rfl, State.Warmed39.refl s, rfl⟩ trivial
  refine ⟨n, _, h1, h2, h3, hpost _ _ _ _ _ _ ⟨Cond.after_iff.mpr rfl, Cond.after_iff.mpr (eq_i res_at (Term.int_eval (1)) rfl), trivial⟩ ⟨hq.1, hq.2.1, (hq.2.2.sift fun y hy => Or.inr (N y hy)).mono (by decide) (by decide)⟩⟩
theorem main_1_1 : Claimed_1_1 := comes_1 fun _ _ _ _ _ _ h hF => ⟨h.1, hF⟩
theorem main_1_2 : Claimed_1_2 := comes_1 fun _ _ _ _ _ _ h hF => ⟨h.2.1, hF⟩
end Jvm.Pilot.@@N@@
namespace Jvm.Pilot.@@N@@
open Jvm Jvm.ClassFile Sem Op Lib Jvm.Free Jvm.Stand Jvm.Pilot.@@N@@.Jvm.D
/-! MADE BY PROGRAM (witnessworld.py) out of the Statement's table words and the real class files: 10 classes; the members and pool entries that the words name. The judged class is class 1, her method 3. -/
namespace start1
open Jvm.ClassFile
def u (s : String) : CpInfo := .utf8 (stringToUtf16 s)
/-- a pool by its gaps: so many unusable entries, then the entry; so many at the end -/
def gap : Nat → List CpInfo → List CpInfo
  | 0, r => r
  | n + 1, r => .unusable :: gap n r
def poolList (es : List (Nat × CpInfo)) (last : Nat) : List CpInfo := es.foldr (fun e r => gap e.1 (e.2 :: r)) (gap last [])
def pool (es : List (Nat × CpInfo)) (last : Nat) : Array CpInfo := ⟨poolList es last⟩
def fileOf (pool : Array CpInfo) (this : Nat) (attrs : Array Attribute := #[]) (ms : Array MethodInfo := #[]) (fl : Nat := 33) (sup : Nat := 0) (ifs : Array Nat := #[]) (fds : Array FieldInfo := #[]) : ClassFile where
  minorVersion := 0
  majorVersion := 65
  constantPool := pool
  accessFlags := fl
  thisClass := this
  superClass := sup
  interfaces := ifs
  fields := fds
  methods := ms
  attributes := attrs
def plain (name : String) (sup : Option ClassId) : Class where
  name := name
  kind := .ordinary
  loader := none
  accessFlags := 33
  super := sup
  interfaces := #[]
  cf := none
  fields := #[]
  methods := #[]
  instanceTypes := #[]
  staticTypes := #[]
  resolved := #[]
  callSites := []
  init := .initialized
  statics := none
  mirror := none

def pool0 : Array CpInfo := pool [(5, u "<init>"), (0, u "()V"), (1, .class_ 10), (1, u "java/lang/Object")] 113

def k0m0 : Method := { name := "<init>", desc := "()V", sig := { parameters := [], returnType := none }, accessFlags := 1, code := none }
/-- java/lang/Object -/
def k0 : Class := { plain "java/lang/Object" none with
  accessFlags := 33
  interfaces := #[]
  cf := some (fileOf pool0 8 #[] #[{ accessFlags := 1, nameIndex := 5, descriptorIndex := 6, attributes := #[] }] 33 0 #[] #[])
  fields := #[]
  methods := #[k0m0]
  instanceTypes := #[]
  staticTypes := #[]
  resolved := Array.replicate 124 none
  statics := none }

def pool1 : Array CpInfo := pool [(2, .class_ 4), (1, u "java/lang/Object"), (0, u "<init>"), (0, u "()V"), (0, .methodref 8 9), (0, .class_ 10), (0, .nameAndType 11 12), (0, u "com/example/normfeld/normfeld/io/FieldPerLineReaderValueEndPinLaw"), (0, u "other"), (0, u "(I)B"), (0, .methodref 8 14), (0, .nameAndType 15 16), (0, u "token"), (0, u "([BIII)I"), (0, .methodref 18 19), (0, .class_ 20), (0, .nameAndType 21 22), (0, u "com/example/normfeld/normfeld/io/FieldPerLineReader"), (0, u "valueEnd"), (0, u "([BII)I"), (3, u "law"), (0, u "(IIII)Z")] 4

def k1m0 : Method := { name := "<init>", desc := "()V", sig := { parameters := [], returnType := none }, accessFlags := 2, code := none }
def k1c1 : Code := { maxStack := 2, maxLocals := 2, code := method_2_code, exceptionTable := #[], attributes := #[] }
def k1m1 : Method := { name := "other", desc := "(I)B", sig := { parameters := [.int], returnType := some .byte }, accessFlags := 10, code := some k1c1 }
def k1c2 : Code := { maxStack := 3, maxLocals := 4, code := method_3_code, exceptionTable := #[], attributes := #[] }
def k1m2 : Method := { name := "token", desc := "([BIII)I", sig := { parameters := [(.array .byte), .int, .int, .int], returnType := some .int }, accessFlags := 10, code := some k1c2 }
def k1c3 : Code := { maxStack := 5, maxLocals := 10, code := code, exceptionTable := #[], attributes := #[] }
def k1m3 : Method := { name := "law", desc := "(IIII)Z", sig := { parameters := [.int, .int, .int, .int], returnType := some .boolean }, accessFlags := 9, code := some k1c3 }
/-- com/example/normfeld/normfeld/io/FieldPerLineReaderValueEndPinLaw -/
def k1 : Class := { plain "com/example/normfeld/normfeld/io/FieldPerLineReaderValueEndPinLaw" (some 0) with
  accessFlags := 49
  interfaces := #[]
  cf := some (fileOf pool1 8 #[] #[{ accessFlags := 2, nameIndex := 5, descriptorIndex := 6, attributes := #[] }, { accessFlags := 10, nameIndex := 11, descriptorIndex := 12, attributes := #[] }, { accessFlags := 10, nameIndex := 15, descriptorIndex := 16, attributes := #[] }, { accessFlags := 9, nameIndex := 26, descriptorIndex := 27, attributes := #[] }] 49 2 #[] #[])
  fields := #[]
  methods := #[k1m0, k1m1, k1m2, k1m3]
  instanceTypes := #[]
  staticTypes := #[]
  resolved := Array.replicate 32 none
  statics := none }

def pool2 : Array CpInfo := pool [(1, .class_ 2), (0, u "com/example/normfeld/normfeld/io/RecordReader"), (0, .class_ 4), (0, u "java/lang/Object"), (0, u "MAX_RECORD_BYTES"), (0, u "I"), (2, u "MAX_SUBFIELDS")] 10

/-- com/example/normfeld/normfeld/io/RecordReader -/
def k2 : Class := { plain "com/example/normfeld/normfeld/io/RecordReader" (some 0) with
  accessFlags := 1537
  interfaces := #[]
  cf := some (fileOf pool2 1 #[] #[] 1537 3 #[] #[{ accessFlags := 25, nameIndex := 5, descriptorIndex := 6, attributes := #[] }, { accessFlags := 25, nameIndex := 9, descriptorIndex := 6, attributes := #[] }])
  fields := #[{ name := "MAX_RECORD_BYTES", type := .int, accessFlags := 25, slot := 0, constantValue := 0 }, { name := "MAX_SUBFIELDS", type := .int, accessFlags := 25, slot := 1, constantValue := 0 }]
  methods := #[]
  instanceTypes := #[]
  staticTypes := #[.int, .int]
  resolved := Array.replicate 20 none
  statics := none }

def pool3 : Array CpInfo := pool [(2, .class_ 4), (1, u "java/lang/Object"), (4, .class_ 10), (0, u "com/example/normfeld/normfeld/io/RecordReader"), (5, .class_ 18), (1, u "com/example/normfeld/normfeld/io/FieldPerLineReader"), (0, u "lines"), (0, u "Lcom/example/normfeld/normfeld/io/LineReader;"), (93, u "valueEnd"), (0, u "([BII)I")] 58

def k3c0 : Code := { maxStack := 3, maxLocals := 4, code := prog_78_method_6_code, exceptionTable := #[], attributes := #[] }
def k3m0 : Method := { name := "valueEnd", desc := "([BII)I", sig := { parameters := [(.array .byte), .int, .int], returnType := some .int }, accessFlags := 8, code := some k3c0 }
/-- com/example/normfeld/normfeld/io/FieldPerLineReader -/
def k3 : Class := { plain "com/example/normfeld/normfeld/io/FieldPerLineReader" (some 0) with
  accessFlags := 1056
  interfaces := #[2]
  cf := some (fileOf pool3 16 #[] #[{ accessFlags := 8, nameIndex := 114, descriptorIndex := 115, attributes := #[] }] 1056 2 #[9] #[{ accessFlags := 18, nameIndex := 19, descriptorIndex := 20, attributes := #[] }])
  fields := #[{ name := "lines", type := (.object "com/example/normfeld/normfeld/io/LineReader"), accessFlags := 18, slot := 0, constantValue := 0 }]
  methods := #[k3m0]
  instanceTypes := #[(.object "com/example/normfeld/normfeld/io/LineReader")]
  staticTypes := #[]
  resolved := Array.replicate 174 none
  statics := none }

def pool4 : Array CpInfo := pool [(1, u "java/lang/Cloneable"), (0, .class_ 1), (0, u "java/lang/Object"), (0, .class_ 3)] 3

/-- java/lang/Cloneable -/
def k4 : Class := { plain "java/lang/Cloneable" (some 0) with
  accessFlags := 1537
  interfaces := #[]
  cf := some (fileOf pool4 2 #[] #[] 1537 4 #[] #[])
  fields := #[]
  methods := #[]
  instanceTypes := #[]
  staticTypes := #[]
  resolved := Array.replicate 8 none
  statics := none }

def pool5 : Array CpInfo := pool [(1, u "java/io/Serializable"), (0, .class_ 1), (0, u "java/lang/Object"), (0, .class_ 3)] 3

/-- java/io/Serializable -/
def k5 : Class := { plain "java/io/Serializable" (some 0) with
  accessFlags := 1537
  interfaces := #[]
  cf := some (fileOf pool5 2 #[] #[] 1537 4 #[] #[])
  fields := #[]
  methods := #[]
  instanceTypes := #[]
  staticTypes := #[]
  resolved := Array.replicate 8 none
  statics := none }

/-- the primitive byte -/
def k6 : Class := { plain "byte" none with kind := .primitive 'B', accessFlags := 0x411 }
/-- [B -/
def k7 : Class := { plain "[B" (some 0) with kind := .array 6 .byte, interfaces := #[4, 5], accessFlags := 1041 }

/-- the primitive int -/
def k8 : Class := { plain "int" none with kind := .primitive 'I', accessFlags := 0x411 }
/-- [I -/
def k9 : Class := { plain "[I" (some 0) with kind := .array 8 .int, interfaces := #[4, 5], accessFlags := 1041 }

def heap : Heap := #[]
def classes : Array Class := #[k0, k1, k2, k3, k4, k5, k6, k7, k8, k9]
def interned : List (Array UInt16 × Addr) := []
def slotsUsed : Nat := 0
def theMethod : MethodId := ⟨1, 3⟩
def args0 : Array Value := #[.int 5, .int 7, .int 3, .int 2]
def aboutOver (below : List Frame) : State where
  vm := { classes := classes, interned := interned.toArray }
  heap := heap
  slotsUsed := slotsUsed
  threads := #[{ frames := .invoking theMethod args0 :: below }]
def below0 : List Frame := [.native { method := ⟨0, 0⟩, args := #[] }]
def about1 : State := aboutOver below0
def p0 : Program := .bare "" "" ""
def e0 : Env := launch0.env 0 0 0
theorem w_frames : about1.frames = Frame.invoking theMethod args0 :: below0 := rfl
set_option maxRecDepth 65536 in
theorem w_args : argsFit about1.vm theMethod args0 = true := by decide +kernel
set_option maxRecDepth 65536 in
theorem w_heap : heapFits about1 = true := by decide +kernel
set_option maxRecDepth 65536 in
theorem w_runnable : about1.curStatus? = some .runnable := by decide +kernel
set_option maxRecDepth 65536 in
theorem w_alone : about1.alone = true := by decide +kernel
set_option maxRecDepth 65536 in
theorem w_named : about1.methodNamed? x = some theMethod := by decide +kernel
set_option maxRecDepth 65536 in
theorem w_hears : about1.hears theMethod below0 = true := by decide +kernel
set_option maxRecDepth 65536 in
theorem w_ripe : about1.ripe theMethod args0 below0 = true := by decide +kernel
theorem w_running : about1.status = .running := rfl
set_option maxRecDepth 65536 in
theorem w_room : about1.hasRoom e0.platform room_1 = true :=
  launch0.hasRoom_least _ room_1 (by decide +kernel) (by decide +kernel) (by decide +kernel) (by decide +kernel) (by decide +kernel) (by decide +kernel)
theorem allAtoms_all (ts : List Jvm.Cond) (a : Array Jvm.Value) (st : Jvm.State) : (allAtoms ts).before a st = ts.all (fun c => c.before a st) := by
  induction ts with
  | nil => rfl
  | cons c t ih =>
    show (Jvm.Cond.and c (allAtoms t)).before a st = _
    rw [Jvm.Cond.before_and, ih, List.all_cons]
def words1 : List Jvm.Cond := Jvm.Cond.code x code maxLocals ret :: tables_1
/-- a 'code' word, met by the world's own term for the bytes: nothing is compared byte by byte -/
theorem code_word {y : MethodName} {bytes : ByteArray} {mx : Nat} {rt : Option FieldType} {a : Array Value} {s : State} {m : MethodId} {meth : Method} {c : Code} (h1 : s.methodNamed? y = some m) (h2 : s.vm.method? m = some meth) (h3 : meth.code = some c) (h4 : c.code = bytes)
    (h5 : (c.maxLocals == mx && c.exceptionTable.isEmpty && decide (c.maxStack ≤ mostOperands) && decide (meth.sig.returnType = rt) && !meth.locks && decide (parseMethodDescriptor y.desc = some meth.sig)) = true) : (Jvm.Cond.code y bytes mx rt).before a s = true := by
  simp only [Bool.and_eq_true, beq_iff_eq, Bool.not_eq_true', decide_eq_true_eq] at h5
  obtain ⟨⟨⟨⟨⟨g1, g2⟩, g3⟩, g4⟩, g5⟩, g6⟩ := h5
  simp [Cond.before, Cond.holds, Cond.value, h1, h2, h3, h4, g1, g2, g3, g4, g5, g6]
def isCode : Jvm.Cond → Bool
  | .code _ _ _ _ => true
  | _ => false
theorem all_split {L : List Jvm.Cond} {P : Jvm.Cond → Bool} (h1 : L.all (fun c => isCode c || P c) = true) (h2 : ∀ c ∈ L.filter isCode, P c = true) : L.all P = true := by
  refine List.all_eq_true.mpr fun c hc => ?_
  have h := List.all_eq_true.mp h1 c hc
  rcases Bool.eq_false_or_eq_true (isCode c) with hi | hi
  · exact h2 c (List.mem_filter.mpr ⟨hc, hi⟩)
  · simpa [hi] using h
set_option maxRecDepth 65536 in
theorem w_c0 : (Jvm.Cond.code x code maxLocals ret).before args0 about1 = true := code_word (m := ⟨1, 3⟩) (meth := k1m3) (c := k1c3) (by decide +kernel) rfl rfl rfl (by decide +kernel)
set_option maxRecDepth 65536 in
theorem w_c1 : (Jvm.Cond.code ({ cls := "com/example/normfeld/normfeld/io/FieldPerLineReaderValueEndPinLaw", name := "token", desc := "([BIII)I" } : Jvm.MethodName) method_3_code (4 : Nat) (Option.some Jvm.ClassFile.FieldType.int)).before args0 about1 = true := code_word (m := ⟨1, 2⟩) (meth := k1m2) (c := k1c2) (by decide +kernel) rfl rfl rfl (by decide +kernel)
set_option maxRecDepth 65536 in
theorem w_c2 : (Jvm.Cond.code ({ cls := "com/example/normfeld/normfeld/io/FieldPerLineReader", name := "valueEnd", desc := "([BII)I" } : Jvm.MethodName) prog_78_method_6_code (4 : Nat) (Option.some Jvm.ClassFile.FieldType.int)).before args0 about1 = true := code_word (m := ⟨3, 0⟩) (meth := k3m0) (c := k3c0) (by decide +kernel) rfl rfl rfl (by decide +kernel)
set_option maxRecDepth 65536 in
theorem w_c3 : (Jvm.Cond.code ({ cls := "com/example/normfeld/normfeld/io/FieldPerLineReaderValueEndPinLaw", name := "other", desc := "(I)B" } : Jvm.MethodName) method_2_code (2 : Nat) (Option.some Jvm.ClassFile.FieldType.byte)).before args0 about1 = true := code_word (m := ⟨1, 1⟩) (meth := k1m1) (c := k1c1) (by decide +kernel) rfl rfl rfl (by decide +kernel)
def codes1 : List Jvm.Cond := [Jvm.Cond.code x code maxLocals ret, Jvm.Cond.code ({ cls := "com/example/normfeld/normfeld/io/FieldPerLineReaderValueEndPinLaw", name := "token", desc := "([BIII)I" } : Jvm.MethodName) method_3_code (4 : Nat) (Option.some Jvm.ClassFile.FieldType.int), Jvm.Cond.code ({ cls := "com/example/normfeld/normfeld/io/FieldPerLineReader", name := "valueEnd", desc := "([BII)I" } : Jvm.MethodName) prog_78_method_6_code (4 : Nat) (Option.some Jvm.ClassFile.FieldType.int), Jvm.Cond.code ({ cls := "com/example/normfeld/normfeld/io/FieldPerLineReaderValueEndPinLaw", name := "other", desc := "(I)B" } : Jvm.MethodName) method_2_code (2 : Nat) (Option.some Jvm.ClassFile.FieldType.byte)]
set_option maxRecDepth 65536 in
theorem codes_eq : words1.filter isCode = codes1 := rfl
theorem w_codes : ∀ c ∈ words1.filter isCode, c.before args0 about1 = true := by
  rw [codes_eq]
  intro c hc
  simp only [codes1, List.mem_cons, List.not_mem_nil, or_false] at hc
  rcases hc with rfl | rfl | rfl | rfl
  · exact w_c0
  · exact w_c1
  · exact w_c2
  · exact w_c3
set_option maxRecDepth 65536 in
theorem w_t1 : words1.all (fun c => isCode c || c.before args0 about1) = true := by decide +kernel
theorem w_tables : (allAtoms (Jvm.Cond.code x code maxLocals ret :: tables_1)).before args0 about1 = true := by
  rw [allAtoms_all]
  show words1.all (fun c => c.before args0 about1) = true
  refine all_split ?_ w_codes
  rw [w_t1]
set_option maxRecDepth 65536 in
theorem w_case : (Jvm.Cond.and given_1 narrow_1).before args0 about1 = true := by decide +kernel
theorem w_applies : (headSpec (Jvm.Cond.code x code maxLocals ret :: tables_1) room_1).applies x e0.platform about1 = true :=
  (Spec.applies_iff w_frames).mpr ⟨w_running, w_runnable, w_alone, w_named, w_hears, w_ripe, w_room, w_tables⟩
theorem atStart : AtStart classFile x code maxLocals ret World_1 tables_1 room_1 Calls_1 rest_1 Pre_1 launch0 p0 e0 about1 theMethod args0 below0 :=
  ⟨lists_1, trivial, launch0.admits_env _ _ _, launch0.least_env, fairChoices_fair.cas, fairChoices_fair.clock, w_frames, w_args, w_heap, w_applies, trivial, trivial, w_case⟩
end start1
theorem witness_1 : WitnessClaimed_1 := ⟨start1.p0, start1.e0, start1.about1, start1.theMethod, start1.args0, start1.below0, start1.atStart⟩
end Jvm.Pilot.@@N@@
