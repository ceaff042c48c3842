import JvmDerived
import JvmDerived.Pilot.@@N@@Statement
import JvmDerived.Pilot.@@N@@Code
set_option linter.unusedVariables false
set_option linter.unusedSimpArgs false
namespace Jvm.RoadKit
open Sem ClassFile Op Lib Jvm.Stand Jvm.Free Jvm.LawKit
section New
variable {p : Program} {l : Launch} {e : Env} {R : Room} {s : State} {m : MethodId} {args : Array Value} {below : List Frame} {meth : Method} {c : Code} {T : State} {locs : List Loc} {cells slots : Nat}
theorem retI (X : Stand p l e R s m args below meth c T locs cells slots) (hx : p.tables.exec = Jvm.exec) {pc : Nat} {Ls : Array Slot} {z : Int32} {rest : List Value} (hret : meth.sig.returnType = some .int) (hd : decode c.code pc = .ok (.ireturn, 1)) {fs : List Frame}
    (hl : ∀ (f : JFrame) (acts : List Action), f.method = m → f.locked = none → f.entered = [] → (doReturn e (T.setTop f) acts (some (.int z))).1 = T.setFrames fs) : Steps p.tables e below (T.setTop (mkF m pc Ls (.int z :: rest))) (T.setFrames fs) := by
  have hm' : T.vm.method? m = some meth := X.method'
  have hn : narrow .int (.int z) = .int z := rfl
  show Steps p.tables e below (T.setTop { method := m, pc := pc, locals := Ls, stack := _ :: rest, locked := none }) _
  jvm_step X.here [X.here.top, hx, hd, hm', hret, hn]
  first | (intro acts; rw [hl _ acts rfl rfl rfl]) | rw [hl _ _ rfl rfl rfl]
  exact Steps.refl _
end New
end Jvm.RoadKit
namespace Jvm.Pilot.@@N@@
open Jvm Jvm.ClassFile Sem Op Lib Jvm.Free Jvm.Stand Jvm.LawKit Jvm.RoadKit Bundle Jvm.Pilot.@@N@@.Jvm.D
def Wp (p : Program) (e : Env) (s : State) (below : List Frame) (C S : Nat) (Q : Option Value → Heap → List Loc → Prop) (T : State) (g : JFrame) : Prop :=
  ∃ s₂ o, Steps p.tables e below (T.setTop g) s₂ ∧ s₂.status = .running ∧ Ended s₂ below o ∧ ∃ v L, o = .returned v ∧ Q v s₂.heap L ∧ FrameEnd s o s₂ L C S
section OwnW
variable {p : Program} {l : Launch} {e : Env} {R : Room} {s : State} {m : MethodId} {args : Array Value} {below : List Frame} {meth : Method} {c : Code} {T : State} {locs : List Loc} {cells slots : Nat} {C S : Nat} {Q : Option Value → Heap → List Loc → Prop} {pc pc' : Nat} {Ls : Array Slot} {st : List Value}
theorem Wp.via {T' : State} {g g' : JFrame} (st : ∀ t, Steps p.tables e below (T'.setTop g') t → Steps p.tables e below (T.setTop g) t) (k : Wp p e s below C S Q T' g') : Wp p e s below C S Q T g := by
  obtain ⟨s₂, o, h1, h2⟩ := k
  exact ⟨s₂, o, st _ h1, h2⟩
theorem w_iload (X : Stand p l e R s m args below meth c T locs cells slots) (hx : p.tables.exec = Jvm.exec) {k : Nat} {v : Int32} (hd : decode c.code pc = .ok (.iload k, 2)) (hl : Ls[k]? = some (.val (.int v))) (hp : pc + 2 = pc') (k : Wp p e s below C S Q T (mkF m pc' Ls (Value.int v :: st))) : Wp p e s below C S Q T (mkF m pc Ls (st)) := by
  subst hp
  exact Wp.via (fun _ h => XS.iload X.here hx rfl hd hl h) k
theorem w_iloadN (X : Stand p l e R s m args below meth c T locs cells slots) (hx : p.tables.exec = Jvm.exec) {k : Fin 4} {v : Int32} (hd : decode c.code pc = .ok (.iload_n k, 1)) (hl : Ls[k.val]? = some (.val (.int v))) (hp : pc + 1 = pc') (k : Wp p e s below C S Q T (mkF m pc' Ls (Value.int v :: st))) : Wp p e s below C S Q T (mkF m pc Ls (st)) := by
  subst hp
  exact Wp.via (fun _ h => XS.iloadN X.here hx rfl hd hl h) k
theorem w_lload (X : Stand p l e R s m args below meth c T locs cells slots) (hx : p.tables.exec = Jvm.exec) {k : Nat} {v : Int64} (hd : decode c.code pc = .ok (.lload k, 2)) (hl : Ls[k]? = some (.val (.long v))) (hp : pc + 2 = pc') (k : Wp p e s below C S Q T (mkF m pc' Ls (Value.long v :: st))) : Wp p e s below C S Q T (mkF m pc Ls (st)) := by
  subst hp
  exact Wp.via (fun _ h => XT.lload X.here hx rfl hd hl h) k
theorem w_lloadN (X : Stand p l e R s m args below meth c T locs cells slots) (hx : p.tables.exec = Jvm.exec) {k : Fin 4} {v : Int64} (hd : decode c.code pc = .ok (.lload_n k, 1)) (hl : Ls[k.val]? = some (.val (.long v))) (hp : pc + 1 = pc') (k : Wp p e s below C S Q T (mkF m pc' Ls (Value.long v :: st))) : Wp p e s below C S Q T (mkF m pc Ls (st)) := by
  subst hp
  exact Wp.via (fun _ h => XT.lloadN X.here hx rfl hd hl h) k
theorem w_aload (X : Stand p l e R s m args below meth c T locs cells slots) (hx : p.tables.exec = Jvm.exec) {k : Nat} {v : Value} (hd : decode c.code pc = .ok (.aload k, 2)) (hl : Ls[k]? = some (.val v)) (hv : v.isRef = true) (hp : pc + 2 = pc') (k : Wp p e s below C S Q T (mkF m pc' Ls (v :: st))) : Wp p e s below C S Q T (mkF m pc Ls (st)) := by
  subst hp
  exact Wp.via (fun _ h => XS.aload X.here hx rfl hd hl hv h) k
theorem w_aloadN (X : Stand p l e R s m args below meth c T locs cells slots) (hx : p.tables.exec = Jvm.exec) {k : Fin 4} {v : Value} (hd : decode c.code pc = .ok (.aload_n k, 1)) (hl : Ls[k.val]? = some (.val v)) (hv : v.isRef = true) (hp : pc + 1 = pc') (k : Wp p e s below C S Q T (mkF m pc' Ls (v :: st))) : Wp p e s below C S Q T (mkF m pc Ls (st)) := by
  subst hp
  exact Wp.via (fun _ h => XS.aloadN X.here hx rfl hd hl hv h) k
theorem w_istore (X : Stand p l e R s m args below meth c T locs cells slots) (hx : p.tables.exec = Jvm.exec) {k : Nat} {v : Int32} {l' : Array Slot} (hd : decode c.code pc = .ok (.istore k, 2)) (hl : storeLocals Ls k (Value.int v) = some l') (hp : pc + 2 = pc') (k : Wp p e s below C S Q T (mkF m pc' l' (st))) : Wp p e s below C S Q T (mkF m pc Ls (Value.int v :: st)) := by
  subst hp
  exact Wp.via (fun _ h => XS.istore X.here hx rfl hd rfl hl h) k
theorem w_istoreN (X : Stand p l e R s m args below meth c T locs cells slots) (hx : p.tables.exec = Jvm.exec) {k : Fin 4} {v : Int32} {l' : Array Slot} (hd : decode c.code pc = .ok (.istore_n k, 1)) (hl : storeLocals Ls k.val (Value.int v) = some l') (hp : pc + 1 = pc') (k : Wp p e s below C S Q T (mkF m pc' l' (st))) : Wp p e s below C S Q T (mkF m pc Ls (Value.int v :: st)) := by
  subst hp
  exact Wp.via (fun _ h => XS.istoreN X.here hx rfl hd rfl hl h) k
theorem w_lstore (X : Stand p l e R s m args below meth c T locs cells slots) (hx : p.tables.exec = Jvm.exec) {k : Nat} {v : Int64} {l' : Array Slot} (hd : decode c.code pc = .ok (.lstore k, 2)) (hl : storeLocals Ls k (Value.long v) = some l') (hp : pc + 2 = pc') (k : Wp p e s below C S Q T (mkF m pc' l' (st))) : Wp p e s below C S Q T (mkF m pc Ls (Value.long v :: st)) := by
  subst hp
  exact Wp.via (fun _ h => XT.lstore X.here hx rfl hd rfl hl h) k
theorem w_lstoreN (X : Stand p l e R s m args below meth c T locs cells slots) (hx : p.tables.exec = Jvm.exec) {k : Fin 4} {v : Int64} {l' : Array Slot} (hd : decode c.code pc = .ok (.lstore_n k, 1)) (hl : storeLocals Ls k.val (Value.long v) = some l') (hp : pc + 1 = pc') (k : Wp p e s below C S Q T (mkF m pc' l' (st))) : Wp p e s below C S Q T (mkF m pc Ls (Value.long v :: st)) := by
  subst hp
  exact Wp.via (fun _ h => XT.lstoreN X.here hx rfl hd rfl hl h) k
theorem w_astore (X : Stand p l e R s m args below meth c T locs cells slots) (hx : p.tables.exec = Jvm.exec) {k : Nat} {v : Value} {l' : Array Slot} (hd : decode c.code pc = .ok (.astore k, 2)) (hv : v.isRef = true) (hl : storeLocals Ls k v = some l') (hp : pc + 2 = pc') (k : Wp p e s below C S Q T (mkF m pc' l' (st))) : Wp p e s below C S Q T (mkF m pc Ls (v :: st)) := by
  subst hp
  exact Wp.via (fun _ h => XS.astore X.here hx rfl hd rfl hv hl h) k
theorem w_astoreN (X : Stand p l e R s m args below meth c T locs cells slots) (hx : p.tables.exec = Jvm.exec) {k : Fin 4} {v : Value} {l' : Array Slot} (hd : decode c.code pc = .ok (.astore_n k, 1)) (hv : v.isRef = true) (hl : storeLocals Ls k.val v = some l') (hp : pc + 1 = pc') (k : Wp p e s below C S Q T (mkF m pc' l' (st))) : Wp p e s below C S Q T (mkF m pc Ls (v :: st)) := by
  subst hp
  exact Wp.via (fun _ h => XS.astoreN X.here hx rfl hd rfl hv hl h) k
theorem w_iconst (X : Stand p l e R s m args below meth c T locs cells slots) (hx : p.tables.exec = Jvm.exec) {i : Int} {v : Int32} (hd : decode c.code pc = .ok (.iconst i, 1)) (hv : Int32.ofInt i = v) (hp : pc + 1 = pc') (k : Wp p e s below C S Q T (mkF m pc' Ls (Value.int v :: st))) : Wp p e s below C S Q T (mkF m pc Ls (st)) := by
  subst hp hv
  exact Wp.via (fun _ h => XS.iconst X.here hx rfl hd h) k
theorem w_bipush (X : Stand p l e R s m args below meth c T locs cells slots) (hx : p.tables.exec = Jvm.exec) {i : Int} {v : Int32} (hd : decode c.code pc = .ok (.bipush i, 2)) (hv : (Int8.ofInt i).toInt32 = v) (hp : pc + 2 = pc') (k : Wp p e s below C S Q T (mkF m pc' Ls (Value.int v :: st))) : Wp p e s below C S Q T (mkF m pc Ls (st)) := by
  subst hp hv
  exact Wp.via (fun _ h => XS.bipush X.here hx rfl hd h) k
theorem w_sipush (X : Stand p l e R s m args below meth c T locs cells slots) (hx : p.tables.exec = Jvm.exec) {i : Int} {v : Int32} (hd : decode c.code pc = .ok (.sipush i, 3)) (hv : (Int16.ofInt i).toInt32 = v) (hp : pc + 3 = pc') (k : Wp p e s below C S Q T (mkF m pc' Ls (Value.int v :: st))) : Wp p e s below C S Q T (mkF m pc Ls (st)) := by
  subst hp hv
  exact Wp.via (fun _ h => XS.sipush X.here hx rfl hd h) k
theorem w_lconst (X : Stand p l e R s m args below meth c T locs cells slots) (hx : p.tables.exec = Jvm.exec) {k : Fin 2} {v : Int64} (hd : decode c.code pc = .ok (.lconst k, 1)) (hv : Int64.ofNat k = v) (hp : pc + 1 = pc') (k : Wp p e s below C S Q T (mkF m pc' Ls (Value.long v :: st))) : Wp p e s below C S Q T (mkF m pc Ls (st)) := by
  subst hp hv
  exact Wp.via (fun _ h => XT.lconst X.here hx rfl hd h) k
theorem w_aconst (X : Stand p l e R s m args below meth c T locs cells slots) (hx : p.tables.exec = Jvm.exec)  (hd : decode c.code pc = .ok (.aconst_null, 1))  (hp : pc + 1 = pc') (k : Wp p e s below C S Q T (mkF m pc' Ls (Value.null :: st))) : Wp p e s below C S Q T (mkF m pc Ls (st)) := by
  subst hp
  exact Wp.via (fun _ h => XS.aconstNull X.here hx rfl hd h) k
theorem w_ldc (X : Stand p l e R s m args below meth c T locs cells slots) (hx : p.tables.exec = Jvm.exec) {i : Nat} {v : Int32} {own : String} (hd : decode c.code pc = .ok (.ldc i, 2)) (hown : s.vm.findClass own = some m.cls) (hc : (Jvm.Cond.constant own i v).before args s = true) (hp : pc + 2 = pc') (k : Wp p e s below C S Q T (mkF m pc' Ls (Value.int v :: st))) : Wp p e s below C S Q T (mkF m pc Ls (st)) := by
  subst hp
  exact Wp.via (fun _ h => X.ldcInt hx hown hc (g := mkF m pc Ls st) rfl hd _ h) k
theorem w_ldc2 (X : Stand p l e R s m args below meth c T locs cells slots) (hx : p.tables.exec = Jvm.exec) {i : Nat} {v : Int64} {own : String} (hd : decode c.code pc = .ok (.ldc2_w i, 3)) (hown : s.vm.findClass own = some m.cls) (hc : (Jvm.Cond.constantLong own i v).before args s = true) (hp : pc + 3 = pc') (k : Wp p e s below C S Q T (mkF m pc' Ls (Value.long v :: st))) : Wp p e s below C S Q T (mkF m pc Ls (st)) := by
  subst hp
  exact Wp.via (fun _ h => X.ldc2Long hx hown hc (g := mkF m pc Ls st) rfl hd _ h) k
theorem w_iadd (X : Stand p l e R s m args below meth c T locs cells slots) (hx : p.tables.exec = Jvm.exec) {x y : Int32} (hd : decode c.code pc = .ok (.iadd, 1))  (hp : pc + 1 = pc') (k : Wp p e s below C S Q T (mkF m pc' Ls (Value.int (x + y) :: st))) : Wp p e s below C S Q T (mkF m pc Ls (Value.int y :: Value.int x :: st)) := by
  subst hp
  exact Wp.via (fun _ h => XS.iadd X.here hx rfl hd rfl h) k
theorem w_isub (X : Stand p l e R s m args below meth c T locs cells slots) (hx : p.tables.exec = Jvm.exec) {x y : Int32} (hd : decode c.code pc = .ok (.isub, 1))  (hp : pc + 1 = pc') (k : Wp p e s below C S Q T (mkF m pc' Ls (Value.int (x - y) :: st))) : Wp p e s below C S Q T (mkF m pc Ls (Value.int y :: Value.int x :: st)) := by
  subst hp
  exact Wp.via (fun _ h => XS.isub X.here hx rfl hd rfl h) k
theorem w_iand (X : Stand p l e R s m args below meth c T locs cells slots) (hx : p.tables.exec = Jvm.exec) {x y : Int32} (hd : decode c.code pc = .ok (.iand, 1))  (hp : pc + 1 = pc') (k : Wp p e s below C S Q T (mkF m pc' Ls (Value.int (x &&& y) :: st))) : Wp p e s below C S Q T (mkF m pc Ls (Value.int y :: Value.int x :: st)) := by
  subst hp
  exact Wp.via (fun _ h => XS.iand X.here hx rfl hd rfl h) k
theorem w_imul (X : Stand p l e R s m args below meth c T locs cells slots) (hx : p.tables.exec = Jvm.exec) {x y : Int32} (hd : decode c.code pc = .ok (.imul, 1))  (hp : pc + 1 = pc') (k : Wp p e s below C S Q T (mkF m pc' Ls (Value.int (x * y) :: st))) : Wp p e s below C S Q T (mkF m pc Ls (Value.int y :: Value.int x :: st)) := by
  subst hp
  exact Wp.via (fun _ h => XS.imul X.here hx rfl hd rfl h) k
theorem w_ixor (X : Stand p l e R s m args below meth c T locs cells slots) (hx : p.tables.exec = Jvm.exec) {x y : Int32} (hd : decode c.code pc = .ok (.ixor, 1))  (hp : pc + 1 = pc') (k : Wp p e s below C S Q T (mkF m pc' Ls (Value.int (x ^^^ y) :: st))) : Wp p e s below C S Q T (mkF m pc Ls (Value.int y :: Value.int x :: st)) := by
  subst hp
  exact Wp.via (fun _ h => XT.ixor X.here hx rfl hd rfl h) k
theorem w_ior (X : Stand p l e R s m args below meth c T locs cells slots) (hx : p.tables.exec = Jvm.exec) {x y : Int32} (hd : decode c.code pc = .ok (.ior, 1))  (hp : pc + 1 = pc') (k : Wp p e s below C S Q T (mkF m pc' Ls (Value.int (x ||| y) :: st))) : Wp p e s below C S Q T (mkF m pc Ls (Value.int y :: Value.int x :: st)) := by
  subst hp
  exact Wp.via (fun _ h => XT.ior X.here hx rfl hd rfl h) k
theorem w_ishl (X : Stand p l e R s m args below meth c T locs cells slots) (hx : p.tables.exec = Jvm.exec) {x y : Int32} (hd : decode c.code pc = .ok (.ishl, 1))  (hp : pc + 1 = pc') (k : Wp p e s below C S Q T (mkF m pc' Ls (Value.int (x <<< (y &&& 31)) :: st))) : Wp p e s below C S Q T (mkF m pc Ls (Value.int y :: Value.int x :: st)) := by
  subst hp
  exact Wp.via (fun _ h => XT.ishl X.here hx rfl hd rfl h) k
theorem w_ishr (X : Stand p l e R s m args below meth c T locs cells slots) (hx : p.tables.exec = Jvm.exec) {x y : Int32} (hd : decode c.code pc = .ok (.ishr, 1))  (hp : pc + 1 = pc') (k : Wp p e s below C S Q T (mkF m pc' Ls (Value.int (x >>> (y &&& 31)) :: st))) : Wp p e s below C S Q T (mkF m pc Ls (Value.int y :: Value.int x :: st)) := by
  subst hp
  exact Wp.via (fun _ h => XT.ishr X.here hx rfl hd rfl h) k
theorem w_iushr (X : Stand p l e R s m args below meth c T locs cells slots) (hx : p.tables.exec = Jvm.exec) {x y : Int32} (hd : decode c.code pc = .ok (.iushr, 1))  (hp : pc + 1 = pc') (k : Wp p e s below C S Q T (mkF m pc' Ls (Value.int (XT.ushr x y) :: st))) : Wp p e s below C S Q T (mkF m pc Ls (Value.int y :: Value.int x :: st)) := by
  subst hp
  exact Wp.via (fun _ h => XT.iushr X.here hx rfl hd rfl h) k
theorem w_idiv (X : Stand p l e R s m args below meth c T locs cells slots) (hx : p.tables.exec = Jvm.exec) {x y : Int32} (hd : decode c.code pc = .ok (.idiv, 1)) (hy : y ≠ 0) (hp : pc + 1 = pc') (k : Wp p e s below C S Q T (mkF m pc' Ls (Value.int (x / y) :: st))) : Wp p e s below C S Q T (mkF m pc Ls (Value.int y :: Value.int x :: st)) := by
  subst hp
  exact Wp.via (fun _ h => XS.idiv X.here hx rfl hd rfl hy h) k
theorem w_irem (X : Stand p l e R s m args below meth c T locs cells slots) (hx : p.tables.exec = Jvm.exec) {x y : Int32} (hd : decode c.code pc = .ok (.irem, 1)) (hy : y ≠ 0) (hp : pc + 1 = pc') (k : Wp p e s below C S Q T (mkF m pc' Ls (Value.int (x % y) :: st))) : Wp p e s below C S Q T (mkF m pc Ls (Value.int y :: Value.int x :: st)) := by
  subst hp
  exact Wp.via (fun _ h => iremM X hx rfl hd rfl hy h) k
theorem w_ladd (X : Stand p l e R s m args below meth c T locs cells slots) (hx : p.tables.exec = Jvm.exec) {x y : Int64} (hd : decode c.code pc = .ok (.ladd, 1))  (hp : pc + 1 = pc') (k : Wp p e s below C S Q T (mkF m pc' Ls (Value.long (x + y) :: st))) : Wp p e s below C S Q T (mkF m pc Ls (Value.long y :: Value.long x :: st)) := by
  subst hp
  exact Wp.via (fun _ h => XT.ladd X.here hx rfl hd rfl h) k
theorem w_lsub (X : Stand p l e R s m args below meth c T locs cells slots) (hx : p.tables.exec = Jvm.exec) {x y : Int64} (hd : decode c.code pc = .ok (.lsub, 1))  (hp : pc + 1 = pc') (k : Wp p e s below C S Q T (mkF m pc' Ls (Value.long (x - y) :: st))) : Wp p e s below C S Q T (mkF m pc Ls (Value.long y :: Value.long x :: st)) := by
  subst hp
  exact Wp.via (fun _ h => XT.lsub X.here hx rfl hd rfl h) k
theorem w_lmul (X : Stand p l e R s m args below meth c T locs cells slots) (hx : p.tables.exec = Jvm.exec) {x y : Int64} (hd : decode c.code pc = .ok (.lmul, 1))  (hp : pc + 1 = pc') (k : Wp p e s below C S Q T (mkF m pc' Ls (Value.long (x * y) :: st))) : Wp p e s below C S Q T (mkF m pc Ls (Value.long y :: Value.long x :: st)) := by
  subst hp
  exact Wp.via (fun _ h => XT.lmul X.here hx rfl hd rfl h) k
theorem w_land (X : Stand p l e R s m args below meth c T locs cells slots) (hx : p.tables.exec = Jvm.exec) {x y : Int64} (hd : decode c.code pc = .ok (.land, 1))  (hp : pc + 1 = pc') (k : Wp p e s below C S Q T (mkF m pc' Ls (Value.long (x &&& y) :: st))) : Wp p e s below C S Q T (mkF m pc Ls (Value.long y :: Value.long x :: st)) := by
  subst hp
  exact Wp.via (fun _ h => XT.land X.here hx rfl hd rfl h) k
theorem w_lor (X : Stand p l e R s m args below meth c T locs cells slots) (hx : p.tables.exec = Jvm.exec) {x y : Int64} (hd : decode c.code pc = .ok (.lor, 1))  (hp : pc + 1 = pc') (k : Wp p e s below C S Q T (mkF m pc' Ls (Value.long (x ||| y) :: st))) : Wp p e s below C S Q T (mkF m pc Ls (Value.long y :: Value.long x :: st)) := by
  subst hp
  exact Wp.via (fun _ h => XT.lor X.here hx rfl hd rfl h) k
theorem w_lxor (X : Stand p l e R s m args below meth c T locs cells slots) (hx : p.tables.exec = Jvm.exec) {x y : Int64} (hd : decode c.code pc = .ok (.lxor, 1))  (hp : pc + 1 = pc') (k : Wp p e s below C S Q T (mkF m pc' Ls (Value.long (x ^^^ y) :: st))) : Wp p e s below C S Q T (mkF m pc Ls (Value.long y :: Value.long x :: st)) := by
  subst hp
  exact Wp.via (fun _ h => XT.lxor X.here hx rfl hd rfl h) k
theorem w_ldiv (X : Stand p l e R s m args below meth c T locs cells slots) (hx : p.tables.exec = Jvm.exec) {x y : Int64} (hd : decode c.code pc = .ok (.ldiv, 1)) (hy : y ≠ 0) (hp : pc + 1 = pc') (k : Wp p e s below C S Q T (mkF m pc' Ls (Value.long (x / y) :: st))) : Wp p e s below C S Q T (mkF m pc Ls (Value.long y :: Value.long x :: st)) := by
  subst hp
  exact Wp.via (fun _ h => XT.ldiv X.here hx rfl hd rfl hy h) k
theorem w_lrem (X : Stand p l e R s m args below meth c T locs cells slots) (hx : p.tables.exec = Jvm.exec) {x y : Int64} (hd : decode c.code pc = .ok (.lrem, 1)) (hy : y ≠ 0) (hp : pc + 1 = pc') (k : Wp p e s below C S Q T (mkF m pc' Ls (Value.long (x % y) :: st))) : Wp p e s below C S Q T (mkF m pc Ls (Value.long y :: Value.long x :: st)) := by
  subst hp
  exact Wp.via (fun _ h => XT.lrem X.here hx rfl hd rfl hy (by rw [lrem_mod]; exact h)) k
theorem w_lshl (X : Stand p l e R s m args below meth c T locs cells slots) (hx : p.tables.exec = Jvm.exec) {x : Int64} {y : Int32} (hd : decode c.code pc = .ok (.lshl, 1))  (hp : pc + 1 = pc') (k : Wp p e s below C S Q T (mkF m pc' Ls (Value.long (x <<< (y.toInt64 &&& 63)) :: st))) : Wp p e s below C S Q T (mkF m pc Ls (Value.int y :: Value.long x :: st)) := by
  subst hp
  exact Wp.via (fun _ h => XT.lshl X.here hx rfl hd rfl h) k
theorem w_lshr (X : Stand p l e R s m args below meth c T locs cells slots) (hx : p.tables.exec = Jvm.exec) {x : Int64} {y : Int32} (hd : decode c.code pc = .ok (.lshr, 1))  (hp : pc + 1 = pc') (k : Wp p e s below C S Q T (mkF m pc' Ls (Value.long (x >>> (y.toInt64 &&& 63)) :: st))) : Wp p e s below C S Q T (mkF m pc Ls (Value.int y :: Value.long x :: st)) := by
  subst hp
  exact Wp.via (fun _ h => XT.lshr X.here hx rfl hd rfl h) k
theorem w_lushr (X : Stand p l e R s m args below meth c T locs cells slots) (hx : p.tables.exec = Jvm.exec) {x : Int64} {y : Int32} (hd : decode c.code pc = .ok (.lushr, 1))  (hp : pc + 1 = pc') (k : Wp p e s below C S Q T (mkF m pc' Ls (Value.long (XT.ushrL x y) :: st))) : Wp p e s below C S Q T (mkF m pc Ls (Value.int y :: Value.long x :: st)) := by
  subst hp
  exact Wp.via (fun _ h => XT.lushr X.here hx rfl hd rfl h) k
theorem w_lcmp (X : Stand p l e R s m args below meth c T locs cells slots) (hx : p.tables.exec = Jvm.exec) {x y : Int64} (hd : decode c.code pc = .ok (.lcmp, 1))  (hp : pc + 1 = pc') (k : Wp p e s below C S Q T (mkF m pc' Ls (Value.int (XT.cmpL x y) :: st))) : Wp p e s below C S Q T (mkF m pc Ls (Value.long y :: Value.long x :: st)) := by
  subst hp
  exact Wp.via (fun _ h => XT.lcmp X.here hx rfl hd rfl h) k
theorem w_ineg (X : Stand p l e R s m args below meth c T locs cells slots) (hx : p.tables.exec = Jvm.exec) {x : Int32} (hd : decode c.code pc = .ok (.ineg, 1))  (hp : pc + 1 = pc') (k : Wp p e s below C S Q T (mkF m pc' Ls (Value.int (-x) :: st))) : Wp p e s below C S Q T (mkF m pc Ls (Value.int x :: st)) := by
  subst hp
  exact Wp.via (fun _ h => XS.ineg X.here hx rfl hd rfl h) k
theorem w_lneg (X : Stand p l e R s m args below meth c T locs cells slots) (hx : p.tables.exec = Jvm.exec) {x : Int64} (hd : decode c.code pc = .ok (.lneg, 1))  (hp : pc + 1 = pc') (k : Wp p e s below C S Q T (mkF m pc' Ls (Value.long (-x) :: st))) : Wp p e s below C S Q T (mkF m pc Ls (Value.long x :: st)) := by
  subst hp
  exact Wp.via (fun _ h => XT.lneg X.here hx rfl hd rfl h) k
theorem w_i2l (X : Stand p l e R s m args below meth c T locs cells slots) (hx : p.tables.exec = Jvm.exec) {x : Int32} (hd : decode c.code pc = .ok (.i2l, 1))  (hp : pc + 1 = pc') (k : Wp p e s below C S Q T (mkF m pc' Ls (Value.long x.toInt64 :: st))) : Wp p e s below C S Q T (mkF m pc Ls (Value.int x :: st)) := by
  subst hp
  exact Wp.via (fun _ h => XT.i2l X.here hx rfl hd rfl h) k
theorem w_l2i (X : Stand p l e R s m args below meth c T locs cells slots) (hx : p.tables.exec = Jvm.exec) {x : Int64} (hd : decode c.code pc = .ok (.l2i, 1))  (hp : pc + 1 = pc') (k : Wp p e s below C S Q T (mkF m pc' Ls (Value.int x.toInt32 :: st))) : Wp p e s below C S Q T (mkF m pc Ls (Value.long x :: st)) := by
  subst hp
  exact Wp.via (fun _ h => XT.l2i X.here hx rfl hd rfl h) k
theorem w_i2b (X : Stand p l e R s m args below meth c T locs cells slots) (hx : p.tables.exec = Jvm.exec) {x : Int32} (hd : decode c.code pc = .ok (.i2b, 1))  (hp : pc + 1 = pc') (k : Wp p e s below C S Q T (mkF m pc' Ls (Value.int x.toInt8.toInt32 :: st))) : Wp p e s below C S Q T (mkF m pc Ls (Value.int x :: st)) := by
  subst hp
  exact Wp.via (fun _ h => XT.i2b X.here hx rfl hd rfl h) k
theorem w_i2c (X : Stand p l e R s m args below meth c T locs cells slots) (hx : p.tables.exec = Jvm.exec) {x : Int32} (hd : decode c.code pc = .ok (.i2c, 1))  (hp : pc + 1 = pc') (k : Wp p e s below C S Q T (mkF m pc' Ls (Value.int x.toUInt32.toUInt16.toUInt32.toInt32 :: st))) : Wp p e s below C S Q T (mkF m pc Ls (Value.int x :: st)) := by
  subst hp
  exact Wp.via (fun _ h => XT.i2c X.here hx rfl hd rfl h) k
theorem w_iinc (X : Stand p l e R s m args below meth c T locs cells slots) (hx : p.tables.exec = Jvm.exec) {k : Nat} {cst : Int} {v : Int32} {l' : Array Slot} (hd : decode c.code pc = .ok (.iinc k cst, 3)) (hl : Ls[k]? = some (.val (.int v))) (hl' : storeLocals Ls k (.int (v + Int32.ofInt cst)) = some l') (hp : pc + 3 = pc') (k : Wp p e s below C S Q T (mkF m pc' l' (st))) : Wp p e s below C S Q T (mkF m pc Ls (st)) := by
  subst hp
  exact Wp.via (fun _ h => XS.iinc X.here hx rfl hd hl hl' h) k
theorem w_dup (X : Stand p l e R s m args below meth c T locs cells slots) (hx : p.tables.exec = Jvm.exec) {x : Value} (hd : decode c.code pc = .ok (.dup, 1)) (hc : x.category = 1) (hp : pc + 1 = pc') (k : Wp p e s below C S Q T (mkF m pc' Ls (x :: x :: st))) : Wp p e s below C S Q T (mkF m pc Ls (x :: st)) := by
  subst hp
  exact Wp.via (fun _ h => XS.dup X.here hx rfl hd rfl hc h) k
theorem w_dup2 (X : Stand p l e R s m args below meth c T locs cells slots) (hx : p.tables.exec = Jvm.exec) {x y : Value} (hd : decode c.code pc = .ok (.dup2, 1)) (hc : x.category = 1) (hc' : y.category = 1) (hp : pc + 1 = pc') (k : Wp p e s below C S Q T (mkF m pc' Ls (x :: y :: x :: y :: st))) : Wp p e s below C S Q T (mkF m pc Ls (x :: y :: st)) := by
  subst hp
  exact Wp.via (fun _ h => XT.dup2 X.here hx rfl hd rfl hc hc' h) k
theorem w_dup2L (X : Stand p l e R s m args below meth c T locs cells slots) (hx : p.tables.exec = Jvm.exec) {x : Int64} (hd : decode c.code pc = .ok (.dup2, 1))  (hp : pc + 1 = pc') (k : Wp p e s below C S Q T (mkF m pc' Ls (Value.long x :: Value.long x :: st))) : Wp p e s below C S Q T (mkF m pc Ls (Value.long x :: st)) := by
  subst hp
  exact Wp.via (fun _ h => XT.dup2L X.here hx rfl hd rfl h) k
theorem w_dupX1 (X : Stand p l e R s m args below meth c T locs cells slots) (hx : p.tables.exec = Jvm.exec) {x y : Value} (hd : decode c.code pc = .ok (.dup_x1, 1)) (hc : x.category = 1) (hc' : y.category = 1) (hp : pc + 1 = pc') (k : Wp p e s below C S Q T (mkF m pc' Ls (x :: y :: x :: st))) : Wp p e s below C S Q T (mkF m pc Ls (x :: y :: st)) := by
  subst hp
  exact Wp.via (fun _ h => XT.dupX1 X.here hx rfl hd rfl hc hc' h) k
theorem w_pop (X : Stand p l e R s m args below meth c T locs cells slots) (hx : p.tables.exec = Jvm.exec) {x : Value} (hd : decode c.code pc = .ok (.pop, 1)) (hc : x.category = 1) (hp : pc + 1 = pc') (k : Wp p e s below C S Q T (mkF m pc' Ls (st))) : Wp p e s below C S Q T (mkF m pc Ls (x :: st)) := by
  subst hp
  exact Wp.via (fun _ h => XT.pop X.here hx rfl hd rfl hc h) k
theorem w_goto (X : Stand p l e R s m args below meth c T locs cells slots) (hx : p.tables.exec = Jvm.exec) {o : Int} (hd : decode c.code pc = .ok (.goto o, 3)) (ho : 0 ≤ (pc : Int) + o) (hp : ((pc : Int) + o).toNat = pc') (k : Wp p e s below C S Q T (mkF m pc' Ls st)) : Wp p e s below C S Q T (mkF m pc Ls st) :=
  Wp.via (fun _ h => XS.goto X.here hx rfl (pc0 := pc) (pc' := pc') rfl hd ho hp h) k
theorem w_icmp_eq (X : Stand p l e R s m args below meth c T locs cells slots) (hx : p.tables.exec = Jvm.exec) {o : Int} {pcY : Nat} {x y : Int32} (hd : decode c.code pc = .ok (.if_icmp .eq o, 3)) (ho : 0 ≤ (pc : Int) + o) (hy : ((pc : Int) + o).toNat = pcY) (hp : pc + 3 = pc') (kY : x = y → Wp p e s below C S Q T (mkF m pcY Ls st)) (kN : ¬ x = y → Wp p e s below C S Q T (mkF m pc' Ls st)) : Wp p e s below C S Q T (mkF m pc Ls (Value.int y :: Value.int x :: st)) := by
  by_cases q : x = y
  · exact Wp.via (fun _ h => XS.icmpYes X.here hx rfl (pc0 := pc) (pc' := pcY) rfl hd rfl (teq q).1 ho hy h) (kY q)
  · exact Wp.via (fun _ h => XS.icmpNo X.here hx rfl hd rfl (feq (by simpa using q)).1 h) (by subst hp; exact kN (by simpa using q))
theorem w_if_eq (X : Stand p l e R s m args below meth c T locs cells slots) (hx : p.tables.exec = Jvm.exec) {o : Int} {pcY : Nat} {x : Int32} (hd : decode c.code pc = .ok (.ifCond .eq o, 3)) (ho : 0 ≤ (pc : Int) + o) (hy : ((pc : Int) + o).toNat = pcY) (hp : pc + 3 = pc') (kY : x = 0 → Wp p e s below C S Q T (mkF m pcY Ls st)) (kN : ¬ x = 0 → Wp p e s below C S Q T (mkF m pc' Ls st)) : Wp p e s below C S Q T (mkF m pc Ls (Value.int x :: st)) := by
  by_cases q : x = 0
  · exact Wp.via (fun _ h => XS.ifYes X.here hx rfl (pc0 := pc) (pc' := pcY) rfl hd rfl ((if0 _ _).trans (teq q).1) ho hy h) (kY q)
  · exact Wp.via (fun _ h => XS.ifNo X.here hx rfl hd rfl ((if0 _ _).trans (feq (by simpa using q)).1) h) (by subst hp; exact kN (by simpa using q))
theorem w_icmp_ne (X : Stand p l e R s m args below meth c T locs cells slots) (hx : p.tables.exec = Jvm.exec) {o : Int} {pcY : Nat} {x y : Int32} (hd : decode c.code pc = .ok (.if_icmp .ne o, 3)) (ho : 0 ≤ (pc : Int) + o) (hy : ((pc : Int) + o).toNat = pcY) (hp : pc + 3 = pc') (kY : ¬ x = y → Wp p e s below C S Q T (mkF m pcY Ls st)) (kN : x = y → Wp p e s below C S Q T (mkF m pc' Ls st)) : Wp p e s below C S Q T (mkF m pc Ls (Value.int y :: Value.int x :: st)) := by
  by_cases q : ¬ x = y
  · exact Wp.via (fun _ h => XS.icmpYes X.here hx rfl (pc0 := pc) (pc' := pcY) rfl hd rfl (feq q).2 ho hy h) (kY q)
  · exact Wp.via (fun _ h => XS.icmpNo X.here hx rfl hd rfl (teq (by simpa using q)).2 h) (by subst hp; exact kN (by simpa using q))
theorem w_if_ne (X : Stand p l e R s m args below meth c T locs cells slots) (hx : p.tables.exec = Jvm.exec) {o : Int} {pcY : Nat} {x : Int32} (hd : decode c.code pc = .ok (.ifCond .ne o, 3)) (ho : 0 ≤ (pc : Int) + o) (hy : ((pc : Int) + o).toNat = pcY) (hp : pc + 3 = pc') (kY : ¬ x = 0 → Wp p e s below C S Q T (mkF m pcY Ls st)) (kN : x = 0 → Wp p e s below C S Q T (mkF m pc' Ls st)) : Wp p e s below C S Q T (mkF m pc Ls (Value.int x :: st)) := by
  by_cases q : ¬ x = 0
  · exact Wp.via (fun _ h => XS.ifYes X.here hx rfl (pc0 := pc) (pc' := pcY) rfl hd rfl ((if0 _ _).trans (feq q).2) ho hy h) (kY q)
  · exact Wp.via (fun _ h => XS.ifNo X.here hx rfl hd rfl ((if0 _ _).trans (teq (by simpa using q)).2) h) (by subst hp; exact kN (by simpa using q))
theorem w_icmp_lt (X : Stand p l e R s m args below meth c T locs cells slots) (hx : p.tables.exec = Jvm.exec) {o : Int} {pcY : Nat} {x y : Int32} (hd : decode c.code pc = .ok (.if_icmp .lt o, 3)) (ho : 0 ≤ (pc : Int) + o) (hy : ((pc : Int) + o).toNat = pcY) (hp : pc + 3 = pc') (kY : x < y → Wp p e s below C S Q T (mkF m pcY Ls st)) (kN : ¬ x < y → Wp p e s below C S Q T (mkF m pc' Ls st)) : Wp p e s below C S Q T (mkF m pc Ls (Value.int y :: Value.int x :: st)) := by
  by_cases q : x < y
  · exact Wp.via (fun _ h => XS.icmpYes X.here hx rfl (pc0 := pc) (pc' := pcY) rfl hd rfl (tlt q).1 ho hy h) (kY q)
  · exact Wp.via (fun _ h => XS.icmpNo X.here hx rfl hd rfl (flt (by simpa using q)).1 h) (by subst hp; exact kN (by simpa using q))
theorem w_if_lt (X : Stand p l e R s m args below meth c T locs cells slots) (hx : p.tables.exec = Jvm.exec) {o : Int} {pcY : Nat} {x : Int32} (hd : decode c.code pc = .ok (.ifCond .lt o, 3)) (ho : 0 ≤ (pc : Int) + o) (hy : ((pc : Int) + o).toNat = pcY) (hp : pc + 3 = pc') (kY : x < 0 → Wp p e s below C S Q T (mkF m pcY Ls st)) (kN : ¬ x < 0 → Wp p e s below C S Q T (mkF m pc' Ls st)) : Wp p e s below C S Q T (mkF m pc Ls (Value.int x :: st)) := by
  by_cases q : x < 0
  · exact Wp.via (fun _ h => XS.ifYes X.here hx rfl (pc0 := pc) (pc' := pcY) rfl hd rfl ((if0 _ _).trans (tlt q).1) ho hy h) (kY q)
  · exact Wp.via (fun _ h => XS.ifNo X.here hx rfl hd rfl ((if0 _ _).trans (flt (by simpa using q)).1) h) (by subst hp; exact kN (by simpa using q))
theorem w_icmp_ge (X : Stand p l e R s m args below meth c T locs cells slots) (hx : p.tables.exec = Jvm.exec) {o : Int} {pcY : Nat} {x y : Int32} (hd : decode c.code pc = .ok (.if_icmp .ge o, 3)) (ho : 0 ≤ (pc : Int) + o) (hy : ((pc : Int) + o).toNat = pcY) (hp : pc + 3 = pc') (kY : ¬ x < y → Wp p e s below C S Q T (mkF m pcY Ls st)) (kN : x < y → Wp p e s below C S Q T (mkF m pc' Ls st)) : Wp p e s below C S Q T (mkF m pc Ls (Value.int y :: Value.int x :: st)) := by
  by_cases q : ¬ x < y
  · exact Wp.via (fun _ h => XS.icmpYes X.here hx rfl (pc0 := pc) (pc' := pcY) rfl hd rfl (flt q).2.1 ho hy h) (kY q)
  · exact Wp.via (fun _ h => XS.icmpNo X.here hx rfl hd rfl (tlt (by simpa using q)).2.1 h) (by subst hp; exact kN (by simpa using q))
theorem w_if_ge (X : Stand p l e R s m args below meth c T locs cells slots) (hx : p.tables.exec = Jvm.exec) {o : Int} {pcY : Nat} {x : Int32} (hd : decode c.code pc = .ok (.ifCond .ge o, 3)) (ho : 0 ≤ (pc : Int) + o) (hy : ((pc : Int) + o).toNat = pcY) (hp : pc + 3 = pc') (kY : ¬ x < 0 → Wp p e s below C S Q T (mkF m pcY Ls st)) (kN : x < 0 → Wp p e s below C S Q T (mkF m pc' Ls st)) : Wp p e s below C S Q T (mkF m pc Ls (Value.int x :: st)) := by
  by_cases q : ¬ x < 0
  · exact Wp.via (fun _ h => XS.ifYes X.here hx rfl (pc0 := pc) (pc' := pcY) rfl hd rfl ((if0 _ _).trans (flt q).2.1) ho hy h) (kY q)
  · exact Wp.via (fun _ h => XS.ifNo X.here hx rfl hd rfl ((if0 _ _).trans (tlt (by simpa using q)).2.1) h) (by subst hp; exact kN (by simpa using q))
theorem w_icmp_gt (X : Stand p l e R s m args below meth c T locs cells slots) (hx : p.tables.exec = Jvm.exec) {o : Int} {pcY : Nat} {x y : Int32} (hd : decode c.code pc = .ok (.if_icmp .gt o, 3)) (ho : 0 ≤ (pc : Int) + o) (hy : ((pc : Int) + o).toNat = pcY) (hp : pc + 3 = pc') (kY : y < x → Wp p e s below C S Q T (mkF m pcY Ls st)) (kN : ¬ y < x → Wp p e s below C S Q T (mkF m pc' Ls st)) : Wp p e s below C S Q T (mkF m pc Ls (Value.int y :: Value.int x :: st)) := by
  by_cases q : y < x
  · exact Wp.via (fun _ h => XS.icmpYes X.here hx rfl (pc0 := pc) (pc' := pcY) rfl hd rfl (tlt q).2.2.1 ho hy h) (kY q)
  · exact Wp.via (fun _ h => XS.icmpNo X.here hx rfl hd rfl (flt (by simpa using q)).2.2.1 h) (by subst hp; exact kN (by simpa using q))
theorem w_if_gt (X : Stand p l e R s m args below meth c T locs cells slots) (hx : p.tables.exec = Jvm.exec) {o : Int} {pcY : Nat} {x : Int32} (hd : decode c.code pc = .ok (.ifCond .gt o, 3)) (ho : 0 ≤ (pc : Int) + o) (hy : ((pc : Int) + o).toNat = pcY) (hp : pc + 3 = pc') (kY : 0 < x → Wp p e s below C S Q T (mkF m pcY Ls st)) (kN : ¬ 0 < x → Wp p e s below C S Q T (mkF m pc' Ls st)) : Wp p e s below C S Q T (mkF m pc Ls (Value.int x :: st)) := by
  by_cases q : 0 < x
  · exact Wp.via (fun _ h => XS.ifYes X.here hx rfl (pc0 := pc) (pc' := pcY) rfl hd rfl ((if0 _ _).trans (tlt q).2.2.1) ho hy h) (kY q)
  · exact Wp.via (fun _ h => XS.ifNo X.here hx rfl hd rfl ((if0 _ _).trans (flt (by simpa using q)).2.2.1) h) (by subst hp; exact kN (by simpa using q))
theorem w_icmp_le (X : Stand p l e R s m args below meth c T locs cells slots) (hx : p.tables.exec = Jvm.exec) {o : Int} {pcY : Nat} {x y : Int32} (hd : decode c.code pc = .ok (.if_icmp .le o, 3)) (ho : 0 ≤ (pc : Int) + o) (hy : ((pc : Int) + o).toNat = pcY) (hp : pc + 3 = pc') (kY : ¬ y < x → Wp p e s below C S Q T (mkF m pcY Ls st)) (kN : y < x → Wp p e s below C S Q T (mkF m pc' Ls st)) : Wp p e s below C S Q T (mkF m pc Ls (Value.int y :: Value.int x :: st)) := by
  by_cases q : ¬ y < x
  · exact Wp.via (fun _ h => XS.icmpYes X.here hx rfl (pc0 := pc) (pc' := pcY) rfl hd rfl (flt q).2.2.2 ho hy h) (kY q)
  · exact Wp.via (fun _ h => XS.icmpNo X.here hx rfl hd rfl (tlt (by simpa using q)).2.2.2 h) (by subst hp; exact kN (by simpa using q))
theorem w_if_le (X : Stand p l e R s m args below meth c T locs cells slots) (hx : p.tables.exec = Jvm.exec) {o : Int} {pcY : Nat} {x : Int32} (hd : decode c.code pc = .ok (.ifCond .le o, 3)) (ho : 0 ≤ (pc : Int) + o) (hy : ((pc : Int) + o).toNat = pcY) (hp : pc + 3 = pc') (kY : ¬ 0 < x → Wp p e s below C S Q T (mkF m pcY Ls st)) (kN : 0 < x → Wp p e s below C S Q T (mkF m pc' Ls st)) : Wp p e s below C S Q T (mkF m pc Ls (Value.int x :: st)) := by
  by_cases q : ¬ 0 < x
  · exact Wp.via (fun _ h => XS.ifYes X.here hx rfl (pc0 := pc) (pc' := pcY) rfl hd rfl ((if0 _ _).trans (flt q).2.2.2) ho hy h) (kY q)
  · exact Wp.via (fun _ h => XS.ifNo X.here hx rfl hd rfl ((if0 _ _).trans (tlt (by simpa using q)).2.2.2) h) (by subst hp; exact kN (by simpa using q))
theorem own_cl_lt (x y : Int64) : XT.cmpL x y < 0 ↔ x < y := by
  unfold XT.cmpL
  by_cases h1 : y < x
  · rw [if_pos h1]
    refine ⟨fun h => absurd h (by decide), fun h => absurd (Int64.lt_trans h1 h) Int64.lt_irrefl⟩
  · rw [if_neg h1]
    by_cases h2 : x = y
    · rw [if_pos h2]
      refine ⟨fun h => absurd h (by decide), fun h => absurd (h2 ▸ h) Int64.lt_irrefl⟩
    · rw [if_neg h2]
      refine ⟨fun _ => ?_, fun _ => by decide⟩
      rw [Int64.lt_iff_toInt_lt] at *
      have : x.toInt ≠ y.toInt := fun q => h2 (Int64.toInt_inj.mp q)
      omega
theorem own_cl_gt (x y : Int64) : 0 < XT.cmpL x y ↔ y < x := by
  unfold XT.cmpL
  by_cases h1 : y < x
  · rw [if_pos h1]
    exact ⟨fun _ => h1, fun _ => by decide⟩
  · rw [if_neg h1]
    by_cases h2 : x = y
    · rw [if_pos h2]
      exact ⟨fun h => absurd h (by decide), fun h => absurd h h1⟩
    · rw [if_neg h2]
      exact ⟨fun h => absurd h (by decide), fun h => absurd h h1⟩
theorem own_cl_eq (x y : Int64) : XT.cmpL x y = 0 ↔ x = y := by
  unfold XT.cmpL
  by_cases h1 : y < x
  · rw [if_pos h1]
    exact ⟨fun h => absurd h (by decide), fun h => absurd (h ▸ h1) Int64.lt_irrefl⟩
  · rw [if_neg h1]
    by_cases h2 : x = y
    · rw [if_pos h2]
      exact ⟨fun _ => h2, fun _ => rfl⟩
    · rw [if_neg h2]
      exact ⟨fun h => absurd h (by decide), fun h => absurd h h2⟩
theorem w_lcmp_eq (X : Stand p l e R s m args below meth c T locs cells slots) (hx : p.tables.exec = Jvm.exec) {o : Int} {pcY pc1 : Nat} {x y : Int64} (hd : decode c.code pc = .ok (.lcmp, 1)) (hp1 : pc + 1 = pc1) (hd1 : decode c.code pc1 = .ok (.ifCond .eq o, 3)) (ho : 0 ≤ (pc1 : Int) + o) (hy : ((pc1 : Int) + o).toNat = pcY) (hp : pc1 + 3 = pc') (kY : x = y → Wp p e s below C S Q T (mkF m pcY Ls st)) (kN : ¬ x = y → Wp p e s below C S Q T (mkF m pc' Ls st)) : Wp p e s below C S Q T (mkF m pc Ls (Value.long y :: Value.long x :: st)) :=
  w_lcmp X hx hd hp1 (w_if_eq X hx hd1 ho hy hp (fun q => kY ((own_cl_eq x y).mp q)) (fun q => kN fun r => q ((own_cl_eq x y).mpr r)))
theorem w_lcmp_ne (X : Stand p l e R s m args below meth c T locs cells slots) (hx : p.tables.exec = Jvm.exec) {o : Int} {pcY pc1 : Nat} {x y : Int64} (hd : decode c.code pc = .ok (.lcmp, 1)) (hp1 : pc + 1 = pc1) (hd1 : decode c.code pc1 = .ok (.ifCond .ne o, 3)) (ho : 0 ≤ (pc1 : Int) + o) (hy : ((pc1 : Int) + o).toNat = pcY) (hp : pc1 + 3 = pc') (kY : ¬ x = y → Wp p e s below C S Q T (mkF m pcY Ls st)) (kN : x = y → Wp p e s below C S Q T (mkF m pc' Ls st)) : Wp p e s below C S Q T (mkF m pc Ls (Value.long y :: Value.long x :: st)) :=
  w_lcmp X hx hd hp1 (w_if_ne X hx hd1 ho hy hp (fun q => kY fun r => q ((own_cl_eq x y).mpr r)) (fun q => kN ((own_cl_eq x y).mp q)))
theorem w_lcmp_lt (X : Stand p l e R s m args below meth c T locs cells slots) (hx : p.tables.exec = Jvm.exec) {o : Int} {pcY pc1 : Nat} {x y : Int64} (hd : decode c.code pc = .ok (.lcmp, 1)) (hp1 : pc + 1 = pc1) (hd1 : decode c.code pc1 = .ok (.ifCond .lt o, 3)) (ho : 0 ≤ (pc1 : Int) + o) (hy : ((pc1 : Int) + o).toNat = pcY) (hp : pc1 + 3 = pc') (kY : x < y → Wp p e s below C S Q T (mkF m pcY Ls st)) (kN : ¬ x < y → Wp p e s below C S Q T (mkF m pc' Ls st)) : Wp p e s below C S Q T (mkF m pc Ls (Value.long y :: Value.long x :: st)) :=
  w_lcmp X hx hd hp1 (w_if_lt X hx hd1 ho hy hp (fun q => kY ((own_cl_lt x y).mp q)) (fun q => kN fun r => q ((own_cl_lt x y).mpr r)))
theorem w_lcmp_ge (X : Stand p l e R s m args below meth c T locs cells slots) (hx : p.tables.exec = Jvm.exec) {o : Int} {pcY pc1 : Nat} {x y : Int64} (hd : decode c.code pc = .ok (.lcmp, 1)) (hp1 : pc + 1 = pc1) (hd1 : decode c.code pc1 = .ok (.ifCond .ge o, 3)) (ho : 0 ≤ (pc1 : Int) + o) (hy : ((pc1 : Int) + o).toNat = pcY) (hp : pc1 + 3 = pc') (kY : ¬ x < y → Wp p e s below C S Q T (mkF m pcY Ls st)) (kN : x < y → Wp p e s below C S Q T (mkF m pc' Ls st)) : Wp p e s below C S Q T (mkF m pc Ls (Value.long y :: Value.long x :: st)) :=
  w_lcmp X hx hd hp1 (w_if_ge X hx hd1 ho hy hp (fun q => kY fun r => q ((own_cl_lt x y).mpr r)) (fun q => kN ((own_cl_lt x y).mp q)))
theorem w_lcmp_gt (X : Stand p l e R s m args below meth c T locs cells slots) (hx : p.tables.exec = Jvm.exec) {o : Int} {pcY pc1 : Nat} {x y : Int64} (hd : decode c.code pc = .ok (.lcmp, 1)) (hp1 : pc + 1 = pc1) (hd1 : decode c.code pc1 = .ok (.ifCond .gt o, 3)) (ho : 0 ≤ (pc1 : Int) + o) (hy : ((pc1 : Int) + o).toNat = pcY) (hp : pc1 + 3 = pc') (kY : y < x → Wp p e s below C S Q T (mkF m pcY Ls st)) (kN : ¬ y < x → Wp p e s below C S Q T (mkF m pc' Ls st)) : Wp p e s below C S Q T (mkF m pc Ls (Value.long y :: Value.long x :: st)) :=
  w_lcmp X hx hd hp1 (w_if_gt X hx hd1 ho hy hp (fun q => kY ((own_cl_gt x y).mp q)) (fun q => kN fun r => q ((own_cl_gt x y).mpr r)))
theorem w_lcmp_le (X : Stand p l e R s m args below meth c T locs cells slots) (hx : p.tables.exec = Jvm.exec) {o : Int} {pcY pc1 : Nat} {x y : Int64} (hd : decode c.code pc = .ok (.lcmp, 1)) (hp1 : pc + 1 = pc1) (hd1 : decode c.code pc1 = .ok (.ifCond .le o, 3)) (ho : 0 ≤ (pc1 : Int) + o) (hy : ((pc1 : Int) + o).toNat = pcY) (hp : pc1 + 3 = pc') (kY : ¬ y < x → Wp p e s below C S Q T (mkF m pcY Ls st)) (kN : y < x → Wp p e s below C S Q T (mkF m pc' Ls st)) : Wp p e s below C S Q T (mkF m pc Ls (Value.long y :: Value.long x :: st)) :=
  w_lcmp X hx hd hp1 (w_if_le X hx hd1 ho hy hp (fun q => kY fun r => q ((own_cl_gt x y).mpr r)) (fun q => kN ((own_cl_gt x y).mp q)))
theorem w_eqI {x z : Int32} (h : x = z) (k : Wp p e s below C S Q T (mkF m pc Ls (Value.int z :: st))) : Wp p e s below C S Q T (mkF m pc Ls (Value.int x :: st)) := h ▸ k
theorem w_genI {x : Int32} (k : ∀ z, z = x → Wp p e s below C S Q T (mkF m pc Ls (Value.int z :: st))) : Wp p e s below C S Q T (mkF m pc Ls (Value.int x :: st)) := k x rfl
theorem w_eqJ {x z : Int64} (h : x = z) (k : Wp p e s below C S Q T (mkF m pc Ls (Value.long z :: st))) : Wp p e s below C S Q T (mkF m pc Ls (Value.long x :: st)) := h ▸ k
theorem w_genJ {x : Int64} (k : ∀ z, z = x → Wp p e s below C S Q T (mkF m pc Ls (Value.long z :: st))) : Wp p e s below C S Q T (mkF m pc Ls (Value.long x :: st)) := k x rfl
theorem w_iincE (X : Stand p l e R s m args below meth c T locs cells slots) (hx : p.tables.exec = Jvm.exec) {k : Nat} {cst : Int} {v z : Int32} {l' : Array Slot} (hd : decode c.code pc = .ok (.iinc k cst, 3)) (hl : Ls[k]? = some (.val (.int v))) (hz : v + Int32.ofInt cst = z) (hl' : storeLocals Ls k (.int z) = some l') (hp : pc + 3 = pc') (k : Wp p e s below C S Q T (mkF m pc' l' (st))) : Wp p e s below C S Q T (mkF m pc Ls (st)) := by
  subst hp
  exact Wp.via (fun _ h => XS.iinc X.here hx rfl hd hl (hz ▸ hl') h) k
theorem w_ifnullY (X : Stand p l e R s m args below meth c T locs cells slots) (hx : p.tables.exec = Jvm.exec) {o : Int}  (hd : decode c.code pc = .ok (.ifnull o, 3)) (ho : 0 ≤ (pc : Int) + o) (hp : ((pc : Int) + o).toNat = pc') (k : Wp p e s below C S Q T (mkF m pc' Ls st)) : Wp p e s below C S Q T (mkF m pc Ls (Value.null :: st)) :=
  Wp.via (fun _ h => XS.ifnullYes X.here hx rfl (pc0 := pc) (pc' := pc') rfl hd rfl ho hp h) k
theorem w_ifnonnullY (X : Stand p l e R s m args below meth c T locs cells slots) (hx : p.tables.exec = Jvm.exec) {o : Int} {b : Addr} (hd : decode c.code pc = .ok (.ifnonnull o, 3)) (ho : 0 ≤ (pc : Int) + o) (hp : ((pc : Int) + o).toNat = pc') (k : Wp p e s below C S Q T (mkF m pc' Ls st)) : Wp p e s below C S Q T (mkF m pc Ls (Value.ref b :: st)) :=
  Wp.via (fun _ h => XT.ifnonnullYes X.here hx rfl (pc0 := pc) (pc' := pc') rfl hd rfl ho hp h) k
theorem w_ifnullN (X : Stand p l e R s m args below meth c T locs cells slots) (hx : p.tables.exec = Jvm.exec) {o : Int} {b : Addr} (hd : decode c.code pc = .ok (.ifnull o, 3))  (hp : pc + 3 = pc') (k : Wp p e s below C S Q T (mkF m pc' Ls (st))) : Wp p e s below C S Q T (mkF m pc Ls (Value.ref b :: st)) := by
  subst hp
  exact Wp.via (fun _ h => XS.ifnullNo X.here hx rfl hd rfl h) k
theorem w_ifnonnullN (X : Stand p l e R s m args below meth c T locs cells slots) (hx : p.tables.exec = Jvm.exec) {o : Int} (hd : decode c.code pc = .ok (.ifnonnull o, 3))  (hp : pc + 3 = pc') (k : Wp p e s below C S Q T (mkF m pc' Ls (st))) : Wp p e s below C S Q T (mkF m pc Ls (Value.null :: st)) := by
  subst hp
  exact Wp.via (fun _ h => XT.ifnonnullNo X.here hx rfl hd rfl h) k
theorem own_out {fs : List Frame} {v : Option Value} {g : JFrame} (hs : Steps p.tables e below (T.setTop g) (T.setFrames fs)) (h1 : (T.setFrames fs).status = .running) (h2 : Ended (T.setFrames fs) below (.returned v)) (h3 : s.WarmedH (T.setFrames fs).vm) (h4 : s.sameButNew ({ T.setFrames fs with vm := s.vm } : State) locs cells slots)
    (hc : cells ≤ C) (hl : slots ≤ S) (hq : Q v T.heap locs) : Wp p e s below C S Q T g :=
  ⟨_, _, hs, h1, h2, _, _, rfl, hq, ⟨_, rfl⟩, h3, h4.mono hc hl⟩
theorem w_ret_i (X : Stand p l e R s m args below meth c T locs cells slots) (hx : p.tables.exec = Jvm.exec) {z : Int32} (hret : meth.sig.returnType = some .int) (hlk : meth.locks = false) (hd : decode c.code pc = .ok (.ireturn, 1)) (hc : cells ≤ C) (hl : slots ≤ S) (hq : Q (some (.int z)) T.heap locs) : Wp p e s below C S Q T (mkF m pc Ls (Value.int z :: st)) := by
  obtain ⟨fs, hr, h1, h2, h3, h4⟩ := X.leave (v := some (.int z)) (fun h => by rw [hret] at h; cases h) hlk
  exact own_out (retI X hx hret hd hr) h1 h2 h3 h4 hc hl hq
theorem w_ret_n (X : Stand p l e R s m args below meth c T locs cells slots) (hx : p.tables.exec = Jvm.exec) {z z' : Int32} {t : FieldType} (hret : meth.sig.returnType = some t) (hlk : meth.locks = false) (ht : t = .boolean ∨ t = .byte ∨ t = .char ∨ t = .short) (hd : decode c.code pc = .ok (.ireturn, 1)) (hz : nar t z = z') (hc : cells ≤ C) (hl : slots ≤ S) (hq : Q (some (.int z')) T.heap locs) : Wp p e s below C S Q T (mkF m pc Ls (Value.int z :: st)) := by
  subst hz
  obtain ⟨fs, hr, h1, h2, h3, h4⟩ := X.leave (v := some (.int (nar t z))) (fun h => by rw [hret] at h; cases h) hlk
  exact own_out (retN X hx hret ht hd hr) h1 h2 h3 h4 hc hl hq
theorem w_ret_l (X : Stand p l e R s m args below meth c T locs cells slots) (hx : p.tables.exec = Jvm.exec) {z : Int64} (hret : meth.sig.returnType = some .long) (hlk : meth.locks = false) (hd : decode c.code pc = .ok (.lreturn, 1)) (hc : cells ≤ C) (hl : slots ≤ S) (hq : Q (some (.long z)) T.heap locs) : Wp p e s below C S Q T (mkF m pc Ls [Value.long z]) := by
  obtain ⟨fs, hr, h1, h2, h3, h4⟩ := X.leave (v := some (.long z)) (fun h => by rw [hret] at h; cases h) hlk
  exact own_out (X.lreturnOut hx hret hd hr) h1 h2 h3 h4 hc hl hq
theorem w_ret_a (X : Stand p l e R s m args below meth c T locs cells slots) (hx : p.tables.exec = Jvm.exec) {w : Value} {t : FieldType} (hw : w.isRef = true) (hret : meth.sig.returnType = some t) (ht : t.isReference = true) (hlk : meth.locks = false) (hd : decode c.code pc = .ok (.areturn, 1)) (hc : cells ≤ C) (hl : slots ≤ S) (hq : Q (some w) T.heap locs) : Wp p e s below C S Q T (mkF m pc Ls [w]) := by
  obtain ⟨fs, hr, h1, h2, h3, h4⟩ := X.leave (v := some w) (fun h => by rw [hret] at h; cases h) hlk
  exact own_out (X.areturnOut hx hw hret ht hd hr) h1 h2 h3 h4 hc hl hq
theorem w_ret_v (X : Stand p l e R s m args below meth c T locs cells slots) (hx : p.tables.exec = Jvm.exec) (hret : meth.sig.returnType = none) (hlk : meth.locks = false) (hd : decode c.code pc = .ok (.return_, 1)) (hc : cells ≤ C) (hl : slots ≤ S) (hq : Q none T.heap locs) : Wp p e s below C S Q T (mkF m pc Ls []) := by
  obtain ⟨fs, hr, h1, h2, h3, h4⟩ := X.leave (v := none) (fun h => rfl) hlk
  exact own_out (X.returnOut hx hret hd hr) h1 h2 h3 h4 hc hl hq
theorem own_call (X : Stand p l e R s m args below meth c T locs cells slots) (hx : p.tables.exec = Jvm.exec) {Z : State} {a0 : Array Value} {h : Heap} (hZ : Z.Warmed39 s.vm) (eT : T.heap = h) {own : String} {i : Nat} {y : MethodName} {bytes : ByteArray} {maxL : Nat} {ret : Option FieldType} {rm : Room} {W : Nat} {as' : Array Value} {Qc : Option Value → Heap → List Loc → Prop}
    (hown : s.vm.findClass own = some m.cls) (hml : Ls.size = c.maxLocals) (w1 : (Jvm.Cond.methodLink own i y).before a0 Z = true) (w2 : (Jvm.Cond.static y).before a0 Z = true) (w3 : (Jvm.Cond.initialized y.cls).before a0 Z = true) (w4 : (Jvm.Cond.code y bytes maxL ret).before a0 Z = true)
    (hM : MetFree l y (head1 [Jvm.Cond.code y bytes maxL ret] rm) (fun a U => a = as' ∧ Z.Warmed39 U.vm ∧ U.heap = h) (fun _ _ _ _ _ => True) (fun _ U o U' => ∃ v L, o = .returned v ∧ Qc v U'.heap L ∧ FrameEnd U o U' L rm.cells rm.slots))
    (hy : y.cls ≠ "java/lang/invoke/MethodHandle" ∧ y.cls ≠ "java/lang/invoke/VarHandle") (hf : rm.frames + 1 ≤ R.frames) (hl : W + (maxL + 11) + rm.locals ≤ R.locals) (hc : cells + rm.cells ≤ R.cells) (hsl : slots + rm.slots ≤ R.slots)
    {argsL rest : List Value} {ps : List FieldType} {r : Option FieldType} (hpd : parseMethodDescriptor y.desc = some ⟨ps, r⟩) (hlen : argsL.length = ps.length) (has : argsL.toArray = as') (hst : st = argsL.reverse ++ rest) (hW : (rest.map fun v => v.category).sum ≤ W) (hd : decode c.code pc = .ok (.invokestatic i, 3)) (hp : pc + 3 = pc')
    (k : ∀ (v : Option Value) (T' : State) (L : List Loc), Stand p l e R s m args below meth c T' (locs ++ L) (cells + rm.cells) (slots + rm.slots) → Qc v T'.heap L → Wp p e s below C S Q T' (mkF m pc' Ls (v.toList ++ rest))) : Wp p e s below C S Q T (mkF m pc Ls st) := by
  obtain ⟨v, _, ⟨T1, L1, k1, n1⟩, -, X1, ⟨Lc1, hQ1, l1, y1, z1⟩, st1⟩ := Jvm.LawKit.callS X hx (y := y) hown (mvT hZ w1) (mvT hZ w2) (mvT hZ w3) (mvT hZ w4) hy (backOf (W := W) hM hZ w4 w3 hf hl) (g := mkF m pc Ls st) rfl hml (argsL := argsL) (rest := rest) (lenOf hpd hlen) hst (by show 2 * 0 + _ ≤ _; omega) hd (fun _ _ => ⟨has, eT, hc, hsl⟩)
  dsimp only [Pt.U, Pt.locs, Pt.cells, Pt.slots] at X1 l1 y1 z1 st1 hQ1
  subst l1 y1 z1
  subst hp
  exact Wp.via st1 (k v T1 Lc1 X1 hQ1)
theorem own_cast {g g' : JFrame} (q : g = g') (k : Wp p e s below C S Q T g') : Wp p e s below C S Q T g := q ▸ k
def PureQ (r : Value) (h0 : Heap) (v : Option Value) (h : Heap) (L : List Loc) : Prop := v = some r ∧ L = [] ∧ h = h0
theorem w_callP (X : Stand p l e R s m args below meth c T locs cells slots) (hx : p.tables.exec = Jvm.exec) {Z : State} {a0 : Array Value} {h : Heap} (hZ : Z.Warmed39 s.vm) (eT : T.heap = h) {own : String} {i : Nat} {y : MethodName} {bytes : ByteArray} {maxL : Nat} {ret : Option FieldType} {rm : Room} {W : Nat} {as' : Array Value} {r0 : Value}
    (hown : s.vm.findClass own = some m.cls) (hml : Ls.size = c.maxLocals) (w1 : (Jvm.Cond.methodLink own i y).before a0 Z = true) (w2 : (Jvm.Cond.static y).before a0 Z = true) (w3 : (Jvm.Cond.initialized y.cls).before a0 Z = true) (w4 : (Jvm.Cond.code y bytes maxL ret).before a0 Z = true)
    (hM : MetFree l y (head1 [Jvm.Cond.code y bytes maxL ret] rm) (fun a U => a = as' ∧ Z.Warmed39 U.vm ∧ U.heap = h) (fun _ _ _ _ _ => True) (fun _ U o U' => ∃ v L, o = .returned v ∧ PureQ r0 h v U'.heap L ∧ FrameEnd U o U' L rm.cells rm.slots))
    (hy : y.cls ≠ "java/lang/invoke/MethodHandle" ∧ y.cls ≠ "java/lang/invoke/VarHandle") (hf : rm.frames + 1 ≤ R.frames) (hl : W + (maxL + 11) + rm.locals ≤ R.locals) (hc : rm.cells = 0) (hsl : rm.slots = 0) (hc' : cells ≤ R.cells) (hsl' : slots ≤ R.slots)
    {argsL rest : List Value} {ps : List FieldType} {r : Option FieldType} (hpd : parseMethodDescriptor y.desc = some ⟨ps, r⟩) (hlen : argsL.length = ps.length) (has : argsL.toArray = as') (hst : st = argsL.reverse ++ rest) (hW : (rest.map fun v => v.category).sum ≤ W) (hd : decode c.code pc = .ok (.invokestatic i, 3)) (hp : pc + 3 = pc')
    (k : ∀ (T' : State), Stand p l e R s m args below meth c T' locs cells slots → T'.heap = h → Wp p e s below C S Q T' (mkF m pc' Ls (r0 :: rest))) : Wp p e s below C S Q T (mkF m pc Ls st) := by
  refine own_call X hx hZ eT hown hml w1 w2 w3 w4 hM hy hf hl (by omega) (by omega) hpd hlen has hst hW hd hp ?_
  intro v T' L X' hq
  obtain ⟨rfl, rfl, e1⟩ := hq
  rw [List.append_nil, hc, hsl] at X'
  exact k T' X' e1
def PureQV (h0 : Heap) (v : Option Value) (h : Heap) (L : List Loc) : Prop := v = none ∧ L = [] ∧ h = h0
theorem w_callPV (X : Stand p l e R s m args below meth c T locs cells slots) (hx : p.tables.exec = Jvm.exec) {Z : State} {a0 : Array Value} {h : Heap} (hZ : Z.Warmed39 s.vm) (eT : T.heap = h) {own : String} {i : Nat} {y : MethodName} {bytes : ByteArray} {maxL : Nat} {ret : Option FieldType} {rm : Room} {W : Nat} {as' : Array Value}
    (hown : s.vm.findClass own = some m.cls) (hml : Ls.size = c.maxLocals) (w1 : (Jvm.Cond.methodLink own i y).before a0 Z = true) (w2 : (Jvm.Cond.static y).before a0 Z = true) (w3 : (Jvm.Cond.initialized y.cls).before a0 Z = true) (w4 : (Jvm.Cond.code y bytes maxL ret).before a0 Z = true)
    (hM : MetFree l y (head1 [Jvm.Cond.code y bytes maxL ret] rm) (fun a U => a = as' ∧ Z.Warmed39 U.vm ∧ U.heap = h) (fun _ _ _ _ _ => True) (fun _ U o U' => ∃ v L, o = .returned v ∧ PureQV h v U'.heap L ∧ FrameEnd U o U' L rm.cells rm.slots))
    (hy : y.cls ≠ "java/lang/invoke/MethodHandle" ∧ y.cls ≠ "java/lang/invoke/VarHandle") (hf : rm.frames + 1 ≤ R.frames) (hl : W + (maxL + 11) + rm.locals ≤ R.locals) (hc : rm.cells = 0) (hsl : rm.slots = 0) (hc' : cells ≤ R.cells) (hsl' : slots ≤ R.slots)
    {argsL rest : List Value} {ps : List FieldType} {r : Option FieldType} (hpd : parseMethodDescriptor y.desc = some ⟨ps, r⟩) (hlen : argsL.length = ps.length) (has : argsL.toArray = as') (hst : st = argsL.reverse ++ rest) (hW : (rest.map fun v => v.category).sum ≤ W) (hd : decode c.code pc = .ok (.invokestatic i, 3)) (hp : pc + 3 = pc')
    (k : ∀ (T' : State), Stand p l e R s m args below meth c T' locs cells slots → T'.heap = h → Wp p e s below C S Q T' (mkF m pc' Ls rest)) : Wp p e s below C S Q T (mkF m pc Ls st) := by
  refine own_call X hx hZ eT hown hml w1 w2 w3 w4 hM hy hf hl (by omega) (by omega) hpd hlen has hst hW hd hp ?_
  intro v T' L X' hq
  obtain ⟨rfl, rfl, e1⟩ := hq
  rw [List.append_nil, hc, hsl] at X'
  exact k T' X' e1
theorem own_body {x : MethodName} {code : ByteArray} {maxL : Nat} {ret : Option FieldType} {ws : List Jvm.Cond} {rm : Room} {Z : State} {as : Array Value} {h0 : Heap} (hx : plainFor x = true)
    (body : ∀ (p : Program) (e : Env) (s : State) (m : MethodId) (below : List Frame) (meth : Method) (c : Code) (T : State), p.tables.exec = Jvm.exec → c.code = code → c.maxLocals = maxL → meth.sig.returnType = ret → meth.locks = false → s.vm.findClass x.cls = some m.cls → meth.name = x.name → Z.Warmed39 s.vm → Stand p l e rm s m as below meth c T [] 0 0 → T.heap = h0 → Wp p e s below rm.cells rm.slots Q T (entryFrame m as maxL)) :
    MetFree l x (head1 (Jvm.Cond.code x code maxL ret :: ws) rm) (fun a U => a = as ∧ Z.Warmed39 U.vm ∧ U.heap = h0) (fun _ _ _ _ _ => True) (fun _ U o U' => ∃ v L, o = .returned v ∧ Q v U'.heap L ∧ FrameEnd U o U' L rm.cells rm.slots) := by
  refine MetFree.of_bodySF hx hisR ?_
  intro p e s m args below meth c s₁ Bd hml0 hP hK
  obtain ⟨rfl, hZ, hh⟩ := hP
  exact body p e s m below meth c s₁ Bd.exec Bd.bytes hml0 Bd.returns Bd.notSynchronized (findClass_of_methodNamed Bd.named) (name_of_methodNamed Bd.named Bd.method).1 hZ (Stand.of_body Bd) (by rw [← hh, Bd.state]; rfl)
end OwnW
/-! cells made since the start: explicit -/
def HP (n0 : Nat) (h : Heap) (cs : List Cell) : Prop := h.size = n0 + cs.length ∧ ∀ (i : Nat) (c : Cell), cs[i]? = some c → h[n0 + i]? = some c
def IsA (Z : State) (k : ClassId) (ty : FieldType) : Prop := (∃ kc, Z.vm.classes[k]? = some kc ∧ ∃ comp, kc.kind = .array comp ty) ∧ Z.vm.findClass ("[" ++ ty.toString) = some k
def AC (k : ClassId) (vs : List Value) : Cell := { cls := k, slots := vs.toArray, vm := .none }
def FldC (Z : State) (cell : Cell) (C n d : String) (v : Value) : Prop := ∃ (cf : ClassId) (k : Class) (i : Nat) (f : Field), Z.fieldFound? C n d = some (cf, k, i, f) ∧ f.isStatic = false ∧ cell.vm ≠ .unknown ∧ cell.vm.isStatics = false ∧ Z.vm.assignable cell.cls cf = true ∧ cell.slots[f.slot]? = some v
def ExaC (Z : State) (cell : Cell) (C : String) : Prop := ∃ (k : Class), Z.vm.findClass C = some cell.cls ∧ Z.vm.classes[cell.cls]? = some k ∧ cell.vm.isStatics = false ∧ (k.kind = .ordinary → cell.slots.size = k.instanceTypes.size)
def ObjF (Z : State) (cell : Cell) (C : String) (fl : List (String × String)) (vs : List Value) : Prop := ExaC Z cell C ∧ vs.length = fl.length ∧ ∀ (j : Nat) (n d : String) (v : Value), fl[j]? = some (n, d) → vs[j]? = some v → FldC Z cell C n d v
def Dis (Z : State) (C : String) (fl : List (String × String)) : Prop := ∀ (i j : Nat) (a b : String × String), fl[i]? = some a → fl[j]? = some b → i ≠ j → Jvm.RoadKit.slotOf Z C a.1 a.2 ≠ Jvm.RoadKit.slotOf Z C b.1 b.2
section OwnHP
variable {Z : State} {h h' : Heap} {n0 : Nat} {cs : List Cell} {i sl : Nat} {cell : Cell} {v : Value} {k : ClassId} {vs : List Value} {ty : FieldType} {C : String} {fl : List (String × String)}
theorem HP.nil (h : Heap) : HP h.size h [] := ⟨by simp, fun i c q => by simp at q⟩
theorem HP.push (P : HP n0 h cs) (c : Cell) : HP n0 (h.push c) (cs ++ [c]) := by
  refine ⟨by simp [P.1]; omega, fun i c' q => ?_⟩
  by_cases hi : i < cs.length
  · rw [List.getElem?_append_left hi] at q
    have := P.2 i c' q
    rw [Array.getElem?_push_lt (by rw [P.1]; omega)]
    rw [Array.getElem?_eq_getElem (by rw [P.1]; omega)] at this
    exact this
  · have hl : i < (cs ++ [c]).length := (List.getElem?_eq_some_iff.mp q).1
    have e : i = cs.length := by simp at hl; omega
    subst e
    rw [List.getElem?_append_right (Nat.le_refl _)] at q
    simp at q
    subst q
    rw [← P.1]; simp
theorem HP.wr (P : HP n0 h cs) (W : Wr h h' (n0 + i) sl v) (q : cs[i]? = some cell) : HP n0 h' (cs.set i (cell.setSlot sl v)) := by
  obtain ⟨c0, h1, h2, h3, rfl⟩ := W
  cases h1.symm.trans (P.2 i cell q)
  refine ⟨by simp [P.1], fun j c' r => ?_⟩
  by_cases e : i = j
  · subst e
    have hl : i < cs.length := (List.getElem?_eq_some_iff.mp q).1
    rw [List.getElem?_set_self hl] at r
    cases r
    rw [Array.getElem?_setIfInBounds_self_of_lt (by rw [P.1]; omega)]
  · rw [List.getElem?_set_ne e] at r
    rw [Array.getElem?_setIfInBounds_ne (by omega)]
    exact P.2 j c' r
theorem HP.arr (P : HP n0 h cs) (q : cs[i]? = some (AC k vs)) (a : IsA Z k ty) : Arr Z h (n0 + i) (AC k vs) ty := ⟨P.2 _ _ q, ⟨fun _ => by simp [AC], a.1⟩, by simp [AC]⟩
theorem HP.exaA (P : HP n0 h cs) (q : cs[i]? = some (AC k vs)) (a : IsA Z k ty) {ad : String} (had : "[" ++ ty.toString = ad) : Exa Z h (n0 + i) ad := by
  obtain ⟨⟨kc, h1, comp, h2⟩, h3⟩ := a
  exact ⟨AC k vs, kc, P.2 _ _ q, by rw [← had]; exact h3, h1, rfl, fun z => by rw [h2] at z; cases z⟩
theorem HP.fld (P : HP n0 h cs) (q : cs[i]? = some cell) {n d : String} (F : FldC Z cell C n d v) : Fld Z h (n0 + i) C n d v := by
  obtain ⟨cf, k, j, f, r⟩ := F
  exact ⟨cell, cf, k, j, f, P.2 _ _ q, r⟩
theorem HP.exa (P : HP n0 h cs) (q : cs[i]? = some cell) (F : ExaC Z cell C) : Exa Z h (n0 + i) C := by
  obtain ⟨k, r⟩ := F
  exact ⟨cell, k, P.2 _ _ q, r⟩
theorem AC.set (k : ClassId) (vs : List Value) (j : Nat) (v : Value) : (AC k vs).setSlot j v = AC k (vs.set j v) := by simp [AC, Cell.setSlot]
theorem ExaC.set (F : ExaC Z cell C) (sl : Nat) (v : Value) : ExaC Z (cell.setSlot sl v) C := by
  obtain ⟨k, h1, h2, h3, h4⟩ := F
  exact ⟨k, h1, h2, h3, fun q => by rw [← h4 q]; simp [Cell.setSlot]⟩
theorem ObjF.set (F : ObjF Z cell C fl vs) (D : Dis Z C fl) {j : Nat} {n d : String} (hj : fl[j]? = some (n, d)) (v : Value) : ObjF Z (cell.setSlot (Jvm.RoadKit.slotOf Z C n d) v) C fl (vs.set j v) := by
  obtain ⟨E, hl, F⟩ := F
  refine ⟨E.set _ _, by simp [hl], fun i n' d' v' h1 h2 => ?_⟩
  have hjl : j < fl.length := (List.getElem?_eq_some_iff.mp hj).1
  by_cases e : j = i
  · subst e
    cases hj.symm.trans h1
    rw [List.getElem?_set_self (by omega)] at h2
    cases h2
    obtain ⟨cf, k, x, f, g1, g2, g3, g4, g5, g6⟩ := F j n d _ hj (List.getElem?_eq_getElem (by omega))
    have es : Jvm.RoadKit.slotOf Z C n d = f.slot := by simp [Jvm.RoadKit.slotOf, g1]
    refine ⟨cf, k, x, f, g1, g2, g3, g4, g5, ?_⟩
    rw [es]
    have := (Array.getElem?_eq_some_iff.mp g6).1
    simp [Cell.setSlot, this]
  · rw [List.getElem?_set_ne e] at h2
    obtain ⟨cf, k, x, f, g1, g2, g3, g4, g5, g6⟩ := F i n' d' v' h1 h2
    have es : Jvm.RoadKit.slotOf Z C n' d' = f.slot := by simp [Jvm.RoadKit.slotOf, g1]
    have ne := D j i _ _ hj h1 e
    refine ⟨cf, k, x, f, g1, g2, g3, g4, g5, ?_⟩
    show ((cell.slots.setIfInBounds _ _)[_]?) = _
    rw [Array.getElem?_setIfInBounds_ne (by rw [← es]; exact ne)]
    exact g6
theorem own_dis {a0 : Array Value} (hL : ∀ (j : Nat) (n d : String), fl[j]? = some (n, d) → Laid Z a0 C C n d ∧ ∃ t, parseFieldDescriptor d = some t) (hN : (fl.map Prod.fst).Nodup) : Dis Z C fl := by
  intro i j a b h1 h2 hne
  obtain ⟨L1, t1, p1⟩ := hL i a.1 a.2 h1
  obtain ⟨L2, t2, p2⟩ := hL j b.1 b.2 h2
  refine slot_ne L1 L2 (fun q => hne ?_) p1 p2
  have i1 := (List.getElem?_eq_some_iff.mp h1).1
  have i2 := (List.getElem?_eq_some_iff.mp h2).1
  have e1 : (fl.map Prod.fst)[i]? = some a.1 := by simp [h1]
  have e2 : (fl.map Prod.fst)[j]? = some b.1 := by simp [h2]
  exact (List.getElem?_inj (by simpa using i1) hN).mp (by rw [e1, e2, q])
theorem own_one {n0 : Nat} {L : List Loc} (N : Fr n0 L) (i sl : Nat) : Fr n0 (L ++ [⟨n0 + i, sl⟩]) := N.app fun y hy => by cases List.mem_singleton.mp hy; exact Nat.le_add_right _ _
theorem own_idx {j : Int32} {jn N : Nat} (hj : j.toInt = (jn : Int)) (hn : jn < N) : j.toNatClampNeg = jn ∧ ¬ (j < 0 ∨ N ≤ j.toNatClampNeg) := by
  have e : j.toNatClampNeg = jn := by simp [Int32.toNatClampNeg, hj]
  refine ⟨e, ?_⟩
  rw [e, Int32.lt_iff_toInt_lt, hj]
  simp
  omega
end OwnHP
theorem own_get {α : Type} {f : α → Value} {l : List α} {j : Nat} {d : α} (h : j < l.length) : (List.map f l)[j]? = some (f (l.getD j d)) := by
  simp [List.getD_eq_getElem?_getD, h]
theorem own_sl {α : Type} {l : List α} {i N : Nat} {x : α} (h : l.length = N) : (l.set i x).length = N := by simp [h]
theorem own_llt {α : Type} {l : List α} {j N : Nat} (h : l.length = N) (q : j < N) : j < l.length := by omega
theorem own_oN {n : Nat} (h : n < 2147483648) : (Int32.ofNat n).toInt = (n : Int) := Int32.toInt_ofNat_of_lt h
theorem own_oadd (a b : Nat) : Int32.ofNat a + Int32.ofNat b = Int32.ofNat (a + b) := (Int32.ofNat_add a b).symm
theorem own_osub {a b : Nat} (h : b ≤ a) : Int32.ofNat a - Int32.ofNat b = Int32.ofNat (a - b) := by
  have := own_oadd (a - b) b
  rw [Nat.sub_add_cancel h] at this
  rw [← this, Int32.add_sub_cancel]
theorem own_omul (a b : Nat) : Int32.ofNat a * Int32.ofNat b = Int32.ofNat (a * b) := (Int32.ofNat_mul a b).symm
theorem own_olt {a b : Nat} (ha : a < 2147483648) (hb : b < 2147483648) : Int32.ofNat a < Int32.ofNat b ↔ a < b := by
  rw [Int32.lt_iff_toInt_lt, own_oN ha, own_oN hb]; omega
theorem own_oeq {a b : Nat} (ha : a < 2147483648) (hb : b < 2147483648) : Int32.ofNat a = Int32.ofNat b ↔ a = b := by
  rw [← Int32.toInt_inj, own_oN ha, own_oN hb]; omega
theorem own_len {α : Type} {f : α → Value} {l : List α} {N : Nat} (h : l.length = N) : (List.map f l).length.toInt32 = Int32.ofNat N := by
  rw [List.length_map, h]
section OwnH
variable {p : Program} {l : Launch} {e : Env} {R : Room} {s : State} {m : MethodId} {args : Array Value} {below : List Frame} {meth : Method} {c : Code} {T : State} {locs : List Loc} {cells slots : Nat} {C S : Nat} {Q : Option Value → Heap → List Loc → Prop} {pc pc' : Nat} {Ls : Array Slot} {st : List Value}
  {Z : State} {a0 : Array Value} {n0 : Nat} {cs : List Cell}
theorem w_newarr (X : Stand p l e R s m args below meth c T locs cells slots) (hx : p.tables.exec = Jvm.exec) (hZ : Z.Warmed39 s.vm) (P : HP n0 T.heap cs) {aty : ArrayType} {ty : FieldType} (hty : newarray.typeOf aty = ty) (w : (Jvm.Cond.arrayClass ty).before a0 Z = true) (hd : decode c.code pc = .ok (.newarray aty, 2))
    {n : Int32} {N j : Nat} (hn : n.toInt = (N : Int)) (hN : N ≤ 1000) (hc : cells + 1 ≤ R.cells) (hl : slots + N ≤ R.slots) (hj : cs.length = j) (hp : pc + 2 = pc')
    (k : ∀ (T' : State) (kA : ClassId), Stand p l e R s m args below meth c T' locs (cells + 1) (slots + N) → IsA Z kA ty → HP n0 T'.heap (cs ++ [AC kA (List.replicate N (defaultValue ty))]) → Wp p e s below C S Q T' (mkF m pc' Ls (.ref (n0 + j) :: st))) :
    Wp p e s below C S Q T (mkF m pc Ls (.int n :: st)) := by
  subst hp hty hj
  have en : n.toNatClampNeg = N := by simp [Int32.toNatClampNeg, hn]
  have hcb : componentBytes (newarray.typeOf aty) ≤ 8 := by cases aty <;> decide
  obtain ⟨cA, kA, comp, h1, h2, h3, X', st1⟩ := X.newarrayPrim hx (mvA hZ w) (g := mkF m pc Ls (.int n :: st)) rfl hd rfl (by rw [Int32.lt_iff_toInt_lt, hn]; simp) (by rw [en]; exact Nat.le_trans (Nat.mul_le_mul hN hcb) (by decide)) hc (by rw [en]; exact hl)
  rw [en] at X' st1
  rw [hZ.alike.findClass] at h1
  obtain ⟨kZ, z1, -⟩ := Vm.findClass_spec h1
  obtain ⟨k', z2, z3⟩ := hZ.alike.2.2 _ _ z1
  cases h2.symm.trans z2
  rw [P.1] at st1
  have ec : ({ cls := cA, slots := Array.replicate N (defaultValue (newarray.typeOf aty)), vm := .none } : Cell) = AC cA (List.replicate N (defaultValue (newarray.typeOf aty))) := by simp [AC]
  rw [ec] at X' st1
  exact Wp.via st1 (k _ cA X' ⟨⟨kZ, z1, comp, by rw [← h3, z3]⟩, h1⟩ (P.push _))
theorem w_arrlen (X : Stand p l e R s m args below meth c T locs cells slots) (hx : p.tables.exec = Jvm.exec) (hZ : Z.Warmed39 s.vm) (P : HP n0 T.heap cs) {i : Nat} {kA : ClassId} {vs : List Value} {ty : FieldType} (q : cs[i]? = some (AC kA vs)) (hk : IsA Z kA ty) (hd : decode c.code pc = .ok (.arraylength, 1)) {z : Int32} (hz : vs.length.toInt32 = z) (hp : pc + 1 = pc')
    (k : Wp p e s below C S Q T (mkF m pc' Ls (.int z :: st))) : Wp p e s below C S Q T (mkF m pc Ls (.ref (n0 + i) :: st)) := by
  subst hp hz
  have A := P.arr q hk
  refine Wp.via (fun t ht => X.arraylength hx (cell := AC kA vs) A.1 (State.isArrayOf_alike hZ.alike A.2.1) (g := mkF m pc Ls (.ref (n0 + i) :: st)) rfl (rest := st) rfl hd _ ?_) k
  simpa [AC] using ht
theorem w_iaload (X : Stand p l e R s m args below meth c T locs cells slots) (hx : p.tables.exec = Jvm.exec) (hZ : Z.Warmed39 s.vm) (P : HP n0 T.heap cs) {i : Nat} {kA : ClassId} {vs : List Value} (q : cs[i]? = some (AC kA vs)) (hk : IsA Z kA .int) (hd : decode c.code pc = .ok (.iaload, 1)) {j : Int32} {jn : Nat} (hj : j.toInt = (jn : Int)) {v : Value} (hv : vs[jn]? = some v) (hp : pc + 1 = pc')
    (k : Wp p e s below C S Q T (mkF m pc' Ls (v :: st))) : Wp p e s below C S Q T (mkF m pc Ls (.int j :: .ref (n0 + i) :: st)) := by
  subst hp
  have A := P.arr q hk
  have hl : jn < (AC kA vs).slots.size := by simp [AC]; exact (List.getElem?_eq_some_iff.mp hv).1
  obtain ⟨e1, e2⟩ := own_idx hj hl
  exact Wp.via (fun t ht => X.iaload hx (j := j) (v := v) A.1 (State.isArrayOf_alike hZ.alike A.2.1) A.2.2 e2 (by rw [e1]; simpa [AC] using hv) (g := mkF m pc Ls (.int j :: .ref (n0 + i) :: st)) rfl rfl hd _ ht) k
theorem w_laload (X : Stand p l e R s m args below meth c T locs cells slots) (hx : p.tables.exec = Jvm.exec) (hZ : Z.Warmed39 s.vm) (P : HP n0 T.heap cs) {i : Nat} {kA : ClassId} {vs : List Value} (q : cs[i]? = some (AC kA vs)) (hk : IsA Z kA .long) (hd : decode c.code pc = .ok (.laload, 1)) {j : Int32} {jn : Nat} (hj : j.toInt = (jn : Int)) {v : Value} (hv : vs[jn]? = some v) (hp : pc + 1 = pc')
    (k : Wp p e s below C S Q T (mkF m pc' Ls (v :: st))) : Wp p e s below C S Q T (mkF m pc Ls (.int j :: .ref (n0 + i) :: st)) := by
  subst hp
  have A := P.arr q hk
  have hl : jn < (AC kA vs).slots.size := by simp [AC]; exact (List.getElem?_eq_some_iff.mp hv).1
  obtain ⟨e1, e2⟩ := own_idx hj hl
  exact Wp.via (fun t ht => X.laload hx (j := j) (v := v) A.1 (State.isArrayOf_alike hZ.alike A.2.1) A.2.2 e2 (by rw [e1]; simpa [AC] using hv) (g := mkF m pc Ls (.int j :: .ref (n0 + i) :: st)) rfl rfl hd _ ht) k
theorem w_baload (X : Stand p l e R s m args below meth c T locs cells slots) (hx : p.tables.exec = Jvm.exec) (hZ : Z.Warmed39 s.vm) (P : HP n0 T.heap cs) {i : Nat} {kA : ClassId} {vs : List Value} (q : cs[i]? = some (AC kA vs)) (hk : IsA Z kA .byte) (hd : decode c.code pc = .ok (.baload, 1)) {j : Int32} {jn : Nat} (hj : j.toInt = (jn : Int)) {v : Value} (hv : vs[jn]? = some v) (hp : pc + 1 = pc')
    (k : Wp p e s below C S Q T (mkF m pc' Ls (v :: st))) : Wp p e s below C S Q T (mkF m pc Ls (.int j :: .ref (n0 + i) :: st)) := by
  subst hp
  have A := P.arr q hk
  have hl : jn < (AC kA vs).slots.size := by simp [AC]; exact (List.getElem?_eq_some_iff.mp hv).1
  obtain ⟨e1, e2⟩ := own_idx hj hl
  exact Wp.via (fun t ht => X.baloadBytes hx (j := j) (v := v) A.1 (State.isArrayOf_alike hZ.alike A.2.1) A.2.2 e2 (by rw [e1]; simpa [AC] using hv) (g := mkF m pc Ls (.int j :: .ref (n0 + i) :: st)) rfl rfl hd _ ht) k
theorem w_caload (X : Stand p l e R s m args below meth c T locs cells slots) (hx : p.tables.exec = Jvm.exec) (hZ : Z.Warmed39 s.vm) (P : HP n0 T.heap cs) {i : Nat} {kA : ClassId} {vs : List Value} (q : cs[i]? = some (AC kA vs)) (hk : IsA Z kA .char) (hd : decode c.code pc = .ok (.caload, 1)) {j : Int32} {jn : Nat} (hj : j.toInt = (jn : Int)) {v : Value} (hv : vs[jn]? = some v) (hp : pc + 1 = pc')
    (k : Wp p e s below C S Q T (mkF m pc' Ls (v :: st))) : Wp p e s below C S Q T (mkF m pc Ls (.int j :: .ref (n0 + i) :: st)) := by
  subst hp
  have A := P.arr q hk
  have hl : jn < (AC kA vs).slots.size := by simp [AC]; exact (List.getElem?_eq_some_iff.mp hv).1
  obtain ⟨e1, e2⟩ := own_idx hj hl
  exact Wp.via (fun t ht => X.caload hx (j := j) (v := v) A.1 (State.isArrayOf_alike hZ.alike A.2.1) A.2.2 e2 (by rw [e1]; simpa [AC] using hv) (g := mkF m pc Ls (.int j :: .ref (n0 + i) :: st)) rfl rfl hd _ ht) k
theorem w_iastore (X : Stand p l e R s m args below meth c T locs cells slots) (hx : p.tables.exec = Jvm.exec) (hZ : Z.Warmed39 s.vm) (N : Fr n0 locs) (P : HP n0 T.heap cs) {i : Nat} {kA : ClassId} {vs : List Value} (q : cs[i]? = some (AC kA vs)) (hk : IsA Z kA .int) (hd : decode c.code pc = .ok (.iastore, 1)) {j : Int32} {x : Int32} {jn : Nat} (hj : j.toInt = (jn : Int)) (hl : jn < vs.length) (hp : pc + 1 = pc')
    (k : ∀ (T' : State) (L' : List Loc), Fr n0 L' → Stand p l e R s m args below meth c T' L' cells slots → HP n0 T'.heap (cs.set i (AC kA (vs.set jn (.int x)))) → Wp p e s below C S Q T' (mkF m pc' Ls st)) : Wp p e s below C S Q T (mkF m pc Ls (.int x :: .int j :: .ref (n0 + i) :: st)) := by
  subst hp
  have A := P.arr q hk
  obtain ⟨e1, e2⟩ := own_idx hj (N := (AC kA vs).slots.size) (by simpa [AC] using hl)
  obtain ⟨T', h', X', eh, W, st1⟩ := stI X hx hZ rfl A e2 (g := mkF m pc Ls (.int x :: .int j :: .ref (n0 + i) :: st)) rfl rfl hd
  rw [e1] at X' W
  subst eh
  have P' := P.wr W q
  rw [AC.set] at P'
  exact Wp.via st1 (k T' _ (own_one N _ _) X' P')
theorem w_lastore (X : Stand p l e R s m args below meth c T locs cells slots) (hx : p.tables.exec = Jvm.exec) (hZ : Z.Warmed39 s.vm) (N : Fr n0 locs) (P : HP n0 T.heap cs) {i : Nat} {kA : ClassId} {vs : List Value} (q : cs[i]? = some (AC kA vs)) (hk : IsA Z kA .long) (hd : decode c.code pc = .ok (.lastore, 1)) {j : Int32} {x : Int64} {jn : Nat} (hj : j.toInt = (jn : Int)) (hl : jn < vs.length) (hp : pc + 1 = pc')
    (k : ∀ (T' : State) (L' : List Loc), Fr n0 L' → Stand p l e R s m args below meth c T' L' cells slots → HP n0 T'.heap (cs.set i (AC kA (vs.set jn (.long x)))) → Wp p e s below C S Q T' (mkF m pc' Ls st)) : Wp p e s below C S Q T (mkF m pc Ls (.long x :: .int j :: .ref (n0 + i) :: st)) := by
  subst hp
  have A := P.arr q hk
  obtain ⟨e1, e2⟩ := own_idx hj (N := (AC kA vs).slots.size) (by simpa [AC] using hl)
  obtain ⟨T', h', X', eh, W, st1⟩ := stJ X hx hZ rfl A e2 (g := mkF m pc Ls (.long x :: .int j :: .ref (n0 + i) :: st)) rfl rfl hd
  rw [e1] at X' W
  subst eh
  have P' := P.wr W q
  rw [AC.set] at P'
  exact Wp.via st1 (k T' _ (own_one N _ _) X' P')
theorem w_bastore (X : Stand p l e R s m args below meth c T locs cells slots) (hx : p.tables.exec = Jvm.exec) (hZ : Z.Warmed39 s.vm) (N : Fr n0 locs) (P : HP n0 T.heap cs) {i : Nat} {kA : ClassId} {vs : List Value} (q : cs[i]? = some (AC kA vs)) (hk : IsA Z kA .byte) (hd : decode c.code pc = .ok (.bastore, 1)) {j : Int32} {x : Int32} {jn : Nat} (hj : j.toInt = (jn : Int)) (hl : jn < vs.length) (hp : pc + 1 = pc')
    (k : ∀ (T' : State) (L' : List Loc), Fr n0 L' → Stand p l e R s m args below meth c T' L' cells slots → HP n0 T'.heap (cs.set i (AC kA (vs.set jn (.int (nar .byte x))))) → Wp p e s below C S Q T' (mkF m pc' Ls st)) : Wp p e s below C S Q T (mkF m pc Ls (.int x :: .int j :: .ref (n0 + i) :: st)) := by
  subst hp
  have A := P.arr q hk
  obtain ⟨e1, e2⟩ := own_idx hj (N := (AC kA vs).slots.size) (by simpa [AC] using hl)
  obtain ⟨T', h', X', eh, W, st1⟩ := stB X hx hZ rfl A e2 (g := mkF m pc Ls (.int x :: .int j :: .ref (n0 + i) :: st)) rfl rfl hd
  rw [e1] at X' W
  subst eh
  have P' := P.wr W q
  rw [AC.set] at P'
  exact Wp.via st1 (k T' _ (own_one N _ _) X' P')
theorem w_bastoreE (X : Stand p l e R s m args below meth c T locs cells slots) (hx : p.tables.exec = Jvm.exec) (hZ : Z.Warmed39 s.vm) (N : Fr n0 locs) (P : HP n0 T.heap cs) {i : Nat} {kA : ClassId} {vs : List Value} (q : cs[i]? = some (AC kA vs)) (hk : IsA Z kA .byte) (hd : decode c.code pc = .ok (.bastore, 1)) {j : Int32} {x z : Int32} {jn : Nat} (hz : nar .byte x = z) (hj : j.toInt = (jn : Int)) (hl : jn < vs.length) (hp : pc + 1 = pc')
    (k : ∀ (T' : State) (L' : List Loc), Fr n0 L' → Stand p l e R s m args below meth c T' L' cells slots → HP n0 T'.heap (cs.set i (AC kA (vs.set jn (.int z)))) → Wp p e s below C S Q T' (mkF m pc' Ls st)) : Wp p e s below C S Q T (mkF m pc Ls (.int x :: .int j :: .ref (n0 + i) :: st)) := by
  subst hp hz
  have A := P.arr q hk
  obtain ⟨e1, e2⟩ := own_idx hj (N := (AC kA vs).slots.size) (by simpa [AC] using hl)
  obtain ⟨T', h', X', eh, W, st1⟩ := stB X hx hZ rfl A e2 (g := mkF m pc Ls (.int x :: .int j :: .ref (n0 + i) :: st)) rfl rfl hd
  rw [e1] at X' W
  subst eh
  have P' := P.wr W q
  rw [AC.set] at P'
  exact Wp.via st1 (k T' _ (own_one N _ _) X' P')
theorem w_getf (X : Stand p l e R s m args below meth c T locs cells slots) (hx : p.tables.exec = Jvm.exec) (hZ : Z.Warmed39 s.vm) {own O n d : String} {idx : Nat} (hown : s.vm.findClass own = some m.cls) (w : (Jvm.Cond.fieldLink own idx O n d).before a0 Z = true) (P : HP n0 T.heap cs) {i : Nat} {cell : Cell} (q : cs[i]? = some cell) {fl : List (String × String)} {vs : List Value} (F : ObjF Z cell O fl vs) (j : Nat) (hf : fl[j]? = some (n, d)) {v : Value} (hv : vs[j]? = some v) (hd : decode c.code pc = .ok (.getfield idx, 3)) (hp : pc + 3 = pc')
    (k : ∀ (T' : State), Stand p l e R s m args below meth c T' locs cells slots → HP n0 T'.heap cs → Wp p e s below C S Q T' (mkF m pc' Ls (v :: st))) : Wp p e s below C S Q T (mkF m pc Ls (.ref (n0 + i) :: st)) := by
  subst hp
  obtain ⟨T', X', eh, st1⟩ := getF X hx hZ hown (host := "") (Or.inl w) Via.refl rfl (P.fld q (F.2.2 j n d v hf hv)) (g := mkF m pc Ls (.ref (n0 + i) :: st)) rfl rfl hd
  exact Wp.via st1 (k T' X' (by rw [eh]; exact P))
theorem w_putf (X : Stand p l e R s m args below meth c T locs cells slots) (hx : p.tables.exec = Jvm.exec) (hZ : Z.Warmed39 s.vm) {own O n d : String} {idx kk : Nat} {ty : FieldType} (hown : s.vm.findClass own = some m.cls) (w : (Jvm.Cond.fieldLink own idx O n d).before a0 Z = true) (N : Fr n0 locs) (P : HP n0 T.heap cs) {i : Nat} {cell : Cell} (q : cs[i]? = some cell) {fl : List (String × String)} {vs : List Value} (F : ObjF Z cell O fl vs) (D : Dis Z O fl) (j : Nat) (hf : fl[j]? = some (n, d))
    (L : (Jvm.Cond.lays O O n d).before a0 Z = true ∨ ((Jvm.Cond.laysFinal O O n d).before a0 Z = true ∧ own = O ∧ meth.name = "<init>")) (wi : (Jvm.Cond.instantiable O kk).before a0 Z = true) (hty : parseFieldDescriptor d = some ty) {v : Value} (hn : narrow ty v = v) (hfit : fits ty v = true) (hd : decode c.code pc = .ok (.putfield idx, 3)) (hp : pc + 3 = pc')
    (k : ∀ (T' : State) (L' : List Loc) (cell' : Cell), Fr n0 L' → Stand p l e R s m args below meth c T' L' cells slots → HP n0 T'.heap (cs.set i cell') → ObjF Z cell' O fl (vs.set j v) → Wp p e s below C S Q T' (mkF m pc' Ls st)) : Wp p e s below C S Q T (mkF m pc Ls (v :: .ref (n0 + i) :: st)) := by
  subst hp
  have hjl : j < vs.length := by rw [F.2.1]; exact (List.getElem?_eq_some_iff.mp hf).1
  obtain ⟨T', h', X', eh, W, st1⟩ := putF X hx hZ hown (host := "") (Or.inl w) Via.refl rfl (P.fld q (F.2.2 j n d _ hf (List.getElem?_eq_getElem hjl))) (P.exa q F.1) L wi hty hn hfit (g := mkF m pc Ls (v :: .ref (n0 + i) :: st)) rfl rfl hd
  subst eh
  exact Wp.via st1 (k T' _ _ (own_one N _ _) X' (P.wr W q) (F.set D hf v))
theorem w_new (X : Stand p l e R s m args below meth c T locs cells slots) (hx : p.tables.exec = Jvm.exec) (hZ : Z.Warmed39 s.vm) {own K : String} {idx n j : Nat} (hown : s.vm.findClass own = some m.cls) (w : (Jvm.Cond.classLink own idx K).before a0 Z = true) (wi : (Jvm.Cond.instantiable K n).before a0 Z = true) (wz : (Jvm.Cond.initialized K).before a0 Z = true) (P : HP n0 T.heap cs)
    (fl : List (String × String)) (vs : List Value) (hfl : vs.length = fl.length) (hlay : ∀ (j : Nat) (n d : String) (v : Value), fl[j]? = some (n, d) → vs[j]? = some v → Laid Z a0 K K n d ∧ ∃ ty, parseFieldDescriptor d = some ty ∧ defaultValue ty = v) (hd : decode c.code pc = .ok (.new idx, 3)) (hc : cells + 1 ≤ R.cells) (hl : slots + n ≤ R.slots) (hj : cs.length = j) (hp : pc + 3 = pc')
    (k : ∀ (T' : State) (cell' : Cell), Stand p l e R s m args below meth c T' locs (cells + 1) (slots + n) → HP n0 T'.heap (cs ++ [cell']) → ObjF Z cell' K fl vs → Wp p e s below C S Q T' (mkF m pc' Ls (.ref (n0 + j) :: st))) : Wp p e s below C S Q T (mkF m pc Ls st) := by
  subst hp hj
  obtain ⟨vm', cC, kC, h1, h2, h3, h4, X', st1⟩ := X.newCold hx hown (mv hZ w) (mv hZ wi) (mv hZ wz) (g := mkF m pc Ls st) rfl hd hc hl
  rw [hZ.alike.findClass] at h1
  obtain ⟨kZ, z1, -⟩ := Vm.findClass_spec h1
  obtain ⟨k', z2, z3⟩ := hZ.alike.2.2 _ _ z1
  cases h2.symm.trans z2
  have ei : kC.instanceTypes = kZ.instanceTypes := by rw [z3]
  rw [P.1] at st1
  refine Wp.via st1 (k _ _ X' (P.push _) ⟨⟨kZ, h1, z1, rfl, fun _ => by simp [ei]⟩, hfl, fun j n d v a b => ?_⟩)
  obtain ⟨L, ty, ht, hv⟩ := hlay j n d v a b
  obtain ⟨c1, k1, cf, kf, i, f, a1, a2, a3, a4, a5, a6, -⟩ := L.spec
  cases h1.symm.trans a1
  cases z1.symm.trans a2
  exact ⟨cf, kf, i, f, a3, a4, by simp, rfl, a5, by simp [ei, a6, (State.fieldFound?_type a3 ht).2, hv]⟩
theorem w_initO (X : Stand p l e R s m args below meth c T locs cells slots) (hx : p.tables.exec = Jvm.exec) (hZ : Z.Warmed39 s.vm) {own : String} {idx : Nat} (hown : s.vm.findClass own = some m.cls) (hml : Ls.size = c.maxLocals) (w1 : (Jvm.Cond.methodLink own idx Lib.objectInit).before a0 Z = true) (w2 : (Jvm.Cond.instanceMethod Lib.objectInit).before a0 Z = true)
    (w3 : (Jvm.Cond.code Lib.objectInit ⟨#[0xb1]⟩ 1 none).before a0 Z = true) (P : HP n0 T.heap cs) {a : Addr} (hd : decode c.code pc = .ok (.invokespecial idx, 3)) (hf : 1 ≤ R.frames) {W : Nat} (hW : (st.map fun v => v.category).sum ≤ W) (hl : W + 12 ≤ R.locals) (hp : pc + 3 = pc')
    (k : ∀ (T' : State), Stand p l e R s m args below meth c T' locs cells slots → HP n0 T'.heap cs → Wp p e s below C S Q T' (mkF m pc' Ls st)) : Wp p e s below C S Q T (mkF m pc Ls (.ref a :: st)) := by
  subst hp
  obtain ⟨T', X', eh, st1⟩ := initO X hx hZ hown w1 w2 w3 rfl (g := mkF m pc Ls (.ref a :: st)) rfl hml (rest := st) rfl hd hf (W := W) (by show 2 * 0 + _ ≤ _; omega) hl
  exact Wp.via st1 (k T' X' (by rw [eh]; exact P))
theorem own_callI (X : Stand p l e R s m args below meth c T locs cells slots) (hx : p.tables.exec = Jvm.exec) {h : Heap} (hZ : Z.Warmed39 s.vm) (eT : T.heap = h) {own : String} {i : Nat} {y : MethodName} {bytes : ByteArray} {maxL : Nat} {rm : Room} {W : Nat} {as' : Array Value} {Qc : Option Value → Heap → List Loc → Prop} (hy1 : y.name = "<init>")
    (hown : s.vm.findClass own = some m.cls) (hml : Ls.size = c.maxLocals) (w1 : (Jvm.Cond.methodLink own i y).before a0 Z = true) (w2 : (Jvm.Cond.instanceMethod y).before a0 Z = true) (w3 : (Jvm.Cond.initialized y.cls).before a0 Z = true) (w4 : (Jvm.Cond.code y bytes maxL none).before a0 Z = true)
    (hM : MetFree l y (head1 [Jvm.Cond.code y bytes maxL none] rm) (fun a U => a = as' ∧ Z.Warmed39 U.vm ∧ U.heap = h) (fun _ _ _ _ _ => True) (fun _ U o U' => ∃ v L, o = .returned v ∧ Qc v U'.heap L ∧ FrameEnd U o U' L rm.cells rm.slots))
    (hy : y.cls ≠ "java/lang/invoke/MethodHandle" ∧ y.cls ≠ "java/lang/invoke/VarHandle") (hf : rm.frames + 1 ≤ R.frames) (hl : W + (maxL + 11) + rm.locals ≤ R.locals) (hc : cells + rm.cells ≤ R.cells) (hsl : slots + rm.slots ≤ R.slots)
    {a : Addr} {argsL rest : List Value} {ps : List FieldType} {r : Option FieldType} (hpd : parseMethodDescriptor y.desc = some ⟨ps, r⟩) (hlen : argsL.length = ps.length) (has : (.ref a :: argsL).toArray = as') (hst : st = argsL.reverse ++ .ref a :: rest) (hW : (rest.map fun v => v.category).sum ≤ W) (hd : decode c.code pc = .ok (.invokespecial i, 3)) (hp : pc + 3 = pc')
    (k : ∀ (v : Option Value) (T' : State) (L : List Loc), Stand p l e R s m args below meth c T' (locs ++ L) (cells + rm.cells) (slots + rm.slots) → Qc v T'.heap L → Wp p e s below C S Q T' (mkF m pc' Ls (v.toList ++ rest))) : Wp p e s below C S Q T (mkF m pc Ls st) := by
  obtain ⟨v, _, ⟨T1, L1, k1, n1⟩, -, X1, ⟨Lc1, hQ1, l1, y1, z1⟩, st1⟩ := X.specialBack hx (y := y) hy1 hown (mvT hZ w1) (mvT hZ w2) (mvT hZ w4) hy (backOf (W := W) hM hZ w4 w3 hf hl) (g := mkF m pc Ls st) rfl hml (Steps.refl _) (a := a) (argsL := argsL) (rest := rest) (lenOf hpd hlen) hst (by show 2 * 0 + _ ≤ _; omega) hd (fun _ _ => ⟨has, eT, hc, hsl⟩)
  dsimp only [Pt.U, Pt.locs, Pt.cells, Pt.slots] at X1 l1 y1 z1 st1 hQ1
  subst l1 y1 z1
  subst hp
  exact Wp.via (fun _ h => st1.trans h) (k v T1 Lc1 X1 hQ1)
theorem own_callV (X : Stand p l e R s m args below meth c T locs cells slots) (hx : p.tables.exec = Jvm.exec) {h : Heap} (hZ : Z.Warmed39 s.vm) (eT : T.heap = h) {own K : String} {i : Nat} {y : MethodName} {bytes : ByteArray} {maxL : Nat} {ret : Option FieldType} {rm : Room} {W : Nat} {as' : Array Value} {Qc : Option Value → Heap → List Loc → Prop}
    (hown : s.vm.findClass own = some m.cls) (hml : Ls.size = c.maxLocals) (w1 : (Jvm.Cond.methodLink own i y).before a0 Z = true) (w2 : (Jvm.Cond.declares y).before a0 Z = true) (w5 : (Jvm.Cond.selects K y y).before a0 Z = true) (w6 : (Jvm.Cond.instanceMethod y).before a0 Z = true) (w3 : (Jvm.Cond.initialized y.cls).before a0 Z = true) (w4 : (Jvm.Cond.code y bytes maxL ret).before a0 Z = true)
    (hM : MetFree l y (head1 [Jvm.Cond.code y bytes maxL ret] rm) (fun a U => a = as' ∧ Z.Warmed39 U.vm ∧ U.heap = h) (fun _ _ _ _ _ => True) (fun _ U o U' => ∃ v L, o = .returned v ∧ Qc v U'.heap L ∧ FrameEnd U o U' L rm.cells rm.slots))
    {a : Addr} (E : Exa Z h a K) (hy : y.cls ≠ "java/lang/invoke/MethodHandle" ∧ y.cls ≠ "java/lang/invoke/VarHandle") (hf : rm.frames + 1 ≤ R.frames) (hl : W + (maxL + 11) + rm.locals ≤ R.locals) (hc : cells + rm.cells ≤ R.cells) (hsl : slots + rm.slots ≤ R.slots)
    {argsL rest : List Value} {ps : List FieldType} {r : Option FieldType} (hpd : parseMethodDescriptor y.desc = some ⟨ps, r⟩) (hlen : argsL.length = ps.length) (has : (.ref a :: argsL).toArray = as') (hst : st = argsL.reverse ++ .ref a :: rest) (hW : (rest.map fun v => v.category).sum ≤ W) (hd : decode c.code pc = .ok (.invokevirtual i, 3)) (hp : pc + 3 = pc')
    (k : ∀ (v : Option Value) (T' : State) (L : List Loc), Stand p l e R s m args below meth c T' (locs ++ L) (cells + rm.cells) (slots + rm.slots) → Qc v T'.heap L → Wp p e s below C S Q T' (mkF m pc' Ls (v.toList ++ rest))) : Wp p e s below C S Q T (mkF m pc Ls st) := by
  obtain ⟨cq, kq, qa, qb, qc⟩ := isOf hZ eT E
  obtain ⟨v, _, ⟨T1, L1, k1, n1⟩, -, X1, ⟨Lc1, hQ1, l1, y1, z1⟩, st1⟩ := X.virtualBack hx (y := y) (z := y) hown (mvT hZ w1) (mvT hZ w2) (notFace_of_selects (args := #[]) (mvT hZ w5)) (mvT hZ w5) (mvT hZ w6) hy (backOf (W := W) hM hZ w4 w3 hf hl) qa qc (g := mkF m pc Ls st) rfl hml (Steps.refl _) (argsL := argsL) (rest := rest) (lenOf hpd hlen) hst (by show 2 * 0 + _ ≤ _; omega) hd (fun _ _ => ⟨has, eT, hc, hsl⟩)
  dsimp only [Pt.U, Pt.locs, Pt.cells, Pt.slots] at X1 l1 y1 z1 st1 hQ1
  subst l1 y1 z1
  subst hp
  exact Wp.via (fun _ h => st1.trans h) (k v T1 Lc1 X1 hQ1)
theorem w_clone (X : Stand p l e R s m args below meth c T locs cells slots) (hx : p.tables.exec = Jvm.exec) (hZ : Z.Warmed39 s.vm) {own ad : String} {idx : Nat} (hown : s.vm.findClass own = some m.cls) (hml : Ls.size = c.maxLocals)
    (w1 : (Jvm.Cond.methodLink own idx ⟨ad, "clone", "()Ljava/lang/Object;"⟩).before a0 Z = true) (w2 : (Jvm.Cond.sameMethod ad "java/lang/Object" "clone" "()Ljava/lang/Object;").before a0 Z = true) (w3 : (Jvm.Cond.native ⟨"java/lang/Object", "clone", "()Ljava/lang/Object;"⟩).before a0 Z = true)
    (w4 : (Jvm.Cond.instanceMethod ⟨"java/lang/Object", "clone", "()Ljava/lang/Object;"⟩).before a0 Z = true) (w5 : (Jvm.Cond.selects ad ⟨ad, "clone", "()Ljava/lang/Object;"⟩ ⟨"java/lang/Object", "clone", "()Ljava/lang/Object;"⟩).before a0 Z = true) (w6 : (Jvm.Cond.castable ad "java/lang/Cloneable").before a0 Z = true)
    (P : HP n0 T.heap cs) {i : Nat} {kA : ClassId} {vs : List Value} {ty : FieldType} (q : cs[i]? = some (AC kA vs)) (hk : IsA Z kA ty) (had : "[" ++ ty.toString = ad) (hfit : ∀ v ∈ vs, fits ty v = true) (hd : decode c.code pc = .ok (.invokevirtual idx, 3)) (hf : 1 ≤ R.frames) {W N j : Nat} (hW : (st.map fun v => v.category).sum ≤ W) (hl : W + 14 ≤ R.locals) (hN : vs.length = N) (hc : cells + 1 ≤ R.cells) (hsl : slots + N ≤ R.slots) (hj : cs.length = j) (hp : pc + 3 = pc')
    (k : ∀ (T' : State), Stand p l e R s m args below meth c T' locs (cells + 1) (slots + N) → HP n0 T'.heap (cs ++ [AC kA vs]) → Wp p e s below C S Q T' (mkF m pc' Ls (.ref (n0 + j) :: st))) : Wp p e s below C S Q T (mkF m pc Ls (.ref (n0 + i) :: st)) := by
  subst hp hj hN
  have A := P.arr q hk
  have E := P.exaA q hk had
  have F : FitC Z (AC kA vs) := fitC_of A fun i hi v hv => hfit v (by simp [AC] at hv; exact List.mem_of_getElem? hv)
  obtain ⟨c1, cC, g1, g2, g3⟩ := Cond.castable_spec w6
  have e2 : Z.vm.findClass ad = some (AC kA vs).cls := by rw [← had]; exact hk.2
  cases e2.symm.trans g1
  have hal : Z.vm.Alike T.vm := hZ.alike.trans X.warmed.alike
  obtain ⟨vm', X', st1⟩ := X.cloneArray hx hown (mv hZ w1) (mv hZ w2) (mv hZ w3) (mv hZ w4) (mv hZ w5) (a := n0 + i) A.1 A.2.1.1 A.2.2 (by rw [hZ.alike.findClass]; exact e2) (by rw [hZ.alike.findClass]; exact g2) (by rw [hZ.alike.assignable]; exact g3)
    (fun i v hv => by have q := F i v hv; rw [← State.fitsSlot_setVm hal] at q; exact q) (g := mkF m pc Ls (.ref (n0 + i) :: st)) rfl hml rfl hd hf (by show 2 * 0 + _ + 14 ≤ _; omega) hc (by simpa [AC] using hsl)
    (by obtain ⟨-, k2, hk2, comp, hkind⟩ := A.2.1; rw [hZ.alike.clonesLoader]; exact Vm.clonesLoader_of_array hk2 hkind)
  rw [P.1] at st1
  have es : (AC kA vs).slots.size = vs.length := by simp [AC]
  rw [es] at X'
  exact Wp.via st1 (k _ X' (P.push _))
theorem w_ccastA (X : Stand p l e R s m args below meth c T locs cells slots) (hx : p.tables.exec = Jvm.exec) (hZ : Z.Warmed39 s.vm) {own ad : String} {idx : Nat} (hown : s.vm.findClass own = some m.cls) (w : (Jvm.Cond.classLink own idx ad).before a0 Z = true) (P : HP n0 T.heap cs) {i : Nat} {kA : ClassId} {vs : List Value} {ty : FieldType} (q : cs[i]? = some (AC kA vs)) (hk : IsA Z kA ty) (had : "[" ++ ty.toString = ad) (hd : decode c.code pc = .ok (.checkcast idx, 3)) (hp : pc + 3 = pc')
    (k : ∀ (T' : State), Stand p l e R s m args below meth c T' locs cells slots → HP n0 T'.heap cs → Wp p e s below C S Q T' (mkF m pc' Ls (.ref (n0 + i) :: st))) : Wp p e s below C S Q T (mkF m pc Ls (.ref (n0 + i) :: st)) := by
  subst hp
  obtain ⟨T', X', eh, st1⟩ := castY X hx hZ hown w rfl (Ins.self (P.exaA q hk had)) (g := mkF m pc Ls (.ref (n0 + i) :: st)) rfl rfl hd
  exact Wp.via st1 (k T' X' (by rw [eh]; exact P))
theorem w_ialoadL (X : Stand p l e R s m args below meth c T locs cells slots) (hx : p.tables.exec = Jvm.exec) (hZ : Z.Warmed39 s.vm) (P : HP n0 T.heap cs) {i : Nat} {kA : ClassId} {ll : List Int32} (q : cs[i]? = some (AC kA (List.map Value.int ll))) (hk : IsA Z kA .int) (hd : decode c.code pc = .ok (.iaload, 1)) {j : Int32} {jn : Nat} (hj : j.toInt = (jn : Int)) (hl : jn < ll.length) (hp : pc + 1 = pc')
    (k : Wp p e s below C S Q T (mkF m pc' Ls (.int (ll.getD jn 0) :: st))) : Wp p e s below C S Q T (mkF m pc Ls (.int j :: .ref (n0 + i) :: st)) :=
  w_iaload X hx hZ P q hk hd hj (own_get hl) hp k
theorem w_laloadL (X : Stand p l e R s m args below meth c T locs cells slots) (hx : p.tables.exec = Jvm.exec) (hZ : Z.Warmed39 s.vm) (P : HP n0 T.heap cs) {i : Nat} {kA : ClassId} {ll : List Int64} (q : cs[i]? = some (AC kA (List.map Value.long ll))) (hk : IsA Z kA .long) (hd : decode c.code pc = .ok (.laload, 1)) {j : Int32} {jn : Nat} (hj : j.toInt = (jn : Int)) (hl : jn < ll.length) (hp : pc + 1 = pc')
    (k : Wp p e s below C S Q T (mkF m pc' Ls (.long (ll.getD jn 0) :: st))) : Wp p e s below C S Q T (mkF m pc Ls (.int j :: .ref (n0 + i) :: st)) :=
  w_laload X hx hZ P q hk hd hj (own_get hl) hp k
theorem w_baloadL (X : Stand p l e R s m args below meth c T locs cells slots) (hx : p.tables.exec = Jvm.exec) (hZ : Z.Warmed39 s.vm) (P : HP n0 T.heap cs) {i : Nat} {kA : ClassId} {ll : List Int32} (q : cs[i]? = some (AC kA (List.map Value.int ll))) (hk : IsA Z kA .byte) (hd : decode c.code pc = .ok (.baload, 1)) {j : Int32} {jn : Nat} (hj : j.toInt = (jn : Int)) (hl : jn < ll.length) (hp : pc + 1 = pc')
    (k : Wp p e s below C S Q T (mkF m pc' Ls (.int (ll.getD jn 0) :: st))) : Wp p e s below C S Q T (mkF m pc Ls (.int j :: .ref (n0 + i) :: st)) :=
  w_baload X hx hZ P q hk hd hj (own_get hl) hp k
theorem w_iastoreL (X : Stand p l e R s m args below meth c T locs cells slots) (hx : p.tables.exec = Jvm.exec) (hZ : Z.Warmed39 s.vm) (N : Fr n0 locs) (P : HP n0 T.heap cs) {i : Nat} {kA : ClassId} {ll : List Int32} (q : cs[i]? = some (AC kA (List.map Value.int ll))) (hk : IsA Z kA .int) (hd : decode c.code pc = .ok (.iastore, 1)) {j : Int32} {x : Int32} {jn : Nat} (hj : j.toInt = (jn : Int)) (hl : jn < ll.length) (hp : pc + 1 = pc')
    (k : ∀ (T' : State) (L' : List Loc), Fr n0 L' → Stand p l e R s m args below meth c T' L' cells slots → HP n0 T'.heap (cs.set i (AC kA (List.map Value.int (ll.set jn x)))) → Wp p e s below C S Q T' (mkF m pc' Ls st)) : Wp p e s below C S Q T (mkF m pc Ls (.int x :: .int j :: .ref (n0 + i) :: st)) :=
  w_iastore X hx hZ N P q hk hd hj (by simpa using hl) hp (fun T' L' N' X' P' => k T' L' N' X' (by rw [List.map_set]; exact P'))
theorem w_lastoreL (X : Stand p l e R s m args below meth c T locs cells slots) (hx : p.tables.exec = Jvm.exec) (hZ : Z.Warmed39 s.vm) (N : Fr n0 locs) (P : HP n0 T.heap cs) {i : Nat} {kA : ClassId} {ll : List Int64} (q : cs[i]? = some (AC kA (List.map Value.long ll))) (hk : IsA Z kA .long) (hd : decode c.code pc = .ok (.lastore, 1)) {j : Int32} {x : Int64} {jn : Nat} (hj : j.toInt = (jn : Int)) (hl : jn < ll.length) (hp : pc + 1 = pc')
    (k : ∀ (T' : State) (L' : List Loc), Fr n0 L' → Stand p l e R s m args below meth c T' L' cells slots → HP n0 T'.heap (cs.set i (AC kA (List.map Value.long (ll.set jn x)))) → Wp p e s below C S Q T' (mkF m pc' Ls st)) : Wp p e s below C S Q T (mkF m pc Ls (.long x :: .int j :: .ref (n0 + i) :: st)) :=
  w_lastore X hx hZ N P q hk hd hj (by simpa using hl) hp (fun T' L' N' X' P' => k T' L' N' X' (by rw [List.map_set]; exact P'))
theorem w_bastoreEL (X : Stand p l e R s m args below meth c T locs cells slots) (hx : p.tables.exec = Jvm.exec) (hZ : Z.Warmed39 s.vm) (N : Fr n0 locs) (P : HP n0 T.heap cs) {i : Nat} {kA : ClassId} {ll : List Int32} (q : cs[i]? = some (AC kA (List.map Value.int ll))) (hk : IsA Z kA .byte) (hd : decode c.code pc = .ok (.bastore, 1)) {j : Int32} {x : Int32} {z : Int32} (hz : nar .byte x = z) {jn : Nat} (hj : j.toInt = (jn : Int)) (hl : jn < ll.length) (hp : pc + 1 = pc')
    (k : ∀ (T' : State) (L' : List Loc), Fr n0 L' → Stand p l e R s m args below meth c T' L' cells slots → HP n0 T'.heap (cs.set i (AC kA (List.map Value.int (ll.set jn z)))) → Wp p e s below C S Q T' (mkF m pc' Ls st)) : Wp p e s below C S Q T (mkF m pc Ls (.int x :: .int j :: .ref (n0 + i) :: st)) :=
  w_bastoreE X hx hZ N P q hk hd hz hj (by simpa using hl) hp (fun T' L' N' X' P' => k T' L' N' X' (by rw [List.map_set]; exact P'))
end OwnH
/-! small numbers -/
theorem own_small {x : Int32} {n : Nat} (h0 : 0 ≤ x.toInt) (h1 : x.toInt < n) (hn : n ≤ 2147483648) : ∃ k : Nat, k < n ∧ x = Int32.ofNat k := by
  refine ⟨x.toInt.toNat, by omega, Int32.toInt_inj.mp ?_⟩
  rw [Int32.toInt_ofNat_of_lt (by omega)]
  omega
theorem own_mask (a : Int32) : 0 ≤ (a &&& 2147483647).toInt ∧ (a &&& 2147483647).toInt < 2147483648 := by
  have h := c_mask a 2147483647 31 (by decide) (by decide)
  omega
theorem own_rem (a d : Int32) (D : Nat) (hd : d.toInt = (D : Int)) (h0 : 0 < D) : ∃ k : Nat, k < D ∧ (a &&& 2147483647) % d = Int32.ofNat k := by
  have h := own_mask a
  have h2 := (c_irem (a &&& 2147483647) d D hd).1 h.1
  have h3 := Int.emod_nonneg (a &&& 2147483647).toInt (b := (D : Int)) (by omega)
  have h4 := Int.emod_lt_of_pos (a &&& 2147483647).toInt (b := (D : Int)) (by omega)
  have h5 := d.toInt_lt
  exact own_small (by omega) (by omega) (by omega)
theorem own_remP (y d : Int32) (D : Nat) (h0 : 0 ≤ y.toInt) (hd : d.toInt = (D : Int)) (h1 : 0 < D) : ∃ k : Nat, k < D ∧ y % d = Int32.ofNat k := by
  have h2 := (c_irem y d D hd).1 h0
  have h3 := Int.emod_nonneg y.toInt (b := (D : Int)) (by omega)
  have h4 := Int.emod_lt_of_pos y.toInt (b := (D : Int)) (by omega)
  have h5 := d.toInt_lt
  exact own_small (by omega) (by omega) (by omega)
theorem own_andk (a m : Int32) (M : Nat) (hm : m.toInt = (M : Int)) : ∃ k : Nat, k < M + 1 ∧ a &&& m = Int32.ofNat k := by
  have h := c_and a m (by omega)
  have h5 := m.toInt_lt
  exact own_small h.1 (by omega) (by omega)
theorem own_c1 {x : Int32} (h : ∃ k : Nat, k < 1 ∧ x = Int32.ofNat k) : x = 0 := by
  obtain ⟨k, hk, e⟩ := h
  obtain rfl : k = 0 := by omega
  exact e
theorem own_c2 {x : Int32} (h : ∃ k : Nat, k < 2 ∧ x = Int32.ofNat k) : x = 0 ∨ x = 1 := by
  obtain ⟨k, hk, e⟩ := h
  have q : k = 0 ∨ k = 1 := by omega
  rcases q with rfl | rfl
  · exact Or.inl e
  · exact Or.inr (e)
theorem own_c3 {x : Int32} (h : ∃ k : Nat, k < 3 ∧ x = Int32.ofNat k) : x = 0 ∨ x = 1 ∨ x = 2 := by
  obtain ⟨k, hk, e⟩ := h
  have q : k = 0 ∨ k = 1 ∨ k = 2 := by omega
  rcases q with rfl | rfl | rfl
  · exact Or.inl e
  · exact Or.inr (Or.inl e)
  · exact Or.inr (Or.inr (e))
theorem own_c4 {x : Int32} (h : ∃ k : Nat, k < 4 ∧ x = Int32.ofNat k) : x = 0 ∨ x = 1 ∨ x = 2 ∨ x = 3 := by
  obtain ⟨k, hk, e⟩ := h
  have q : k = 0 ∨ k = 1 ∨ k = 2 ∨ k = 3 := by omega
  rcases q with rfl | rfl | rfl | rfl
  · exact Or.inl e
  · exact Or.inr (Or.inl e)
  · exact Or.inr (Or.inr (Or.inl e))
  · exact Or.inr (Or.inr (Or.inr (e)))
theorem own_c5 {x : Int32} (h : ∃ k : Nat, k < 5 ∧ x = Int32.ofNat k) : x = 0 ∨ x = 1 ∨ x = 2 ∨ x = 3 ∨ x = 4 := by
  obtain ⟨k, hk, e⟩ := h
  have q : k = 0 ∨ k = 1 ∨ k = 2 ∨ k = 3 ∨ k = 4 := by omega
  rcases q with rfl | rfl | rfl | rfl | rfl
  · exact Or.inl e
  · exact Or.inr (Or.inl e)
  · exact Or.inr (Or.inr (Or.inl e))
  · exact Or.inr (Or.inr (Or.inr (Or.inl e)))
  · exact Or.inr (Or.inr (Or.inr (Or.inr (e))))
theorem own_c6 {x : Int32} (h : ∃ k : Nat, k < 6 ∧ x = Int32.ofNat k) : x = 0 ∨ x = 1 ∨ x = 2 ∨ x = 3 ∨ x = 4 ∨ x = 5 := by
  obtain ⟨k, hk, e⟩ := h
  have q : k = 0 ∨ k = 1 ∨ k = 2 ∨ k = 3 ∨ k = 4 ∨ k = 5 := by omega
  rcases q with rfl | rfl | rfl | rfl | rfl | rfl
  · exact Or.inl e
  · exact Or.inr (Or.inl e)
  · exact Or.inr (Or.inr (Or.inl e))
  · exact Or.inr (Or.inr (Or.inr (Or.inl e)))
  · exact Or.inr (Or.inr (Or.inr (Or.inr (Or.inl e))))
  · exact Or.inr (Or.inr (Or.inr (Or.inr (Or.inr (e)))))
theorem own_c7 {x : Int32} (h : ∃ k : Nat, k < 7 ∧ x = Int32.ofNat k) : x = 0 ∨ x = 1 ∨ x = 2 ∨ x = 3 ∨ x = 4 ∨ x = 5 ∨ x = 6 := by
  obtain ⟨k, hk, e⟩ := h
  have q : k = 0 ∨ k = 1 ∨ k = 2 ∨ k = 3 ∨ k = 4 ∨ k = 5 ∨ k = 6 := by omega
  rcases q with rfl | rfl | rfl | rfl | rfl | rfl | rfl
  · exact Or.inl e
  · exact Or.inr (Or.inl e)
  · exact Or.inr (Or.inr (Or.inl e))
  · exact Or.inr (Or.inr (Or.inr (Or.inl e)))
  · exact Or.inr (Or.inr (Or.inr (Or.inr (Or.inl e))))
  · exact Or.inr (Or.inr (Or.inr (Or.inr (Or.inr (Or.inl e)))))
  · exact Or.inr (Or.inr (Or.inr (Or.inr (Or.inr (Or.inr (e))))))
theorem own_c8 {x : Int32} (h : ∃ k : Nat, k < 8 ∧ x = Int32.ofNat k) : x = 0 ∨ x = 1 ∨ x = 2 ∨ x = 3 ∨ x = 4 ∨ x = 5 ∨ x = 6 ∨ x = 7 := by
  obtain ⟨k, hk, e⟩ := h
  have q : k = 0 ∨ k = 1 ∨ k = 2 ∨ k = 3 ∨ k = 4 ∨ k = 5 ∨ k = 6 ∨ k = 7 := by omega
  rcases q with rfl | rfl | rfl | rfl | rfl | rfl | rfl | rfl
  · exact Or.inl e
  · exact Or.inr (Or.inl e)
  · exact Or.inr (Or.inr (Or.inl e))
  · exact Or.inr (Or.inr (Or.inr (Or.inl e)))
  · exact Or.inr (Or.inr (Or.inr (Or.inr (Or.inl e))))
  · exact Or.inr (Or.inr (Or.inr (Or.inr (Or.inr (Or.inl e)))))
  · exact Or.inr (Or.inr (Or.inr (Or.inr (Or.inr (Or.inr (Or.inl e))))))
  · exact Or.inr (Or.inr (Or.inr (Or.inr (Or.inr (Or.inr (Or.inr (e)))))))
theorem own_c9 {x : Int32} (h : ∃ k : Nat, k < 9 ∧ x = Int32.ofNat k) : x = 0 ∨ x = 1 ∨ x = 2 ∨ x = 3 ∨ x = 4 ∨ x = 5 ∨ x = 6 ∨ x = 7 ∨ x = 8 := by
  obtain ⟨k, hk, e⟩ := h
  have q : k = 0 ∨ k = 1 ∨ k = 2 ∨ k = 3 ∨ k = 4 ∨ k = 5 ∨ k = 6 ∨ k = 7 ∨ k = 8 := by omega
  rcases q with rfl | rfl | rfl | rfl | rfl | rfl | rfl | rfl | rfl
  · exact Or.inl e
  · exact Or.inr (Or.inl e)
  · exact Or.inr (Or.inr (Or.inl e))
  · exact Or.inr (Or.inr (Or.inr (Or.inl e)))
  · exact Or.inr (Or.inr (Or.inr (Or.inr (Or.inl e))))
  · exact Or.inr (Or.inr (Or.inr (Or.inr (Or.inr (Or.inl e)))))
  · exact Or.inr (Or.inr (Or.inr (Or.inr (Or.inr (Or.inr (Or.inl e))))))
  · exact Or.inr (Or.inr (Or.inr (Or.inr (Or.inr (Or.inr (Or.inr (Or.inl e)))))))
  · exact Or.inr (Or.inr (Or.inr (Or.inr (Or.inr (Or.inr (Or.inr (Or.inr (e))))))))
theorem own_c10 {x : Int32} (h : ∃ k : Nat, k < 10 ∧ x = Int32.ofNat k) : x = 0 ∨ x = 1 ∨ x = 2 ∨ x = 3 ∨ x = 4 ∨ x = 5 ∨ x = 6 ∨ x = 7 ∨ x = 8 ∨ x = 9 := by
  obtain ⟨k, hk, e⟩ := h
  have q : k = 0 ∨ k = 1 ∨ k = 2 ∨ k = 3 ∨ k = 4 ∨ k = 5 ∨ k = 6 ∨ k = 7 ∨ k = 8 ∨ k = 9 := by omega
  rcases q with rfl | rfl | rfl | rfl | rfl | rfl | rfl | rfl | rfl | rfl
  · exact Or.inl e
  · exact Or.inr (Or.inl e)
  · exact Or.inr (Or.inr (Or.inl e))
  · exact Or.inr (Or.inr (Or.inr (Or.inl e)))
  · exact Or.inr (Or.inr (Or.inr (Or.inr (Or.inl e))))
  · exact Or.inr (Or.inr (Or.inr (Or.inr (Or.inr (Or.inl e)))))
  · exact Or.inr (Or.inr (Or.inr (Or.inr (Or.inr (Or.inr (Or.inl e))))))
  · exact Or.inr (Or.inr (Or.inr (Or.inr (Or.inr (Or.inr (Or.inr (Or.inl e)))))))
  · exact Or.inr (Or.inr (Or.inr (Or.inr (Or.inr (Or.inr (Or.inr (Or.inr (Or.inl e))))))))
  · exact Or.inr (Or.inr (Or.inr (Or.inr (Or.inr (Or.inr (Or.inr (Or.inr (Or.inr (e)))))))))
theorem own_c11 {x : Int32} (h : ∃ k : Nat, k < 11 ∧ x = Int32.ofNat k) : x = 0 ∨ x = 1 ∨ x = 2 ∨ x = 3 ∨ x = 4 ∨ x = 5 ∨ x = 6 ∨ x = 7 ∨ x = 8 ∨ x = 9 ∨ x = 10 := by
  obtain ⟨k, hk, e⟩ := h
  have q : k = 0 ∨ k = 1 ∨ k = 2 ∨ k = 3 ∨ k = 4 ∨ k = 5 ∨ k = 6 ∨ k = 7 ∨ k = 8 ∨ k = 9 ∨ k = 10 := by omega
  rcases q with rfl | rfl | rfl | rfl | rfl | rfl | rfl | rfl | rfl | rfl | rfl
  · exact Or.inl e
  · exact Or.inr (Or.inl e)
  · exact Or.inr (Or.inr (Or.inl e))
  · exact Or.inr (Or.inr (Or.inr (Or.inl e)))
  · exact Or.inr (Or.inr (Or.inr (Or.inr (Or.inl e))))
  · exact Or.inr (Or.inr (Or.inr (Or.inr (Or.inr (Or.inl e)))))
  · exact Or.inr (Or.inr (Or.inr (Or.inr (Or.inr (Or.inr (Or.inl e))))))
  · exact Or.inr (Or.inr (Or.inr (Or.inr (Or.inr (Or.inr (Or.inr (Or.inl e)))))))
  · exact Or.inr (Or.inr (Or.inr (Or.inr (Or.inr (Or.inr (Or.inr (Or.inr (Or.inl e))))))))
  · exact Or.inr (Or.inr (Or.inr (Or.inr (Or.inr (Or.inr (Or.inr (Or.inr (Or.inr (Or.inl e)))))))))
  · exact Or.inr (Or.inr (Or.inr (Or.inr (Or.inr (Or.inr (Or.inr (Or.inr (Or.inr (Or.inr (e))))))))))
theorem own_c12 {x : Int32} (h : ∃ k : Nat, k < 12 ∧ x = Int32.ofNat k) : x = 0 ∨ x = 1 ∨ x = 2 ∨ x = 3 ∨ x = 4 ∨ x = 5 ∨ x = 6 ∨ x = 7 ∨ x = 8 ∨ x = 9 ∨ x = 10 ∨ x = 11 := by
  obtain ⟨k, hk, e⟩ := h
  have q : k = 0 ∨ k = 1 ∨ k = 2 ∨ k = 3 ∨ k = 4 ∨ k = 5 ∨ k = 6 ∨ k = 7 ∨ k = 8 ∨ k = 9 ∨ k = 10 ∨ k = 11 := by omega
  rcases q with rfl | rfl | rfl | rfl | rfl | rfl | rfl | rfl | rfl | rfl | rfl | rfl
  · exact Or.inl e
  · exact Or.inr (Or.inl e)
  · exact Or.inr (Or.inr (Or.inl e))
  · exact Or.inr (Or.inr (Or.inr (Or.inl e)))
  · exact Or.inr (Or.inr (Or.inr (Or.inr (Or.inl e))))
  · exact Or.inr (Or.inr (Or.inr (Or.inr (Or.inr (Or.inl e)))))
  · exact Or.inr (Or.inr (Or.inr (Or.inr (Or.inr (Or.inr (Or.inl e))))))
  · exact Or.inr (Or.inr (Or.inr (Or.inr (Or.inr (Or.inr (Or.inr (Or.inl e)))))))
  · exact Or.inr (Or.inr (Or.inr (Or.inr (Or.inr (Or.inr (Or.inr (Or.inr (Or.inl e))))))))
  · exact Or.inr (Or.inr (Or.inr (Or.inr (Or.inr (Or.inr (Or.inr (Or.inr (Or.inr (Or.inl e)))))))))
  · exact Or.inr (Or.inr (Or.inr (Or.inr (Or.inr (Or.inr (Or.inr (Or.inr (Or.inr (Or.inr (Or.inl e))))))))))
  · exact Or.inr (Or.inr (Or.inr (Or.inr (Or.inr (Or.inr (Or.inr (Or.inr (Or.inr (Or.inr (Or.inr (e)))))))))))
theorem own_c13 {x : Int32} (h : ∃ k : Nat, k < 13 ∧ x = Int32.ofNat k) : x = 0 ∨ x = 1 ∨ x = 2 ∨ x = 3 ∨ x = 4 ∨ x = 5 ∨ x = 6 ∨ x = 7 ∨ x = 8 ∨ x = 9 ∨ x = 10 ∨ x = 11 ∨ x = 12 := by
  obtain ⟨k, hk, e⟩ := h
  have q : k = 0 ∨ k = 1 ∨ k = 2 ∨ k = 3 ∨ k = 4 ∨ k = 5 ∨ k = 6 ∨ k = 7 ∨ k = 8 ∨ k = 9 ∨ k = 10 ∨ k = 11 ∨ k = 12 := by omega
  rcases q with rfl | rfl | rfl | rfl | rfl | rfl | rfl | rfl | rfl | rfl | rfl | rfl | rfl
  · exact Or.inl e
  · exact Or.inr (Or.inl e)
  · exact Or.inr (Or.inr (Or.inl e))
  · exact Or.inr (Or.inr (Or.inr (Or.inl e)))
  · exact Or.inr (Or.inr (Or.inr (Or.inr (Or.inl e))))
  · exact Or.inr (Or.inr (Or.inr (Or.inr (Or.inr (Or.inl e)))))
  · exact Or.inr (Or.inr (Or.inr (Or.inr (Or.inr (Or.inr (Or.inl e))))))
  · exact Or.inr (Or.inr (Or.inr (Or.inr (Or.inr (Or.inr (Or.inr (Or.inl e)))))))
  · exact Or.inr (Or.inr (Or.inr (Or.inr (Or.inr (Or.inr (Or.inr (Or.inr (Or.inl e))))))))
  · exact Or.inr (Or.inr (Or.inr (Or.inr (Or.inr (Or.inr (Or.inr (Or.inr (Or.inr (Or.inl e)))))))))
  · exact Or.inr (Or.inr (Or.inr (Or.inr (Or.inr (Or.inr (Or.inr (Or.inr (Or.inr (Or.inr (Or.inl e))))))))))
  · exact Or.inr (Or.inr (Or.inr (Or.inr (Or.inr (Or.inr (Or.inr (Or.inr (Or.inr (Or.inr (Or.inr (Or.inl e)))))))))))
  · exact Or.inr (Or.inr (Or.inr (Or.inr (Or.inr (Or.inr (Or.inr (Or.inr (Or.inr (Or.inr (Or.inr (Or.inr (e))))))))))))
theorem own_c14 {x : Int32} (h : ∃ k : Nat, k < 14 ∧ x = Int32.ofNat k) : x = 0 ∨ x = 1 ∨ x = 2 ∨ x = 3 ∨ x = 4 ∨ x = 5 ∨ x = 6 ∨ x = 7 ∨ x = 8 ∨ x = 9 ∨ x = 10 ∨ x = 11 ∨ x = 12 ∨ x = 13 := by
  obtain ⟨k, hk, e⟩ := h
  have q : k = 0 ∨ k = 1 ∨ k = 2 ∨ k = 3 ∨ k = 4 ∨ k = 5 ∨ k = 6 ∨ k = 7 ∨ k = 8 ∨ k = 9 ∨ k = 10 ∨ k = 11 ∨ k = 12 ∨ k = 13 := by omega
  rcases q with rfl | rfl | rfl | rfl | rfl | rfl | rfl | rfl | rfl | rfl | rfl | rfl | rfl | rfl
  · exact Or.inl e
  · exact Or.inr (Or.inl e)
  · exact Or.inr (Or.inr (Or.inl e))
  · exact Or.inr (Or.inr (Or.inr (Or.inl e)))
  · exact Or.inr (Or.inr (Or.inr (Or.inr (Or.inl e))))
  · exact Or.inr (Or.inr (Or.inr (Or.inr (Or.inr (Or.inl e)))))
  · exact Or.inr (Or.inr (Or.inr (Or.inr (Or.inr (Or.inr (Or.inl e))))))
  · exact Or.inr (Or.inr (Or.inr (Or.inr (Or.inr (Or.inr (Or.inr (Or.inl e)))))))
  · exact Or.inr (Or.inr (Or.inr (Or.inr (Or.inr (Or.inr (Or.inr (Or.inr (Or.inl e))))))))
  · exact Or.inr (Or.inr (Or.inr (Or.inr (Or.inr (Or.inr (Or.inr (Or.inr (Or.inr (Or.inl e)))))))))
  · exact Or.inr (Or.inr (Or.inr (Or.inr (Or.inr (Or.inr (Or.inr (Or.inr (Or.inr (Or.inr (Or.inl e))))))))))
  · exact Or.inr (Or.inr (Or.inr (Or.inr (Or.inr (Or.inr (Or.inr (Or.inr (Or.inr (Or.inr (Or.inr (Or.inl e)))))))))))
  · exact Or.inr (Or.inr (Or.inr (Or.inr (Or.inr (Or.inr (Or.inr (Or.inr (Or.inr (Or.inr (Or.inr (Or.inr (Or.inl e))))))))))))
  · exact Or.inr (Or.inr (Or.inr (Or.inr (Or.inr (Or.inr (Or.inr (Or.inr (Or.inr (Or.inr (Or.inr (Or.inr (Or.inr (e)))))))))))))
theorem own_c15 {x : Int32} (h : ∃ k : Nat, k < 15 ∧ x = Int32.ofNat k) : x = 0 ∨ x = 1 ∨ x = 2 ∨ x = 3 ∨ x = 4 ∨ x = 5 ∨ x = 6 ∨ x = 7 ∨ x = 8 ∨ x = 9 ∨ x = 10 ∨ x = 11 ∨ x = 12 ∨ x = 13 ∨ x = 14 := by
  obtain ⟨k, hk, e⟩ := h
  have q : k = 0 ∨ k = 1 ∨ k = 2 ∨ k = 3 ∨ k = 4 ∨ k = 5 ∨ k = 6 ∨ k = 7 ∨ k = 8 ∨ k = 9 ∨ k = 10 ∨ k = 11 ∨ k = 12 ∨ k = 13 ∨ k = 14 := by omega
  rcases q with rfl | rfl | rfl | rfl | rfl | rfl | rfl | rfl | rfl | rfl | rfl | rfl | rfl | rfl | rfl
  · exact Or.inl e
  · exact Or.inr (Or.inl e)
  · exact Or.inr (Or.inr (Or.inl e))
  · exact Or.inr (Or.inr (Or.inr (Or.inl e)))
  · exact Or.inr (Or.inr (Or.inr (Or.inr (Or.inl e))))
  · exact Or.inr (Or.inr (Or.inr (Or.inr (Or.inr (Or.inl e)))))
  · exact Or.inr (Or.inr (Or.inr (Or.inr (Or.inr (Or.inr (Or.inl e))))))
  · exact Or.inr (Or.inr (Or.inr (Or.inr (Or.inr (Or.inr (Or.inr (Or.inl e)))))))
  · exact Or.inr (Or.inr (Or.inr (Or.inr (Or.inr (Or.inr (Or.inr (Or.inr (Or.inl e))))))))
  · exact Or.inr (Or.inr (Or.inr (Or.inr (Or.inr (Or.inr (Or.inr (Or.inr (Or.inr (Or.inl e)))))))))
  · exact Or.inr (Or.inr (Or.inr (Or.inr (Or.inr (Or.inr (Or.inr (Or.inr (Or.inr (Or.inr (Or.inl e))))))))))
  · exact Or.inr (Or.inr (Or.inr (Or.inr (Or.inr (Or.inr (Or.inr (Or.inr (Or.inr (Or.inr (Or.inr (Or.inl e)))))))))))
  · exact Or.inr (Or.inr (Or.inr (Or.inr (Or.inr (Or.inr (Or.inr (Or.inr (Or.inr (Or.inr (Or.inr (Or.inr (Or.inl e))))))))))))
  · exact Or.inr (Or.inr (Or.inr (Or.inr (Or.inr (Or.inr (Or.inr (Or.inr (Or.inr (Or.inr (Or.inr (Or.inr (Or.inr (Or.inl e)))))))))))))
  · exact Or.inr (Or.inr (Or.inr (Or.inr (Or.inr (Or.inr (Or.inr (Or.inr (Or.inr (Or.inr (Or.inr (Or.inr (Or.inr (Or.inr (e))))))))))))))
theorem own_c16 {x : Int32} (h : ∃ k : Nat, k < 16 ∧ x = Int32.ofNat k) : x = 0 ∨ x = 1 ∨ x = 2 ∨ x = 3 ∨ x = 4 ∨ x = 5 ∨ x = 6 ∨ x = 7 ∨ x = 8 ∨ x = 9 ∨ x = 10 ∨ x = 11 ∨ x = 12 ∨ x = 13 ∨ x = 14 ∨ x = 15 := by
  obtain ⟨k, hk, e⟩ := h
  have q : k = 0 ∨ k = 1 ∨ k = 2 ∨ k = 3 ∨ k = 4 ∨ k = 5 ∨ k = 6 ∨ k = 7 ∨ k = 8 ∨ k = 9 ∨ k = 10 ∨ k = 11 ∨ k = 12 ∨ k = 13 ∨ k = 14 ∨ k = 15 := by omega
  rcases q with rfl | rfl | rfl | rfl | rfl | rfl | rfl | rfl | rfl | rfl | rfl | rfl | rfl | rfl | rfl | rfl
  · exact Or.inl e
  · exact Or.inr (Or.inl e)
  · exact Or.inr (Or.inr (Or.inl e))
  · exact Or.inr (Or.inr (Or.inr (Or.inl e)))
  · exact Or.inr (Or.inr (Or.inr (Or.inr (Or.inl e))))
  · exact Or.inr (Or.inr (Or.inr (Or.inr (Or.inr (Or.inl e)))))
  · exact Or.inr (Or.inr (Or.inr (Or.inr (Or.inr (Or.inr (Or.inl e))))))
  · exact Or.inr (Or.inr (Or.inr (Or.inr (Or.inr (Or.inr (Or.inr (Or.inl e)))))))
  · exact Or.inr (Or.inr (Or.inr (Or.inr (Or.inr (Or.inr (Or.inr (Or.inr (Or.inl e))))))))
  · exact Or.inr (Or.inr (Or.inr (Or.inr (Or.inr (Or.inr (Or.inr (Or.inr (Or.inr (Or.inl e)))))))))
  · exact Or.inr (Or.inr (Or.inr (Or.inr (Or.inr (Or.inr (Or.inr (Or.inr (Or.inr (Or.inr (Or.inl e))))))))))
  · exact Or.inr (Or.inr (Or.inr (Or.inr (Or.inr (Or.inr (Or.inr (Or.inr (Or.inr (Or.inr (Or.inr (Or.inl e)))))))))))
  · exact Or.inr (Or.inr (Or.inr (Or.inr (Or.inr (Or.inr (Or.inr (Or.inr (Or.inr (Or.inr (Or.inr (Or.inr (Or.inl e))))))))))))
  · exact Or.inr (Or.inr (Or.inr (Or.inr (Or.inr (Or.inr (Or.inr (Or.inr (Or.inr (Or.inr (Or.inr (Or.inr (Or.inr (Or.inl e)))))))))))))
  · exact Or.inr (Or.inr (Or.inr (Or.inr (Or.inr (Or.inr (Or.inr (Or.inr (Or.inr (Or.inr (Or.inr (Or.inr (Or.inr (Or.inr (Or.inl e))))))))))))))
  · exact Or.inr (Or.inr (Or.inr (Or.inr (Or.inr (Or.inr (Or.inr (Or.inr (Or.inr (Or.inr (Or.inr (Or.inr (Or.inr (Or.inr (Or.inr (e)))))))))))))))
theorem own_c17 {x : Int32} (h : ∃ k : Nat, k < 17 ∧ x = Int32.ofNat k) : x = 0 ∨ x = 1 ∨ x = 2 ∨ x = 3 ∨ x = 4 ∨ x = 5 ∨ x = 6 ∨ x = 7 ∨ x = 8 ∨ x = 9 ∨ x = 10 ∨ x = 11 ∨ x = 12 ∨ x = 13 ∨ x = 14 ∨ x = 15 ∨ x = 16 := by
  obtain ⟨k, hk, e⟩ := h
  have q : k = 0 ∨ k = 1 ∨ k = 2 ∨ k = 3 ∨ k = 4 ∨ k = 5 ∨ k = 6 ∨ k = 7 ∨ k = 8 ∨ k = 9 ∨ k = 10 ∨ k = 11 ∨ k = 12 ∨ k = 13 ∨ k = 14 ∨ k = 15 ∨ k = 16 := by omega
  rcases q with rfl | rfl | rfl | rfl | rfl | rfl | rfl | rfl | rfl | rfl | rfl | rfl | rfl | rfl | rfl | rfl | rfl
  · exact Or.inl e
  · exact Or.inr (Or.inl e)
  · exact Or.inr (Or.inr (Or.inl e))
  · exact Or.inr (Or.inr (Or.inr (Or.inl e)))
  · exact Or.inr (Or.inr (Or.inr (Or.inr (Or.inl e))))
  · exact Or.inr (Or.inr (Or.inr (Or.inr (Or.inr (Or.inl e)))))
  · exact Or.inr (Or.inr (Or.inr (Or.inr (Or.inr (Or.inr (Or.inl e))))))
  · exact Or.inr (Or.inr (Or.inr (Or.inr (Or.inr (Or.inr (Or.inr (Or.inl e)))))))
  · exact Or.inr (Or.inr (Or.inr (Or.inr (Or.inr (Or.inr (Or.inr (Or.inr (Or.inl e))))))))
  · exact Or.inr (Or.inr (Or.inr (Or.inr (Or.inr (Or.inr (Or.inr (Or.inr (Or.inr (Or.inl e)))))))))
  · exact Or.inr (Or.inr (Or.inr (Or.inr (Or.inr (Or.inr (Or.inr (Or.inr (Or.inr (Or.inr (Or.inl e))))))))))
  · exact Or.inr (Or.inr (Or.inr (Or.inr (Or.inr (Or.inr (Or.inr (Or.inr (Or.inr (Or.inr (Or.inr (Or.inl e)))))))))))
  · exact Or.inr (Or.inr (Or.inr (Or.inr (Or.inr (Or.inr (Or.inr (Or.inr (Or.inr (Or.inr (Or.inr (Or.inr (Or.inl e))))))))))))
  · exact Or.inr (Or.inr (Or.inr (Or.inr (Or.inr (Or.inr (Or.inr (Or.inr (Or.inr (Or.inr (Or.inr (Or.inr (Or.inr (Or.inl e)))))))))))))
  · exact Or.inr (Or.inr (Or.inr (Or.inr (Or.inr (Or.inr (Or.inr (Or.inr (Or.inr (Or.inr (Or.inr (Or.inr (Or.inr (Or.inr (Or.inl e))))))))))))))
  · exact Or.inr (Or.inr (Or.inr (Or.inr (Or.inr (Or.inr (Or.inr (Or.inr (Or.inr (Or.inr (Or.inr (Or.inr (Or.inr (Or.inr (Or.inr (Or.inl e)))))))))))))))
  · exact Or.inr (Or.inr (Or.inr (Or.inr (Or.inr (Or.inr (Or.inr (Or.inr (Or.inr (Or.inr (Or.inr (Or.inr (Or.inr (Or.inr (Or.inr (Or.inr (e))))))))))))))))
theorem wd0 {Z : State} {a0 : Array Value} (hw : ∀ d ∈ tables_1, d.before a0 Z = true) : (Jvm.Cond.constant "com/example/protomata/protomata/PartitionPairsAlikePinLaw" (7 : Nat) (2147483647 : Int32)).before a0 Z = true := hw _ (List.mem_of_getElem? (i := 0) rfl)
theorem wd1 {Z : State} {a0 : Array Value} (hw : ∀ d ∈ tables_1, d.before a0 Z = true) : (Jvm.Cond.arrayClass Jvm.ClassFile.FieldType.int).before a0 Z = true := hw _ (List.mem_of_getElem? (i := 1) rfl)
theorem wd2 {Z : State} {a0 : Array Value} (hw : ∀ d ∈ tables_1, d.before a0 Z = true) : (Jvm.Cond.methodLink "com/example/protomata/protomata/PartitionPairsAlikePinLaw" (8 : Nat) ({ cls := "com/example/protomata/protomata/PartitionPairsAlikePinLaw", name := "same", desc := "([IIII)J" } : Jvm.MethodName)).before a0 Z = true := hw _ (List.mem_of_getElem? (i := 2) rfl)
theorem wd3 {Z : State} {a0 : Array Value} (hw : ∀ d ∈ tables_1, d.before a0 Z = true) : (Jvm.Cond.static ({ cls := "com/example/protomata/protomata/PartitionPairsAlikePinLaw", name := "same", desc := "([IIII)J" } : Jvm.MethodName)).before a0 Z = true := hw _ (List.mem_of_getElem? (i := 3) rfl)
theorem wd4 {Z : State} {a0 : Array Value} (hw : ∀ d ∈ tables_1, d.before a0 Z = true) : (Jvm.Cond.initialized "com/example/protomata/protomata/PartitionPairsAlikePinLaw").before a0 Z = true := hw _ (List.mem_of_getElem? (i := 4) rfl)
theorem wd5 {Z : State} {a0 : Array Value} (hw : ∀ d ∈ tables_1, d.before a0 Z = true) : (Jvm.Cond.code ({ cls := "com/example/protomata/protomata/PartitionPairsAlikePinLaw", name := "same", desc := "([IIII)J" } : Jvm.MethodName) method_3_code (4 : Nat) (Option.some Jvm.ClassFile.FieldType.long)).before a0 Z = true := hw _ (List.mem_of_getElem? (i := 5) rfl)
theorem wd6 {Z : State} {a0 : Array Value} (hw : ∀ d ∈ tables_1, d.before a0 Z = true) : (Jvm.Cond.methodLink "com/example/protomata/protomata/PartitionPairsAlikePinLaw" (14 : Nat) ({ cls := "com/example/protomata/protomata/Partition", name := "pairsAlike", desc := "([I)J" } : Jvm.MethodName)).before a0 Z = true := hw _ (List.mem_of_getElem? (i := 6) rfl)
theorem wd7 {Z : State} {a0 : Array Value} (hw : ∀ d ∈ tables_1, d.before a0 Z = true) : (Jvm.Cond.static ({ cls := "com/example/protomata/protomata/Partition", name := "pairsAlike", desc := "([I)J" } : Jvm.MethodName)).before a0 Z = true := hw _ (List.mem_of_getElem? (i := 7) rfl)
theorem wd8 {Z : State} {a0 : Array Value} (hw : ∀ d ∈ tables_1, d.before a0 Z = true) : (Jvm.Cond.initialized "com/example/protomata/protomata/Partition").before a0 Z = true := hw _ (List.mem_of_getElem? (i := 8) rfl)
theorem wd9 {Z : State} {a0 : Array Value} (hw : ∀ d ∈ tables_1, d.before a0 Z = true) : (Jvm.Cond.code ({ cls := "com/example/protomata/protomata/Partition", name := "pairsAlike", desc := "([I)J" } : Jvm.MethodName) prog_101_method_9_code (8 : Nat) (Option.some Jvm.ClassFile.FieldType.long)).before a0 Z = true := hw _ (List.mem_of_getElem? (i := 9) rfl)
theorem wd10 {Z : State} {a0 : Array Value} (hw : ∀ d ∈ tables_1, d.before a0 Z = true) : (Jvm.Cond.constantLong "com/example/protomata/protomata/Partition" (48 : Nat) (2 : Int64)).before a0 Z = true := hw _ (List.mem_of_getElem? (i := 10) rfl)
def own_inc (l : List Int32) (g : Nat) : List Int32 := l.set g (l.getD g 0 + 1)
theorem d1_0 : decode method_3_code 0 = .ok (.iload_n 3, 1) := by decide +kernel
theorem d1_1 : decode method_3_code 1 = .ok (.iload_n 1, 1) := by decide +kernel
theorem d1_2 : decode method_3_code 2 = .ok (.if_icmp .ge 14, 3) := by decide +kernel
theorem d1_5 : decode method_3_code 5 = .ok (.aload_n 0, 1) := by decide +kernel
theorem d1_6 : decode method_3_code 6 = .ok (.iload_n 2, 1) := by decide +kernel
theorem d1_7 : decode method_3_code 7 = .ok (.iaload, 1) := by decide +kernel
theorem d1_8 : decode method_3_code 8 = .ok (.aload_n 0, 1) := by decide +kernel
theorem d1_9 : decode method_3_code 9 = .ok (.iload_n 3, 1) := by decide +kernel
theorem d1_10 : decode method_3_code 10 = .ok (.iaload, 1) := by decide +kernel
theorem d1_11 : decode method_3_code 11 = .ok (.if_icmp .ne 5, 3) := by decide +kernel
theorem d1_14 : decode method_3_code 14 = .ok (.lconst 1, 1) := by decide +kernel
theorem d1_15 : decode method_3_code 15 = .ok (.lreturn, 1) := by decide +kernel
theorem d1_16 : decode method_3_code 16 = .ok (.lconst 0, 1) := by decide +kernel
theorem d1_17 : decode method_3_code 17 = .ok (.lreturn, 1) := by decide +kernel
theorem pn1 : plainFor (⟨"com/example/protomata/protomata/PartitionPairsAlikePinLaw", "same", "([IIII)J"⟩ : MethodName) = true := plainFor_of_name (by first | (simp [plainName, overriddenIn]; done) | decide +kernel)
theorem pd1 : parseMethodDescriptor (⟨"com/example/protomata/protomata/PartitionPairsAlikePinLaw", "same", "([IIII)J"⟩ : MethodName).desc = some ⟨[(.array .int), .int, .int, .int], some .long⟩ := by decide +kernel
theorem ef_sm0_01 (m : MethodId) (n0 : Nat) (vv0 : Int32) (vv1 : Int32) (vv2 : Int32) (vv3 : Int32) (vv4 : Int32) : entryFrame m #[.ref (n0 + 1), .int (0 : Int32), .int (0 : Int32), .int (1 : Int32)] 4 = mkF m 0 #[.val (.ref (n0 + 1)), .val (.int (0 : Int32)), .val (.int (0 : Int32)), .val (.int (1 : Int32))] [] := by first | (simp [entryFrame, mkF, argsToLocals, Value.category]; done) | rfl
def sp_sm0_01 (vv0 : Int32) (vv1 : Int32) (vv2 : Int32) (vv3 : Int32) (vv4 : Int32) : Int64 := (0 : Int64)
set_option maxRecDepth 65536 in
set_option maxHeartbeats 40000000 in
theorem rm_sm0_01 (l : Launch) (Z : State) (a0 : Array Value) (hw : ∀ d ∈ tables_1, d.before a0 Z = true) (ws : List Jvm.Cond) (n0 : Nat) (vv0 : Int32) (vv1 : Int32) (vv2 : Int32) (vv3 : Int32) (vv4 : Int32) (k0 : ClassId) (hk0 : IsA Z k0 .int) (k1 : ClassId) (hk1 : IsA Z k1 .int) (h0 : Heap) (P0 : HP n0 h0 [AC k0 [], AC k1 [.int vv0, .int vv1, .int vv2, .int vv3, .int vv4]]) :
    MetFree l (⟨"com/example/protomata/protomata/PartitionPairsAlikePinLaw", "same", "([IIII)J"⟩ : MethodName) (head1 (Jvm.Cond.code (⟨"com/example/protomata/protomata/PartitionPairsAlikePinLaw", "same", "([IIII)J"⟩ : MethodName) method_3_code 4 (some .long) :: ws) ({ frames := 0, cells := 0, slots := 0, locals := 0 } : Room)) (fun aa U => aa = #[.ref (n0 + 1), .int (0 : Int32), .int (0 : Int32), .int (1 : Int32)] ∧ Z.Warmed39 U.vm ∧ U.heap = h0) (fun _ _ _ _ _ => True) (fun _ U o U' => ∃ v L, o = .returned v ∧ PureQ (.long (sp_sm0_01 vv0 vv1 vv2 vv3 vv4)) h0 v U'.heap L ∧ FrameEnd U o U' L ({ frames := 0, cells := 0, slots := 0, locals := 0 } : Room).cells ({ frames := 0, cells := 0, slots := 0, locals := 0 } : Room).slots) := by
  refine own_body pn1 ?_
  intro p e s m below meth c T0 hx hby hml hret hlk hown hnm hZ X0 e0
  subst e0
  refine own_cast (ef_sm0_01 m n0 vv0 vv1 vv2 vv3 vv4) ?_
  refine w_iloadN X0 hx (hb hby d1_0) rfl (pc' := 1) rfl ?_
  refine w_iloadN X0 hx (hb hby d1_1) rfl (pc' := 2) rfl ?_
  refine w_icmp_ge X0 hx (hb hby d1_2) (by decide) (pcY := 16) (by decide) (pc' := 5) rfl (fun h0 => ?_) (fun h0 => absurd h0 (by decide))
  refine w_lconst (v := (0 : Int64)) X0 hx (hb hby d1_16) rfl (pc' := 17) rfl ?_
  exact w_ret_l X0 hx hret hlk (hb hby d1_17) (by decide) (by decide) ⟨congrArg (fun q => some (Value.long q)) (show (0 : Int64) = sp_sm0_01 vv0 vv1 vv2 vv3 vv4 from by rw [sp_sm0_01]), rfl, rfl⟩
theorem ef_sm0_02 (m : MethodId) (n0 : Nat) (vv0 : Int32) (vv1 : Int32) (vv2 : Int32) (vv3 : Int32) (vv4 : Int32) : entryFrame m #[.ref (n0 + 1), .int (0 : Int32), .int (0 : Int32), .int (2 : Int32)] 4 = mkF m 0 #[.val (.ref (n0 + 1)), .val (.int (0 : Int32)), .val (.int (0 : Int32)), .val (.int (2 : Int32))] [] := by first | (simp [entryFrame, mkF, argsToLocals, Value.category]; done) | rfl
def sp_sm0_02 (vv0 : Int32) (vv1 : Int32) (vv2 : Int32) (vv3 : Int32) (vv4 : Int32) : Int64 := (0 : Int64)
set_option maxRecDepth 65536 in
set_option maxHeartbeats 40000000 in
theorem rm_sm0_02 (l : Launch) (Z : State) (a0 : Array Value) (hw : ∀ d ∈ tables_1, d.before a0 Z = true) (ws : List Jvm.Cond) (n0 : Nat) (vv0 : Int32) (vv1 : Int32) (vv2 : Int32) (vv3 : Int32) (vv4 : Int32) (k0 : ClassId) (hk0 : IsA Z k0 .int) (k1 : ClassId) (hk1 : IsA Z k1 .int) (h0 : Heap) (P0 : HP n0 h0 [AC k0 [], AC k1 [.int vv0, .int vv1, .int vv2, .int vv3, .int vv4]]) :
    MetFree l (⟨"com/example/protomata/protomata/PartitionPairsAlikePinLaw", "same", "([IIII)J"⟩ : MethodName) (head1 (Jvm.Cond.code (⟨"com/example/protomata/protomata/PartitionPairsAlikePinLaw", "same", "([IIII)J"⟩ : MethodName) method_3_code 4 (some .long) :: ws) ({ frames := 0, cells := 0, slots := 0, locals := 0 } : Room)) (fun aa U => aa = #[.ref (n0 + 1), .int (0 : Int32), .int (0 : Int32), .int (2 : Int32)] ∧ Z.Warmed39 U.vm ∧ U.heap = h0) (fun _ _ _ _ _ => True) (fun _ U o U' => ∃ v L, o = .returned v ∧ PureQ (.long (sp_sm0_02 vv0 vv1 vv2 vv3 vv4)) h0 v U'.heap L ∧ FrameEnd U o U' L ({ frames := 0, cells := 0, slots := 0, locals := 0 } : Room).cells ({ frames := 0, cells := 0, slots := 0, locals := 0 } : Room).slots) := by
  refine own_body pn1 ?_
  intro p e s m below meth c T0 hx hby hml hret hlk hown hnm hZ X0 e0
  subst e0
  refine own_cast (ef_sm0_02 m n0 vv0 vv1 vv2 vv3 vv4) ?_
  refine w_iloadN X0 hx (hb hby d1_0) rfl (pc' := 1) rfl ?_
  refine w_iloadN X0 hx (hb hby d1_1) rfl (pc' := 2) rfl ?_
  refine w_icmp_ge X0 hx (hb hby d1_2) (by decide) (pcY := 16) (by decide) (pc' := 5) rfl (fun h0 => ?_) (fun h0 => absurd h0 (by decide))
  refine w_lconst (v := (0 : Int64)) X0 hx (hb hby d1_16) rfl (pc' := 17) rfl ?_
  exact w_ret_l X0 hx hret hlk (hb hby d1_17) (by decide) (by decide) ⟨congrArg (fun q => some (Value.long q)) (show (0 : Int64) = sp_sm0_02 vv0 vv1 vv2 vv3 vv4 from by rw [sp_sm0_02]), rfl, rfl⟩
theorem ef_sm0_03 (m : MethodId) (n0 : Nat) (vv0 : Int32) (vv1 : Int32) (vv2 : Int32) (vv3 : Int32) (vv4 : Int32) : entryFrame m #[.ref (n0 + 1), .int (0 : Int32), .int (0 : Int32), .int (3 : Int32)] 4 = mkF m 0 #[.val (.ref (n0 + 1)), .val (.int (0 : Int32)), .val (.int (0 : Int32)), .val (.int (3 : Int32))] [] := by first | (simp [entryFrame, mkF, argsToLocals, Value.category]; done) | rfl
def sp_sm0_03 (vv0 : Int32) (vv1 : Int32) (vv2 : Int32) (vv3 : Int32) (vv4 : Int32) : Int64 := (0 : Int64)
set_option maxRecDepth 65536 in
set_option maxHeartbeats 40000000 in
theorem rm_sm0_03 (l : Launch) (Z : State) (a0 : Array Value) (hw : ∀ d ∈ tables_1, d.before a0 Z = true) (ws : List Jvm.Cond) (n0 : Nat) (vv0 : Int32) (vv1 : Int32) (vv2 : Int32) (vv3 : Int32) (vv4 : Int32) (k0 : ClassId) (hk0 : IsA Z k0 .int) (k1 : ClassId) (hk1 : IsA Z k1 .int) (h0 : Heap) (P0 : HP n0 h0 [AC k0 [], AC k1 [.int vv0, .int vv1, .int vv2, .int vv3, .int vv4]]) :
    MetFree l (⟨"com/example/protomata/protomata/PartitionPairsAlikePinLaw", "same", "([IIII)J"⟩ : MethodName) (head1 (Jvm.Cond.code (⟨"com/example/protomata/protomata/PartitionPairsAlikePinLaw", "same", "([IIII)J"⟩ : MethodName) method_3_code 4 (some .long) :: ws) ({ frames := 0, cells := 0, slots := 0, locals := 0 } : Room)) (fun aa U => aa = #[.ref (n0 + 1), .int (0 : Int32), .int (0 : Int32), .int (3 : Int32)] ∧ Z.Warmed39 U.vm ∧ U.heap = h0) (fun _ _ _ _ _ => True) (fun _ U o U' => ∃ v L, o = .returned v ∧ PureQ (.long (sp_sm0_03 vv0 vv1 vv2 vv3 vv4)) h0 v U'.heap L ∧ FrameEnd U o U' L ({ frames := 0, cells := 0, slots := 0, locals := 0 } : Room).cells ({ frames := 0, cells := 0, slots := 0, locals := 0 } : Room).slots) := by
  refine own_body pn1 ?_
  intro p e s m below meth c T0 hx hby hml hret hlk hown hnm hZ X0 e0
  subst e0
  refine own_cast (ef_sm0_03 m n0 vv0 vv1 vv2 vv3 vv4) ?_
  refine w_iloadN X0 hx (hb hby d1_0) rfl (pc' := 1) rfl ?_
  refine w_iloadN X0 hx (hb hby d1_1) rfl (pc' := 2) rfl ?_
  refine w_icmp_ge X0 hx (hb hby d1_2) (by decide) (pcY := 16) (by decide) (pc' := 5) rfl (fun h0 => ?_) (fun h0 => absurd h0 (by decide))
  refine w_lconst (v := (0 : Int64)) X0 hx (hb hby d1_16) rfl (pc' := 17) rfl ?_
  exact w_ret_l X0 hx hret hlk (hb hby d1_17) (by decide) (by decide) ⟨congrArg (fun q => some (Value.long q)) (show (0 : Int64) = sp_sm0_03 vv0 vv1 vv2 vv3 vv4 from by rw [sp_sm0_03]), rfl, rfl⟩
theorem ef_sm0_04 (m : MethodId) (n0 : Nat) (vv0 : Int32) (vv1 : Int32) (vv2 : Int32) (vv3 : Int32) (vv4 : Int32) : entryFrame m #[.ref (n0 + 1), .int (0 : Int32), .int (0 : Int32), .int (4 : Int32)] 4 = mkF m 0 #[.val (.ref (n0 + 1)), .val (.int (0 : Int32)), .val (.int (0 : Int32)), .val (.int (4 : Int32))] [] := by first | (simp [entryFrame, mkF, argsToLocals, Value.category]; done) | rfl
def sp_sm0_04 (vv0 : Int32) (vv1 : Int32) (vv2 : Int32) (vv3 : Int32) (vv4 : Int32) : Int64 := (0 : Int64)
set_option maxRecDepth 65536 in
set_option maxHeartbeats 40000000 in
theorem rm_sm0_04 (l : Launch) (Z : State) (a0 : Array Value) (hw : ∀ d ∈ tables_1, d.before a0 Z = true) (ws : List Jvm.Cond) (n0 : Nat) (vv0 : Int32) (vv1 : Int32) (vv2 : Int32) (vv3 : Int32) (vv4 : Int32) (k0 : ClassId) (hk0 : IsA Z k0 .int) (k1 : ClassId) (hk1 : IsA Z k1 .int) (h0 : Heap) (P0 : HP n0 h0 [AC k0 [], AC k1 [.int vv0, .int vv1, .int vv2, .int vv3, .int vv4]]) :
    MetFree l (⟨"com/example/protomata/protomata/PartitionPairsAlikePinLaw", "same", "([IIII)J"⟩ : MethodName) (head1 (Jvm.Cond.code (⟨"com/example/protomata/protomata/PartitionPairsAlikePinLaw", "same", "([IIII)J"⟩ : MethodName) method_3_code 4 (some .long) :: ws) ({ frames := 0, cells := 0, slots := 0, locals := 0 } : Room)) (fun aa U => aa = #[.ref (n0 + 1), .int (0 : Int32), .int (0 : Int32), .int (4 : Int32)] ∧ Z.Warmed39 U.vm ∧ U.heap = h0) (fun _ _ _ _ _ => True) (fun _ U o U' => ∃ v L, o = .returned v ∧ PureQ (.long (sp_sm0_04 vv0 vv1 vv2 vv3 vv4)) h0 v U'.heap L ∧ FrameEnd U o U' L ({ frames := 0, cells := 0, slots := 0, locals := 0 } : Room).cells ({ frames := 0, cells := 0, slots := 0, locals := 0 } : Room).slots) := by
  refine own_body pn1 ?_
  intro p e s m below meth c T0 hx hby hml hret hlk hown hnm hZ X0 e0
  subst e0
  refine own_cast (ef_sm0_04 m n0 vv0 vv1 vv2 vv3 vv4) ?_
  refine w_iloadN X0 hx (hb hby d1_0) rfl (pc' := 1) rfl ?_
  refine w_iloadN X0 hx (hb hby d1_1) rfl (pc' := 2) rfl ?_
  refine w_icmp_ge X0 hx (hb hby d1_2) (by decide) (pcY := 16) (by decide) (pc' := 5) rfl (fun h0 => ?_) (fun h0 => absurd h0 (by decide))
  refine w_lconst (v := (0 : Int64)) X0 hx (hb hby d1_16) rfl (pc' := 17) rfl ?_
  exact w_ret_l X0 hx hret hlk (hb hby d1_17) (by decide) (by decide) ⟨congrArg (fun q => some (Value.long q)) (show (0 : Int64) = sp_sm0_04 vv0 vv1 vv2 vv3 vv4 from by rw [sp_sm0_04]), rfl, rfl⟩
theorem ef_sm0_12 (m : MethodId) (n0 : Nat) (vv0 : Int32) (vv1 : Int32) (vv2 : Int32) (vv3 : Int32) (vv4 : Int32) : entryFrame m #[.ref (n0 + 1), .int (0 : Int32), .int (1 : Int32), .int (2 : Int32)] 4 = mkF m 0 #[.val (.ref (n0 + 1)), .val (.int (0 : Int32)), .val (.int (1 : Int32)), .val (.int (2 : Int32))] [] := by first | (simp [entryFrame, mkF, argsToLocals, Value.category]; done) | rfl
def sp_sm0_12 (vv0 : Int32) (vv1 : Int32) (vv2 : Int32) (vv3 : Int32) (vv4 : Int32) : Int64 := (0 : Int64)
set_option maxRecDepth 65536 in
set_option maxHeartbeats 40000000 in
theorem rm_sm0_12 (l : Launch) (Z : State) (a0 : Array Value) (hw : ∀ d ∈ tables_1, d.before a0 Z = true) (ws : List Jvm.Cond) (n0 : Nat) (vv0 : Int32) (vv1 : Int32) (vv2 : Int32) (vv3 : Int32) (vv4 : Int32) (k0 : ClassId) (hk0 : IsA Z k0 .int) (k1 : ClassId) (hk1 : IsA Z k1 .int) (h0 : Heap) (P0 : HP n0 h0 [AC k0 [], AC k1 [.int vv0, .int vv1, .int vv2, .int vv3, .int vv4]]) :
    MetFree l (⟨"com/example/protomata/protomata/PartitionPairsAlikePinLaw", "same", "([IIII)J"⟩ : MethodName) (head1 (Jvm.Cond.code (⟨"com/example/protomata/protomata/PartitionPairsAlikePinLaw", "same", "([IIII)J"⟩ : MethodName) method_3_code 4 (some .long) :: ws) ({ frames := 0, cells := 0, slots := 0, locals := 0 } : Room)) (fun aa U => aa = #[.ref (n0 + 1), .int (0 : Int32), .int (1 : Int32), .int (2 : Int32)] ∧ Z.Warmed39 U.vm ∧ U.heap = h0) (fun _ _ _ _ _ => True) (fun _ U o U' => ∃ v L, o = .returned v ∧ PureQ (.long (sp_sm0_12 vv0 vv1 vv2 vv3 vv4)) h0 v U'.heap L ∧ FrameEnd U o U' L ({ frames := 0, cells := 0, slots := 0, locals := 0 } : Room).cells ({ frames := 0, cells := 0, slots := 0, locals := 0 } : Room).slots) := by
  refine own_body pn1 ?_
  intro p e s m below meth c T0 hx hby hml hret hlk hown hnm hZ X0 e0
  subst e0
  refine own_cast (ef_sm0_12 m n0 vv0 vv1 vv2 vv3 vv4) ?_
  refine w_iloadN X0 hx (hb hby d1_0) rfl (pc' := 1) rfl ?_
  refine w_iloadN X0 hx (hb hby d1_1) rfl (pc' := 2) rfl ?_
  refine w_icmp_ge X0 hx (hb hby d1_2) (by decide) (pcY := 16) (by decide) (pc' := 5) rfl (fun h0 => ?_) (fun h0 => absurd h0 (by decide))
  refine w_lconst (v := (0 : Int64)) X0 hx (hb hby d1_16) rfl (pc' := 17) rfl ?_
  exact w_ret_l X0 hx hret hlk (hb hby d1_17) (by decide) (by decide) ⟨congrArg (fun q => some (Value.long q)) (show (0 : Int64) = sp_sm0_12 vv0 vv1 vv2 vv3 vv4 from by rw [sp_sm0_12]), rfl, rfl⟩
theorem ef_sm0_13 (m : MethodId) (n0 : Nat) (vv0 : Int32) (vv1 : Int32) (vv2 : Int32) (vv3 : Int32) (vv4 : Int32) : entryFrame m #[.ref (n0 + 1), .int (0 : Int32), .int (1 : Int32), .int (3 : Int32)] 4 = mkF m 0 #[.val (.ref (n0 + 1)), .val (.int (0 : Int32)), .val (.int (1 : Int32)), .val (.int (3 : Int32))] [] := by first | (simp [entryFrame, mkF, argsToLocals, Value.category]; done) | rfl
def sp_sm0_13 (vv0 : Int32) (vv1 : Int32) (vv2 : Int32) (vv3 : Int32) (vv4 : Int32) : Int64 := (0 : Int64)
set_option maxRecDepth 65536 in
set_option maxHeartbeats 40000000 in
theorem rm_sm0_13 (l : Launch) (Z : State) (a0 : Array Value) (hw : ∀ d ∈ tables_1, d.before a0 Z = true) (ws : List Jvm.Cond) (n0 : Nat) (vv0 : Int32) (vv1 : Int32) (vv2 : Int32) (vv3 : Int32) (vv4 : Int32) (k0 : ClassId) (hk0 : IsA Z k0 .int) (k1 : ClassId) (hk1 : IsA Z k1 .int) (h0 : Heap) (P0 : HP n0 h0 [AC k0 [], AC k1 [.int vv0, .int vv1, .int vv2, .int vv3, .int vv4]]) :
    MetFree l (⟨"com/example/protomata/protomata/PartitionPairsAlikePinLaw", "same", "([IIII)J"⟩ : MethodName) (head1 (Jvm.Cond.code (⟨"com/example/protomata/protomata/PartitionPairsAlikePinLaw", "same", "([IIII)J"⟩ : MethodName) method_3_code 4 (some .long) :: ws) ({ frames := 0, cells := 0, slots := 0, locals := 0 } : Room)) (fun aa U => aa = #[.ref (n0 + 1), .int (0 : Int32), .int (1 : Int32), .int (3 : Int32)] ∧ Z.Warmed39 U.vm ∧ U.heap = h0) (fun _ _ _ _ _ => True) (fun _ U o U' => ∃ v L, o = .returned v ∧ PureQ (.long (sp_sm0_13 vv0 vv1 vv2 vv3 vv4)) h0 v U'.heap L ∧ FrameEnd U o U' L ({ frames := 0, cells := 0, slots := 0, locals := 0 } : Room).cells ({ frames := 0, cells := 0, slots := 0, locals := 0 } : Room).slots) := by
  refine own_body pn1 ?_
  intro p e s m below meth c T0 hx hby hml hret hlk hown hnm hZ X0 e0
  subst e0
  refine own_cast (ef_sm0_13 m n0 vv0 vv1 vv2 vv3 vv4) ?_
  refine w_iloadN X0 hx (hb hby d1_0) rfl (pc' := 1) rfl ?_
  refine w_iloadN X0 hx (hb hby d1_1) rfl (pc' := 2) rfl ?_
  refine w_icmp_ge X0 hx (hb hby d1_2) (by decide) (pcY := 16) (by decide) (pc' := 5) rfl (fun h0 => ?_) (fun h0 => absurd h0 (by decide))
  refine w_lconst (v := (0 : Int64)) X0 hx (hb hby d1_16) rfl (pc' := 17) rfl ?_
  exact w_ret_l X0 hx hret hlk (hb hby d1_17) (by decide) (by decide) ⟨congrArg (fun q => some (Value.long q)) (show (0 : Int64) = sp_sm0_13 vv0 vv1 vv2 vv3 vv4 from by rw [sp_sm0_13]), rfl, rfl⟩
theorem ef_sm0_14 (m : MethodId) (n0 : Nat) (vv0 : Int32) (vv1 : Int32) (vv2 : Int32) (vv3 : Int32) (vv4 : Int32) : entryFrame m #[.ref (n0 + 1), .int (0 : Int32), .int (1 : Int32), .int (4 : Int32)] 4 = mkF m 0 #[.val (.ref (n0 + 1)), .val (.int (0 : Int32)), .val (.int (1 : Int32)), .val (.int (4 : Int32))] [] := by first | (simp [entryFrame, mkF, argsToLocals, Value.category]; done) | rfl
def sp_sm0_14 (vv0 : Int32) (vv1 : Int32) (vv2 : Int32) (vv3 : Int32) (vv4 : Int32) : Int64 := (0 : Int64)
set_option maxRecDepth 65536 in
set_option maxHeartbeats 40000000 in
theorem rm_sm0_14 (l : Launch) (Z : State) (a0 : Array Value) (hw : ∀ d ∈ tables_1, d.before a0 Z = true) (ws : List Jvm.Cond) (n0 : Nat) (vv0 : Int32) (vv1 : Int32) (vv2 : Int32) (vv3 : Int32) (vv4 : Int32) (k0 : ClassId) (hk0 : IsA Z k0 .int) (k1 : ClassId) (hk1 : IsA Z k1 .int) (h0 : Heap) (P0 : HP n0 h0 [AC k0 [], AC k1 [.int vv0, .int vv1, .int vv2, .int vv3, .int vv4]]) :
    MetFree l (⟨"com/example/protomata/protomata/PartitionPairsAlikePinLaw", "same", "([IIII)J"⟩ : MethodName) (head1 (Jvm.Cond.code (⟨"com/example/protomata/protomata/PartitionPairsAlikePinLaw", "same", "([IIII)J"⟩ : MethodName) method_3_code 4 (some .long) :: ws) ({ frames := 0, cells := 0, slots := 0, locals := 0 } : Room)) (fun aa U => aa = #[.ref (n0 + 1), .int (0 : Int32), .int (1 : Int32), .int (4 : Int32)] ∧ Z.Warmed39 U.vm ∧ U.heap = h0) (fun _ _ _ _ _ => True) (fun _ U o U' => ∃ v L, o = .returned v ∧ PureQ (.long (sp_sm0_14 vv0 vv1 vv2 vv3 vv4)) h0 v U'.heap L ∧ FrameEnd U o U' L ({ frames := 0, cells := 0, slots := 0, locals := 0 } : Room).cells ({ frames := 0, cells := 0, slots := 0, locals := 0 } : Room).slots) := by
  refine own_body pn1 ?_
  intro p e s m below meth c T0 hx hby hml hret hlk hown hnm hZ X0 e0
  subst e0
  refine own_cast (ef_sm0_14 m n0 vv0 vv1 vv2 vv3 vv4) ?_
  refine w_iloadN X0 hx (hb hby d1_0) rfl (pc' := 1) rfl ?_
  refine w_iloadN X0 hx (hb hby d1_1) rfl (pc' := 2) rfl ?_
  refine w_icmp_ge X0 hx (hb hby d1_2) (by decide) (pcY := 16) (by decide) (pc' := 5) rfl (fun h0 => ?_) (fun h0 => absurd h0 (by decide))
  refine w_lconst (v := (0 : Int64)) X0 hx (hb hby d1_16) rfl (pc' := 17) rfl ?_
  exact w_ret_l X0 hx hret hlk (hb hby d1_17) (by decide) (by decide) ⟨congrArg (fun q => some (Value.long q)) (show (0 : Int64) = sp_sm0_14 vv0 vv1 vv2 vv3 vv4 from by rw [sp_sm0_14]), rfl, rfl⟩
theorem ef_sm0_23 (m : MethodId) (n0 : Nat) (vv0 : Int32) (vv1 : Int32) (vv2 : Int32) (vv3 : Int32) (vv4 : Int32) : entryFrame m #[.ref (n0 + 1), .int (0 : Int32), .int (2 : Int32), .int (3 : Int32)] 4 = mkF m 0 #[.val (.ref (n0 + 1)), .val (.int (0 : Int32)), .val (.int (2 : Int32)), .val (.int (3 : Int32))] [] := by first | (simp [entryFrame, mkF, argsToLocals, Value.category]; done) | rfl
def sp_sm0_23 (vv0 : Int32) (vv1 : Int32) (vv2 : Int32) (vv3 : Int32) (vv4 : Int32) : Int64 := (0 : Int64)
set_option maxRecDepth 65536 in
set_option maxHeartbeats 40000000 in
theorem rm_sm0_23 (l : Launch) (Z : State) (a0 : Array Value) (hw : ∀ d ∈ tables_1, d.before a0 Z = true) (ws : List Jvm.Cond) (n0 : Nat) (vv0 : Int32) (vv1 : Int32) (vv2 : Int32) (vv3 : Int32) (vv4 : Int32) (k0 : ClassId) (hk0 : IsA Z k0 .int) (k1 : ClassId) (hk1 : IsA Z k1 .int) (h0 : Heap) (P0 : HP n0 h0 [AC k0 [], AC k1 [.int vv0, .int vv1, .int vv2, .int vv3, .int vv4]]) :
    MetFree l (⟨"com/example/protomata/protomata/PartitionPairsAlikePinLaw", "same", "([IIII)J"⟩ : MethodName) (head1 (Jvm.Cond.code (⟨"com/example/protomata/protomata/PartitionPairsAlikePinLaw", "same", "([IIII)J"⟩ : MethodName) method_3_code 4 (some .long) :: ws) ({ frames := 0, cells := 0, slots := 0, locals := 0 } : Room)) (fun aa U => aa = #[.ref (n0 + 1), .int (0 : Int32), .int (2 : Int32), .int (3 : Int32)] ∧ Z.Warmed39 U.vm ∧ U.heap = h0) (fun _ _ _ _ _ => True) (fun _ U o U' => ∃ v L, o = .returned v ∧ PureQ (.long (sp_sm0_23 vv0 vv1 vv2 vv3 vv4)) h0 v U'.heap L ∧ FrameEnd U o U' L ({ frames := 0, cells := 0, slots := 0, locals := 0 } : Room).cells ({ frames := 0, cells := 0, slots := 0, locals := 0 } : Room).slots) := by
  refine own_body pn1 ?_
  intro p e s m below meth c T0 hx hby hml hret hlk hown hnm hZ X0 e0
  subst e0
  refine own_cast (ef_sm0_23 m n0 vv0 vv1 vv2 vv3 vv4) ?_
  refine w_iloadN X0 hx (hb hby d1_0) rfl (pc' := 1) rfl ?_
  refine w_iloadN X0 hx (hb hby d1_1) rfl (pc' := 2) rfl ?_
  refine w_icmp_ge X0 hx (hb hby d1_2) (by decide) (pcY := 16) (by decide) (pc' := 5) rfl (fun h0 => ?_) (fun h0 => absurd h0 (by decide))
  refine w_lconst (v := (0 : Int64)) X0 hx (hb hby d1_16) rfl (pc' := 17) rfl ?_
  exact w_ret_l X0 hx hret hlk (hb hby d1_17) (by decide) (by decide) ⟨congrArg (fun q => some (Value.long q)) (show (0 : Int64) = sp_sm0_23 vv0 vv1 vv2 vv3 vv4 from by rw [sp_sm0_23]), rfl, rfl⟩
theorem ef_sm0_24 (m : MethodId) (n0 : Nat) (vv0 : Int32) (vv1 : Int32) (vv2 : Int32) (vv3 : Int32) (vv4 : Int32) : entryFrame m #[.ref (n0 + 1), .int (0 : Int32), .int (2 : Int32), .int (4 : Int32)] 4 = mkF m 0 #[.val (.ref (n0 + 1)), .val (.int (0 : Int32)), .val (.int (2 : Int32)), .val (.int (4 : Int32))] [] := by first | (simp [entryFrame, mkF, argsToLocals, Value.category]; done) | rfl
def sp_sm0_24 (vv0 : Int32) (vv1 : Int32) (vv2 : Int32) (vv3 : Int32) (vv4 : Int32) : Int64 := (0 : Int64)
set_option maxRecDepth 65536 in
set_option maxHeartbeats 40000000 in
theorem rm_sm0_24 (l : Launch) (Z : State) (a0 : Array Value) (hw : ∀ d ∈ tables_1, d.before a0 Z = true) (ws : List Jvm.Cond) (n0 : Nat) (vv0 : Int32) (vv1 : Int32) (vv2 : Int32) (vv3 : Int32) (vv4 : Int32) (k0 : ClassId) (hk0 : IsA Z k0 .int) (k1 : ClassId) (hk1 : IsA Z k1 .int) (h0 : Heap) (P0 : HP n0 h0 [AC k0 [], AC k1 [.int vv0, .int vv1, .int vv2, .int vv3, .int vv4]]) :
    MetFree l (⟨"com/example/protomata/protomata/PartitionPairsAlikePinLaw", "same", "([IIII)J"⟩ : MethodName) (head1 (Jvm.Cond.code (⟨"com/example/protomata/protomata/PartitionPairsAlikePinLaw", "same", "([IIII)J"⟩ : MethodName) method_3_code 4 (some .long) :: ws) ({ frames := 0, cells := 0, slots := 0, locals := 0 } : Room)) (fun aa U => aa = #[.ref (n0 + 1), .int (0 : Int32), .int (2 : Int32), .int (4 : Int32)] ∧ Z.Warmed39 U.vm ∧ U.heap = h0) (fun _ _ _ _ _ => True) (fun _ U o U' => ∃ v L, o = .returned v ∧ PureQ (.long (sp_sm0_24 vv0 vv1 vv2 vv3 vv4)) h0 v U'.heap L ∧ FrameEnd U o U' L ({ frames := 0, cells := 0, slots := 0, locals := 0 } : Room).cells ({ frames := 0, cells := 0, slots := 0, locals := 0 } : Room).slots) := by
  refine own_body pn1 ?_
  intro p e s m below meth c T0 hx hby hml hret hlk hown hnm hZ X0 e0
  subst e0
  refine own_cast (ef_sm0_24 m n0 vv0 vv1 vv2 vv3 vv4) ?_
  refine w_iloadN X0 hx (hb hby d1_0) rfl (pc' := 1) rfl ?_
  refine w_iloadN X0 hx (hb hby d1_1) rfl (pc' := 2) rfl ?_
  refine w_icmp_ge X0 hx (hb hby d1_2) (by decide) (pcY := 16) (by decide) (pc' := 5) rfl (fun h0 => ?_) (fun h0 => absurd h0 (by decide))
  refine w_lconst (v := (0 : Int64)) X0 hx (hb hby d1_16) rfl (pc' := 17) rfl ?_
  exact w_ret_l X0 hx hret hlk (hb hby d1_17) (by decide) (by decide) ⟨congrArg (fun q => some (Value.long q)) (show (0 : Int64) = sp_sm0_24 vv0 vv1 vv2 vv3 vv4 from by rw [sp_sm0_24]), rfl, rfl⟩
theorem ef_sm0_34 (m : MethodId) (n0 : Nat) (vv0 : Int32) (vv1 : Int32) (vv2 : Int32) (vv3 : Int32) (vv4 : Int32) : entryFrame m #[.ref (n0 + 1), .int (0 : Int32), .int (3 : Int32), .int (4 : Int32)] 4 = mkF m 0 #[.val (.ref (n0 + 1)), .val (.int (0 : Int32)), .val (.int (3 : Int32)), .val (.int (4 : Int32))] [] := by first | (simp [entryFrame, mkF, argsToLocals, Value.category]; done) | rfl
def sp_sm0_34 (vv0 : Int32) (vv1 : Int32) (vv2 : Int32) (vv3 : Int32) (vv4 : Int32) : Int64 := (0 : Int64)
set_option maxRecDepth 65536 in
set_option maxHeartbeats 40000000 in
theorem rm_sm0_34 (l : Launch) (Z : State) (a0 : Array Value) (hw : ∀ d ∈ tables_1, d.before a0 Z = true) (ws : List Jvm.Cond) (n0 : Nat) (vv0 : Int32) (vv1 : Int32) (vv2 : Int32) (vv3 : Int32) (vv4 : Int32) (k0 : ClassId) (hk0 : IsA Z k0 .int) (k1 : ClassId) (hk1 : IsA Z k1 .int) (h0 : Heap) (P0 : HP n0 h0 [AC k0 [], AC k1 [.int vv0, .int vv1, .int vv2, .int vv3, .int vv4]]) :
    MetFree l (⟨"com/example/protomata/protomata/PartitionPairsAlikePinLaw", "same", "([IIII)J"⟩ : MethodName) (head1 (Jvm.Cond.code (⟨"com/example/protomata/protomata/PartitionPairsAlikePinLaw", "same", "([IIII)J"⟩ : MethodName) method_3_code 4 (some .long) :: ws) ({ frames := 0, cells := 0, slots := 0, locals := 0 } : Room)) (fun aa U => aa = #[.ref (n0 + 1), .int (0 : Int32), .int (3 : Int32), .int (4 : Int32)] ∧ Z.Warmed39 U.vm ∧ U.heap = h0) (fun _ _ _ _ _ => True) (fun _ U o U' => ∃ v L, o = .returned v ∧ PureQ (.long (sp_sm0_34 vv0 vv1 vv2 vv3 vv4)) h0 v U'.heap L ∧ FrameEnd U o U' L ({ frames := 0, cells := 0, slots := 0, locals := 0 } : Room).cells ({ frames := 0, cells := 0, slots := 0, locals := 0 } : Room).slots) := by
  refine own_body pn1 ?_
  intro p e s m below meth c T0 hx hby hml hret hlk hown hnm hZ X0 e0
  subst e0
  refine own_cast (ef_sm0_34 m n0 vv0 vv1 vv2 vv3 vv4) ?_
  refine w_iloadN X0 hx (hb hby d1_0) rfl (pc' := 1) rfl ?_
  refine w_iloadN X0 hx (hb hby d1_1) rfl (pc' := 2) rfl ?_
  refine w_icmp_ge X0 hx (hb hby d1_2) (by decide) (pcY := 16) (by decide) (pc' := 5) rfl (fun h0 => ?_) (fun h0 => absurd h0 (by decide))
  refine w_lconst (v := (0 : Int64)) X0 hx (hb hby d1_16) rfl (pc' := 17) rfl ?_
  exact w_ret_l X0 hx hret hlk (hb hby d1_17) (by decide) (by decide) ⟨congrArg (fun q => some (Value.long q)) (show (0 : Int64) = sp_sm0_34 vv0 vv1 vv2 vv3 vv4 from by rw [sp_sm0_34]), rfl, rfl⟩
def own_pa0  : Int64 := (0 : Int64)
theorem d2_0 : decode prog_101_method_9_code 0 = .ok (.aload_n 0, 1) := by decide +kernel
theorem d2_1 : decode prog_101_method_9_code 1 = .ok (.arraylength, 1) := by decide +kernel
theorem d2_2 : decode prog_101_method_9_code 2 = .ok (.newarray .int, 2) := by decide +kernel
theorem d2_4 : decode prog_101_method_9_code 4 = .ok (.astore_n 1, 1) := by decide +kernel
theorem d2_5 : decode prog_101_method_9_code 5 = .ok (.aload_n 0, 1) := by decide +kernel
theorem d2_6 : decode prog_101_method_9_code 6 = .ok (.astore_n 2, 1) := by decide +kernel
theorem d2_7 : decode prog_101_method_9_code 7 = .ok (.aload_n 2, 1) := by decide +kernel
theorem d2_8 : decode prog_101_method_9_code 8 = .ok (.arraylength, 1) := by decide +kernel
theorem d2_9 : decode prog_101_method_9_code 9 = .ok (.istore_n 3, 1) := by decide +kernel
theorem d2_10 : decode prog_101_method_9_code 10 = .ok (.iconst 0, 1) := by decide +kernel
theorem d2_11 : decode prog_101_method_9_code 11 = .ok (.istore 4, 2) := by decide +kernel
theorem d2_13 : decode prog_101_method_9_code 13 = .ok (.iload 4, 2) := by decide +kernel
theorem d2_15 : decode prog_101_method_9_code 15 = .ok (.iload_n 3, 1) := by decide +kernel
theorem d2_16 : decode prog_101_method_9_code 16 = .ok (.if_icmp .ge 23, 3) := by decide +kernel
theorem d2_19 : decode prog_101_method_9_code 19 = .ok (.aload_n 2, 1) := by decide +kernel
theorem d2_20 : decode prog_101_method_9_code 20 = .ok (.iload 4, 2) := by decide +kernel
theorem d2_22 : decode prog_101_method_9_code 22 = .ok (.iaload, 1) := by decide +kernel
theorem d2_23 : decode prog_101_method_9_code 23 = .ok (.istore 5, 2) := by decide +kernel
theorem d2_25 : decode prog_101_method_9_code 25 = .ok (.aload_n 1, 1) := by decide +kernel
theorem d2_26 : decode prog_101_method_9_code 26 = .ok (.iload 5, 2) := by decide +kernel
theorem d2_28 : decode prog_101_method_9_code 28 = .ok (.dup2, 1) := by decide +kernel
theorem d2_29 : decode prog_101_method_9_code 29 = .ok (.iaload, 1) := by decide +kernel
theorem d2_30 : decode prog_101_method_9_code 30 = .ok (.iconst 1, 1) := by decide +kernel
theorem d2_31 : decode prog_101_method_9_code 31 = .ok (.iadd, 1) := by decide +kernel
theorem d2_32 : decode prog_101_method_9_code 32 = .ok (.iastore, 1) := by decide +kernel
theorem d2_33 : decode prog_101_method_9_code 33 = .ok (.iinc 4 1, 3) := by decide +kernel
theorem d2_36 : decode prog_101_method_9_code 36 = .ok (.goto (-23), 3) := by decide +kernel
theorem d2_39 : decode prog_101_method_9_code 39 = .ok (.lconst 0, 1) := by decide +kernel
theorem d2_40 : decode prog_101_method_9_code 40 = .ok (.lstore_n 2, 1) := by decide +kernel
theorem d2_41 : decode prog_101_method_9_code 41 = .ok (.aload_n 1, 1) := by decide +kernel
theorem d2_42 : decode prog_101_method_9_code 42 = .ok (.astore 4, 2) := by decide +kernel
theorem d2_44 : decode prog_101_method_9_code 44 = .ok (.aload 4, 2) := by decide +kernel
theorem d2_46 : decode prog_101_method_9_code 46 = .ok (.arraylength, 1) := by decide +kernel
theorem d2_47 : decode prog_101_method_9_code 47 = .ok (.istore 5, 2) := by decide +kernel
theorem d2_49 : decode prog_101_method_9_code 49 = .ok (.iconst 0, 1) := by decide +kernel
theorem d2_50 : decode prog_101_method_9_code 50 = .ok (.istore 6, 2) := by decide +kernel
theorem d2_52 : decode prog_101_method_9_code 52 = .ok (.iload 6, 2) := by decide +kernel
theorem d2_54 : decode prog_101_method_9_code 54 = .ok (.iload 5, 2) := by decide +kernel
theorem d2_56 : decode prog_101_method_9_code 56 = .ok (.if_icmp .ge 32, 3) := by decide +kernel
theorem d2_59 : decode prog_101_method_9_code 59 = .ok (.aload 4, 2) := by decide +kernel
theorem d2_61 : decode prog_101_method_9_code 61 = .ok (.iload 6, 2) := by decide +kernel
theorem d2_63 : decode prog_101_method_9_code 63 = .ok (.iaload, 1) := by decide +kernel
theorem d2_64 : decode prog_101_method_9_code 64 = .ok (.istore 7, 2) := by decide +kernel
theorem d2_66 : decode prog_101_method_9_code 66 = .ok (.lload_n 2, 1) := by decide +kernel
theorem d2_67 : decode prog_101_method_9_code 67 = .ok (.iload 7, 2) := by decide +kernel
theorem d2_69 : decode prog_101_method_9_code 69 = .ok (.i2l, 1) := by decide +kernel
theorem d2_70 : decode prog_101_method_9_code 70 = .ok (.iload 7, 2) := by decide +kernel
theorem d2_72 : decode prog_101_method_9_code 72 = .ok (.iconst 1, 1) := by decide +kernel
theorem d2_73 : decode prog_101_method_9_code 73 = .ok (.isub, 1) := by decide +kernel
theorem d2_74 : decode prog_101_method_9_code 74 = .ok (.i2l, 1) := by decide +kernel
theorem d2_75 : decode prog_101_method_9_code 75 = .ok (.lmul, 1) := by decide +kernel
theorem d2_76 : decode prog_101_method_9_code 76 = .ok (.ldc2_w 48, 3) := by decide +kernel
theorem d2_79 : decode prog_101_method_9_code 79 = .ok (.ldiv, 1) := by decide +kernel
theorem d2_80 : decode prog_101_method_9_code 80 = .ok (.ladd, 1) := by decide +kernel
theorem d2_81 : decode prog_101_method_9_code 81 = .ok (.lstore_n 2, 1) := by decide +kernel
theorem d2_82 : decode prog_101_method_9_code 82 = .ok (.iinc 6 1, 3) := by decide +kernel
theorem d2_85 : decode prog_101_method_9_code 85 = .ok (.goto (-33), 3) := by decide +kernel
theorem d2_88 : decode prog_101_method_9_code 88 = .ok (.lload_n 2, 1) := by decide +kernel
theorem d2_89 : decode prog_101_method_9_code 89 = .ok (.lreturn, 1) := by decide +kernel
theorem pn2 : plainFor (⟨"com/example/protomata/protomata/Partition", "pairsAlike", "([I)J"⟩ : MethodName) = true := plainFor_of_name (by first | (simp [plainName, overriddenIn]; done) | decide +kernel)
theorem pd2 : parseMethodDescriptor (⟨"com/example/protomata/protomata/Partition", "pairsAlike", "([I)J"⟩ : MethodName).desc = some ⟨[(.array .int)], some .long⟩ := by decide +kernel
theorem ef_pa0 (m : MethodId) (n0 : Nat) (vv0 : Int32) (vv1 : Int32) (vv2 : Int32) (vv3 : Int32) (vv4 : Int32) : entryFrame m #[.ref (n0 + 0)] 8 = mkF m 0 #[.val (.ref (n0 + 0)), .unset, .unset, .unset, .unset, .unset, .unset, .unset] [] := by first | (simp [entryFrame, mkF, argsToLocals, Value.category]; done) | rfl
def Q_pa0 (Z : State) (n0 : Nat) (k0 : ClassId) (k1 : ClassId) (vv0 : Int32) (vv1 : Int32) (vv2 : Int32) (vv3 : Int32) (vv4 : Int32) (v : Option Value) (h : Heap) (L : List Loc) : Prop := v = some (.long (own_pa0 )) ∧ Fr n0 L
set_option maxRecDepth 65536 in
set_option maxHeartbeats 40000000 in
theorem rm_pa0 (l : Launch) (Z : State) (a0 : Array Value) (hw : ∀ d ∈ tables_1, d.before a0 Z = true) (ws : List Jvm.Cond) (n0 : Nat) (k0 : ClassId) (k1 : ClassId) (vv0 : Int32) (vv1 : Int32) (vv2 : Int32) (vv3 : Int32) (vv4 : Int32) (h0 : Heap) (P0 : HP n0 h0 [AC k0 [], AC k1 [.int vv0, .int vv1, .int vv2, .int vv3, .int vv4]]) (hk0 : IsA Z k0 .int) (hk1 : IsA Z k1 .int) :
    MetFree l (⟨"com/example/protomata/protomata/Partition", "pairsAlike", "([I)J"⟩ : MethodName) (head1 (Jvm.Cond.code (⟨"com/example/protomata/protomata/Partition", "pairsAlike", "([I)J"⟩ : MethodName) prog_101_method_9_code 8 (some .long) :: ws) ({ frames := 0, cells := 1, slots := 0, locals := 0 } : Room)) (fun aa U => aa = #[.ref (n0 + 0)] ∧ Z.Warmed39 U.vm ∧ U.heap = h0) (fun _ _ _ _ _ => True) (fun _ U o U' => ∃ v L, o = .returned v ∧ Q_pa0 Z n0 k0 k1 vv0 vv1 vv2 vv3 vv4 v U'.heap L ∧ FrameEnd U o U' L ({ frames := 0, cells := 1, slots := 0, locals := 0 } : Room).cells ({ frames := 0, cells := 1, slots := 0, locals := 0 } : Room).slots) := by
  refine own_body pn2 ?_
  intro p e s m below meth c T0 hx hby hml hret hlk hown hnm hZ X0 e0
  subst e0
  have N0 : Fr n0 [] := Fr.nil n0
  refine own_cast (ef_pa0 m n0 vv0 vv1 vv2 vv3 vv4) ?_
  refine w_aloadN X0 hx (hb hby d2_0) rfl rfl (pc' := 1) rfl ?_
  refine w_arrlen (i := 0) X0 hx hZ P0 rfl hk0 (hb hby d2_1) (z := (0 : Int32)) rfl (pc' := 2) rfl ?_
  refine w_newarr (N := 0) (j := 2) X0 hx hZ P0 (ty := .int) rfl (wd1 hw) (hb hby d2_2) (by decide) (by decide) (by decide) (by decide) rfl (pc' := 4) rfl ?_
  intro T1 kA1 X1 hkA1 P1
  replace P1 : HP n0 T1.heap [AC k0 [], AC k1 [.int vv0, .int vv1, .int vv2, .int vv3, .int vv4], AC kA1 []] := P1
  replace P1 : HP n0 T1.heap [AC k0 [], AC k1 [.int vv0, .int vv1, .int vv2, .int vv3, .int vv4], AC kA1 (List.map Value.int ([] : List Int32))] := P1
  refine w_astoreN (l' := #[.val (.ref (n0 + 0)), .val (.ref (n0 + 2)), .unset, .unset, .unset, .unset, .unset, .unset]) X1 hx (hb hby d2_4) rfl rfl (pc' := 5) rfl ?_
  refine w_aloadN X1 hx (hb hby d2_5) rfl rfl (pc' := 6) rfl ?_
  refine w_astoreN (l' := #[.val (.ref (n0 + 0)), .val (.ref (n0 + 2)), .val (.ref (n0 + 0)), .unset, .unset, .unset, .unset, .unset]) X1 hx (hb hby d2_6) rfl rfl (pc' := 7) rfl ?_
  refine w_aloadN X1 hx (hb hby d2_7) rfl rfl (pc' := 8) rfl ?_
  refine w_arrlen (i := 0) X1 hx hZ P1 rfl hk0 (hb hby d2_8) (z := (0 : Int32)) rfl (pc' := 9) rfl ?_
  refine w_istoreN (l' := #[.val (.ref (n0 + 0)), .val (.ref (n0 + 2)), .val (.ref (n0 + 0)), .val (.int (0 : Int32)), .unset, .unset, .unset, .unset]) X1 hx (hb hby d2_9) rfl (pc' := 10) rfl ?_
  refine w_iconst (v := (0 : Int32)) X1 hx (hb hby d2_10) rfl (pc' := 11) rfl ?_
  refine w_istore (l' := #[.val (.ref (n0 + 0)), .val (.ref (n0 + 2)), .val (.ref (n0 + 0)), .val (.int (0 : Int32)), .val (.int (0 : Int32)), .unset, .unset, .unset]) X1 hx (hb hby d2_11) rfl (pc' := 13) rfl ?_
  refine w_iload X1 hx (hb hby d2_13) rfl (pc' := 15) rfl ?_
  refine w_iloadN X1 hx (hb hby d2_15) rfl (pc' := 16) rfl ?_
  refine w_icmp_ge X1 hx (hb hby d2_16) (by decide) (pcY := 39) (by decide) (pc' := 19) rfl (fun h0 => ?_) (fun h0 => absurd h0 (by decide))
  refine w_lconst (v := (0 : Int64)) X1 hx (hb hby d2_39) rfl (pc' := 40) rfl ?_
  refine w_lstoreN (l' := #[.val (.ref (n0 + 0)), .val (.ref (n0 + 2)), .val (.long (0 : Int64)), .second, .val (.int (0 : Int32)), .unset, .unset, .unset]) X1 hx (hb hby d2_40) rfl (pc' := 41) rfl ?_
  refine w_aloadN X1 hx (hb hby d2_41) rfl rfl (pc' := 42) rfl ?_
  refine w_astore (l' := #[.val (.ref (n0 + 0)), .val (.ref (n0 + 2)), .val (.long (0 : Int64)), .second, .val (.ref (n0 + 2)), .unset, .unset, .unset]) X1 hx (hb hby d2_42) rfl rfl (pc' := 44) rfl ?_
  refine w_aload X1 hx (hb hby d2_44) rfl rfl (pc' := 46) rfl ?_
  refine w_arrlen (i := 2) X1 hx hZ P1 rfl hkA1 (hb hby d2_46) (z := (0 : Int32)) (own_len (show ([] : List Int32).length = 0 from rfl)) (pc' := 47) rfl ?_
  refine w_istore (l' := #[.val (.ref (n0 + 0)), .val (.ref (n0 + 2)), .val (.long (0 : Int64)), .second, .val (.ref (n0 + 2)), .val (.int (0 : Int32)), .unset, .unset]) X1 hx (hb hby d2_47) rfl (pc' := 49) rfl ?_
  refine w_iconst (v := (0 : Int32)) X1 hx (hb hby d2_49) rfl (pc' := 50) rfl ?_
  refine w_istore (l' := #[.val (.ref (n0 + 0)), .val (.ref (n0 + 2)), .val (.long (0 : Int64)), .second, .val (.ref (n0 + 2)), .val (.int (0 : Int32)), .val (.int (0 : Int32)), .unset]) X1 hx (hb hby d2_50) rfl (pc' := 52) rfl ?_
  refine w_iload X1 hx (hb hby d2_52) rfl (pc' := 54) rfl ?_
  refine w_iload X1 hx (hb hby d2_54) rfl (pc' := 56) rfl ?_
  refine w_icmp_ge X1 hx (hb hby d2_56) (by decide) (pcY := 88) (by decide) (pc' := 59) rfl (fun h1 => ?_) (fun h1 => absurd h1 (by decide))
  refine w_lloadN X1 hx (hb hby d2_88) rfl (pc' := 89) rfl ?_
  exact w_ret_l X1 hx hret hlk (hb hby d2_89) (by decide) (by decide) ⟨rfl, N0⟩
theorem own_fin0 : own_pa0  = ((((((((((sp_sm0_01 0 0 0 0 0) + (sp_sm0_02 0 0 0 0 0)) + (sp_sm0_03 0 0 0 0 0)) + (sp_sm0_04 0 0 0 0 0)) + (sp_sm0_12 0 0 0 0 0)) + (sp_sm0_13 0 0 0 0 0)) + (sp_sm0_14 0 0 0 0 0)) + (sp_sm0_23 0 0 0 0 0)) + (sp_sm0_24 0 0 0 0 0)) + (sp_sm0_34 0 0 0 0 0)) := by decide +kernel
theorem ef_sm1_01 (m : MethodId) (n0 : Nat) (gg0 : Int32) (vv0 : Int32) (vv1 : Int32) (vv2 : Int32) (vv3 : Int32) (vv4 : Int32) : entryFrame m #[.ref (n0 + 1), .int (1 : Int32), .int (0 : Int32), .int (1 : Int32)] 4 = mkF m 0 #[.val (.ref (n0 + 1)), .val (.int (1 : Int32)), .val (.int (0 : Int32)), .val (.int (1 : Int32))] [] := by first | (simp [entryFrame, mkF, argsToLocals, Value.category]; done) | rfl
def sp_sm1_01 (gg0 : Int32) (vv0 : Int32) (vv1 : Int32) (vv2 : Int32) (vv3 : Int32) (vv4 : Int32) : Int64 := (0 : Int64)
set_option maxRecDepth 65536 in
set_option maxHeartbeats 40000000 in
theorem rm_sm1_01 (l : Launch) (Z : State) (a0 : Array Value) (hw : ∀ d ∈ tables_1, d.before a0 Z = true) (ws : List Jvm.Cond) (n0 : Nat) (gg0 : Int32) (vv0 : Int32) (vv1 : Int32) (vv2 : Int32) (vv3 : Int32) (vv4 : Int32) (k0 : ClassId) (hk0 : IsA Z k0 .int) (k1 : ClassId) (hk1 : IsA Z k1 .int) (h0 : Heap) (P0 : HP n0 h0 [AC k0 [.int gg0], AC k1 [.int vv0, .int vv1, .int vv2, .int vv3, .int vv4]]) :
    MetFree l (⟨"com/example/protomata/protomata/PartitionPairsAlikePinLaw", "same", "([IIII)J"⟩ : MethodName) (head1 (Jvm.Cond.code (⟨"com/example/protomata/protomata/PartitionPairsAlikePinLaw", "same", "([IIII)J"⟩ : MethodName) method_3_code 4 (some .long) :: ws) ({ frames := 0, cells := 0, slots := 0, locals := 0 } : Room)) (fun aa U => aa = #[.ref (n0 + 1), .int (1 : Int32), .int (0 : Int32), .int (1 : Int32)] ∧ Z.Warmed39 U.vm ∧ U.heap = h0) (fun _ _ _ _ _ => True) (fun _ U o U' => ∃ v L, o = .returned v ∧ PureQ (.long (sp_sm1_01 gg0 vv0 vv1 vv2 vv3 vv4)) h0 v U'.heap L ∧ FrameEnd U o U' L ({ frames := 0, cells := 0, slots := 0, locals := 0 } : Room).cells ({ frames := 0, cells := 0, slots := 0, locals := 0 } : Room).slots) := by
  refine own_body pn1 ?_
  intro p e s m below meth c T0 hx hby hml hret hlk hown hnm hZ X0 e0
  subst e0
  refine own_cast (ef_sm1_01 m n0 gg0 vv0 vv1 vv2 vv3 vv4) ?_
  refine w_iloadN X0 hx (hb hby d1_0) rfl (pc' := 1) rfl ?_
  refine w_iloadN X0 hx (hb hby d1_1) rfl (pc' := 2) rfl ?_
  refine w_icmp_ge X0 hx (hb hby d1_2) (by decide) (pcY := 16) (by decide) (pc' := 5) rfl (fun h0 => ?_) (fun h0 => absurd h0 (by decide))
  refine w_lconst (v := (0 : Int64)) X0 hx (hb hby d1_16) rfl (pc' := 17) rfl ?_
  exact w_ret_l X0 hx hret hlk (hb hby d1_17) (by decide) (by decide) ⟨congrArg (fun q => some (Value.long q)) (show (0 : Int64) = sp_sm1_01 gg0 vv0 vv1 vv2 vv3 vv4 from by rw [sp_sm1_01]), rfl, rfl⟩
theorem ef_sm1_02 (m : MethodId) (n0 : Nat) (gg0 : Int32) (vv0 : Int32) (vv1 : Int32) (vv2 : Int32) (vv3 : Int32) (vv4 : Int32) : entryFrame m #[.ref (n0 + 1), .int (1 : Int32), .int (0 : Int32), .int (2 : Int32)] 4 = mkF m 0 #[.val (.ref (n0 + 1)), .val (.int (1 : Int32)), .val (.int (0 : Int32)), .val (.int (2 : Int32))] [] := by first | (simp [entryFrame, mkF, argsToLocals, Value.category]; done) | rfl
def sp_sm1_02 (gg0 : Int32) (vv0 : Int32) (vv1 : Int32) (vv2 : Int32) (vv3 : Int32) (vv4 : Int32) : Int64 := (0 : Int64)
set_option maxRecDepth 65536 in
set_option maxHeartbeats 40000000 in
theorem rm_sm1_02 (l : Launch) (Z : State) (a0 : Array Value) (hw : ∀ d ∈ tables_1, d.before a0 Z = true) (ws : List Jvm.Cond) (n0 : Nat) (gg0 : Int32) (vv0 : Int32) (vv1 : Int32) (vv2 : Int32) (vv3 : Int32) (vv4 : Int32) (k0 : ClassId) (hk0 : IsA Z k0 .int) (k1 : ClassId) (hk1 : IsA Z k1 .int) (h0 : Heap) (P0 : HP n0 h0 [AC k0 [.int gg0], AC k1 [.int vv0, .int vv1, .int vv2, .int vv3, .int vv4]]) :
    MetFree l (⟨"com/example/protomata/protomata/PartitionPairsAlikePinLaw", "same", "([IIII)J"⟩ : MethodName) (head1 (Jvm.Cond.code (⟨"com/example/protomata/protomata/PartitionPairsAlikePinLaw", "same", "([IIII)J"⟩ : MethodName) method_3_code 4 (some .long) :: ws) ({ frames := 0, cells := 0, slots := 0, locals := 0 } : Room)) (fun aa U => aa = #[.ref (n0 + 1), .int (1 : Int32), .int (0 : Int32), .int (2 : Int32)] ∧ Z.Warmed39 U.vm ∧ U.heap = h0) (fun _ _ _ _ _ => True) (fun _ U o U' => ∃ v L, o = .returned v ∧ PureQ (.long (sp_sm1_02 gg0 vv0 vv1 vv2 vv3 vv4)) h0 v U'.heap L ∧ FrameEnd U o U' L ({ frames := 0, cells := 0, slots := 0, locals := 0 } : Room).cells ({ frames := 0, cells := 0, slots := 0, locals := 0 } : Room).slots) := by
  refine own_body pn1 ?_
  intro p e s m below meth c T0 hx hby hml hret hlk hown hnm hZ X0 e0
  subst e0
  refine own_cast (ef_sm1_02 m n0 gg0 vv0 vv1 vv2 vv3 vv4) ?_
  refine w_iloadN X0 hx (hb hby d1_0) rfl (pc' := 1) rfl ?_
  refine w_iloadN X0 hx (hb hby d1_1) rfl (pc' := 2) rfl ?_
  refine w_icmp_ge X0 hx (hb hby d1_2) (by decide) (pcY := 16) (by decide) (pc' := 5) rfl (fun h0 => ?_) (fun h0 => absurd h0 (by decide))
  refine w_lconst (v := (0 : Int64)) X0 hx (hb hby d1_16) rfl (pc' := 17) rfl ?_
  exact w_ret_l X0 hx hret hlk (hb hby d1_17) (by decide) (by decide) ⟨congrArg (fun q => some (Value.long q)) (show (0 : Int64) = sp_sm1_02 gg0 vv0 vv1 vv2 vv3 vv4 from by rw [sp_sm1_02]), rfl, rfl⟩
theorem ef_sm1_03 (m : MethodId) (n0 : Nat) (gg0 : Int32) (vv0 : Int32) (vv1 : Int32) (vv2 : Int32) (vv3 : Int32) (vv4 : Int32) : entryFrame m #[.ref (n0 + 1), .int (1 : Int32), .int (0 : Int32), .int (3 : Int32)] 4 = mkF m 0 #[.val (.ref (n0 + 1)), .val (.int (1 : Int32)), .val (.int (0 : Int32)), .val (.int (3 : Int32))] [] := by first | (simp [entryFrame, mkF, argsToLocals, Value.category]; done) | rfl
def sp_sm1_03 (gg0 : Int32) (vv0 : Int32) (vv1 : Int32) (vv2 : Int32) (vv3 : Int32) (vv4 : Int32) : Int64 := (0 : Int64)
set_option maxRecDepth 65536 in
set_option maxHeartbeats 40000000 in
theorem rm_sm1_03 (l : Launch) (Z : State) (a0 : Array Value) (hw : ∀ d ∈ tables_1, d.before a0 Z = true) (ws : List Jvm.Cond) (n0 : Nat) (gg0 : Int32) (vv0 : Int32) (vv1 : Int32) (vv2 : Int32) (vv3 : Int32) (vv4 : Int32) (k0 : ClassId) (hk0 : IsA Z k0 .int) (k1 : ClassId) (hk1 : IsA Z k1 .int) (h0 : Heap) (P0 : HP n0 h0 [AC k0 [.int gg0], AC k1 [.int vv0, .int vv1, .int vv2, .int vv3, .int vv4]]) :
    MetFree l (⟨"com/example/protomata/protomata/PartitionPairsAlikePinLaw", "same", "([IIII)J"⟩ : MethodName) (head1 (Jvm.Cond.code (⟨"com/example/protomata/protomata/PartitionPairsAlikePinLaw", "same", "([IIII)J"⟩ : MethodName) method_3_code 4 (some .long) :: ws) ({ frames := 0, cells := 0, slots := 0, locals := 0 } : Room)) (fun aa U => aa = #[.ref (n0 + 1), .int (1 : Int32), .int (0 : Int32), .int (3 : Int32)] ∧ Z.Warmed39 U.vm ∧ U.heap = h0) (fun _ _ _ _ _ => True) (fun _ U o U' => ∃ v L, o = .returned v ∧ PureQ (.long (sp_sm1_03 gg0 vv0 vv1 vv2 vv3 vv4)) h0 v U'.heap L ∧ FrameEnd U o U' L ({ frames := 0, cells := 0, slots := 0, locals := 0 } : Room).cells ({ frames := 0, cells := 0, slots := 0, locals := 0 } : Room).slots) := by
  refine own_body pn1 ?_
  intro p e s m below meth c T0 hx hby hml hret hlk hown hnm hZ X0 e0
  subst e0
  refine own_cast (ef_sm1_03 m n0 gg0 vv0 vv1 vv2 vv3 vv4) ?_
  refine w_iloadN X0 hx (hb hby d1_0) rfl (pc' := 1) rfl ?_
  refine w_iloadN X0 hx (hb hby d1_1) rfl (pc' := 2) rfl ?_
  refine w_icmp_ge X0 hx (hb hby d1_2) (by decide) (pcY := 16) (by decide) (pc' := 5) rfl (fun h0 => ?_) (fun h0 => absurd h0 (by decide))
  refine w_lconst (v := (0 : Int64)) X0 hx (hb hby d1_16) rfl (pc' := 17) rfl ?_
  exact w_ret_l X0 hx hret hlk (hb hby d1_17) (by decide) (by decide) ⟨congrArg (fun q => some (Value.long q)) (show (0 : Int64) = sp_sm1_03 gg0 vv0 vv1 vv2 vv3 vv4 from by rw [sp_sm1_03]), rfl, rfl⟩
theorem ef_sm1_04 (m : MethodId) (n0 : Nat) (gg0 : Int32) (vv0 : Int32) (vv1 : Int32) (vv2 : Int32) (vv3 : Int32) (vv4 : Int32) : entryFrame m #[.ref (n0 + 1), .int (1 : Int32), .int (0 : Int32), .int (4 : Int32)] 4 = mkF m 0 #[.val (.ref (n0 + 1)), .val (.int (1 : Int32)), .val (.int (0 : Int32)), .val (.int (4 : Int32))] [] := by first | (simp [entryFrame, mkF, argsToLocals, Value.category]; done) | rfl
def sp_sm1_04 (gg0 : Int32) (vv0 : Int32) (vv1 : Int32) (vv2 : Int32) (vv3 : Int32) (vv4 : Int32) : Int64 := (0 : Int64)
set_option maxRecDepth 65536 in
set_option maxHeartbeats 40000000 in
theorem rm_sm1_04 (l : Launch) (Z : State) (a0 : Array Value) (hw : ∀ d ∈ tables_1, d.before a0 Z = true) (ws : List Jvm.Cond) (n0 : Nat) (gg0 : Int32) (vv0 : Int32) (vv1 : Int32) (vv2 : Int32) (vv3 : Int32) (vv4 : Int32) (k0 : ClassId) (hk0 : IsA Z k0 .int) (k1 : ClassId) (hk1 : IsA Z k1 .int) (h0 : Heap) (P0 : HP n0 h0 [AC k0 [.int gg0], AC k1 [.int vv0, .int vv1, .int vv2, .int vv3, .int vv4]]) :
    MetFree l (⟨"com/example/protomata/protomata/PartitionPairsAlikePinLaw", "same", "([IIII)J"⟩ : MethodName) (head1 (Jvm.Cond.code (⟨"com/example/protomata/protomata/PartitionPairsAlikePinLaw", "same", "([IIII)J"⟩ : MethodName) method_3_code 4 (some .long) :: ws) ({ frames := 0, cells := 0, slots := 0, locals := 0 } : Room)) (fun aa U => aa = #[.ref (n0 + 1), .int (1 : Int32), .int (0 : Int32), .int (4 : Int32)] ∧ Z.Warmed39 U.vm ∧ U.heap = h0) (fun _ _ _ _ _ => True) (fun _ U o U' => ∃ v L, o = .returned v ∧ PureQ (.long (sp_sm1_04 gg0 vv0 vv1 vv2 vv3 vv4)) h0 v U'.heap L ∧ FrameEnd U o U' L ({ frames := 0, cells := 0, slots := 0, locals := 0 } : Room).cells ({ frames := 0, cells := 0, slots := 0, locals := 0 } : Room).slots) := by
  refine own_body pn1 ?_
  intro p e s m below meth c T0 hx hby hml hret hlk hown hnm hZ X0 e0
  subst e0
  refine own_cast (ef_sm1_04 m n0 gg0 vv0 vv1 vv2 vv3 vv4) ?_
  refine w_iloadN X0 hx (hb hby d1_0) rfl (pc' := 1) rfl ?_
  refine w_iloadN X0 hx (hb hby d1_1) rfl (pc' := 2) rfl ?_
  refine w_icmp_ge X0 hx (hb hby d1_2) (by decide) (pcY := 16) (by decide) (pc' := 5) rfl (fun h0 => ?_) (fun h0 => absurd h0 (by decide))
  refine w_lconst (v := (0 : Int64)) X0 hx (hb hby d1_16) rfl (pc' := 17) rfl ?_
  exact w_ret_l X0 hx hret hlk (hb hby d1_17) (by decide) (by decide) ⟨congrArg (fun q => some (Value.long q)) (show (0 : Int64) = sp_sm1_04 gg0 vv0 vv1 vv2 vv3 vv4 from by rw [sp_sm1_04]), rfl, rfl⟩
theorem ef_sm1_12 (m : MethodId) (n0 : Nat) (gg0 : Int32) (vv0 : Int32) (vv1 : Int32) (vv2 : Int32) (vv3 : Int32) (vv4 : Int32) : entryFrame m #[.ref (n0 + 1), .int (1 : Int32), .int (1 : Int32), .int (2 : Int32)] 4 = mkF m 0 #[.val (.ref (n0 + 1)), .val (.int (1 : Int32)), .val (.int (1 : Int32)), .val (.int (2 : Int32))] [] := by first | (simp [entryFrame, mkF, argsToLocals, Value.category]; done) | rfl
def sp_sm1_12 (gg0 : Int32) (vv0 : Int32) (vv1 : Int32) (vv2 : Int32) (vv3 : Int32) (vv4 : Int32) : Int64 := (0 : Int64)
set_option maxRecDepth 65536 in
set_option maxHeartbeats 40000000 in
theorem rm_sm1_12 (l : Launch) (Z : State) (a0 : Array Value) (hw : ∀ d ∈ tables_1, d.before a0 Z = true) (ws : List Jvm.Cond) (n0 : Nat) (gg0 : Int32) (vv0 : Int32) (vv1 : Int32) (vv2 : Int32) (vv3 : Int32) (vv4 : Int32) (k0 : ClassId) (hk0 : IsA Z k0 .int) (k1 : ClassId) (hk1 : IsA Z k1 .int) (h0 : Heap) (P0 : HP n0 h0 [AC k0 [.int gg0], AC k1 [.int vv0, .int vv1, .int vv2, .int vv3, .int vv4]]) :
    MetFree l (⟨"com/example/protomata/protomata/PartitionPairsAlikePinLaw", "same", "([IIII)J"⟩ : MethodName) (head1 (Jvm.Cond.code (⟨"com/example/protomata/protomata/PartitionPairsAlikePinLaw", "same", "([IIII)J"⟩ : MethodName) method_3_code 4 (some .long) :: ws) ({ frames := 0, cells := 0, slots := 0, locals := 0 } : Room)) (fun aa U => aa = #[.ref (n0 + 1), .int (1 : Int32), .int (1 : Int32), .int (2 : Int32)] ∧ Z.Warmed39 U.vm ∧ U.heap = h0) (fun _ _ _ _ _ => True) (fun _ U o U' => ∃ v L, o = .returned v ∧ PureQ (.long (sp_sm1_12 gg0 vv0 vv1 vv2 vv3 vv4)) h0 v U'.heap L ∧ FrameEnd U o U' L ({ frames := 0, cells := 0, slots := 0, locals := 0 } : Room).cells ({ frames := 0, cells := 0, slots := 0, locals := 0 } : Room).slots) := by
  refine own_body pn1 ?_
  intro p e s m below meth c T0 hx hby hml hret hlk hown hnm hZ X0 e0
  subst e0
  refine own_cast (ef_sm1_12 m n0 gg0 vv0 vv1 vv2 vv3 vv4) ?_
  refine w_iloadN X0 hx (hb hby d1_0) rfl (pc' := 1) rfl ?_
  refine w_iloadN X0 hx (hb hby d1_1) rfl (pc' := 2) rfl ?_
  refine w_icmp_ge X0 hx (hb hby d1_2) (by decide) (pcY := 16) (by decide) (pc' := 5) rfl (fun h0 => ?_) (fun h0 => absurd h0 (by decide))
  refine w_lconst (v := (0 : Int64)) X0 hx (hb hby d1_16) rfl (pc' := 17) rfl ?_
  exact w_ret_l X0 hx hret hlk (hb hby d1_17) (by decide) (by decide) ⟨congrArg (fun q => some (Value.long q)) (show (0 : Int64) = sp_sm1_12 gg0 vv0 vv1 vv2 vv3 vv4 from by rw [sp_sm1_12]), rfl, rfl⟩
theorem ef_sm1_13 (m : MethodId) (n0 : Nat) (gg0 : Int32) (vv0 : Int32) (vv1 : Int32) (vv2 : Int32) (vv3 : Int32) (vv4 : Int32) : entryFrame m #[.ref (n0 + 1), .int (1 : Int32), .int (1 : Int32), .int (3 : Int32)] 4 = mkF m 0 #[.val (.ref (n0 + 1)), .val (.int (1 : Int32)), .val (.int (1 : Int32)), .val (.int (3 : Int32))] [] := by first | (simp [entryFrame, mkF, argsToLocals, Value.category]; done) | rfl
def sp_sm1_13 (gg0 : Int32) (vv0 : Int32) (vv1 : Int32) (vv2 : Int32) (vv3 : Int32) (vv4 : Int32) : Int64 := (0 : Int64)
set_option maxRecDepth 65536 in
set_option maxHeartbeats 40000000 in
theorem rm_sm1_13 (l : Launch) (Z : State) (a0 : Array Value) (hw : ∀ d ∈ tables_1, d.before a0 Z = true) (ws : List Jvm.Cond) (n0 : Nat) (gg0 : Int32) (vv0 : Int32) (vv1 : Int32) (vv2 : Int32) (vv3 : Int32) (vv4 : Int32) (k0 : ClassId) (hk0 : IsA Z k0 .int) (k1 : ClassId) (hk1 : IsA Z k1 .int) (h0 : Heap) (P0 : HP n0 h0 [AC k0 [.int gg0], AC k1 [.int vv0, .int vv1, .int vv2, .int vv3, .int vv4]]) :
    MetFree l (⟨"com/example/protomata/protomata/PartitionPairsAlikePinLaw", "same", "([IIII)J"⟩ : MethodName) (head1 (Jvm.Cond.code (⟨"com/example/protomata/protomata/PartitionPairsAlikePinLaw", "same", "([IIII)J"⟩ : MethodName) method_3_code 4 (some .long) :: ws) ({ frames := 0, cells := 0, slots := 0, locals := 0 } : Room)) (fun aa U => aa = #[.ref (n0 + 1), .int (1 : Int32), .int (1 : Int32), .int (3 : Int32)] ∧ Z.Warmed39 U.vm ∧ U.heap = h0) (fun _ _ _ _ _ => True) (fun _ U o U' => ∃ v L, o = .returned v ∧ PureQ (.long (sp_sm1_13 gg0 vv0 vv1 vv2 vv3 vv4)) h0 v U'.heap L ∧ FrameEnd U o U' L ({ frames := 0, cells := 0, slots := 0, locals := 0 } : Room).cells ({ frames := 0, cells := 0, slots := 0, locals := 0 } : Room).slots) := by
  refine own_body pn1 ?_
  intro p e s m below meth c T0 hx hby hml hret hlk hown hnm hZ X0 e0
  subst e0
  refine own_cast (ef_sm1_13 m n0 gg0 vv0 vv1 vv2 vv3 vv4) ?_
  refine w_iloadN X0 hx (hb hby d1_0) rfl (pc' := 1) rfl ?_
  refine w_iloadN X0 hx (hb hby d1_1) rfl (pc' := 2) rfl ?_
  refine w_icmp_ge X0 hx (hb hby d1_2) (by decide) (pcY := 16) (by decide) (pc' := 5) rfl (fun h0 => ?_) (fun h0 => absurd h0 (by decide))
  refine w_lconst (v := (0 : Int64)) X0 hx (hb hby d1_16) rfl (pc' := 17) rfl ?_
  exact w_ret_l X0 hx hret hlk (hb hby d1_17) (by decide) (by decide) ⟨congrArg (fun q => some (Value.long q)) (show (0 : Int64) = sp_sm1_13 gg0 vv0 vv1 vv2 vv3 vv4 from by rw [sp_sm1_13]), rfl, rfl⟩
theorem ef_sm1_14 (m : MethodId) (n0 : Nat) (gg0 : Int32) (vv0 : Int32) (vv1 : Int32) (vv2 : Int32) (vv3 : Int32) (vv4 : Int32) : entryFrame m #[.ref (n0 + 1), .int (1 : Int32), .int (1 : Int32), .int (4 : Int32)] 4 = mkF m 0 #[.val (.ref (n0 + 1)), .val (.int (1 : Int32)), .val (.int (1 : Int32)), .val (.int (4 : Int32))] [] := by first | (simp [entryFrame, mkF, argsToLocals, Value.category]; done) | rfl
def sp_sm1_14 (gg0 : Int32) (vv0 : Int32) (vv1 : Int32) (vv2 : Int32) (vv3 : Int32) (vv4 : Int32) : Int64 := (0 : Int64)
set_option maxRecDepth 65536 in
set_option maxHeartbeats 40000000 in
theorem rm_sm1_14 (l : Launch) (Z : State) (a0 : Array Value) (hw : ∀ d ∈ tables_1, d.before a0 Z = true) (ws : List Jvm.Cond) (n0 : Nat) (gg0 : Int32) (vv0 : Int32) (vv1 : Int32) (vv2 : Int32) (vv3 : Int32) (vv4 : Int32) (k0 : ClassId) (hk0 : IsA Z k0 .int) (k1 : ClassId) (hk1 : IsA Z k1 .int) (h0 : Heap) (P0 : HP n0 h0 [AC k0 [.int gg0], AC k1 [.int vv0, .int vv1, .int vv2, .int vv3, .int vv4]]) :
    MetFree l (⟨"com/example/protomata/protomata/PartitionPairsAlikePinLaw", "same", "([IIII)J"⟩ : MethodName) (head1 (Jvm.Cond.code (⟨"com/example/protomata/protomata/PartitionPairsAlikePinLaw", "same", "([IIII)J"⟩ : MethodName) method_3_code 4 (some .long) :: ws) ({ frames := 0, cells := 0, slots := 0, locals := 0 } : Room)) (fun aa U => aa = #[.ref (n0 + 1), .int (1 : Int32), .int (1 : Int32), .int (4 : Int32)] ∧ Z.Warmed39 U.vm ∧ U.heap = h0) (fun _ _ _ _ _ => True) (fun _ U o U' => ∃ v L, o = .returned v ∧ PureQ (.long (sp_sm1_14 gg0 vv0 vv1 vv2 vv3 vv4)) h0 v U'.heap L ∧ FrameEnd U o U' L ({ frames := 0, cells := 0, slots := 0, locals := 0 } : Room).cells ({ frames := 0, cells := 0, slots := 0, locals := 0 } : Room).slots) := by
  refine own_body pn1 ?_
  intro p e s m below meth c T0 hx hby hml hret hlk hown hnm hZ X0 e0
  subst e0
  refine own_cast (ef_sm1_14 m n0 gg0 vv0 vv1 vv2 vv3 vv4) ?_
  refine w_iloadN X0 hx (hb hby d1_0) rfl (pc' := 1) rfl ?_
  refine w_iloadN X0 hx (hb hby d1_1) rfl (pc' := 2) rfl ?_
  refine w_icmp_ge X0 hx (hb hby d1_2) (by decide) (pcY := 16) (by decide) (pc' := 5) rfl (fun h0 => ?_) (fun h0 => absurd h0 (by decide))
  refine w_lconst (v := (0 : Int64)) X0 hx (hb hby d1_16) rfl (pc' := 17) rfl ?_
  exact w_ret_l X0 hx hret hlk (hb hby d1_17) (by decide) (by decide) ⟨congrArg (fun q => some (Value.long q)) (show (0 : Int64) = sp_sm1_14 gg0 vv0 vv1 vv2 vv3 vv4 from by rw [sp_sm1_14]), rfl, rfl⟩
theorem ef_sm1_23 (m : MethodId) (n0 : Nat) (gg0 : Int32) (vv0 : Int32) (vv1 : Int32) (vv2 : Int32) (vv3 : Int32) (vv4 : Int32) : entryFrame m #[.ref (n0 + 1), .int (1 : Int32), .int (2 : Int32), .int (3 : Int32)] 4 = mkF m 0 #[.val (.ref (n0 + 1)), .val (.int (1 : Int32)), .val (.int (2 : Int32)), .val (.int (3 : Int32))] [] := by first | (simp [entryFrame, mkF, argsToLocals, Value.category]; done) | rfl
def sp_sm1_23 (gg0 : Int32) (vv0 : Int32) (vv1 : Int32) (vv2 : Int32) (vv3 : Int32) (vv4 : Int32) : Int64 := (0 : Int64)
set_option maxRecDepth 65536 in
set_option maxHeartbeats 40000000 in
theorem rm_sm1_23 (l : Launch) (Z : State) (a0 : Array Value) (hw : ∀ d ∈ tables_1, d.before a0 Z = true) (ws : List Jvm.Cond) (n0 : Nat) (gg0 : Int32) (vv0 : Int32) (vv1 : Int32) (vv2 : Int32) (vv3 : Int32) (vv4 : Int32) (k0 : ClassId) (hk0 : IsA Z k0 .int) (k1 : ClassId) (hk1 : IsA Z k1 .int) (h0 : Heap) (P0 : HP n0 h0 [AC k0 [.int gg0], AC k1 [.int vv0, .int vv1, .int vv2, .int vv3, .int vv4]]) :
    MetFree l (⟨"com/example/protomata/protomata/PartitionPairsAlikePinLaw", "same", "([IIII)J"⟩ : MethodName) (head1 (Jvm.Cond.code (⟨"com/example/protomata/protomata/PartitionPairsAlikePinLaw", "same", "([IIII)J"⟩ : MethodName) method_3_code 4 (some .long) :: ws) ({ frames := 0, cells := 0, slots := 0, locals := 0 } : Room)) (fun aa U => aa = #[.ref (n0 + 1), .int (1 : Int32), .int (2 : Int32), .int (3 : Int32)] ∧ Z.Warmed39 U.vm ∧ U.heap = h0) (fun _ _ _ _ _ => True) (fun _ U o U' => ∃ v L, o = .returned v ∧ PureQ (.long (sp_sm1_23 gg0 vv0 vv1 vv2 vv3 vv4)) h0 v U'.heap L ∧ FrameEnd U o U' L ({ frames := 0, cells := 0, slots := 0, locals := 0 } : Room).cells ({ frames := 0, cells := 0, slots := 0, locals := 0 } : Room).slots) := by
  refine own_body pn1 ?_
  intro p e s m below meth c T0 hx hby hml hret hlk hown hnm hZ X0 e0
  subst e0
  refine own_cast (ef_sm1_23 m n0 gg0 vv0 vv1 vv2 vv3 vv4) ?_
  refine w_iloadN X0 hx (hb hby d1_0) rfl (pc' := 1) rfl ?_
  refine w_iloadN X0 hx (hb hby d1_1) rfl (pc' := 2) rfl ?_
  refine w_icmp_ge X0 hx (hb hby d1_2) (by decide) (pcY := 16) (by decide) (pc' := 5) rfl (fun h0 => ?_) (fun h0 => absurd h0 (by decide))
  refine w_lconst (v := (0 : Int64)) X0 hx (hb hby d1_16) rfl (pc' := 17) rfl ?_
  exact w_ret_l X0 hx hret hlk (hb hby d1_17) (by decide) (by decide) ⟨congrArg (fun q => some (Value.long q)) (show (0 : Int64) = sp_sm1_23 gg0 vv0 vv1 vv2 vv3 vv4 from by rw [sp_sm1_23]), rfl, rfl⟩
theorem ef_sm1_24 (m : MethodId) (n0 : Nat) (gg0 : Int32) (vv0 : Int32) (vv1 : Int32) (vv2 : Int32) (vv3 : Int32) (vv4 : Int32) : entryFrame m #[.ref (n0 + 1), .int (1 : Int32), .int (2 : Int32), .int (4 : Int32)] 4 = mkF m 0 #[.val (.ref (n0 + 1)), .val (.int (1 : Int32)), .val (.int (2 : Int32)), .val (.int (4 : Int32))] [] := by first | (simp [entryFrame, mkF, argsToLocals, Value.category]; done) | rfl
def sp_sm1_24 (gg0 : Int32) (vv0 : Int32) (vv1 : Int32) (vv2 : Int32) (vv3 : Int32) (vv4 : Int32) : Int64 := (0 : Int64)
set_option maxRecDepth 65536 in
set_option maxHeartbeats 40000000 in
theorem rm_sm1_24 (l : Launch) (Z : State) (a0 : Array Value) (hw : ∀ d ∈ tables_1, d.before a0 Z = true) (ws : List Jvm.Cond) (n0 : Nat) (gg0 : Int32) (vv0 : Int32) (vv1 : Int32) (vv2 : Int32) (vv3 : Int32) (vv4 : Int32) (k0 : ClassId) (hk0 : IsA Z k0 .int) (k1 : ClassId) (hk1 : IsA Z k1 .int) (h0 : Heap) (P0 : HP n0 h0 [AC k0 [.int gg0], AC k1 [.int vv0, .int vv1, .int vv2, .int vv3, .int vv4]]) :
    MetFree l (⟨"com/example/protomata/protomata/PartitionPairsAlikePinLaw", "same", "([IIII)J"⟩ : MethodName) (head1 (Jvm.Cond.code (⟨"com/example/protomata/protomata/PartitionPairsAlikePinLaw", "same", "([IIII)J"⟩ : MethodName) method_3_code 4 (some .long) :: ws) ({ frames := 0, cells := 0, slots := 0, locals := 0 } : Room)) (fun aa U => aa = #[.ref (n0 + 1), .int (1 : Int32), .int (2 : Int32), .int (4 : Int32)] ∧ Z.Warmed39 U.vm ∧ U.heap = h0) (fun _ _ _ _ _ => True) (fun _ U o U' => ∃ v L, o = .returned v ∧ PureQ (.long (sp_sm1_24 gg0 vv0 vv1 vv2 vv3 vv4)) h0 v U'.heap L ∧ FrameEnd U o U' L ({ frames := 0, cells := 0, slots := 0, locals := 0 } : Room).cells ({ frames := 0, cells := 0, slots := 0, locals := 0 } : Room).slots) := by
  refine own_body pn1 ?_
  intro p e s m below meth c T0 hx hby hml hret hlk hown hnm hZ X0 e0
  subst e0
  refine own_cast (ef_sm1_24 m n0 gg0 vv0 vv1 vv2 vv3 vv4) ?_
  refine w_iloadN X0 hx (hb hby d1_0) rfl (pc' := 1) rfl ?_
  refine w_iloadN X0 hx (hb hby d1_1) rfl (pc' := 2) rfl ?_
  refine w_icmp_ge X0 hx (hb hby d1_2) (by decide) (pcY := 16) (by decide) (pc' := 5) rfl (fun h0 => ?_) (fun h0 => absurd h0 (by decide))
  refine w_lconst (v := (0 : Int64)) X0 hx (hb hby d1_16) rfl (pc' := 17) rfl ?_
  exact w_ret_l X0 hx hret hlk (hb hby d1_17) (by decide) (by decide) ⟨congrArg (fun q => some (Value.long q)) (show (0 : Int64) = sp_sm1_24 gg0 vv0 vv1 vv2 vv3 vv4 from by rw [sp_sm1_24]), rfl, rfl⟩
theorem ef_sm1_34 (m : MethodId) (n0 : Nat) (gg0 : Int32) (vv0 : Int32) (vv1 : Int32) (vv2 : Int32) (vv3 : Int32) (vv4 : Int32) : entryFrame m #[.ref (n0 + 1), .int (1 : Int32), .int (3 : Int32), .int (4 : Int32)] 4 = mkF m 0 #[.val (.ref (n0 + 1)), .val (.int (1 : Int32)), .val (.int (3 : Int32)), .val (.int (4 : Int32))] [] := by first | (simp [entryFrame, mkF, argsToLocals, Value.category]; done) | rfl
def sp_sm1_34 (gg0 : Int32) (vv0 : Int32) (vv1 : Int32) (vv2 : Int32) (vv3 : Int32) (vv4 : Int32) : Int64 := (0 : Int64)
set_option maxRecDepth 65536 in
set_option maxHeartbeats 40000000 in
theorem rm_sm1_34 (l : Launch) (Z : State) (a0 : Array Value) (hw : ∀ d ∈ tables_1, d.before a0 Z = true) (ws : List Jvm.Cond) (n0 : Nat) (gg0 : Int32) (vv0 : Int32) (vv1 : Int32) (vv2 : Int32) (vv3 : Int32) (vv4 : Int32) (k0 : ClassId) (hk0 : IsA Z k0 .int) (k1 : ClassId) (hk1 : IsA Z k1 .int) (h0 : Heap) (P0 : HP n0 h0 [AC k0 [.int gg0], AC k1 [.int vv0, .int vv1, .int vv2, .int vv3, .int vv4]]) :
    MetFree l (⟨"com/example/protomata/protomata/PartitionPairsAlikePinLaw", "same", "([IIII)J"⟩ : MethodName) (head1 (Jvm.Cond.code (⟨"com/example/protomata/protomata/PartitionPairsAlikePinLaw", "same", "([IIII)J"⟩ : MethodName) method_3_code 4 (some .long) :: ws) ({ frames := 0, cells := 0, slots := 0, locals := 0 } : Room)) (fun aa U => aa = #[.ref (n0 + 1), .int (1 : Int32), .int (3 : Int32), .int (4 : Int32)] ∧ Z.Warmed39 U.vm ∧ U.heap = h0) (fun _ _ _ _ _ => True) (fun _ U o U' => ∃ v L, o = .returned v ∧ PureQ (.long (sp_sm1_34 gg0 vv0 vv1 vv2 vv3 vv4)) h0 v U'.heap L ∧ FrameEnd U o U' L ({ frames := 0, cells := 0, slots := 0, locals := 0 } : Room).cells ({ frames := 0, cells := 0, slots := 0, locals := 0 } : Room).slots) := by
  refine own_body pn1 ?_
  intro p e s m below meth c T0 hx hby hml hret hlk hown hnm hZ X0 e0
  subst e0
  refine own_cast (ef_sm1_34 m n0 gg0 vv0 vv1 vv2 vv3 vv4) ?_
  refine w_iloadN X0 hx (hb hby d1_0) rfl (pc' := 1) rfl ?_
  refine w_iloadN X0 hx (hb hby d1_1) rfl (pc' := 2) rfl ?_
  refine w_icmp_ge X0 hx (hb hby d1_2) (by decide) (pcY := 16) (by decide) (pc' := 5) rfl (fun h0 => ?_) (fun h0 => absurd h0 (by decide))
  refine w_lconst (v := (0 : Int64)) X0 hx (hb hby d1_16) rfl (pc' := 17) rfl ?_
  exact w_ret_l X0 hx hret hlk (hb hby d1_17) (by decide) (by decide) ⟨congrArg (fun q => some (Value.long q)) (show (0 : Int64) = sp_sm1_34 gg0 vv0 vv1 vv2 vv3 vv4 from by rw [sp_sm1_34]), rfl, rfl⟩
def own_pa1 (g0 : Nat) : Int64 := ((0 : Int64) + (((Int32.toInt64 ((own_inc ([0] : List Int32) g0).getD 0 0)) * (Int32.toInt64 (((own_inc ([0] : List Int32) g0).getD 0 0) - (1 : Int32)))) / (2 : Int64)))
theorem ef_pa1 (m : MethodId) (n0 : Nat) (g0 : Nat) (vv0 : Int32) (vv1 : Int32) (vv2 : Int32) (vv3 : Int32) (vv4 : Int32) : entryFrame m #[.ref (n0 + 0)] 8 = mkF m 0 #[.val (.ref (n0 + 0)), .unset, .unset, .unset, .unset, .unset, .unset, .unset] [] := by first | (simp [entryFrame, mkF, argsToLocals, Value.category]; done) | rfl
def Q_pa1 (Z : State) (n0 : Nat) (k0 : ClassId) (k1 : ClassId) (g0 : Nat) (vv0 : Int32) (vv1 : Int32) (vv2 : Int32) (vv3 : Int32) (vv4 : Int32) (v : Option Value) (h : Heap) (L : List Loc) : Prop := v = some (.long (own_pa1 g0)) ∧ Fr n0 L
set_option maxRecDepth 65536 in
set_option maxHeartbeats 40000000 in
theorem rm_pa1 (l : Launch) (Z : State) (a0 : Array Value) (hw : ∀ d ∈ tables_1, d.before a0 Z = true) (ws : List Jvm.Cond) (n0 : Nat) (k0 : ClassId) (k1 : ClassId) (g0 : Nat) (vv0 : Int32) (vv1 : Int32) (vv2 : Int32) (vv3 : Int32) (vv4 : Int32) (h0 : Heap) (P0 : HP n0 h0 [AC k0 [.int (Int32.ofNat g0)], AC k1 [.int vv0, .int vv1, .int vv2, .int vv3, .int vv4]]) (hk0 : IsA Z k0 .int) (hk1 : IsA Z k1 .int) (hg0 : g0 < 1) :
    MetFree l (⟨"com/example/protomata/protomata/Partition", "pairsAlike", "([I)J"⟩ : MethodName) (head1 (Jvm.Cond.code (⟨"com/example/protomata/protomata/Partition", "pairsAlike", "([I)J"⟩ : MethodName) prog_101_method_9_code 8 (some .long) :: ws) ({ frames := 0, cells := 1, slots := 1, locals := 0 } : Room)) (fun aa U => aa = #[.ref (n0 + 0)] ∧ Z.Warmed39 U.vm ∧ U.heap = h0) (fun _ _ _ _ _ => True) (fun _ U o U' => ∃ v L, o = .returned v ∧ Q_pa1 Z n0 k0 k1 g0 vv0 vv1 vv2 vv3 vv4 v U'.heap L ∧ FrameEnd U o U' L ({ frames := 0, cells := 1, slots := 1, locals := 0 } : Room).cells ({ frames := 0, cells := 1, slots := 1, locals := 0 } : Room).slots) := by
  refine own_body pn2 ?_
  intro p e s m below meth c T0 hx hby hml hret hlk hown hnm hZ X0 e0
  subst e0
  have N0 : Fr n0 [] := Fr.nil n0
  refine own_cast (ef_pa1 m n0 g0 vv0 vv1 vv2 vv3 vv4) ?_
  refine w_aloadN X0 hx (hb hby d2_0) rfl rfl (pc' := 1) rfl ?_
  refine w_arrlen (i := 0) X0 hx hZ P0 rfl hk0 (hb hby d2_1) (z := (1 : Int32)) rfl (pc' := 2) rfl ?_
  refine w_newarr (N := 1) (j := 2) X0 hx hZ P0 (ty := .int) rfl (wd1 hw) (hb hby d2_2) (by decide) (by decide) (by decide) (by decide) rfl (pc' := 4) rfl ?_
  intro T1 kA1 X1 hkA1 P1
  replace P1 : HP n0 T1.heap [AC k0 [.int (Int32.ofNat g0)], AC k1 [.int vv0, .int vv1, .int vv2, .int vv3, .int vv4], AC kA1 [.int (0 : Int32)]] := P1
  replace P1 : HP n0 T1.heap [AC k0 [.int (Int32.ofNat g0)], AC k1 [.int vv0, .int vv1, .int vv2, .int vv3, .int vv4], AC kA1 (List.map Value.int ([0] : List Int32))] := P1
  refine w_astoreN (l' := #[.val (.ref (n0 + 0)), .val (.ref (n0 + 2)), .unset, .unset, .unset, .unset, .unset, .unset]) X1 hx (hb hby d2_4) rfl rfl (pc' := 5) rfl ?_
  refine w_aloadN X1 hx (hb hby d2_5) rfl rfl (pc' := 6) rfl ?_
  refine w_astoreN (l' := #[.val (.ref (n0 + 0)), .val (.ref (n0 + 2)), .val (.ref (n0 + 0)), .unset, .unset, .unset, .unset, .unset]) X1 hx (hb hby d2_6) rfl rfl (pc' := 7) rfl ?_
  refine w_aloadN X1 hx (hb hby d2_7) rfl rfl (pc' := 8) rfl ?_
  refine w_arrlen (i := 0) X1 hx hZ P1 rfl hk0 (hb hby d2_8) (z := (1 : Int32)) rfl (pc' := 9) rfl ?_
  refine w_istoreN (l' := #[.val (.ref (n0 + 0)), .val (.ref (n0 + 2)), .val (.ref (n0 + 0)), .val (.int (1 : Int32)), .unset, .unset, .unset, .unset]) X1 hx (hb hby d2_9) rfl (pc' := 10) rfl ?_
  refine w_iconst (v := (0 : Int32)) X1 hx (hb hby d2_10) rfl (pc' := 11) rfl ?_
  refine w_istore (l' := #[.val (.ref (n0 + 0)), .val (.ref (n0 + 2)), .val (.ref (n0 + 0)), .val (.int (1 : Int32)), .val (.int (0 : Int32)), .unset, .unset, .unset]) X1 hx (hb hby d2_11) rfl (pc' := 13) rfl ?_
  refine w_iload X1 hx (hb hby d2_13) rfl (pc' := 15) rfl ?_
  refine w_iloadN X1 hx (hb hby d2_15) rfl (pc' := 16) rfl ?_
  refine w_icmp_ge X1 hx (hb hby d2_16) (by decide) (pcY := 39) (by decide) (pc' := 19) rfl (fun h0 => absurd h0 (by decide)) (fun h0 => ?_)
  refine w_aloadN X1 hx (hb hby d2_19) rfl rfl (pc' := 20) rfl ?_
  refine w_iload X1 hx (hb hby d2_20) rfl (pc' := 22) rfl ?_
  refine w_iaload (i := 0) (jn := 0) (v := .int (Int32.ofNat g0)) X1 hx hZ P1 rfl hk0 (hb hby d2_22) (by decide) rfl (pc' := 23) rfl ?_
  refine w_istore (l' := #[.val (.ref (n0 + 0)), .val (.ref (n0 + 2)), .val (.ref (n0 + 0)), .val (.int (1 : Int32)), .val (.int (0 : Int32)), .val (.int (Int32.ofNat g0)), .unset, .unset]) X1 hx (hb hby d2_23) rfl (pc' := 25) rfl ?_
  refine w_aloadN X1 hx (hb hby d2_25) rfl rfl (pc' := 26) rfl ?_
  refine w_iload X1 hx (hb hby d2_26) rfl (pc' := 28) rfl ?_
  refine w_dup2 X1 hx (hb hby d2_28) rfl rfl (pc' := 29) rfl ?_
  refine w_ialoadL (i := 2) (jn := g0) X1 hx hZ P1 rfl hkA1 (hb hby d2_29) (own_oN (by omega)) (own_llt (show ([0] : List Int32).length = 1 from rfl) (by omega)) (pc' := 30) rfl ?_
  refine w_iconst (v := (1 : Int32)) X1 hx (hb hby d2_30) rfl (pc' := 31) rfl ?_
  refine w_iadd X1 hx (hb hby d2_31) (pc' := 32) rfl ?_
  refine w_iastoreL (i := 2) (jn := g0) X1 hx hZ N0 P1 rfl hkA1 (hb hby d2_32) (own_oN (by omega)) (own_llt (show ([0] : List Int32).length = 1 from rfl) (by omega)) (pc' := 33) rfl ?_
  intro T2 L1 N1 X2 P2
  replace P2 : HP n0 T2.heap [AC k0 [.int (Int32.ofNat g0)], AC k1 [.int vv0, .int vv1, .int vv2, .int vv3, .int vv4], AC kA1 (List.map Value.int (([0] : List Int32).set g0 ((([0] : List Int32).getD g0 0) + (1 : Int32))))] := P2
  replace P2 : HP n0 T2.heap [AC k0 [.int (Int32.ofNat g0)], AC k1 [.int vv0, .int vv1, .int vv2, .int vv3, .int vv4], AC kA1 (List.map Value.int (own_inc ([0] : List Int32) g0))] := P2
  refine w_iincE (z := (1 : Int32)) (l' := #[.val (.ref (n0 + 0)), .val (.ref (n0 + 2)), .val (.ref (n0 + 0)), .val (.int (1 : Int32)), .val (.int (1 : Int32)), .val (.int (Int32.ofNat g0)), .unset, .unset]) X2 hx (hb hby d2_33) rfl (by decide) rfl (pc' := 36) rfl ?_
  refine w_goto X2 hx (hb hby d2_36) (by decide) (pc' := 13) (by decide) ?_
  refine w_iload X2 hx (hb hby d2_13) rfl (pc' := 15) rfl ?_
  refine w_iloadN X2 hx (hb hby d2_15) rfl (pc' := 16) rfl ?_
  refine w_icmp_ge X2 hx (hb hby d2_16) (by decide) (pcY := 39) (by decide) (pc' := 19) rfl (fun h1 => ?_) (fun h1 => absurd h1 (by decide))
  refine w_lconst (v := (0 : Int64)) X2 hx (hb hby d2_39) rfl (pc' := 40) rfl ?_
  refine w_lstoreN (l' := #[.val (.ref (n0 + 0)), .val (.ref (n0 + 2)), .val (.long (0 : Int64)), .second, .val (.int (1 : Int32)), .val (.int (Int32.ofNat g0)), .unset, .unset]) X2 hx (hb hby d2_40) rfl (pc' := 41) rfl ?_
  refine w_aloadN X2 hx (hb hby d2_41) rfl rfl (pc' := 42) rfl ?_
  refine w_astore (l' := #[.val (.ref (n0 + 0)), .val (.ref (n0 + 2)), .val (.long (0 : Int64)), .second, .val (.ref (n0 + 2)), .val (.int (Int32.ofNat g0)), .unset, .unset]) X2 hx (hb hby d2_42) rfl rfl (pc' := 44) rfl ?_
  refine w_aload X2 hx (hb hby d2_44) rfl rfl (pc' := 46) rfl ?_
  refine w_arrlen (i := 2) X2 hx hZ P2 rfl hkA1 (hb hby d2_46) (z := (1 : Int32)) (own_len (own_sl (show ([0] : List Int32).length = 1 from rfl))) (pc' := 47) rfl ?_
  refine w_istore (l' := #[.val (.ref (n0 + 0)), .val (.ref (n0 + 2)), .val (.long (0 : Int64)), .second, .val (.ref (n0 + 2)), .val (.int (1 : Int32)), .unset, .unset]) X2 hx (hb hby d2_47) rfl (pc' := 49) rfl ?_
  refine w_iconst (v := (0 : Int32)) X2 hx (hb hby d2_49) rfl (pc' := 50) rfl ?_
  refine w_istore (l' := #[.val (.ref (n0 + 0)), .val (.ref (n0 + 2)), .val (.long (0 : Int64)), .second, .val (.ref (n0 + 2)), .val (.int (1 : Int32)), .val (.int (0 : Int32)), .unset]) X2 hx (hb hby d2_50) rfl (pc' := 52) rfl ?_
  refine w_iload X2 hx (hb hby d2_52) rfl (pc' := 54) rfl ?_
  refine w_iload X2 hx (hb hby d2_54) rfl (pc' := 56) rfl ?_
  refine w_icmp_ge X2 hx (hb hby d2_56) (by decide) (pcY := 88) (by decide) (pc' := 59) rfl (fun h2 => absurd h2 (by decide)) (fun h2 => ?_)
  refine w_aload X2 hx (hb hby d2_59) rfl rfl (pc' := 61) rfl ?_
  refine w_iload X2 hx (hb hby d2_61) rfl (pc' := 63) rfl ?_
  refine w_ialoadL (i := 2) (jn := 0) X2 hx hZ P2 rfl hkA1 (hb hby d2_63) (by decide) (own_llt (own_sl (show ([0] : List Int32).length = 1 from rfl)) (by omega)) (pc' := 64) rfl ?_
  refine w_istore (l' := #[.val (.ref (n0 + 0)), .val (.ref (n0 + 2)), .val (.long (0 : Int64)), .second, .val (.ref (n0 + 2)), .val (.int (1 : Int32)), .val (.int (0 : Int32)), .val (.int ((own_inc ([0] : List Int32) g0).getD 0 0))]) X2 hx (hb hby d2_64) rfl (pc' := 66) rfl ?_
  refine w_lloadN X2 hx (hb hby d2_66) rfl (pc' := 67) rfl ?_
  refine w_iload X2 hx (hb hby d2_67) rfl (pc' := 69) rfl ?_
  refine w_i2l X2 hx (hb hby d2_69) (pc' := 70) rfl ?_
  refine w_iload X2 hx (hb hby d2_70) rfl (pc' := 72) rfl ?_
  refine w_iconst (v := (1 : Int32)) X2 hx (hb hby d2_72) rfl (pc' := 73) rfl ?_
  refine w_isub X2 hx (hb hby d2_73) (pc' := 74) rfl ?_
  refine w_i2l X2 hx (hb hby d2_74) (pc' := 75) rfl ?_
  refine w_lmul X2 hx (hb hby d2_75) (pc' := 76) rfl ?_
  refine w_ldc2 X2 hx (hb hby d2_76) hown (mvT hZ (wd10 hw)) (pc' := 79) rfl ?_
  refine w_ldiv X2 hx (hb hby d2_79) (by decide) (pc' := 80) rfl ?_
  refine w_ladd X2 hx (hb hby d2_80) (pc' := 81) rfl ?_
  refine w_lstoreN (l' := #[.val (.ref (n0 + 0)), .val (.ref (n0 + 2)), .val (.long ((0 : Int64) + (((Int32.toInt64 ((own_inc ([0] : List Int32) g0).getD 0 0)) * (Int32.toInt64 (((own_inc ([0] : List Int32) g0).getD 0 0) - (1 : Int32)))) / (2 : Int64)))), .second, .val (.ref (n0 + 2)), .val (.int (1 : Int32)), .val (.int (0 : Int32)), .val (.int ((own_inc ([0] : List Int32) g0).getD 0 0))]) X2 hx (hb hby d2_81) rfl (pc' := 82) rfl ?_
  refine w_iincE (z := (1 : Int32)) (l' := #[.val (.ref (n0 + 0)), .val (.ref (n0 + 2)), .val (.long ((0 : Int64) + (((Int32.toInt64 ((own_inc ([0] : List Int32) g0).getD 0 0)) * (Int32.toInt64 (((own_inc ([0] : List Int32) g0).getD 0 0) - (1 : Int32)))) / (2 : Int64)))), .second, .val (.ref (n0 + 2)), .val (.int (1 : Int32)), .val (.int (1 : Int32)), .val (.int ((own_inc ([0] : List Int32) g0).getD 0 0))]) X2 hx (hb hby d2_82) rfl (by decide) rfl (pc' := 85) rfl ?_
  refine w_goto X2 hx (hb hby d2_85) (by decide) (pc' := 52) (by decide) ?_
  refine w_iload X2 hx (hb hby d2_52) rfl (pc' := 54) rfl ?_
  refine w_iload X2 hx (hb hby d2_54) rfl (pc' := 56) rfl ?_
  refine w_icmp_ge X2 hx (hb hby d2_56) (by decide) (pcY := 88) (by decide) (pc' := 59) rfl (fun h3 => ?_) (fun h3 => absurd h3 (by decide))
  refine w_lloadN X2 hx (hb hby d2_88) rfl (pc' := 89) rfl ?_
  exact w_ret_l X2 hx hret hlk (hb hby d2_89) (by decide) (by decide) ⟨rfl, N1⟩
theorem own_fin1 : ∀ g0, g0 < 1 → ∀ g1, g1 < 1 → ∀ g2, g2 < 1 → ∀ g3, g3 < 1 → ∀ g4, g4 < 1 → own_pa1 g0 = ((((((((((sp_sm1_01 (Int32.ofNat g0) (Int32.ofNat g0) (Int32.ofNat g1) (Int32.ofNat g2) (Int32.ofNat g3) (Int32.ofNat g4)) + (sp_sm1_02 (Int32.ofNat g0) (Int32.ofNat g0) (Int32.ofNat g1) (Int32.ofNat g2) (Int32.ofNat g3) (Int32.ofNat g4))) + (sp_sm1_03 (Int32.ofNat g0) (Int32.ofNat g0) (Int32.ofNat g1) (Int32.ofNat g2) (Int32.ofNat g3) (Int32.ofNat g4))) + (sp_sm1_04 (Int32.ofNat g0) (Int32.ofNat g0) (Int32.ofNat g1) (Int32.ofNat g2) (Int32.ofNat g3) (Int32.ofNat g4))) + (sp_sm1_12 (Int32.ofNat g0) (Int32.ofNat g0) (Int32.ofNat g1) (Int32.ofNat g2) (Int32.ofNat g3) (Int32.ofNat g4))) + (sp_sm1_13 (Int32.ofNat g0) (Int32.ofNat g0) (Int32.ofNat g1) (Int32.ofNat g2) (Int32.ofNat g3) (Int32.ofNat g4))) + (sp_sm1_14 (Int32.ofNat g0) (Int32.ofNat g0) (Int32.ofNat g1) (Int32.ofNat g2) (Int32.ofNat g3) (Int32.ofNat g4))) + (sp_sm1_23 (Int32.ofNat g0) (Int32.ofNat g0) (Int32.ofNat g1) (Int32.ofNat g2) (Int32.ofNat g3) (Int32.ofNat g4))) + (sp_sm1_24 (Int32.ofNat g0) (Int32.ofNat g0) (Int32.ofNat g1) (Int32.ofNat g2) (Int32.ofNat g3) (Int32.ofNat g4))) + (sp_sm1_34 (Int32.ofNat g0) (Int32.ofNat g0) (Int32.ofNat g1) (Int32.ofNat g2) (Int32.ofNat g3) (Int32.ofNat g4))) := by decide +kernel
theorem ef_sm2_01 (m : MethodId) (n0 : Nat) (gg0 : Int32) (gg1 : Int32) (vv0 : Int32) (vv1 : Int32) (vv2 : Int32) (vv3 : Int32) (vv4 : Int32) : entryFrame m #[.ref (n0 + 1), .int (2 : Int32), .int (0 : Int32), .int (1 : Int32)] 4 = mkF m 0 #[.val (.ref (n0 + 1)), .val (.int (2 : Int32)), .val (.int (0 : Int32)), .val (.int (1 : Int32))] [] := by first | (simp [entryFrame, mkF, argsToLocals, Value.category]; done) | rfl
def sp_sm2_01 (gg0 : Int32) (gg1 : Int32) (vv0 : Int32) (vv1 : Int32) (vv2 : Int32) (vv3 : Int32) (vv4 : Int32) : Int64 := (if vv0 = vv1 then (1 : Int64) else (0 : Int64))
set_option maxRecDepth 65536 in
set_option maxHeartbeats 40000000 in
theorem rm_sm2_01 (l : Launch) (Z : State) (a0 : Array Value) (hw : ∀ d ∈ tables_1, d.before a0 Z = true) (ws : List Jvm.Cond) (n0 : Nat) (gg0 : Int32) (gg1 : Int32) (vv0 : Int32) (vv1 : Int32) (vv2 : Int32) (vv3 : Int32) (vv4 : Int32) (k0 : ClassId) (hk0 : IsA Z k0 .int) (k1 : ClassId) (hk1 : IsA Z k1 .int) (h0 : Heap) (P0 : HP n0 h0 [AC k0 [.int gg0, .int gg1], AC k1 [.int vv0, .int vv1, .int vv2, .int vv3, .int vv4]]) :
    MetFree l (⟨"com/example/protomata/protomata/PartitionPairsAlikePinLaw", "same", "([IIII)J"⟩ : MethodName) (head1 (Jvm.Cond.code (⟨"com/example/protomata/protomata/PartitionPairsAlikePinLaw", "same", "([IIII)J"⟩ : MethodName) method_3_code 4 (some .long) :: ws) ({ frames := 0, cells := 0, slots := 0, locals := 0 } : Room)) (fun aa U => aa = #[.ref (n0 + 1), .int (2 : Int32), .int (0 : Int32), .int (1 : Int32)] ∧ Z.Warmed39 U.vm ∧ U.heap = h0) (fun _ _ _ _ _ => True) (fun _ U o U' => ∃ v L, o = .returned v ∧ PureQ (.long (sp_sm2_01 gg0 gg1 vv0 vv1 vv2 vv3 vv4)) h0 v U'.heap L ∧ FrameEnd U o U' L ({ frames := 0, cells := 0, slots := 0, locals := 0 } : Room).cells ({ frames := 0, cells := 0, slots := 0, locals := 0 } : Room).slots) := by
  refine own_body pn1 ?_
  intro p e s m below meth c T0 hx hby hml hret hlk hown hnm hZ X0 e0
  subst e0
  refine own_cast (ef_sm2_01 m n0 gg0 gg1 vv0 vv1 vv2 vv3 vv4) ?_
  refine w_iloadN X0 hx (hb hby d1_0) rfl (pc' := 1) rfl ?_
  refine w_iloadN X0 hx (hb hby d1_1) rfl (pc' := 2) rfl ?_
  refine w_icmp_ge X0 hx (hb hby d1_2) (by decide) (pcY := 16) (by decide) (pc' := 5) rfl (fun h0 => absurd h0 (by decide)) (fun h0 => ?_)
  refine w_aloadN X0 hx (hb hby d1_5) rfl rfl (pc' := 6) rfl ?_
  refine w_iloadN X0 hx (hb hby d1_6) rfl (pc' := 7) rfl ?_
  refine w_iaload (i := 1) (jn := 0) (v := .int vv0) X0 hx hZ P0 rfl hk1 (hb hby d1_7) (by decide) rfl (pc' := 8) rfl ?_
  refine w_aloadN X0 hx (hb hby d1_8) rfl rfl (pc' := 9) rfl ?_
  refine w_iloadN X0 hx (hb hby d1_9) rfl (pc' := 10) rfl ?_
  refine w_iaload (i := 1) (jn := 1) (v := .int vv1) X0 hx hZ P0 rfl hk1 (hb hby d1_10) (by decide) rfl (pc' := 11) rfl ?_
  refine w_icmp_ne X0 hx (hb hby d1_11) (by decide) (pcY := 16) (by decide) (pc' := 14) rfl (fun h1 => ?_) (fun h1 => ?_)
  · refine w_lconst (v := (0 : Int64)) X0 hx (hb hby d1_16) rfl (pc' := 17) rfl ?_
    exact w_ret_l X0 hx hret hlk (hb hby d1_17) (by decide) (by decide) ⟨congrArg (fun q => some (Value.long q)) (show (0 : Int64) = sp_sm2_01 gg0 gg1 vv0 vv1 vv2 vv3 vv4 from by rw [sp_sm2_01, if_neg h1]), rfl, rfl⟩
  · refine w_lconst (v := (1 : Int64)) X0 hx (hb hby d1_14) rfl (pc' := 15) rfl ?_
    exact w_ret_l X0 hx hret hlk (hb hby d1_15) (by decide) (by decide) ⟨congrArg (fun q => some (Value.long q)) (show (1 : Int64) = sp_sm2_01 gg0 gg1 vv0 vv1 vv2 vv3 vv4 from by rw [sp_sm2_01, if_pos h1]), rfl, rfl⟩
theorem ef_sm2_02 (m : MethodId) (n0 : Nat) (gg0 : Int32) (gg1 : Int32) (vv0 : Int32) (vv1 : Int32) (vv2 : Int32) (vv3 : Int32) (vv4 : Int32) : entryFrame m #[.ref (n0 + 1), .int (2 : Int32), .int (0 : Int32), .int (2 : Int32)] 4 = mkF m 0 #[.val (.ref (n0 + 1)), .val (.int (2 : Int32)), .val (.int (0 : Int32)), .val (.int (2 : Int32))] [] := by first | (simp [entryFrame, mkF, argsToLocals, Value.category]; done) | rfl
def sp_sm2_02 (gg0 : Int32) (gg1 : Int32) (vv0 : Int32) (vv1 : Int32) (vv2 : Int32) (vv3 : Int32) (vv4 : Int32) : Int64 := (0 : Int64)
set_option maxRecDepth 65536 in
set_option maxHeartbeats 40000000 in
theorem rm_sm2_02 (l : Launch) (Z : State) (a0 : Array Value) (hw : ∀ d ∈ tables_1, d.before a0 Z = true) (ws : List Jvm.Cond) (n0 : Nat) (gg0 : Int32) (gg1 : Int32) (vv0 : Int32) (vv1 : Int32) (vv2 : Int32) (vv3 : Int32) (vv4 : Int32) (k0 : ClassId) (hk0 : IsA Z k0 .int) (k1 : ClassId) (hk1 : IsA Z k1 .int) (h0 : Heap) (P0 : HP n0 h0 [AC k0 [.int gg0, .int gg1], AC k1 [.int vv0, .int vv1, .int vv2, .int vv3, .int vv4]]) :
    MetFree l (⟨"com/example/protomata/protomata/PartitionPairsAlikePinLaw", "same", "([IIII)J"⟩ : MethodName) (head1 (Jvm.Cond.code (⟨"com/example/protomata/protomata/PartitionPairsAlikePinLaw", "same", "([IIII)J"⟩ : MethodName) method_3_code 4 (some .long) :: ws) ({ frames := 0, cells := 0, slots := 0, locals := 0 } : Room)) (fun aa U => aa = #[.ref (n0 + 1), .int (2 : Int32), .int (0 : Int32), .int (2 : Int32)] ∧ Z.Warmed39 U.vm ∧ U.heap = h0) (fun _ _ _ _ _ => True) (fun _ U o U' => ∃ v L, o = .returned v ∧ PureQ (.long (sp_sm2_02 gg0 gg1 vv0 vv1 vv2 vv3 vv4)) h0 v U'.heap L ∧ FrameEnd U o U' L ({ frames := 0, cells := 0, slots := 0, locals := 0 } : Room).cells ({ frames := 0, cells := 0, slots := 0, locals := 0 } : Room).slots) := by
  refine own_body pn1 ?_
  intro p e s m below meth c T0 hx hby hml hret hlk hown hnm hZ X0 e0
  subst e0
  refine own_cast (ef_sm2_02 m n0 gg0 gg1 vv0 vv1 vv2 vv3 vv4) ?_
  refine w_iloadN X0 hx (hb hby d1_0) rfl (pc' := 1) rfl ?_
  refine w_iloadN X0 hx (hb hby d1_1) rfl (pc' := 2) rfl ?_
  refine w_icmp_ge X0 hx (hb hby d1_2) (by decide) (pcY := 16) (by decide) (pc' := 5) rfl (fun h0 => ?_) (fun h0 => absurd h0 (by decide))
  refine w_lconst (v := (0 : Int64)) X0 hx (hb hby d1_16) rfl (pc' := 17) rfl ?_
  exact w_ret_l X0 hx hret hlk (hb hby d1_17) (by decide) (by decide) ⟨congrArg (fun q => some (Value.long q)) (show (0 : Int64) = sp_sm2_02 gg0 gg1 vv0 vv1 vv2 vv3 vv4 from by rw [sp_sm2_02]), rfl, rfl⟩
theorem ef_sm2_03 (m : MethodId) (n0 : Nat) (gg0 : Int32) (gg1 : Int32) (vv0 : Int32) (vv1 : Int32) (vv2 : Int32) (vv3 : Int32) (vv4 : Int32) : entryFrame m #[.ref (n0 + 1), .int (2 : Int32), .int (0 : Int32), .int (3 : Int32)] 4 = mkF m 0 #[.val (.ref (n0 + 1)), .val (.int (2 : Int32)), .val (.int (0 : Int32)), .val (.int (3 : Int32))] [] := by first | (simp [entryFrame, mkF, argsToLocals, Value.category]; done) | rfl
def sp_sm2_03 (gg0 : Int32) (gg1 : Int32) (vv0 : Int32) (vv1 : Int32) (vv2 : Int32) (vv3 : Int32) (vv4 : Int32) : Int64 := (0 : Int64)
set_option maxRecDepth 65536 in
set_option maxHeartbeats 40000000 in
theorem rm_sm2_03 (l : Launch) (Z : State) (a0 : Array Value) (hw : ∀ d ∈ tables_1, d.before a0 Z = true) (ws : List Jvm.Cond) (n0 : Nat) (gg0 : Int32) (gg1 : Int32) (vv0 : Int32) (vv1 : Int32) (vv2 : Int32) (vv3 : Int32) (vv4 : Int32) (k0 : ClassId) (hk0 : IsA Z k0 .int) (k1 : ClassId) (hk1 : IsA Z k1 .int) (h0 : Heap) (P0 : HP n0 h0 [AC k0 [.int gg0, .int gg1], AC k1 [.int vv0, .int vv1, .int vv2, .int vv3, .int vv4]]) :
    MetFree l (⟨"com/example/protomata/protomata/PartitionPairsAlikePinLaw", "same", "([IIII)J"⟩ : MethodName) (head1 (Jvm.Cond.code (⟨"com/example/protomata/protomata/PartitionPairsAlikePinLaw", "same", "([IIII)J"⟩ : MethodName) method_3_code 4 (some .long) :: ws) ({ frames := 0, cells := 0, slots := 0, locals := 0 } : Room)) (fun aa U => aa = #[.ref (n0 + 1), .int (2 : Int32), .int (0 : Int32), .int (3 : Int32)] ∧ Z.Warmed39 U.vm ∧ U.heap = h0) (fun _ _ _ _ _ => True) (fun _ U o U' => ∃ v L, o = .returned v ∧ PureQ (.long (sp_sm2_03 gg0 gg1 vv0 vv1 vv2 vv3 vv4)) h0 v U'.heap L ∧ FrameEnd U o U' L ({ frames := 0, cells := 0, slots := 0, locals := 0 } : Room).cells ({ frames := 0, cells := 0, slots := 0, locals := 0 } : Room).slots) := by
  refine own_body pn1 ?_
  intro p e s m below meth c T0 hx hby hml hret hlk hown hnm hZ X0 e0
  subst e0
  refine own_cast (ef_sm2_03 m n0 gg0 gg1 vv0 vv1 vv2 vv3 vv4) ?_
  refine w_iloadN X0 hx (hb hby d1_0) rfl (pc' := 1) rfl ?_
  refine w_iloadN X0 hx (hb hby d1_1) rfl (pc' := 2) rfl ?_
  refine w_icmp_ge X0 hx (hb hby d1_2) (by decide) (pcY := 16) (by decide) (pc' := 5) rfl (fun h0 => ?_) (fun h0 => absurd h0 (by decide))
  refine w_lconst (v := (0 : Int64)) X0 hx (hb hby d1_16) rfl (pc' := 17) rfl ?_
  exact w_ret_l X0 hx hret hlk (hb hby d1_17) (by decide) (by decide) ⟨congrArg (fun q => some (Value.long q)) (show (0 : Int64) = sp_sm2_03 gg0 gg1 vv0 vv1 vv2 vv3 vv4 from by rw [sp_sm2_03]), rfl, rfl⟩
theorem ef_sm2_04 (m : MethodId) (n0 : Nat) (gg0 : Int32) (gg1 : Int32) (vv0 : Int32) (vv1 : Int32) (vv2 : Int32) (vv3 : Int32) (vv4 : Int32) : entryFrame m #[.ref (n0 + 1), .int (2 : Int32), .int (0 : Int32), .int (4 : Int32)] 4 = mkF m 0 #[.val (.ref (n0 + 1)), .val (.int (2 : Int32)), .val (.int (0 : Int32)), .val (.int (4 : Int32))] [] := by first | (simp [entryFrame, mkF, argsToLocals, Value.category]; done) | rfl
def sp_sm2_04 (gg0 : Int32) (gg1 : Int32) (vv0 : Int32) (vv1 : Int32) (vv2 : Int32) (vv3 : Int32) (vv4 : Int32) : Int64 := (0 : Int64)
set_option maxRecDepth 65536 in
set_option maxHeartbeats 40000000 in
theorem rm_sm2_04 (l : Launch) (Z : State) (a0 : Array Value) (hw : ∀ d ∈ tables_1, d.before a0 Z = true) (ws : List Jvm.Cond) (n0 : Nat) (gg0 : Int32) (gg1 : Int32) (vv0 : Int32) (vv1 : Int32) (vv2 : Int32) (vv3 : Int32) (vv4 : Int32) (k0 : ClassId) (hk0 : IsA Z k0 .int) (k1 : ClassId) (hk1 : IsA Z k1 .int) (h0 : Heap) (P0 : HP n0 h0 [AC k0 [.int gg0, .int gg1], AC k1 [.int vv0, .int vv1, .int vv2, .int vv3, .int vv4]]) :
    MetFree l (⟨"com/example/protomata/protomata/PartitionPairsAlikePinLaw", "same", "([IIII)J"⟩ : MethodName) (head1 (Jvm.Cond.code (⟨"com/example/protomata/protomata/PartitionPairsAlikePinLaw", "same", "([IIII)J"⟩ : MethodName) method_3_code 4 (some .long) :: ws) ({ frames := 0, cells := 0, slots := 0, locals := 0 } : Room)) (fun aa U => aa = #[.ref (n0 + 1), .int (2 : Int32), .int (0 : Int32), .int (4 : Int32)] ∧ Z.Warmed39 U.vm ∧ U.heap = h0) (fun _ _ _ _ _ => True) (fun _ U o U' => ∃ v L, o = .returned v ∧ PureQ (.long (sp_sm2_04 gg0 gg1 vv0 vv1 vv2 vv3 vv4)) h0 v U'.heap L ∧ FrameEnd U o U' L ({ frames := 0, cells := 0, slots := 0, locals := 0 } : Room).cells ({ frames := 0, cells := 0, slots := 0, locals := 0 } : Room).slots) := by
  refine own_body pn1 ?_
  intro p e s m below meth c T0 hx hby hml hret hlk hown hnm hZ X0 e0
  subst e0
  refine own_cast (ef_sm2_04 m n0 gg0 gg1 vv0 vv1 vv2 vv3 vv4) ?_
  refine w_iloadN X0 hx (hb hby d1_0) rfl (pc' := 1) rfl ?_
  refine w_iloadN X0 hx (hb hby d1_1) rfl (pc' := 2) rfl ?_
  refine w_icmp_ge X0 hx (hb hby d1_2) (by decide) (pcY := 16) (by decide) (pc' := 5) rfl (fun h0 => ?_) (fun h0 => absurd h0 (by decide))
  refine w_lconst (v := (0 : Int64)) X0 hx (hb hby d1_16) rfl (pc' := 17) rfl ?_
  exact w_ret_l X0 hx hret hlk (hb hby d1_17) (by decide) (by decide) ⟨congrArg (fun q => some (Value.long q)) (show (0 : Int64) = sp_sm2_04 gg0 gg1 vv0 vv1 vv2 vv3 vv4 from by rw [sp_sm2_04]), rfl, rfl⟩
theorem ef_sm2_12 (m : MethodId) (n0 : Nat) (gg0 : Int32) (gg1 : Int32) (vv0 : Int32) (vv1 : Int32) (vv2 : Int32) (vv3 : Int32) (vv4 : Int32) : entryFrame m #[.ref (n0 + 1), .int (2 : Int32), .int (1 : Int32), .int (2 : Int32)] 4 = mkF m 0 #[.val (.ref (n0 + 1)), .val (.int (2 : Int32)), .val (.int (1 : Int32)), .val (.int (2 : Int32))] [] := by first | (simp [entryFrame, mkF, argsToLocals, Value.category]; done) | rfl
def sp_sm2_12 (gg0 : Int32) (gg1 : Int32) (vv0 : Int32) (vv1 : Int32) (vv2 : Int32) (vv3 : Int32) (vv4 : Int32) : Int64 := (0 : Int64)
set_option maxRecDepth 65536 in
set_option maxHeartbeats 40000000 in
theorem rm_sm2_12 (l : Launch) (Z : State) (a0 : Array Value) (hw : ∀ d ∈ tables_1, d.before a0 Z = true) (ws : List Jvm.Cond) (n0 : Nat) (gg0 : Int32) (gg1 : Int32) (vv0 : Int32) (vv1 : Int32) (vv2 : Int32) (vv3 : Int32) (vv4 : Int32) (k0 : ClassId) (hk0 : IsA Z k0 .int) (k1 : ClassId) (hk1 : IsA Z k1 .int) (h0 : Heap) (P0 : HP n0 h0 [AC k0 [.int gg0, .int gg1], AC k1 [.int vv0, .int vv1, .int vv2, .int vv3, .int vv4]]) :
    MetFree l (⟨"com/example/protomata/protomata/PartitionPairsAlikePinLaw", "same", "([IIII)J"⟩ : MethodName) (head1 (Jvm.Cond.code (⟨"com/example/protomata/protomata/PartitionPairsAlikePinLaw", "same", "([IIII)J"⟩ : MethodName) method_3_code 4 (some .long) :: ws) ({ frames := 0, cells := 0, slots := 0, locals := 0 } : Room)) (fun aa U => aa = #[.ref (n0 + 1), .int (2 : Int32), .int (1 : Int32), .int (2 : Int32)] ∧ Z.Warmed39 U.vm ∧ U.heap = h0) (fun _ _ _ _ _ => True) (fun _ U o U' => ∃ v L, o = .returned v ∧ PureQ (.long (sp_sm2_12 gg0 gg1 vv0 vv1 vv2 vv3 vv4)) h0 v U'.heap L ∧ FrameEnd U o U' L ({ frames := 0, cells := 0, slots := 0, locals := 0 } : Room).cells ({ frames := 0, cells := 0, slots := 0, locals := 0 } : Room).slots) := by
  refine own_body pn1 ?_
  intro p e s m below meth c T0 hx hby hml hret hlk hown hnm hZ X0 e0
  subst e0
  refine own_cast (ef_sm2_12 m n0 gg0 gg1 vv0 vv1 vv2 vv3 vv4) ?_
  refine w_iloadN X0 hx (hb hby d1_0) rfl (pc' := 1) rfl ?_
  refine w_iloadN X0 hx (hb hby d1_1) rfl (pc' := 2) rfl ?_
  refine w_icmp_ge X0 hx (hb hby d1_2) (by decide) (pcY := 16) (by decide) (pc' := 5) rfl (fun h0 => ?_) (fun h0 => absurd h0 (by decide))
  refine w_lconst (v := (0 : Int64)) X0 hx (hb hby d1_16) rfl (pc' := 17) rfl ?_
  exact w_ret_l X0 hx hret hlk (hb hby d1_17) (by decide) (by decide) ⟨congrArg (fun q => some (Value.long q)) (show (0 : Int64) = sp_sm2_12 gg0 gg1 vv0 vv1 vv2 vv3 vv4 from by rw [sp_sm2_12]), rfl, rfl⟩
theorem ef_sm2_13 (m : MethodId) (n0 : Nat) (gg0 : Int32) (gg1 : Int32) (vv0 : Int32) (vv1 : Int32) (vv2 : Int32) (vv3 : Int32) (vv4 : Int32) : entryFrame m #[.ref (n0 + 1), .int (2 : Int32), .int (1 : Int32), .int (3 : Int32)] 4 = mkF m 0 #[.val (.ref (n0 + 1)), .val (.int (2 : Int32)), .val (.int (1 : Int32)), .val (.int (3 : Int32))] [] := by first | (simp [entryFrame, mkF, argsToLocals, Value.category]; done) | rfl
def sp_sm2_13 (gg0 : Int32) (gg1 : Int32) (vv0 : Int32) (vv1 : Int32) (vv2 : Int32) (vv3 : Int32) (vv4 : Int32) : Int64 := (0 : Int64)
set_option maxRecDepth 65536 in
set_option maxHeartbeats 40000000 in
theorem rm_sm2_13 (l : Launch) (Z : State) (a0 : Array Value) (hw : ∀ d ∈ tables_1, d.before a0 Z = true) (ws : List Jvm.Cond) (n0 : Nat) (gg0 : Int32) (gg1 : Int32) (vv0 : Int32) (vv1 : Int32) (vv2 : Int32) (vv3 : Int32) (vv4 : Int32) (k0 : ClassId) (hk0 : IsA Z k0 .int) (k1 : ClassId) (hk1 : IsA Z k1 .int) (h0 : Heap) (P0 : HP n0 h0 [AC k0 [.int gg0, .int gg1], AC k1 [.int vv0, .int vv1, .int vv2, .int vv3, .int vv4]]) :
    MetFree l (⟨"com/example/protomata/protomata/PartitionPairsAlikePinLaw", "same", "([IIII)J"⟩ : MethodName) (head1 (Jvm.Cond.code (⟨"com/example/protomata/protomata/PartitionPairsAlikePinLaw", "same", "([IIII)J"⟩ : MethodName) method_3_code 4 (some .long) :: ws) ({ frames := 0, cells := 0, slots := 0, locals := 0 } : Room)) (fun aa U => aa = #[.ref (n0 + 1), .int (2 : Int32), .int (1 : Int32), .int (3 : Int32)] ∧ Z.Warmed39 U.vm ∧ U.heap = h0) (fun _ _ _ _ _ => True) (fun _ U o U' => ∃ v L, o = .returned v ∧ PureQ (.long (sp_sm2_13 gg0 gg1 vv0 vv1 vv2 vv3 vv4)) h0 v U'.heap L ∧ FrameEnd U o U' L ({ frames := 0, cells := 0, slots := 0, locals := 0 } : Room).cells ({ frames := 0, cells := 0, slots := 0, locals := 0 } : Room).slots) := by
  refine own_body pn1 ?_
  intro p e s m below meth c T0 hx hby hml hret hlk hown hnm hZ X0 e0
  subst e0
  refine own_cast (ef_sm2_13 m n0 gg0 gg1 vv0 vv1 vv2 vv3 vv4) ?_
  refine w_iloadN X0 hx (hb hby d1_0) rfl (pc' := 1) rfl ?_
  refine w_iloadN X0 hx (hb hby d1_1) rfl (pc' := 2) rfl ?_
  refine w_icmp_ge X0 hx (hb hby d1_2) (by decide) (pcY := 16) (by decide) (pc' := 5) rfl (fun h0 => ?_) (fun h0 => absurd h0 (by decide))
  refine w_lconst (v := (0 : Int64)) X0 hx (hb hby d1_16) rfl (pc' := 17) rfl ?_
  exact w_ret_l X0 hx hret hlk (hb hby d1_17) (by decide) (by decide) ⟨congrArg (fun q => some (Value.long q)) (show (0 : Int64) = sp_sm2_13 gg0 gg1 vv0 vv1 vv2 vv3 vv4 from by rw [sp_sm2_13]), rfl, rfl⟩
theorem ef_sm2_14 (m : MethodId) (n0 : Nat) (gg0 : Int32) (gg1 : Int32) (vv0 : Int32) (vv1 : Int32) (vv2 : Int32) (vv3 : Int32) (vv4 : Int32) : entryFrame m #[.ref (n0 + 1), .int (2 : Int32), .int (1 : Int32), .int (4 : Int32)] 4 = mkF m 0 #[.val (.ref (n0 + 1)), .val (.int (2 : Int32)), .val (.int (1 : Int32)), .val (.int (4 : Int32))] [] := by first | (simp [entryFrame, mkF, argsToLocals, Value.category]; done) | rfl
def sp_sm2_14 (gg0 : Int32) (gg1 : Int32) (vv0 : Int32) (vv1 : Int32) (vv2 : Int32) (vv3 : Int32) (vv4 : Int32) : Int64 := (0 : Int64)
set_option maxRecDepth 65536 in
set_option maxHeartbeats 40000000 in
theorem rm_sm2_14 (l : Launch) (Z : State) (a0 : Array Value) (hw : ∀ d ∈ tables_1, d.before a0 Z = true) (ws : List Jvm.Cond) (n0 : Nat) (gg0 : Int32) (gg1 : Int32) (vv0 : Int32) (vv1 : Int32) (vv2 : Int32) (vv3 : Int32) (vv4 : Int32) (k0 : ClassId) (hk0 : IsA Z k0 .int) (k1 : ClassId) (hk1 : IsA Z k1 .int) (h0 : Heap) (P0 : HP n0 h0 [AC k0 [.int gg0, .int gg1], AC k1 [.int vv0, .int vv1, .int vv2, .int vv3, .int vv4]]) :
    MetFree l (⟨"com/example/protomata/protomata/PartitionPairsAlikePinLaw", "same", "([IIII)J"⟩ : MethodName) (head1 (Jvm.Cond.code (⟨"com/example/protomata/protomata/PartitionPairsAlikePinLaw", "same", "([IIII)J"⟩ : MethodName) method_3_code 4 (some .long) :: ws) ({ frames := 0, cells := 0, slots := 0, locals := 0 } : Room)) (fun aa U => aa = #[.ref (n0 + 1), .int (2 : Int32), .int (1 : Int32), .int (4 : Int32)] ∧ Z.Warmed39 U.vm ∧ U.heap = h0) (fun _ _ _ _ _ => True) (fun _ U o U' => ∃ v L, o = .returned v ∧ PureQ (.long (sp_sm2_14 gg0 gg1 vv0 vv1 vv2 vv3 vv4)) h0 v U'.heap L ∧ FrameEnd U o U' L ({ frames := 0, cells := 0, slots := 0, locals := 0 } : Room).cells ({ frames := 0, cells := 0, slots := 0, locals := 0 } : Room).slots) := by
  refine own_body pn1 ?_
  intro p e s m below meth c T0 hx hby hml hret hlk hown hnm hZ X0 e0
  subst e0
  refine own_cast (ef_sm2_14 m n0 gg0 gg1 vv0 vv1 vv2 vv3 vv4) ?_
  refine w_iloadN X0 hx (hb hby d1_0) rfl (pc' := 1) rfl ?_
  refine w_iloadN X0 hx (hb hby d1_1) rfl (pc' := 2) rfl ?_
  refine w_icmp_ge X0 hx (hb hby d1_2) (by decide) (pcY := 16) (by decide) (pc' := 5) rfl (fun h0 => ?_) (fun h0 => absurd h0 (by decide))
  refine w_lconst (v := (0 : Int64)) X0 hx (hb hby d1_16) rfl (pc' := 17) rfl ?_
  exact w_ret_l X0 hx hret hlk (hb hby d1_17) (by decide) (by decide) ⟨congrArg (fun q => some (Value.long q)) (show (0 : Int64) = sp_sm2_14 gg0 gg1 vv0 vv1 vv2 vv3 vv4 from by rw [sp_sm2_14]), rfl, rfl⟩
theorem ef_sm2_23 (m : MethodId) (n0 : Nat) (gg0 : Int32) (gg1 : Int32) (vv0 : Int32) (vv1 : Int32) (vv2 : Int32) (vv3 : Int32) (vv4 : Int32) : entryFrame m #[.ref (n0 + 1), .int (2 : Int32), .int (2 : Int32), .int (3 : Int32)] 4 = mkF m 0 #[.val (.ref (n0 + 1)), .val (.int (2 : Int32)), .val (.int (2 : Int32)), .val (.int (3 : Int32))] [] := by first | (simp [entryFrame, mkF, argsToLocals, Value.category]; done) | rfl
def sp_sm2_23 (gg0 : Int32) (gg1 : Int32) (vv0 : Int32) (vv1 : Int32) (vv2 : Int32) (vv3 : Int32) (vv4 : Int32) : Int64 := (0 : Int64)
set_option maxRecDepth 65536 in
set_option maxHeartbeats 40000000 in
theorem rm_sm2_23 (l : Launch) (Z : State) (a0 : Array Value) (hw : ∀ d ∈ tables_1, d.before a0 Z = true) (ws : List Jvm.Cond) (n0 : Nat) (gg0 : Int32) (gg1 : Int32) (vv0 : Int32) (vv1 : Int32) (vv2 : Int32) (vv3 : Int32) (vv4 : Int32) (k0 : ClassId) (hk0 : IsA Z k0 .int) (k1 : ClassId) (hk1 : IsA Z k1 .int) (h0 : Heap) (P0 : HP n0 h0 [AC k0 [.int gg0, .int gg1], AC k1 [.int vv0, .int vv1, .int vv2, .int vv3, .int vv4]]) :
    MetFree l (⟨"com/example/protomata/protomata/PartitionPairsAlikePinLaw", "same", "([IIII)J"⟩ : MethodName) (head1 (Jvm.Cond.code (⟨"com/example/protomata/protomata/PartitionPairsAlikePinLaw", "same", "([IIII)J"⟩ : MethodName) method_3_code 4 (some .long) :: ws) ({ frames := 0, cells := 0, slots := 0, locals := 0 } : Room)) (fun aa U => aa = #[.ref (n0 + 1), .int (2 : Int32), .int (2 : Int32), .int (3 : Int32)] ∧ Z.Warmed39 U.vm ∧ U.heap = h0) (fun _ _ _ _ _ => True) (fun _ U o U' => ∃ v L, o = .returned v ∧ PureQ (.long (sp_sm2_23 gg0 gg1 vv0 vv1 vv2 vv3 vv4)) h0 v U'.heap L ∧ FrameEnd U o U' L ({ frames := 0, cells := 0, slots := 0, locals := 0 } : Room).cells ({ frames := 0, cells := 0, slots := 0, locals := 0 } : Room).slots) := by
  refine own_body pn1 ?_
  intro p e s m below meth c T0 hx hby hml hret hlk hown hnm hZ X0 e0
  subst e0
  refine own_cast (ef_sm2_23 m n0 gg0 gg1 vv0 vv1 vv2 vv3 vv4) ?_
  refine w_iloadN X0 hx (hb hby d1_0) rfl (pc' := 1) rfl ?_
  refine w_iloadN X0 hx (hb hby d1_1) rfl (pc' := 2) rfl ?_
  refine w_icmp_ge X0 hx (hb hby d1_2) (by decide) (pcY := 16) (by decide) (pc' := 5) rfl (fun h0 => ?_) (fun h0 => absurd h0 (by decide))
  refine w_lconst (v := (0 : Int64)) X0 hx (hb hby d1_16) rfl (pc' := 17) rfl ?_
  exact w_ret_l X0 hx hret hlk (hb hby d1_17) (by decide) (by decide) ⟨congrArg (fun q => some (Value.long q)) (show (0 : Int64) = sp_sm2_23 gg0 gg1 vv0 vv1 vv2 vv3 vv4 from by rw [sp_sm2_23]), rfl, rfl⟩
theorem ef_sm2_24 (m : MethodId) (n0 : Nat) (gg0 : Int32) (gg1 : Int32) (vv0 : Int32) (vv1 : Int32) (vv2 : Int32) (vv3 : Int32) (vv4 : Int32) : entryFrame m #[.ref (n0 + 1), .int (2 : Int32), .int (2 : Int32), .int (4 : Int32)] 4 = mkF m 0 #[.val (.ref (n0 + 1)), .val (.int (2 : Int32)), .val (.int (2 : Int32)), .val (.int (4 : Int32))] [] := by first | (simp [entryFrame, mkF, argsToLocals, Value.category]; done) | rfl
def sp_sm2_24 (gg0 : Int32) (gg1 : Int32) (vv0 : Int32) (vv1 : Int32) (vv2 : Int32) (vv3 : Int32) (vv4 : Int32) : Int64 := (0 : Int64)
set_option maxRecDepth 65536 in
set_option maxHeartbeats 40000000 in
theorem rm_sm2_24 (l : Launch) (Z : State) (a0 : Array Value) (hw : ∀ d ∈ tables_1, d.before a0 Z = true) (ws : List Jvm.Cond) (n0 : Nat) (gg0 : Int32) (gg1 : Int32) (vv0 : Int32) (vv1 : Int32) (vv2 : Int32) (vv3 : Int32) (vv4 : Int32) (k0 : ClassId) (hk0 : IsA Z k0 .int) (k1 : ClassId) (hk1 : IsA Z k1 .int) (h0 : Heap) (P0 : HP n0 h0 [AC k0 [.int gg0, .int gg1], AC k1 [.int vv0, .int vv1, .int vv2, .int vv3, .int vv4]]) :
    MetFree l (⟨"com/example/protomata/protomata/PartitionPairsAlikePinLaw", "same", "([IIII)J"⟩ : MethodName) (head1 (Jvm.Cond.code (⟨"com/example/protomata/protomata/PartitionPairsAlikePinLaw", "same", "([IIII)J"⟩ : MethodName) method_3_code 4 (some .long) :: ws) ({ frames := 0, cells := 0, slots := 0, locals := 0 } : Room)) (fun aa U => aa = #[.ref (n0 + 1), .int (2 : Int32), .int (2 : Int32), .int (4 : Int32)] ∧ Z.Warmed39 U.vm ∧ U.heap = h0) (fun _ _ _ _ _ => True) (fun _ U o U' => ∃ v L, o = .returned v ∧ PureQ (.long (sp_sm2_24 gg0 gg1 vv0 vv1 vv2 vv3 vv4)) h0 v U'.heap L ∧ FrameEnd U o U' L ({ frames := 0, cells := 0, slots := 0, locals := 0 } : Room).cells ({ frames := 0, cells := 0, slots := 0, locals := 0 } : Room).slots) := by
  refine own_body pn1 ?_
  intro p e s m below meth c T0 hx hby hml hret hlk hown hnm hZ X0 e0
  subst e0
  refine own_cast (ef_sm2_24 m n0 gg0 gg1 vv0 vv1 vv2 vv3 vv4) ?_
  refine w_iloadN X0 hx (hb hby d1_0) rfl (pc' := 1) rfl ?_
  refine w_iloadN X0 hx (hb hby d1_1) rfl (pc' := 2) rfl ?_
  refine w_icmp_ge X0 hx (hb hby d1_2) (by decide) (pcY := 16) (by decide) (pc' := 5) rfl (fun h0 => ?_) (fun h0 => absurd h0 (by decide))
  refine w_lconst (v := (0 : Int64)) X0 hx (hb hby d1_16) rfl (pc' := 17) rfl ?_
  exact w_ret_l X0 hx hret hlk (hb hby d1_17) (by decide) (by decide) ⟨congrArg (fun q => some (Value.long q)) (show (0 : Int64) = sp_sm2_24 gg0 gg1 vv0 vv1 vv2 vv3 vv4 from by rw [sp_sm2_24]), rfl, rfl⟩
theorem ef_sm2_34 (m : MethodId) (n0 : Nat) (gg0 : Int32) (gg1 : Int32) (vv0 : Int32) (vv1 : Int32) (vv2 : Int32) (vv3 : Int32) (vv4 : Int32) : entryFrame m #[.ref (n0 + 1), .int (2 : Int32), .int (3 : Int32), .int (4 : Int32)] 4 = mkF m 0 #[.val (.ref (n0 + 1)), .val (.int (2 : Int32)), .val (.int (3 : Int32)), .val (.int (4 : Int32))] [] := by first | (simp [entryFrame, mkF, argsToLocals, Value.category]; done) | rfl
def sp_sm2_34 (gg0 : Int32) (gg1 : Int32) (vv0 : Int32) (vv1 : Int32) (vv2 : Int32) (vv3 : Int32) (vv4 : Int32) : Int64 := (0 : Int64)
set_option maxRecDepth 65536 in
set_option maxHeartbeats 40000000 in
theorem rm_sm2_34 (l : Launch) (Z : State) (a0 : Array Value) (hw : ∀ d ∈ tables_1, d.before a0 Z = true) (ws : List Jvm.Cond) (n0 : Nat) (gg0 : Int32) (gg1 : Int32) (vv0 : Int32) (vv1 : Int32) (vv2 : Int32) (vv3 : Int32) (vv4 : Int32) (k0 : ClassId) (hk0 : IsA Z k0 .int) (k1 : ClassId) (hk1 : IsA Z k1 .int) (h0 : Heap) (P0 : HP n0 h0 [AC k0 [.int gg0, .int gg1], AC k1 [.int vv0, .int vv1, .int vv2, .int vv3, .int vv4]]) :
    MetFree l (⟨"com/example/protomata/protomata/PartitionPairsAlikePinLaw", "same", "([IIII)J"⟩ : MethodName) (head1 (Jvm.Cond.code (⟨"com/example/protomata/protomata/PartitionPairsAlikePinLaw", "same", "([IIII)J"⟩ : MethodName) method_3_code 4 (some .long) :: ws) ({ frames := 0, cells := 0, slots := 0, locals := 0 } : Room)) (fun aa U => aa = #[.ref (n0 + 1), .int (2 : Int32), .int (3 : Int32), .int (4 : Int32)] ∧ Z.Warmed39 U.vm ∧ U.heap = h0) (fun _ _ _ _ _ => True) (fun _ U o U' => ∃ v L, o = .returned v ∧ PureQ (.long (sp_sm2_34 gg0 gg1 vv0 vv1 vv2 vv3 vv4)) h0 v U'.heap L ∧ FrameEnd U o U' L ({ frames := 0, cells := 0, slots := 0, locals := 0 } : Room).cells ({ frames := 0, cells := 0, slots := 0, locals := 0 } : Room).slots) := by
  refine own_body pn1 ?_
  intro p e s m below meth c T0 hx hby hml hret hlk hown hnm hZ X0 e0
  subst e0
  refine own_cast (ef_sm2_34 m n0 gg0 gg1 vv0 vv1 vv2 vv3 vv4) ?_
  refine w_iloadN X0 hx (hb hby d1_0) rfl (pc' := 1) rfl ?_
  refine w_iloadN X0 hx (hb hby d1_1) rfl (pc' := 2) rfl ?_
  refine w_icmp_ge X0 hx (hb hby d1_2) (by decide) (pcY := 16) (by decide) (pc' := 5) rfl (fun h0 => ?_) (fun h0 => absurd h0 (by decide))
  refine w_lconst (v := (0 : Int64)) X0 hx (hb hby d1_16) rfl (pc' := 17) rfl ?_
  exact w_ret_l X0 hx hret hlk (hb hby d1_17) (by decide) (by decide) ⟨congrArg (fun q => some (Value.long q)) (show (0 : Int64) = sp_sm2_34 gg0 gg1 vv0 vv1 vv2 vv3 vv4 from by rw [sp_sm2_34]), rfl, rfl⟩
def own_pa2 (g0 g1 : Nat) : Int64 := (((0 : Int64) + (((Int32.toInt64 ((own_inc (own_inc ([0, 0] : List Int32) g0) g1).getD 0 0)) * (Int32.toInt64 (((own_inc (own_inc ([0, 0] : List Int32) g0) g1).getD 0 0) - (1 : Int32)))) / (2 : Int64))) + (((Int32.toInt64 ((own_inc (own_inc ([0, 0] : List Int32) g0) g1).getD 1 0)) * (Int32.toInt64 (((own_inc (own_inc ([0, 0] : List Int32) g0) g1).getD 1 0) - (1 : Int32)))) / (2 : Int64)))
theorem ef_pa2 (m : MethodId) (n0 : Nat) (g0 : Nat) (g1 : Nat) (vv0 : Int32) (vv1 : Int32) (vv2 : Int32) (vv3 : Int32) (vv4 : Int32) : entryFrame m #[.ref (n0 + 0)] 8 = mkF m 0 #[.val (.ref (n0 + 0)), .unset, .unset, .unset, .unset, .unset, .unset, .unset] [] := by first | (simp [entryFrame, mkF, argsToLocals, Value.category]; done) | rfl
def Q_pa2 (Z : State) (n0 : Nat) (k0 : ClassId) (k1 : ClassId) (g0 : Nat) (g1 : Nat) (vv0 : Int32) (vv1 : Int32) (vv2 : Int32) (vv3 : Int32) (vv4 : Int32) (v : Option Value) (h : Heap) (L : List Loc) : Prop := v = some (.long (own_pa2 g0 g1)) ∧ Fr n0 L
set_option maxRecDepth 65536 in
set_option maxHeartbeats 40000000 in
theorem rm_pa2 (l : Launch) (Z : State) (a0 : Array Value) (hw : ∀ d ∈ tables_1, d.before a0 Z = true) (ws : List Jvm.Cond) (n0 : Nat) (k0 : ClassId) (k1 : ClassId) (g0 : Nat) (g1 : Nat) (vv0 : Int32) (vv1 : Int32) (vv2 : Int32) (vv3 : Int32) (vv4 : Int32) (h0 : Heap) (P0 : HP n0 h0 [AC k0 [.int (Int32.ofNat g0), .int (Int32.ofNat g1)], AC k1 [.int vv0, .int vv1, .int vv2, .int vv3, .int vv4]]) (hk0 : IsA Z k0 .int) (hk1 : IsA Z k1 .int) (hg0 : g0 < 2) (hg1 : g1 < 2) :
    MetFree l (⟨"com/example/protomata/protomata/Partition", "pairsAlike", "([I)J"⟩ : MethodName) (head1 (Jvm.Cond.code (⟨"com/example/protomata/protomata/Partition", "pairsAlike", "([I)J"⟩ : MethodName) prog_101_method_9_code 8 (some .long) :: ws) ({ frames := 0, cells := 1, slots := 2, locals := 0 } : Room)) (fun aa U => aa = #[.ref (n0 + 0)] ∧ Z.Warmed39 U.vm ∧ U.heap = h0) (fun _ _ _ _ _ => True) (fun _ U o U' => ∃ v L, o = .returned v ∧ Q_pa2 Z n0 k0 k1 g0 g1 vv0 vv1 vv2 vv3 vv4 v U'.heap L ∧ FrameEnd U o U' L ({ frames := 0, cells := 1, slots := 2, locals := 0 } : Room).cells ({ frames := 0, cells := 1, slots := 2, locals := 0 } : Room).slots) := by
  refine own_body pn2 ?_
  intro p e s m below meth c T0 hx hby hml hret hlk hown hnm hZ X0 e0
  subst e0
  have N0 : Fr n0 [] := Fr.nil n0
  refine own_cast (ef_pa2 m n0 g0 g1 vv0 vv1 vv2 vv3 vv4) ?_
  refine w_aloadN X0 hx (hb hby d2_0) rfl rfl (pc' := 1) rfl ?_
  refine w_arrlen (i := 0) X0 hx hZ P0 rfl hk0 (hb hby d2_1) (z := (2 : Int32)) rfl (pc' := 2) rfl ?_
  refine w_newarr (N := 2) (j := 2) X0 hx hZ P0 (ty := .int) rfl (wd1 hw) (hb hby d2_2) (by decide) (by decide) (by decide) (by decide) rfl (pc' := 4) rfl ?_
  intro T1 kA1 X1 hkA1 P1
  replace P1 : HP n0 T1.heap [AC k0 [.int (Int32.ofNat g0), .int (Int32.ofNat g1)], AC k1 [.int vv0, .int vv1, .int vv2, .int vv3, .int vv4], AC kA1 [.int (0 : Int32), .int (0 : Int32)]] := P1
  replace P1 : HP n0 T1.heap [AC k0 [.int (Int32.ofNat g0), .int (Int32.ofNat g1)], AC k1 [.int vv0, .int vv1, .int vv2, .int vv3, .int vv4], AC kA1 (List.map Value.int ([0, 0] : List Int32))] := P1
  refine w_astoreN (l' := #[.val (.ref (n0 + 0)), .val (.ref (n0 + 2)), .unset, .unset, .unset, .unset, .unset, .unset]) X1 hx (hb hby d2_4) rfl rfl (pc' := 5) rfl ?_
  refine w_aloadN X1 hx (hb hby d2_5) rfl rfl (pc' := 6) rfl ?_
  refine w_astoreN (l' := #[.val (.ref (n0 + 0)), .val (.ref (n0 + 2)), .val (.ref (n0 + 0)), .unset, .unset, .unset, .unset, .unset]) X1 hx (hb hby d2_6) rfl rfl (pc' := 7) rfl ?_
  refine w_aloadN X1 hx (hb hby d2_7) rfl rfl (pc' := 8) rfl ?_
  refine w_arrlen (i := 0) X1 hx hZ P1 rfl hk0 (hb hby d2_8) (z := (2 : Int32)) rfl (pc' := 9) rfl ?_
  refine w_istoreN (l' := #[.val (.ref (n0 + 0)), .val (.ref (n0 + 2)), .val (.ref (n0 + 0)), .val (.int (2 : Int32)), .unset, .unset, .unset, .unset]) X1 hx (hb hby d2_9) rfl (pc' := 10) rfl ?_
  refine w_iconst (v := (0 : Int32)) X1 hx (hb hby d2_10) rfl (pc' := 11) rfl ?_
  refine w_istore (l' := #[.val (.ref (n0 + 0)), .val (.ref (n0 + 2)), .val (.ref (n0 + 0)), .val (.int (2 : Int32)), .val (.int (0 : Int32)), .unset, .unset, .unset]) X1 hx (hb hby d2_11) rfl (pc' := 13) rfl ?_
  refine w_iload X1 hx (hb hby d2_13) rfl (pc' := 15) rfl ?_
  refine w_iloadN X1 hx (hb hby d2_15) rfl (pc' := 16) rfl ?_
  refine w_icmp_ge X1 hx (hb hby d2_16) (by decide) (pcY := 39) (by decide) (pc' := 19) rfl (fun h0 => absurd h0 (by decide)) (fun h0 => ?_)
  refine w_aloadN X1 hx (hb hby d2_19) rfl rfl (pc' := 20) rfl ?_
  refine w_iload X1 hx (hb hby d2_20) rfl (pc' := 22) rfl ?_
  refine w_iaload (i := 0) (jn := 0) (v := .int (Int32.ofNat g0)) X1 hx hZ P1 rfl hk0 (hb hby d2_22) (by decide) rfl (pc' := 23) rfl ?_
  refine w_istore (l' := #[.val (.ref (n0 + 0)), .val (.ref (n0 + 2)), .val (.ref (n0 + 0)), .val (.int (2 : Int32)), .val (.int (0 : Int32)), .val (.int (Int32.ofNat g0)), .unset, .unset]) X1 hx (hb hby d2_23) rfl (pc' := 25) rfl ?_
  refine w_aloadN X1 hx (hb hby d2_25) rfl rfl (pc' := 26) rfl ?_
  refine w_iload X1 hx (hb hby d2_26) rfl (pc' := 28) rfl ?_
  refine w_dup2 X1 hx (hb hby d2_28) rfl rfl (pc' := 29) rfl ?_
  refine w_ialoadL (i := 2) (jn := g0) X1 hx hZ P1 rfl hkA1 (hb hby d2_29) (own_oN (by omega)) (own_llt (show ([0, 0] : List Int32).length = 2 from rfl) (by omega)) (pc' := 30) rfl ?_
  refine w_iconst (v := (1 : Int32)) X1 hx (hb hby d2_30) rfl (pc' := 31) rfl ?_
  refine w_iadd X1 hx (hb hby d2_31) (pc' := 32) rfl ?_
  refine w_iastoreL (i := 2) (jn := g0) X1 hx hZ N0 P1 rfl hkA1 (hb hby d2_32) (own_oN (by omega)) (own_llt (show ([0, 0] : List Int32).length = 2 from rfl) (by omega)) (pc' := 33) rfl ?_
  intro T2 L1 N1 X2 P2
  replace P2 : HP n0 T2.heap [AC k0 [.int (Int32.ofNat g0), .int (Int32.ofNat g1)], AC k1 [.int vv0, .int vv1, .int vv2, .int vv3, .int vv4], AC kA1 (List.map Value.int (([0, 0] : List Int32).set g0 ((([0, 0] : List Int32).getD g0 0) + (1 : Int32))))] := P2
  replace P2 : HP n0 T2.heap [AC k0 [.int (Int32.ofNat g0), .int (Int32.ofNat g1)], AC k1 [.int vv0, .int vv1, .int vv2, .int vv3, .int vv4], AC kA1 (List.map Value.int (own_inc ([0, 0] : List Int32) g0))] := P2
  refine w_iincE (z := (1 : Int32)) (l' := #[.val (.ref (n0 + 0)), .val (.ref (n0 + 2)), .val (.ref (n0 + 0)), .val (.int (2 : Int32)), .val (.int (1 : Int32)), .val (.int (Int32.ofNat g0)), .unset, .unset]) X2 hx (hb hby d2_33) rfl (by decide) rfl (pc' := 36) rfl ?_
  refine w_goto X2 hx (hb hby d2_36) (by decide) (pc' := 13) (by decide) ?_
  refine w_iload X2 hx (hb hby d2_13) rfl (pc' := 15) rfl ?_
  refine w_iloadN X2 hx (hb hby d2_15) rfl (pc' := 16) rfl ?_
  refine w_icmp_ge X2 hx (hb hby d2_16) (by decide) (pcY := 39) (by decide) (pc' := 19) rfl (fun h1 => absurd h1 (by decide)) (fun h1 => ?_)
  refine w_aloadN X2 hx (hb hby d2_19) rfl rfl (pc' := 20) rfl ?_
  refine w_iload X2 hx (hb hby d2_20) rfl (pc' := 22) rfl ?_
  refine w_iaload (i := 0) (jn := 1) (v := .int (Int32.ofNat g1)) X2 hx hZ P2 rfl hk0 (hb hby d2_22) (by decide) rfl (pc' := 23) rfl ?_
  refine w_istore (l' := #[.val (.ref (n0 + 0)), .val (.ref (n0 + 2)), .val (.ref (n0 + 0)), .val (.int (2 : Int32)), .val (.int (1 : Int32)), .val (.int (Int32.ofNat g1)), .unset, .unset]) X2 hx (hb hby d2_23) rfl (pc' := 25) rfl ?_
  refine w_aloadN X2 hx (hb hby d2_25) rfl rfl (pc' := 26) rfl ?_
  refine w_iload X2 hx (hb hby d2_26) rfl (pc' := 28) rfl ?_
  refine w_dup2 X2 hx (hb hby d2_28) rfl rfl (pc' := 29) rfl ?_
  refine w_ialoadL (i := 2) (jn := g1) X2 hx hZ P2 rfl hkA1 (hb hby d2_29) (own_oN (by omega)) (own_llt (own_sl (show ([0, 0] : List Int32).length = 2 from rfl)) (by omega)) (pc' := 30) rfl ?_
  refine w_iconst (v := (1 : Int32)) X2 hx (hb hby d2_30) rfl (pc' := 31) rfl ?_
  refine w_iadd X2 hx (hb hby d2_31) (pc' := 32) rfl ?_
  refine w_iastoreL (i := 2) (jn := g1) X2 hx hZ N1 P2 rfl hkA1 (hb hby d2_32) (own_oN (by omega)) (own_llt (own_sl (show ([0, 0] : List Int32).length = 2 from rfl)) (by omega)) (pc' := 33) rfl ?_
  intro T3 L2 N2 X3 P3
  replace P3 : HP n0 T3.heap [AC k0 [.int (Int32.ofNat g0), .int (Int32.ofNat g1)], AC k1 [.int vv0, .int vv1, .int vv2, .int vv3, .int vv4], AC kA1 (List.map Value.int ((own_inc ([0, 0] : List Int32) g0).set g1 (((own_inc ([0, 0] : List Int32) g0).getD g1 0) + (1 : Int32))))] := P3
  replace P3 : HP n0 T3.heap [AC k0 [.int (Int32.ofNat g0), .int (Int32.ofNat g1)], AC k1 [.int vv0, .int vv1, .int vv2, .int vv3, .int vv4], AC kA1 (List.map Value.int (own_inc (own_inc ([0, 0] : List Int32) g0) g1))] := P3
  refine w_iincE (z := (2 : Int32)) (l' := #[.val (.ref (n0 + 0)), .val (.ref (n0 + 2)), .val (.ref (n0 + 0)), .val (.int (2 : Int32)), .val (.int (2 : Int32)), .val (.int (Int32.ofNat g1)), .unset, .unset]) X3 hx (hb hby d2_33) rfl (by decide) rfl (pc' := 36) rfl ?_
  refine w_goto X3 hx (hb hby d2_36) (by decide) (pc' := 13) (by decide) ?_
  refine w_iload X3 hx (hb hby d2_13) rfl (pc' := 15) rfl ?_
  refine w_iloadN X3 hx (hb hby d2_15) rfl (pc' := 16) rfl ?_
  refine w_icmp_ge X3 hx (hb hby d2_16) (by decide) (pcY := 39) (by decide) (pc' := 19) rfl (fun h2 => ?_) (fun h2 => absurd h2 (by decide))
  refine w_lconst (v := (0 : Int64)) X3 hx (hb hby d2_39) rfl (pc' := 40) rfl ?_
  refine w_lstoreN (l' := #[.val (.ref (n0 + 0)), .val (.ref (n0 + 2)), .val (.long (0 : Int64)), .second, .val (.int (2 : Int32)), .val (.int (Int32.ofNat g1)), .unset, .unset]) X3 hx (hb hby d2_40) rfl (pc' := 41) rfl ?_
  refine w_aloadN X3 hx (hb hby d2_41) rfl rfl (pc' := 42) rfl ?_
  refine w_astore (l' := #[.val (.ref (n0 + 0)), .val (.ref (n0 + 2)), .val (.long (0 : Int64)), .second, .val (.ref (n0 + 2)), .val (.int (Int32.ofNat g1)), .unset, .unset]) X3 hx (hb hby d2_42) rfl rfl (pc' := 44) rfl ?_
  refine w_aload X3 hx (hb hby d2_44) rfl rfl (pc' := 46) rfl ?_
  refine w_arrlen (i := 2) X3 hx hZ P3 rfl hkA1 (hb hby d2_46) (z := (2 : Int32)) (own_len (own_sl (own_sl (show ([0, 0] : List Int32).length = 2 from rfl)))) (pc' := 47) rfl ?_
  refine w_istore (l' := #[.val (.ref (n0 + 0)), .val (.ref (n0 + 2)), .val (.long (0 : Int64)), .second, .val (.ref (n0 + 2)), .val (.int (2 : Int32)), .unset, .unset]) X3 hx (hb hby d2_47) rfl (pc' := 49) rfl ?_
  refine w_iconst (v := (0 : Int32)) X3 hx (hb hby d2_49) rfl (pc' := 50) rfl ?_
  refine w_istore (l' := #[.val (.ref (n0 + 0)), .val (.ref (n0 + 2)), .val (.long (0 : Int64)), .second, .val (.ref (n0 + 2)), .val (.int (2 : Int32)), .val (.int (0 : Int32)), .unset]) X3 hx (hb hby d2_50) rfl (pc' := 52) rfl ?_
  refine w_iload X3 hx (hb hby d2_52) rfl (pc' := 54) rfl ?_
  refine w_iload X3 hx (hb hby d2_54) rfl (pc' := 56) rfl ?_
  refine w_icmp_ge X3 hx (hb hby d2_56) (by decide) (pcY := 88) (by decide) (pc' := 59) rfl (fun h3 => absurd h3 (by decide)) (fun h3 => ?_)
  refine w_aload X3 hx (hb hby d2_59) rfl rfl (pc' := 61) rfl ?_
  refine w_iload X3 hx (hb hby d2_61) rfl (pc' := 63) rfl ?_
  refine w_ialoadL (i := 2) (jn := 0) X3 hx hZ P3 rfl hkA1 (hb hby d2_63) (by decide) (own_llt (own_sl (own_sl (show ([0, 0] : List Int32).length = 2 from rfl))) (by omega)) (pc' := 64) rfl ?_
  refine w_istore (l' := #[.val (.ref (n0 + 0)), .val (.ref (n0 + 2)), .val (.long (0 : Int64)), .second, .val (.ref (n0 + 2)), .val (.int (2 : Int32)), .val (.int (0 : Int32)), .val (.int ((own_inc (own_inc ([0, 0] : List Int32) g0) g1).getD 0 0))]) X3 hx (hb hby d2_64) rfl (pc' := 66) rfl ?_
  refine w_lloadN X3 hx (hb hby d2_66) rfl (pc' := 67) rfl ?_
  refine w_iload X3 hx (hb hby d2_67) rfl (pc' := 69) rfl ?_
  refine w_i2l X3 hx (hb hby d2_69) (pc' := 70) rfl ?_
  refine w_iload X3 hx (hb hby d2_70) rfl (pc' := 72) rfl ?_
  refine w_iconst (v := (1 : Int32)) X3 hx (hb hby d2_72) rfl (pc' := 73) rfl ?_
  refine w_isub X3 hx (hb hby d2_73) (pc' := 74) rfl ?_
  refine w_i2l X3 hx (hb hby d2_74) (pc' := 75) rfl ?_
  refine w_lmul X3 hx (hb hby d2_75) (pc' := 76) rfl ?_
  refine w_ldc2 X3 hx (hb hby d2_76) hown (mvT hZ (wd10 hw)) (pc' := 79) rfl ?_
  refine w_ldiv X3 hx (hb hby d2_79) (by decide) (pc' := 80) rfl ?_
  refine w_ladd X3 hx (hb hby d2_80) (pc' := 81) rfl ?_
  refine w_lstoreN (l' := #[.val (.ref (n0 + 0)), .val (.ref (n0 + 2)), .val (.long ((0 : Int64) + (((Int32.toInt64 ((own_inc (own_inc ([0, 0] : List Int32) g0) g1).getD 0 0)) * (Int32.toInt64 (((own_inc (own_inc ([0, 0] : List Int32) g0) g1).getD 0 0) - (1 : Int32)))) / (2 : Int64)))), .second, .val (.ref (n0 + 2)), .val (.int (2 : Int32)), .val (.int (0 : Int32)), .val (.int ((own_inc (own_inc ([0, 0] : List Int32) g0) g1).getD 0 0))]) X3 hx (hb hby d2_81) rfl (pc' := 82) rfl ?_
  refine w_iincE (z := (1 : Int32)) (l' := #[.val (.ref (n0 + 0)), .val (.ref (n0 + 2)), .val (.long ((0 : Int64) + (((Int32.toInt64 ((own_inc (own_inc ([0, 0] : List Int32) g0) g1).getD 0 0)) * (Int32.toInt64 (((own_inc (own_inc ([0, 0] : List Int32) g0) g1).getD 0 0) - (1 : Int32)))) / (2 : Int64)))), .second, .val (.ref (n0 + 2)), .val (.int (2 : Int32)), .val (.int (1 : Int32)), .val (.int ((own_inc (own_inc ([0, 0] : List Int32) g0) g1).getD 0 0))]) X3 hx (hb hby d2_82) rfl (by decide) rfl (pc' := 85) rfl ?_
  refine w_goto X3 hx (hb hby d2_85) (by decide) (pc' := 52) (by decide) ?_
  refine w_iload X3 hx (hb hby d2_52) rfl (pc' := 54) rfl ?_
  refine w_iload X3 hx (hb hby d2_54) rfl (pc' := 56) rfl ?_
  refine w_icmp_ge X3 hx (hb hby d2_56) (by decide) (pcY := 88) (by decide) (pc' := 59) rfl (fun h4 => absurd h4 (by decide)) (fun h4 => ?_)
  refine w_aload X3 hx (hb hby d2_59) rfl rfl (pc' := 61) rfl ?_
  refine w_iload X3 hx (hb hby d2_61) rfl (pc' := 63) rfl ?_
  refine w_ialoadL (i := 2) (jn := 1) X3 hx hZ P3 rfl hkA1 (hb hby d2_63) (by decide) (own_llt (own_sl (own_sl (show ([0, 0] : List Int32).length = 2 from rfl))) (by omega)) (pc' := 64) rfl ?_
  refine w_istore (l' := #[.val (.ref (n0 + 0)), .val (.ref (n0 + 2)), .val (.long ((0 : Int64) + (((Int32.toInt64 ((own_inc (own_inc ([0, 0] : List Int32) g0) g1).getD 0 0)) * (Int32.toInt64 (((own_inc (own_inc ([0, 0] : List Int32) g0) g1).getD 0 0) - (1 : Int32)))) / (2 : Int64)))), .second, .val (.ref (n0 + 2)), .val (.int (2 : Int32)), .val (.int (1 : Int32)), .val (.int ((own_inc (own_inc ([0, 0] : List Int32) g0) g1).getD 1 0))]) X3 hx (hb hby d2_64) rfl (pc' := 66) rfl ?_
  refine w_lloadN X3 hx (hb hby d2_66) rfl (pc' := 67) rfl ?_
  refine w_iload X3 hx (hb hby d2_67) rfl (pc' := 69) rfl ?_
  refine w_i2l X3 hx (hb hby d2_69) (pc' := 70) rfl ?_
  refine w_iload X3 hx (hb hby d2_70) rfl (pc' := 72) rfl ?_
  refine w_iconst (v := (1 : Int32)) X3 hx (hb hby d2_72) rfl (pc' := 73) rfl ?_
  refine w_isub X3 hx (hb hby d2_73) (pc' := 74) rfl ?_
  refine w_i2l X3 hx (hb hby d2_74) (pc' := 75) rfl ?_
  refine w_lmul X3 hx (hb hby d2_75) (pc' := 76) rfl ?_
  refine w_ldc2 X3 hx (hb hby d2_76) hown (mvT hZ (wd10 hw)) (pc' := 79) rfl ?_
  refine w_ldiv X3 hx (hb hby d2_79) (by decide) (pc' := 80) rfl ?_
  refine w_ladd X3 hx (hb hby d2_80) (pc' := 81) rfl ?_
  refine w_lstoreN (l' := #[.val (.ref (n0 + 0)), .val (.ref (n0 + 2)), .val (.long (((0 : Int64) + (((Int32.toInt64 ((own_inc (own_inc ([0, 0] : List Int32) g0) g1).getD 0 0)) * (Int32.toInt64 (((own_inc (own_inc ([0, 0] : List Int32) g0) g1).getD 0 0) - (1 : Int32)))) / (2 : Int64))) + (((Int32.toInt64 ((own_inc (own_inc ([0, 0] : List Int32) g0) g1).getD 1 0)) * (Int32.toInt64 (((own_inc (own_inc ([0, 0] : List Int32) g0) g1).getD 1 0) - (1 : Int32)))) / (2 : Int64)))), .second, .val (.ref (n0 + 2)), .val (.int (2 : Int32)), .val (.int (1 : Int32)), .val (.int ((own_inc (own_inc ([0, 0] : List Int32) g0) g1).getD 1 0))]) X3 hx (hb hby d2_81) rfl (pc' := 82) rfl ?_
  refine w_iincE (z := (2 : Int32)) (l' := #[.val (.ref (n0 + 0)), .val (.ref (n0 + 2)), .val (.long (((0 : Int64) + (((Int32.toInt64 ((own_inc (own_inc ([0, 0] : List Int32) g0) g1).getD 0 0)) * (Int32.toInt64 (((own_inc (own_inc ([0, 0] : List Int32) g0) g1).getD 0 0) - (1 : Int32)))) / (2 : Int64))) + (((Int32.toInt64 ((own_inc (own_inc ([0, 0] : List Int32) g0) g1).getD 1 0)) * (Int32.toInt64 (((own_inc (own_inc ([0, 0] : List Int32) g0) g1).getD 1 0) - (1 : Int32)))) / (2 : Int64)))), .second, .val (.ref (n0 + 2)), .val (.int (2 : Int32)), .val (.int (2 : Int32)), .val (.int ((own_inc (own_inc ([0, 0] : List Int32) g0) g1).getD 1 0))]) X3 hx (hb hby d2_82) rfl (by decide) rfl (pc' := 85) rfl ?_
  refine w_goto X3 hx (hb hby d2_85) (by decide) (pc' := 52) (by decide) ?_
  refine w_iload X3 hx (hb hby d2_52) rfl (pc' := 54) rfl ?_
  refine w_iload X3 hx (hb hby d2_54) rfl (pc' := 56) rfl ?_
  refine w_icmp_ge X3 hx (hb hby d2_56) (by decide) (pcY := 88) (by decide) (pc' := 59) rfl (fun h5 => ?_) (fun h5 => absurd h5 (by decide))
  refine w_lloadN X3 hx (hb hby d2_88) rfl (pc' := 89) rfl ?_
  exact w_ret_l X3 hx hret hlk (hb hby d2_89) (by decide) (by decide) ⟨rfl, N2⟩
theorem own_fin2 : ∀ g0, g0 < 2 → ∀ g1, g1 < 2 → ∀ g2, g2 < 2 → ∀ g3, g3 < 2 → ∀ g4, g4 < 2 → own_pa2 g0 g1 = ((((((((((sp_sm2_01 (Int32.ofNat g0) (Int32.ofNat g1) (Int32.ofNat g0) (Int32.ofNat g1) (Int32.ofNat g2) (Int32.ofNat g3) (Int32.ofNat g4)) + (sp_sm2_02 (Int32.ofNat g0) (Int32.ofNat g1) (Int32.ofNat g0) (Int32.ofNat g1) (Int32.ofNat g2) (Int32.ofNat g3) (Int32.ofNat g4))) + (sp_sm2_03 (Int32.ofNat g0) (Int32.ofNat g1) (Int32.ofNat g0) (Int32.ofNat g1) (Int32.ofNat g2) (Int32.ofNat g3) (Int32.ofNat g4))) + (sp_sm2_04 (Int32.ofNat g0) (Int32.ofNat g1) (Int32.ofNat g0) (Int32.ofNat g1) (Int32.ofNat g2) (Int32.ofNat g3) (Int32.ofNat g4))) + (sp_sm2_12 (Int32.ofNat g0) (Int32.ofNat g1) (Int32.ofNat g0) (Int32.ofNat g1) (Int32.ofNat g2) (Int32.ofNat g3) (Int32.ofNat g4))) + (sp_sm2_13 (Int32.ofNat g0) (Int32.ofNat g1) (Int32.ofNat g0) (Int32.ofNat g1) (Int32.ofNat g2) (Int32.ofNat g3) (Int32.ofNat g4))) + (sp_sm2_14 (Int32.ofNat g0) (Int32.ofNat g1) (Int32.ofNat g0) (Int32.ofNat g1) (Int32.ofNat g2) (Int32.ofNat g3) (Int32.ofNat g4))) + (sp_sm2_23 (Int32.ofNat g0) (Int32.ofNat g1) (Int32.ofNat g0) (Int32.ofNat g1) (Int32.ofNat g2) (Int32.ofNat g3) (Int32.ofNat g4))) + (sp_sm2_24 (Int32.ofNat g0) (Int32.ofNat g1) (Int32.ofNat g0) (Int32.ofNat g1) (Int32.ofNat g2) (Int32.ofNat g3) (Int32.ofNat g4))) + (sp_sm2_34 (Int32.ofNat g0) (Int32.ofNat g1) (Int32.ofNat g0) (Int32.ofNat g1) (Int32.ofNat g2) (Int32.ofNat g3) (Int32.ofNat g4))) := by decide +kernel
theorem ef_sm3_01 (m : MethodId) (n0 : Nat) (gg0 : Int32) (gg1 : Int32) (gg2 : Int32) (vv0 : Int32) (vv1 : Int32) (vv2 : Int32) (vv3 : Int32) (vv4 : Int32) : entryFrame m #[.ref (n0 + 1), .int (3 : Int32), .int (0 : Int32), .int (1 : Int32)] 4 = mkF m 0 #[.val (.ref (n0 + 1)), .val (.int (3 : Int32)), .val (.int (0 : Int32)), .val (.int (1 : Int32))] [] := by first | (simp [entryFrame, mkF, argsToLocals, Value.category]; done) | rfl
def sp_sm3_01 (gg0 : Int32) (gg1 : Int32) (gg2 : Int32) (vv0 : Int32) (vv1 : Int32) (vv2 : Int32) (vv3 : Int32) (vv4 : Int32) : Int64 := (if vv0 = vv1 then (1 : Int64) else (0 : Int64))
set_option maxRecDepth 65536 in
set_option maxHeartbeats 40000000 in
theorem rm_sm3_01 (l : Launch) (Z : State) (a0 : Array Value) (hw : ∀ d ∈ tables_1, d.before a0 Z = true) (ws : List Jvm.Cond) (n0 : Nat) (gg0 : Int32) (gg1 : Int32) (gg2 : Int32) (vv0 : Int32) (vv1 : Int32) (vv2 : Int32) (vv3 : Int32) (vv4 : Int32) (k0 : ClassId) (hk0 : IsA Z k0 .int) (k1 : ClassId) (hk1 : IsA Z k1 .int) (h0 : Heap) (P0 : HP n0 h0 [AC k0 [.int gg0, .int gg1, .int gg2], AC k1 [.int vv0, .int vv1, .int vv2, .int vv3, .int vv4]]) :
    MetFree l (⟨"com/example/protomata/protomata/PartitionPairsAlikePinLaw", "same", "([IIII)J"⟩ : MethodName) (head1 (Jvm.Cond.code (⟨"com/example/protomata/protomata/PartitionPairsAlikePinLaw", "same", "([IIII)J"⟩ : MethodName) method_3_code 4 (some .long) :: ws) ({ frames := 0, cells := 0, slots := 0, locals := 0 } : Room)) (fun aa U => aa = #[.ref (n0 + 1), .int (3 : Int32), .int (0 : Int32), .int (1 : Int32)] ∧ Z.Warmed39 U.vm ∧ U.heap = h0) (fun _ _ _ _ _ => True) (fun _ U o U' => ∃ v L, o = .returned v ∧ PureQ (.long (sp_sm3_01 gg0 gg1 gg2 vv0 vv1 vv2 vv3 vv4)) h0 v U'.heap L ∧ FrameEnd U o U' L ({ frames := 0, cells := 0, slots := 0, locals := 0 } : Room).cells ({ frames := 0, cells := 0, slots := 0, locals := 0 } : Room).slots) := by
  refine own_body pn1 ?_
  intro p e s m below meth c T0 hx hby hml hret hlk hown hnm hZ X0 e0
  subst e0
  refine own_cast (ef_sm3_01 m n0 gg0 gg1 gg2 vv0 vv1 vv2 vv3 vv4) ?_
  refine w_iloadN X0 hx (hb hby d1_0) rfl (pc' := 1) rfl ?_
  refine w_iloadN X0 hx (hb hby d1_1) rfl (pc' := 2) rfl ?_
  refine w_icmp_ge X0 hx (hb hby d1_2) (by decide) (pcY := 16) (by decide) (pc' := 5) rfl (fun h0 => absurd h0 (by decide)) (fun h0 => ?_)
  refine w_aloadN X0 hx (hb hby d1_5) rfl rfl (pc' := 6) rfl ?_
  refine w_iloadN X0 hx (hb hby d1_6) rfl (pc' := 7) rfl ?_
  refine w_iaload (i := 1) (jn := 0) (v := .int vv0) X0 hx hZ P0 rfl hk1 (hb hby d1_7) (by decide) rfl (pc' := 8) rfl ?_
  refine w_aloadN X0 hx (hb hby d1_8) rfl rfl (pc' := 9) rfl ?_
  refine w_iloadN X0 hx (hb hby d1_9) rfl (pc' := 10) rfl ?_
  refine w_iaload (i := 1) (jn := 1) (v := .int vv1) X0 hx hZ P0 rfl hk1 (hb hby d1_10) (by decide) rfl (pc' := 11) rfl ?_
  refine w_icmp_ne X0 hx (hb hby d1_11) (by decide) (pcY := 16) (by decide) (pc' := 14) rfl (fun h1 => ?_) (fun h1 => ?_)
  · refine w_lconst (v := (0 : Int64)) X0 hx (hb hby d1_16) rfl (pc' := 17) rfl ?_
    exact w_ret_l X0 hx hret hlk (hb hby d1_17) (by decide) (by decide) ⟨congrArg (fun q => some (Value.long q)) (show (0 : Int64) = sp_sm3_01 gg0 gg1 gg2 vv0 vv1 vv2 vv3 vv4 from by rw [sp_sm3_01, if_neg h1]), rfl, rfl⟩
  · refine w_lconst (v := (1 : Int64)) X0 hx (hb hby d1_14) rfl (pc' := 15) rfl ?_
    exact w_ret_l X0 hx hret hlk (hb hby d1_15) (by decide) (by decide) ⟨congrArg (fun q => some (Value.long q)) (show (1 : Int64) = sp_sm3_01 gg0 gg1 gg2 vv0 vv1 vv2 vv3 vv4 from by rw [sp_sm3_01, if_pos h1]), rfl, rfl⟩
theorem ef_sm3_02 (m : MethodId) (n0 : Nat) (gg0 : Int32) (gg1 : Int32) (gg2 : Int32) (vv0 : Int32) (vv1 : Int32) (vv2 : Int32) (vv3 : Int32) (vv4 : Int32) : entryFrame m #[.ref (n0 + 1), .int (3 : Int32), .int (0 : Int32), .int (2 : Int32)] 4 = mkF m 0 #[.val (.ref (n0 + 1)), .val (.int (3 : Int32)), .val (.int (0 : Int32)), .val (.int (2 : Int32))] [] := by first | (simp [entryFrame, mkF, argsToLocals, Value.category]; done) | rfl
def sp_sm3_02 (gg0 : Int32) (gg1 : Int32) (gg2 : Int32) (vv0 : Int32) (vv1 : Int32) (vv2 : Int32) (vv3 : Int32) (vv4 : Int32) : Int64 := (if vv0 = vv2 then (1 : Int64) else (0 : Int64))
set_option maxRecDepth 65536 in
set_option maxHeartbeats 40000000 in
theorem rm_sm3_02 (l : Launch) (Z : State) (a0 : Array Value) (hw : ∀ d ∈ tables_1, d.before a0 Z = true) (ws : List Jvm.Cond) (n0 : Nat) (gg0 : Int32) (gg1 : Int32) (gg2 : Int32) (vv0 : Int32) (vv1 : Int32) (vv2 : Int32) (vv3 : Int32) (vv4 : Int32) (k0 : ClassId) (hk0 : IsA Z k0 .int) (k1 : ClassId) (hk1 : IsA Z k1 .int) (h0 : Heap) (P0 : HP n0 h0 [AC k0 [.int gg0, .int gg1, .int gg2], AC k1 [.int vv0, .int vv1, .int vv2, .int vv3, .int vv4]]) :
    MetFree l (⟨"com/example/protomata/protomata/PartitionPairsAlikePinLaw", "same", "([IIII)J"⟩ : MethodName) (head1 (Jvm.Cond.code (⟨"com/example/protomata/protomata/PartitionPairsAlikePinLaw", "same", "([IIII)J"⟩ : MethodName) method_3_code 4 (some .long) :: ws) ({ frames := 0, cells := 0, slots := 0, locals := 0 } : Room)) (fun aa U => aa = #[.ref (n0 + 1), .int (3 : Int32), .int (0 : Int32), .int (2 : Int32)] ∧ Z.Warmed39 U.vm ∧ U.heap = h0) (fun _ _ _ _ _ => True) (fun _ U o U' => ∃ v L, o = .returned v ∧ PureQ (.long (sp_sm3_02 gg0 gg1 gg2 vv0 vv1 vv2 vv3 vv4)) h0 v U'.heap L ∧ FrameEnd U o U' L ({ frames := 0, cells := 0, slots := 0, locals := 0 } : Room).cells ({ frames := 0, cells := 0, slots := 0, locals := 0 } : Room).slots) := by
  refine own_body pn1 ?_
  intro p e s m below meth c T0 hx hby hml hret hlk hown hnm hZ X0 e0
  subst e0
  refine own_cast (ef_sm3_02 m n0 gg0 gg1 gg2 vv0 vv1 vv2 vv3 vv4) ?_
  refine w_iloadN X0 hx (hb hby d1_0) rfl (pc' := 1) rfl ?_
  refine w_iloadN X0 hx (hb hby d1_1) rfl (pc' := 2) rfl ?_
  refine w_icmp_ge X0 hx (hb hby d1_2) (by decide) (pcY := 16) (by decide) (pc' := 5) rfl (fun h0 => absurd h0 (by decide)) (fun h0 => ?_)
  refine w_aloadN X0 hx (hb hby d1_5) rfl rfl (pc' := 6) rfl ?_
  refine w_iloadN X0 hx (hb hby d1_6) rfl (pc' := 7) rfl ?_
  refine w_iaload (i := 1) (jn := 0) (v := .int vv0) X0 hx hZ P0 rfl hk1 (hb hby d1_7) (by decide) rfl (pc' := 8) rfl ?_
  refine w_aloadN X0 hx (hb hby d1_8) rfl rfl (pc' := 9) rfl ?_
  refine w_iloadN X0 hx (hb hby d1_9) rfl (pc' := 10) rfl ?_
  refine w_iaload (i := 1) (jn := 2) (v := .int vv2) X0 hx hZ P0 rfl hk1 (hb hby d1_10) (by decide) rfl (pc' := 11) rfl ?_
  refine w_icmp_ne X0 hx (hb hby d1_11) (by decide) (pcY := 16) (by decide) (pc' := 14) rfl (fun h1 => ?_) (fun h1 => ?_)
  · refine w_lconst (v := (0 : Int64)) X0 hx (hb hby d1_16) rfl (pc' := 17) rfl ?_
    exact w_ret_l X0 hx hret hlk (hb hby d1_17) (by decide) (by decide) ⟨congrArg (fun q => some (Value.long q)) (show (0 : Int64) = sp_sm3_02 gg0 gg1 gg2 vv0 vv1 vv2 vv3 vv4 from by rw [sp_sm3_02, if_neg h1]), rfl, rfl⟩
  · refine w_lconst (v := (1 : Int64)) X0 hx (hb hby d1_14) rfl (pc' := 15) rfl ?_
    exact w_ret_l X0 hx hret hlk (hb hby d1_15) (by decide) (by decide) ⟨congrArg (fun q => some (Value.long q)) (show (1 : Int64) = sp_sm3_02 gg0 gg1 gg2 vv0 vv1 vv2 vv3 vv4 from by rw [sp_sm3_02, if_pos h1]), rfl, rfl⟩
theorem ef_sm3_03 (m : MethodId) (n0 : Nat) (gg0 : Int32) (gg1 : Int32) (gg2 : Int32) (vv0 : Int32) (vv1 : Int32) (vv2 : Int32) (vv3 : Int32) (vv4 : Int32) : entryFrame m #[.ref (n0 + 1), .int (3 : Int32), .int (0 : Int32), .int (3 : Int32)] 4 = mkF m 0 #[.val (.ref (n0 + 1)), .val (.int (3 : Int32)), .val (.int (0 : Int32)), .val (.int (3 : Int32))] [] := by first | (simp [entryFrame, mkF, argsToLocals, Value.category]; done) | rfl
def sp_sm3_03 (gg0 : Int32) (gg1 : Int32) (gg2 : Int32) (vv0 : Int32) (vv1 : Int32) (vv2 : Int32) (vv3 : Int32) (vv4 : Int32) : Int64 := (0 : Int64)
set_option maxRecDepth 65536 in
set_option maxHeartbeats 40000000 in
theorem rm_sm3_03 (l : Launch) (Z : State) (a0 : Array Value) (hw : ∀ d ∈ tables_1, d.before a0 Z = true) (ws : List Jvm.Cond) (n0 : Nat) (gg0 : Int32) (gg1 : Int32) (gg2 : Int32) (vv0 : Int32) (vv1 : Int32) (vv2 : Int32) (vv3 : Int32) (vv4 : Int32) (k0 : ClassId) (hk0 : IsA Z k0 .int) (k1 : ClassId) (hk1 : IsA Z k1 .int) (h0 : Heap) (P0 : HP n0 h0 [AC k0 [.int gg0, .int gg1, .int gg2], AC k1 [.int vv0, .int vv1, .int vv2, .int vv3, .int vv4]]) :
    MetFree l (⟨"com/example/protomata/protomata/PartitionPairsAlikePinLaw", "same", "([IIII)J"⟩ : MethodName) (head1 (Jvm.Cond.code (⟨"com/example/protomata/protomata/PartitionPairsAlikePinLaw", "same", "([IIII)J"⟩ : MethodName) method_3_code 4 (some .long) :: ws) ({ frames := 0, cells := 0, slots := 0, locals := 0 } : Room)) (fun aa U => aa = #[.ref (n0 + 1), .int (3 : Int32), .int (0 : Int32), .int (3 : Int32)] ∧ Z.Warmed39 U.vm ∧ U.heap = h0) (fun _ _ _ _ _ => True) (fun _ U o U' => ∃ v L, o = .returned v ∧ PureQ (.long (sp_sm3_03 gg0 gg1 gg2 vv0 vv1 vv2 vv3 vv4)) h0 v U'.heap L ∧ FrameEnd U o U' L ({ frames := 0, cells := 0, slots := 0, locals := 0 } : Room).cells ({ frames := 0, cells := 0, slots := 0, locals := 0 } : Room).slots) := by
  refine own_body pn1 ?_
  intro p e s m below meth c T0 hx hby hml hret hlk hown hnm hZ X0 e0
  subst e0
  refine own_cast (ef_sm3_03 m n0 gg0 gg1 gg2 vv0 vv1 vv2 vv3 vv4) ?_
  refine w_iloadN X0 hx (hb hby d1_0) rfl (pc' := 1) rfl ?_
  refine w_iloadN X0 hx (hb hby d1_1) rfl (pc' := 2) rfl ?_
  refine w_icmp_ge X0 hx (hb hby d1_2) (by decide) (pcY := 16) (by decide) (pc' := 5) rfl (fun h0 => ?_) (fun h0 => absurd h0 (by decide))
  refine w_lconst (v := (0 : Int64)) X0 hx (hb hby d1_16) rfl (pc' := 17) rfl ?_
  exact w_ret_l X0 hx hret hlk (hb hby d1_17) (by decide) (by decide) ⟨congrArg (fun q => some (Value.long q)) (show (0 : Int64) = sp_sm3_03 gg0 gg1 gg2 vv0 vv1 vv2 vv3 vv4 from by rw [sp_sm3_03]), rfl, rfl⟩
theorem ef_sm3_04 (m : MethodId) (n0 : Nat) (gg0 : Int32) (gg1 : Int32) (gg2 : Int32) (vv0 : Int32) (vv1 : Int32) (vv2 : Int32) (vv3 : Int32) (vv4 : Int32) : entryFrame m #[.ref (n0 + 1), .int (3 : Int32), .int (0 : Int32), .int (4 : Int32)] 4 = mkF m 0 #[.val (.ref (n0 + 1)), .val (.int (3 : Int32)), .val (.int (0 : Int32)), .val (.int (4 : Int32))] [] := by first | (simp [entryFrame, mkF, argsToLocals, Value.category]; done) | rfl
def sp_sm3_04 (gg0 : Int32) (gg1 : Int32) (gg2 : Int32) (vv0 : Int32) (vv1 : Int32) (vv2 : Int32) (vv3 : Int32) (vv4 : Int32) : Int64 := (0 : Int64)
set_option maxRecDepth 65536 in
set_option maxHeartbeats 40000000 in
theorem rm_sm3_04 (l : Launch) (Z : State) (a0 : Array Value) (hw : ∀ d ∈ tables_1, d.before a0 Z = true) (ws : List Jvm.Cond) (n0 : Nat) (gg0 : Int32) (gg1 : Int32) (gg2 : Int32) (vv0 : Int32) (vv1 : Int32) (vv2 : Int32) (vv3 : Int32) (vv4 : Int32) (k0 : ClassId) (hk0 : IsA Z k0 .int) (k1 : ClassId) (hk1 : IsA Z k1 .int) (h0 : Heap) (P0 : HP n0 h0 [AC k0 [.int gg0, .int gg1, .int gg2], AC k1 [.int vv0, .int vv1, .int vv2, .int vv3, .int vv4]]) :
    MetFree l (⟨"com/example/protomata/protomata/PartitionPairsAlikePinLaw", "same", "([IIII)J"⟩ : MethodName) (head1 (Jvm.Cond.code (⟨"com/example/protomata/protomata/PartitionPairsAlikePinLaw", "same", "([IIII)J"⟩ : MethodName) method_3_code 4 (some .long) :: ws) ({ frames := 0, cells := 0, slots := 0, locals := 0 } : Room)) (fun aa U => aa = #[.ref (n0 + 1), .int (3 : Int32), .int (0 : Int32), .int (4 : Int32)] ∧ Z.Warmed39 U.vm ∧ U.heap = h0) (fun _ _ _ _ _ => True) (fun _ U o U' => ∃ v L, o = .returned v ∧ PureQ (.long (sp_sm3_04 gg0 gg1 gg2 vv0 vv1 vv2 vv3 vv4)) h0 v U'.heap L ∧ FrameEnd U o U' L ({ frames := 0, cells := 0, slots := 0, locals := 0 } : Room).cells ({ frames := 0, cells := 0, slots := 0, locals := 0 } : Room).slots) := by
  refine own_body pn1 ?_
  intro p e s m below meth c T0 hx hby hml hret hlk hown hnm hZ X0 e0
  subst e0
  refine own_cast (ef_sm3_04 m n0 gg0 gg1 gg2 vv0 vv1 vv2 vv3 vv4) ?_
  refine w_iloadN X0 hx (hb hby d1_0) rfl (pc' := 1) rfl ?_
  refine w_iloadN X0 hx (hb hby d1_1) rfl (pc' := 2) rfl ?_
  refine w_icmp_ge X0 hx (hb hby d1_2) (by decide) (pcY := 16) (by decide) (pc' := 5) rfl (fun h0 => ?_) (fun h0 => absurd h0 (by decide))
  refine w_lconst (v := (0 : Int64)) X0 hx (hb hby d1_16) rfl (pc' := 17) rfl ?_
  exact w_ret_l X0 hx hret hlk (hb hby d1_17) (by decide) (by decide) ⟨congrArg (fun q => some (Value.long q)) (show (0 : Int64) = sp_sm3_04 gg0 gg1 gg2 vv0 vv1 vv2 vv3 vv4 from by rw [sp_sm3_04]), rfl, rfl⟩
theorem ef_sm3_12 (m : MethodId) (n0 : Nat) (gg0 : Int32) (gg1 : Int32) (gg2 : Int32) (vv0 : Int32) (vv1 : Int32) (vv2 : Int32) (vv3 : Int32) (vv4 : Int32) : entryFrame m #[.ref (n0 + 1), .int (3 : Int32), .int (1 : Int32), .int (2 : Int32)] 4 = mkF m 0 #[.val (.ref (n0 + 1)), .val (.int (3 : Int32)), .val (.int (1 : Int32)), .val (.int (2 : Int32))] [] := by first | (simp [entryFrame, mkF, argsToLocals, Value.category]; done) | rfl
def sp_sm3_12 (gg0 : Int32) (gg1 : Int32) (gg2 : Int32) (vv0 : Int32) (vv1 : Int32) (vv2 : Int32) (vv3 : Int32) (vv4 : Int32) : Int64 := (if vv1 = vv2 then (1 : Int64) else (0 : Int64))
set_option maxRecDepth 65536 in
set_option maxHeartbeats 40000000 in
theorem rm_sm3_12 (l : Launch) (Z : State) (a0 : Array Value) (hw : ∀ d ∈ tables_1, d.before a0 Z = true) (ws : List Jvm.Cond) (n0 : Nat) (gg0 : Int32) (gg1 : Int32) (gg2 : Int32) (vv0 : Int32) (vv1 : Int32) (vv2 : Int32) (vv3 : Int32) (vv4 : Int32) (k0 : ClassId) (hk0 : IsA Z k0 .int) (k1 : ClassId) (hk1 : IsA Z k1 .int) (h0 : Heap) (P0 : HP n0 h0 [AC k0 [.int gg0, .int gg1, .int gg2], AC k1 [.int vv0, .int vv1, .int vv2, .int vv3, .int vv4]]) :
    MetFree l (⟨"com/example/protomata/protomata/PartitionPairsAlikePinLaw", "same", "([IIII)J"⟩ : MethodName) (head1 (Jvm.Cond.code (⟨"com/example/protomata/protomata/PartitionPairsAlikePinLaw", "same", "([IIII)J"⟩ : MethodName) method_3_code 4 (some .long) :: ws) ({ frames := 0, cells := 0, slots := 0, locals := 0 } : Room)) (fun aa U => aa = #[.ref (n0 + 1), .int (3 : Int32), .int (1 : Int32), .int (2 : Int32)] ∧ Z.Warmed39 U.vm ∧ U.heap = h0) (fun _ _ _ _ _ => True) (fun _ U o U' => ∃ v L, o = .returned v ∧ PureQ (.long (sp_sm3_12 gg0 gg1 gg2 vv0 vv1 vv2 vv3 vv4)) h0 v U'.heap L ∧ FrameEnd U o U' L ({ frames := 0, cells := 0, slots := 0, locals := 0 } : Room).cells ({ frames := 0, cells := 0, slots := 0, locals := 0 } : Room).slots) := by
  refine own_body pn1 ?_
  intro p e s m below meth c T0 hx hby hml hret hlk hown hnm hZ X0 e0
  subst e0
  refine own_cast (ef_sm3_12 m n0 gg0 gg1 gg2 vv0 vv1 vv2 vv3 vv4) ?_
  refine w_iloadN X0 hx (hb hby d1_0) rfl (pc' := 1) rfl ?_
  refine w_iloadN X0 hx (hb hby d1_1) rfl (pc' := 2) rfl ?_
  refine w_icmp_ge X0 hx (hb hby d1_2) (by decide) (pcY := 16) (by decide) (pc' := 5) rfl (fun h0 => absurd h0 (by decide)) (fun h0 => ?_)
  refine w_aloadN X0 hx (hb hby d1_5) rfl rfl (pc' := 6) rfl ?_
  refine w_iloadN X0 hx (hb hby d1_6) rfl (pc' := 7) rfl ?_
  refine w_iaload (i := 1) (jn := 1) (v := .int vv1) X0 hx hZ P0 rfl hk1 (hb hby d1_7) (by decide) rfl (pc' := 8) rfl ?_
  refine w_aloadN X0 hx (hb hby d1_8) rfl rfl (pc' := 9) rfl ?_
  refine w_iloadN X0 hx (hb hby d1_9) rfl (pc' := 10) rfl ?_
  refine w_iaload (i := 1) (jn := 2) (v := .int vv2) X0 hx hZ P0 rfl hk1 (hb hby d1_10) (by decide) rfl (pc' := 11) rfl ?_
  refine w_icmp_ne X0 hx (hb hby d1_11) (by decide) (pcY := 16) (by decide) (pc' := 14) rfl (fun h1 => ?_) (fun h1 => ?_)
  · refine w_lconst (v := (0 : Int64)) X0 hx (hb hby d1_16) rfl (pc' := 17) rfl ?_
    exact w_ret_l X0 hx hret hlk (hb hby d1_17) (by decide) (by decide) ⟨congrArg (fun q => some (Value.long q)) (show (0 : Int64) = sp_sm3_12 gg0 gg1 gg2 vv0 vv1 vv2 vv3 vv4 from by rw [sp_sm3_12, if_neg h1]), rfl, rfl⟩
  · refine w_lconst (v := (1 : Int64)) X0 hx (hb hby d1_14) rfl (pc' := 15) rfl ?_
    exact w_ret_l X0 hx hret hlk (hb hby d1_15) (by decide) (by decide) ⟨congrArg (fun q => some (Value.long q)) (show (1 : Int64) = sp_sm3_12 gg0 gg1 gg2 vv0 vv1 vv2 vv3 vv4 from by rw [sp_sm3_12, if_pos h1]), rfl, rfl⟩
theorem ef_sm3_13 (m : MethodId) (n0 : Nat) (gg0 : Int32) (gg1 : Int32) (gg2 : Int32) (vv0 : Int32) (vv1 : Int32) (vv2 : Int32) (vv3 : Int32) (vv4 : Int32) : entryFrame m #[.ref (n0 + 1), .int (3 : Int32), .int (1 : Int32), .int (3 : Int32)] 4 = mkF m 0 #[.val (.ref (n0 + 1)), .val (.int (3 : Int32)), .val (.int (1 : Int32)), .val (.int (3 : Int32))] [] := by first | (simp [entryFrame, mkF, argsToLocals, Value.category]; done) | rfl
def sp_sm3_13 (gg0 : Int32) (gg1 : Int32) (gg2 : Int32) (vv0 : Int32) (vv1 : Int32) (vv2 : Int32) (vv3 : Int32) (vv4 : Int32) : Int64 := (0 : Int64)
set_option maxRecDepth 65536 in
set_option maxHeartbeats 40000000 in
theorem rm_sm3_13 (l : Launch) (Z : State) (a0 : Array Value) (hw : ∀ d ∈ tables_1, d.before a0 Z = true) (ws : List Jvm.Cond) (n0 : Nat) (gg0 : Int32) (gg1 : Int32) (gg2 : Int32) (vv0 : Int32) (vv1 : Int32) (vv2 : Int32) (vv3 : Int32) (vv4 : Int32) (k0 : ClassId) (hk0 : IsA Z k0 .int) (k1 : ClassId) (hk1 : IsA Z k1 .int) (h0 : Heap) (P0 : HP n0 h0 [AC k0 [.int gg0, .int gg1, .int gg2], AC k1 [.int vv0, .int vv1, .int vv2, .int vv3, .int vv4]]) :
    MetFree l (⟨"com/example/protomata/protomata/PartitionPairsAlikePinLaw", "same", "([IIII)J"⟩ : MethodName) (head1 (Jvm.Cond.code (⟨"com/example/protomata/protomata/PartitionPairsAlikePinLaw", "same", "([IIII)J"⟩ : MethodName) method_3_code 4 (some .long) :: ws) ({ frames := 0, cells := 0, slots := 0, locals := 0 } : Room)) (fun aa U => aa = #[.ref (n0 + 1), .int (3 : Int32), .int (1 : Int32), .int (3 : Int32)] ∧ Z.Warmed39 U.vm ∧ U.heap = h0) (fun _ _ _ _ _ => True) (fun _ U o U' => ∃ v L, o = .returned v ∧ PureQ (.long (sp_sm3_13 gg0 gg1 gg2 vv0 vv1 vv2 vv3 vv4)) h0 v U'.heap L ∧ FrameEnd U o U' L ({ frames := 0, cells := 0, slots := 0, locals := 0 } : Room).cells ({ frames := 0, cells := 0, slots := 0, locals := 0 } : Room).slots) := by
  refine own_body pn1 ?_
  intro p e s m below meth c T0 hx hby hml hret hlk hown hnm hZ X0 e0
  subst e0
  refine own_cast (ef_sm3_13 m n0 gg0 gg1 gg2 vv0 vv1 vv2 vv3 vv4) ?_
  refine w_iloadN X0 hx (hb hby d1_0) rfl (pc' := 1) rfl ?_
  refine w_iloadN X0 hx (hb hby d1_1) rfl (pc' := 2) rfl ?_
  refine w_icmp_ge X0 hx (hb hby d1_2) (by decide) (pcY := 16) (by decide) (pc' := 5) rfl (fun h0 => ?_) (fun h0 => absurd h0 (by decide))
  refine w_lconst (v := (0 : Int64)) X0 hx (hb hby d1_16) rfl (pc' := 17) rfl ?_
  exact w_ret_l X0 hx hret hlk (hb hby d1_17) (by decide) (by decide) ⟨congrArg (fun q => some (Value.long q)) (show (0 : Int64) = sp_sm3_13 gg0 gg1 gg2 vv0 vv1 vv2 vv3 vv4 from by rw [sp_sm3_13]), rfl, rfl⟩
theorem ef_sm3_14 (m : MethodId) (n0 : Nat) (gg0 : Int32) (gg1 : Int32) (gg2 : Int32) (vv0 : Int32) (vv1 : Int32) (vv2 : Int32) (vv3 : Int32) (vv4 : Int32) : entryFrame m #[.ref (n0 + 1), .int (3 : Int32), .int (1 : Int32), .int (4 : Int32)] 4 = mkF m 0 #[.val (.ref (n0 + 1)), .val (.int (3 : Int32)), .val (.int (1 : Int32)), .val (.int (4 : Int32))] [] := by first | (simp [entryFrame, mkF, argsToLocals, Value.category]; done) | rfl
def sp_sm3_14 (gg0 : Int32) (gg1 : Int32) (gg2 : Int32) (vv0 : Int32) (vv1 : Int32) (vv2 : Int32) (vv3 : Int32) (vv4 : Int32) : Int64 := (0 : Int64)
set_option maxRecDepth 65536 in
set_option maxHeartbeats 40000000 in
theorem rm_sm3_14 (l : Launch) (Z : State) (a0 : Array Value) (hw : ∀ d ∈ tables_1, d.before a0 Z = true) (ws : List Jvm.Cond) (n0 : Nat) (gg0 : Int32) (gg1 : Int32) (gg2 : Int32) (vv0 : Int32) (vv1 : Int32) (vv2 : Int32) (vv3 : Int32) (vv4 : Int32) (k0 : ClassId) (hk0 : IsA Z k0 .int) (k1 : ClassId) (hk1 : IsA Z k1 .int) (h0 : Heap) (P0 : HP n0 h0 [AC k0 [.int gg0, .int gg1, .int gg2], AC k1 [.int vv0, .int vv1, .int vv2, .int vv3, .int vv4]]) :
    MetFree l (⟨"com/example/protomata/protomata/PartitionPairsAlikePinLaw", "same", "([IIII)J"⟩ : MethodName) (head1 (Jvm.Cond.code (⟨"com/example/protomata/protomata/PartitionPairsAlikePinLaw", "same", "([IIII)J"⟩ : MethodName) method_3_code 4 (some .long) :: ws) ({ frames := 0, cells := 0, slots := 0, locals := 0 } : Room)) (fun aa U => aa = #[.ref (n0 + 1), .int (3 : Int32), .int (1 : Int32), .int (4 : Int32)] ∧ Z.Warmed39 U.vm ∧ U.heap = h0) (fun _ _ _ _ _ => True) (fun _ U o U' => ∃ v L, o = .returned v ∧ PureQ (.long (sp_sm3_14 gg0 gg1 gg2 vv0 vv1 vv2 vv3 vv4)) h0 v U'.heap L ∧ FrameEnd U o U' L ({ frames := 0, cells := 0, slots := 0, locals := 0 } : Room).cells ({ frames := 0, cells := 0, slots := 0, locals := 0 } : Room).slots) := by
  refine own_body pn1 ?_
  intro p e s m below meth c T0 hx hby hml hret hlk hown hnm hZ X0 e0
  subst e0
  refine own_cast (ef_sm3_14 m n0 gg0 gg1 gg2 vv0 vv1 vv2 vv3 vv4) ?_
  refine w_iloadN X0 hx (hb hby d1_0) rfl (pc' := 1) rfl ?_
  refine w_iloadN X0 hx (hb hby d1_1) rfl (pc' := 2) rfl ?_
  refine w_icmp_ge X0 hx (hb hby d1_2) (by decide) (pcY := 16) (by decide) (pc' := 5) rfl (fun h0 => ?_) (fun h0 => absurd h0 (by decide))
  refine w_lconst (v := (0 : Int64)) X0 hx (hb hby d1_16) rfl (pc' := 17) rfl ?_
  exact w_ret_l X0 hx hret hlk (hb hby d1_17) (by decide) (by decide) ⟨congrArg (fun q => some (Value.long q)) (show (0 : Int64) = sp_sm3_14 gg0 gg1 gg2 vv0 vv1 vv2 vv3 vv4 from by rw [sp_sm3_14]), rfl, rfl⟩
theorem ef_sm3_23 (m : MethodId) (n0 : Nat) (gg0 : Int32) (gg1 : Int32) (gg2 : Int32) (vv0 : Int32) (vv1 : Int32) (vv2 : Int32) (vv3 : Int32) (vv4 : Int32) : entryFrame m #[.ref (n0 + 1), .int (3 : Int32), .int (2 : Int32), .int (3 : Int32)] 4 = mkF m 0 #[.val (.ref (n0 + 1)), .val (.int (3 : Int32)), .val (.int (2 : Int32)), .val (.int (3 : Int32))] [] := by first | (simp [entryFrame, mkF, argsToLocals, Value.category]; done) | rfl
def sp_sm3_23 (gg0 : Int32) (gg1 : Int32) (gg2 : Int32) (vv0 : Int32) (vv1 : Int32) (vv2 : Int32) (vv3 : Int32) (vv4 : Int32) : Int64 := (0 : Int64)
set_option maxRecDepth 65536 in
set_option maxHeartbeats 40000000 in
theorem rm_sm3_23 (l : Launch) (Z : State) (a0 : Array Value) (hw : ∀ d ∈ tables_1, d.before a0 Z = true) (ws : List Jvm.Cond) (n0 : Nat) (gg0 : Int32) (gg1 : Int32) (gg2 : Int32) (vv0 : Int32) (vv1 : Int32) (vv2 : Int32) (vv3 : Int32) (vv4 : Int32) (k0 : ClassId) (hk0 : IsA Z k0 .int) (k1 : ClassId) (hk1 : IsA Z k1 .int) (h0 : Heap) (P0 : HP n0 h0 [AC k0 [.int gg0, .int gg1, .int gg2], AC k1 [.int vv0, .int vv1, .int vv2, .int vv3, .int vv4]]) :
    MetFree l (⟨"com/example/protomata/protomata/PartitionPairsAlikePinLaw", "same", "([IIII)J"⟩ : MethodName) (head1 (Jvm.Cond.code (⟨"com/example/protomata/protomata/PartitionPairsAlikePinLaw", "same", "([IIII)J"⟩ : MethodName) method_3_code 4 (some .long) :: ws) ({ frames := 0, cells := 0, slots := 0, locals := 0 } : Room)) (fun aa U => aa = #[.ref (n0 + 1), .int (3 : Int32), .int (2 : Int32), .int (3 : Int32)] ∧ Z.Warmed39 U.vm ∧ U.heap = h0) (fun _ _ _ _ _ => True) (fun _ U o U' => ∃ v L, o = .returned v ∧ PureQ (.long (sp_sm3_23 gg0 gg1 gg2 vv0 vv1 vv2 vv3 vv4)) h0 v U'.heap L ∧ FrameEnd U o U' L ({ frames := 0, cells := 0, slots := 0, locals := 0 } : Room).cells ({ frames := 0, cells := 0, slots := 0, locals := 0 } : Room).slots) := by
  refine own_body pn1 ?_
  intro p e s m below meth c T0 hx hby hml hret hlk hown hnm hZ X0 e0
  subst e0
  refine own_cast (ef_sm3_23 m n0 gg0 gg1 gg2 vv0 vv1 vv2 vv3 vv4) ?_
  refine w_iloadN X0 hx (hb hby d1_0) rfl (pc' := 1) rfl ?_
  refine w_iloadN X0 hx (hb hby d1_1) rfl (pc' := 2) rfl ?_
  refine w_icmp_ge X0 hx (hb hby d1_2) (by decide) (pcY := 16) (by decide) (pc' := 5) rfl (fun h0 => ?_) (fun h0 => absurd h0 (by decide))
  refine w_lconst (v := (0 : Int64)) X0 hx (hb hby d1_16) rfl (pc' := 17) rfl ?_
  exact w_ret_l X0 hx hret hlk (hb hby d1_17) (by decide) (by decide) ⟨congrArg (fun q => some (Value.long q)) (show (0 : Int64) = sp_sm3_23 gg0 gg1 gg2 vv0 vv1 vv2 vv3 vv4 from by rw [sp_sm3_23]), rfl, rfl⟩
theorem ef_sm3_24 (m : MethodId) (n0 : Nat) (gg0 : Int32) (gg1 : Int32) (gg2 : Int32) (vv0 : Int32) (vv1 : Int32) (vv2 : Int32) (vv3 : Int32) (vv4 : Int32) : entryFrame m #[.ref (n0 + 1), .int (3 : Int32), .int (2 : Int32), .int (4 : Int32)] 4 = mkF m 0 #[.val (.ref (n0 + 1)), .val (.int (3 : Int32)), .val (.int (2 : Int32)), .val (.int (4 : Int32))] [] := by first | (simp [entryFrame, mkF, argsToLocals, Value.category]; done) | rfl
def sp_sm3_24 (gg0 : Int32) (gg1 : Int32) (gg2 : Int32) (vv0 : Int32) (vv1 : Int32) (vv2 : Int32) (vv3 : Int32) (vv4 : Int32) : Int64 := (0 : Int64)
set_option maxRecDepth 65536 in
set_option maxHeartbeats 40000000 in
theorem rm_sm3_24 (l : Launch) (Z : State) (a0 : Array Value) (hw : ∀ d ∈ tables_1, d.before a0 Z = true) (ws : List Jvm.Cond) (n0 : Nat) (gg0 : Int32) (gg1 : Int32) (gg2 : Int32) (vv0 : Int32) (vv1 : Int32) (vv2 : Int32) (vv3 : Int32) (vv4 : Int32) (k0 : ClassId) (hk0 : IsA Z k0 .int) (k1 : ClassId) (hk1 : IsA Z k1 .int) (h0 : Heap) (P0 : HP n0 h0 [AC k0 [.int gg0, .int gg1, .int gg2], AC k1 [.int vv0, .int vv1, .int vv2, .int vv3, .int vv4]]) :
    MetFree l (⟨"com/example/protomata/protomata/PartitionPairsAlikePinLaw", "same", "([IIII)J"⟩ : MethodName) (head1 (Jvm.Cond.code (⟨"com/example/protomata/protomata/PartitionPairsAlikePinLaw", "same", "([IIII)J"⟩ : MethodName) method_3_code 4 (some .long) :: ws) ({ frames := 0, cells := 0, slots := 0, locals := 0 } : Room)) (fun aa U => aa = #[.ref (n0 + 1), .int (3 : Int32), .int (2 : Int32), .int (4 : Int32)] ∧ Z.Warmed39 U.vm ∧ U.heap = h0) (fun _ _ _ _ _ => True) (fun _ U o U' => ∃ v L, o = .returned v ∧ PureQ (.long (sp_sm3_24 gg0 gg1 gg2 vv0 vv1 vv2 vv3 vv4)) h0 v U'.heap L ∧ FrameEnd U o U' L ({ frames := 0, cells := 0, slots := 0, locals := 0 } : Room).cells ({ frames := 0, cells := 0, slots := 0, locals := 0 } : Room).slots) := by
  refine own_body pn1 ?_
  intro p e s m below meth c T0 hx hby hml hret hlk hown hnm hZ X0 e0
  subst e0
  refine own_cast (ef_sm3_24 m n0 gg0 gg1 gg2 vv0 vv1 vv2 vv3 vv4) ?_
  refine w_iloadN X0 hx (hb hby d1_0) rfl (pc' := 1) rfl ?_
  refine w_iloadN X0 hx (hb hby d1_1) rfl (pc' := 2) rfl ?_
  refine w_icmp_ge X0 hx (hb hby d1_2) (by decide) (pcY := 16) (by decide) (pc' := 5) rfl (fun h0 => ?_) (fun h0 => absurd h0 (by decide))
  refine w_lconst (v := (0 : Int64)) X0 hx (hb hby d1_16) rfl (pc' := 17) rfl ?_
  exact w_ret_l X0 hx hret hlk (hb hby d1_17) (by decide) (by decide) ⟨congrArg (fun q => some (Value.long q)) (show (0 : Int64) = sp_sm3_24 gg0 gg1 gg2 vv0 vv1 vv2 vv3 vv4 from by rw [sp_sm3_24]), rfl, rfl⟩
theorem ef_sm3_34 (m : MethodId) (n0 : Nat) (gg0 : Int32) (gg1 : Int32) (gg2 : Int32) (vv0 : Int32) (vv1 : Int32) (vv2 : Int32) (vv3 : Int32) (vv4 : Int32) : entryFrame m #[.ref (n0 + 1), .int (3 : Int32), .int (3 : Int32), .int (4 : Int32)] 4 = mkF m 0 #[.val (.ref (n0 + 1)), .val (.int (3 : Int32)), .val (.int (3 : Int32)), .val (.int (4 : Int32))] [] := by first | (simp [entryFrame, mkF, argsToLocals, Value.category]; done) | rfl
def sp_sm3_34 (gg0 : Int32) (gg1 : Int32) (gg2 : Int32) (vv0 : Int32) (vv1 : Int32) (vv2 : Int32) (vv3 : Int32) (vv4 : Int32) : Int64 := (0 : Int64)
set_option maxRecDepth 65536 in
set_option maxHeartbeats 40000000 in
theorem rm_sm3_34 (l : Launch) (Z : State) (a0 : Array Value) (hw : ∀ d ∈ tables_1, d.before a0 Z = true) (ws : List Jvm.Cond) (n0 : Nat) (gg0 : Int32) (gg1 : Int32) (gg2 : Int32) (vv0 : Int32) (vv1 : Int32) (vv2 : Int32) (vv3 : Int32) (vv4 : Int32) (k0 : ClassId) (hk0 : IsA Z k0 .int) (k1 : ClassId) (hk1 : IsA Z k1 .int) (h0 : Heap) (P0 : HP n0 h0 [AC k0 [.int gg0, .int gg1, .int gg2], AC k1 [.int vv0, .int vv1, .int vv2, .int vv3, .int vv4]]) :
    MetFree l (⟨"com/example/protomata/protomata/PartitionPairsAlikePinLaw", "same", "([IIII)J"⟩ : MethodName) (head1 (Jvm.Cond.code (⟨"com/example/protomata/protomata/PartitionPairsAlikePinLaw", "same", "([IIII)J"⟩ : MethodName) method_3_code 4 (some .long) :: ws) ({ frames := 0, cells := 0, slots := 0, locals := 0 } : Room)) (fun aa U => aa = #[.ref (n0 + 1), .int (3 : Int32), .int (3 : Int32), .int (4 : Int32)] ∧ Z.Warmed39 U.vm ∧ U.heap = h0) (fun _ _ _ _ _ => True) (fun _ U o U' => ∃ v L, o = .returned v ∧ PureQ (.long (sp_sm3_34 gg0 gg1 gg2 vv0 vv1 vv2 vv3 vv4)) h0 v U'.heap L ∧ FrameEnd U o U' L ({ frames := 0, cells := 0, slots := 0, locals := 0 } : Room).cells ({ frames := 0, cells := 0, slots := 0, locals := 0 } : Room).slots) := by
  refine own_body pn1 ?_
  intro p e s m below meth c T0 hx hby hml hret hlk hown hnm hZ X0 e0
  subst e0
  refine own_cast (ef_sm3_34 m n0 gg0 gg1 gg2 vv0 vv1 vv2 vv3 vv4) ?_
  refine w_iloadN X0 hx (hb hby d1_0) rfl (pc' := 1) rfl ?_
  refine w_iloadN X0 hx (hb hby d1_1) rfl (pc' := 2) rfl ?_
  refine w_icmp_ge X0 hx (hb hby d1_2) (by decide) (pcY := 16) (by decide) (pc' := 5) rfl (fun h0 => ?_) (fun h0 => absurd h0 (by decide))
  refine w_lconst (v := (0 : Int64)) X0 hx (hb hby d1_16) rfl (pc' := 17) rfl ?_
  exact w_ret_l X0 hx hret hlk (hb hby d1_17) (by decide) (by decide) ⟨congrArg (fun q => some (Value.long q)) (show (0 : Int64) = sp_sm3_34 gg0 gg1 gg2 vv0 vv1 vv2 vv3 vv4 from by rw [sp_sm3_34]), rfl, rfl⟩
def own_pa3 (g0 g1 g2 : Nat) : Int64 := ((((0 : Int64) + (((Int32.toInt64 ((own_inc (own_inc (own_inc ([0, 0, 0] : List Int32) g0) g1) g2).getD 0 0)) * (Int32.toInt64 (((own_inc (own_inc (own_inc ([0, 0, 0] : List Int32) g0) g1) g2).getD 0 0) - (1 : Int32)))) / (2 : Int64))) + (((Int32.toInt64 ((own_inc (own_inc (own_inc ([0, 0, 0] : List Int32) g0) g1) g2).getD 1 0)) * (Int32.toInt64 (((own_inc (own_inc (own_inc ([0, 0, 0] : List Int32) g0) g1) g2).getD 1 0) - (1 : Int32)))) / (2 : Int64))) + (((Int32.toInt64 ((own_inc (own_inc (own_inc ([0, 0, 0] : List Int32) g0) g1) g2).getD 2 0)) * (Int32.toInt64 (((own_inc (own_inc (own_inc ([0, 0, 0] : List Int32) g0) g1) g2).getD 2 0) - (1 : Int32)))) / (2 : Int64)))
theorem ef_pa3 (m : MethodId) (n0 : Nat) (g0 : Nat) (g1 : Nat) (g2 : Nat) (vv0 : Int32) (vv1 : Int32) (vv2 : Int32) (vv3 : Int32) (vv4 : Int32) : entryFrame m #[.ref (n0 + 0)] 8 = mkF m 0 #[.val (.ref (n0 + 0)), .unset, .unset, .unset, .unset, .unset, .unset, .unset] [] := by first | (simp [entryFrame, mkF, argsToLocals, Value.category]; done) | rfl
def Q_pa3 (Z : State) (n0 : Nat) (k0 : ClassId) (k1 : ClassId) (g0 : Nat) (g1 : Nat) (g2 : Nat) (vv0 : Int32) (vv1 : Int32) (vv2 : Int32) (vv3 : Int32) (vv4 : Int32) (v : Option Value) (h : Heap) (L : List Loc) : Prop := v = some (.long (own_pa3 g0 g1 g2)) ∧ Fr n0 L
set_option maxRecDepth 65536 in
set_option maxHeartbeats 40000000 in
theorem rm_pa3 (l : Launch) (Z : State) (a0 : Array Value) (hw : ∀ d ∈ tables_1, d.before a0 Z = true) (ws : List Jvm.Cond) (n0 : Nat) (k0 : ClassId) (k1 : ClassId) (g0 : Nat) (g1 : Nat) (g2 : Nat) (vv0 : Int32) (vv1 : Int32) (vv2 : Int32) (vv3 : Int32) (vv4 : Int32) (h0 : Heap) (P0 : HP n0 h0 [AC k0 [.int (Int32.ofNat g0), .int (Int32.ofNat g1), .int (Int32.ofNat g2)], AC k1 [.int vv0, .int vv1, .int vv2, .int vv3, .int vv4]]) (hk0 : IsA Z k0 .int) (hk1 : IsA Z k1 .int) (hg0 : g0 < 3) (hg1 : g1 < 3) (hg2 : g2 < 3) :
    MetFree l (⟨"com/example/protomata/protomata/Partition", "pairsAlike", "([I)J"⟩ : MethodName) (head1 (Jvm.Cond.code (⟨"com/example/protomata/protomata/Partition", "pairsAlike", "([I)J"⟩ : MethodName) prog_101_method_9_code 8 (some .long) :: ws) ({ frames := 0, cells := 1, slots := 3, locals := 0 } : Room)) (fun aa U => aa = #[.ref (n0 + 0)] ∧ Z.Warmed39 U.vm ∧ U.heap = h0) (fun _ _ _ _ _ => True) (fun _ U o U' => ∃ v L, o = .returned v ∧ Q_pa3 Z n0 k0 k1 g0 g1 g2 vv0 vv1 vv2 vv3 vv4 v U'.heap L ∧ FrameEnd U o U' L ({ frames := 0, cells := 1, slots := 3, locals := 0 } : Room).cells ({ frames := 0, cells := 1, slots := 3, locals := 0 } : Room).slots) := by
  refine own_body pn2 ?_
  intro p e s m below meth c T0 hx hby hml hret hlk hown hnm hZ X0 e0
  subst e0
  have N0 : Fr n0 [] := Fr.nil n0
  refine own_cast (ef_pa3 m n0 g0 g1 g2 vv0 vv1 vv2 vv3 vv4) ?_
  refine w_aloadN X0 hx (hb hby d2_0) rfl rfl (pc' := 1) rfl ?_
  refine w_arrlen (i := 0) X0 hx hZ P0 rfl hk0 (hb hby d2_1) (z := (3 : Int32)) rfl (pc' := 2) rfl ?_
  refine w_newarr (N := 3) (j := 2) X0 hx hZ P0 (ty := .int) rfl (wd1 hw) (hb hby d2_2) (by decide) (by decide) (by decide) (by decide) rfl (pc' := 4) rfl ?_
  intro T1 kA1 X1 hkA1 P1
  replace P1 : HP n0 T1.heap [AC k0 [.int (Int32.ofNat g0), .int (Int32.ofNat g1), .int (Int32.ofNat g2)], AC k1 [.int vv0, .int vv1, .int vv2, .int vv3, .int vv4], AC kA1 [.int (0 : Int32), .int (0 : Int32), .int (0 : Int32)]] := P1
  replace P1 : HP n0 T1.heap [AC k0 [.int (Int32.ofNat g0), .int (Int32.ofNat g1), .int (Int32.ofNat g2)], AC k1 [.int vv0, .int vv1, .int vv2, .int vv3, .int vv4], AC kA1 (List.map Value.int ([0, 0, 0] : List Int32))] := P1
  refine w_astoreN (l' := #[.val (.ref (n0 + 0)), .val (.ref (n0 + 2)), .unset, .unset, .unset, .unset, .unset, .unset]) X1 hx (hb hby d2_4) rfl rfl (pc' := 5) rfl ?_
  refine w_aloadN X1 hx (hb hby d2_5) rfl rfl (pc' := 6) rfl ?_
  refine w_astoreN (l' := #[.val (.ref (n0 + 0)), .val (.ref (n0 + 2)), .val (.ref (n0 + 0)), .unset, .unset, .unset, .unset, .unset]) X1 hx (hb hby d2_6) rfl rfl (pc' := 7) rfl ?_
  refine w_aloadN X1 hx (hb hby d2_7) rfl rfl (pc' := 8) rfl ?_
  refine w_arrlen (i := 0) X1 hx hZ P1 rfl hk0 (hb hby d2_8) (z := (3 : Int32)) rfl (pc' := 9) rfl ?_
  refine w_istoreN (l' := #[.val (.ref (n0 + 0)), .val (.ref (n0 + 2)), .val (.ref (n0 + 0)), .val (.int (3 : Int32)), .unset, .unset, .unset, .unset]) X1 hx (hb hby d2_9) rfl (pc' := 10) rfl ?_
  refine w_iconst (v := (0 : Int32)) X1 hx (hb hby d2_10) rfl (pc' := 11) rfl ?_
  refine w_istore (l' := #[.val (.ref (n0 + 0)), .val (.ref (n0 + 2)), .val (.ref (n0 + 0)), .val (.int (3 : Int32)), .val (.int (0 : Int32)), .unset, .unset, .unset]) X1 hx (hb hby d2_11) rfl (pc' := 13) rfl ?_
  refine w_iload X1 hx (hb hby d2_13) rfl (pc' := 15) rfl ?_
  refine w_iloadN X1 hx (hb hby d2_15) rfl (pc' := 16) rfl ?_
  refine w_icmp_ge X1 hx (hb hby d2_16) (by decide) (pcY := 39) (by decide) (pc' := 19) rfl (fun h0 => absurd h0 (by decide)) (fun h0 => ?_)
  refine w_aloadN X1 hx (hb hby d2_19) rfl rfl (pc' := 20) rfl ?_
  refine w_iload X1 hx (hb hby d2_20) rfl (pc' := 22) rfl ?_
  refine w_iaload (i := 0) (jn := 0) (v := .int (Int32.ofNat g0)) X1 hx hZ P1 rfl hk0 (hb hby d2_22) (by decide) rfl (pc' := 23) rfl ?_
  refine w_istore (l' := #[.val (.ref (n0 + 0)), .val (.ref (n0 + 2)), .val (.ref (n0 + 0)), .val (.int (3 : Int32)), .val (.int (0 : Int32)), .val (.int (Int32.ofNat g0)), .unset, .unset]) X1 hx (hb hby d2_23) rfl (pc' := 25) rfl ?_
  refine w_aloadN X1 hx (hb hby d2_25) rfl rfl (pc' := 26) rfl ?_
  refine w_iload X1 hx (hb hby d2_26) rfl (pc' := 28) rfl ?_
  refine w_dup2 X1 hx (hb hby d2_28) rfl rfl (pc' := 29) rfl ?_
  refine w_ialoadL (i := 2) (jn := g0) X1 hx hZ P1 rfl hkA1 (hb hby d2_29) (own_oN (by omega)) (own_llt (show ([0, 0, 0] : List Int32).length = 3 from rfl) (by omega)) (pc' := 30) rfl ?_
  refine w_iconst (v := (1 : Int32)) X1 hx (hb hby d2_30) rfl (pc' := 31) rfl ?_
  refine w_iadd X1 hx (hb hby d2_31) (pc' := 32) rfl ?_
  refine w_iastoreL (i := 2) (jn := g0) X1 hx hZ N0 P1 rfl hkA1 (hb hby d2_32) (own_oN (by omega)) (own_llt (show ([0, 0, 0] : List Int32).length = 3 from rfl) (by omega)) (pc' := 33) rfl ?_
  intro T2 L1 N1 X2 P2
  replace P2 : HP n0 T2.heap [AC k0 [.int (Int32.ofNat g0), .int (Int32.ofNat g1), .int (Int32.ofNat g2)], AC k1 [.int vv0, .int vv1, .int vv2, .int vv3, .int vv4], AC kA1 (List.map Value.int (([0, 0, 0] : List Int32).set g0 ((([0, 0, 0] : List Int32).getD g0 0) + (1 : Int32))))] := P2
  replace P2 : HP n0 T2.heap [AC k0 [.int (Int32.ofNat g0), .int (Int32.ofNat g1), .int (Int32.ofNat g2)], AC k1 [.int vv0, .int vv1, .int vv2, .int vv3, .int vv4], AC kA1 (List.map Value.int (own_inc ([0, 0, 0] : List Int32) g0))] := P2
  refine w_iincE (z := (1 : Int32)) (l' := #[.val (.ref (n0 + 0)), .val (.ref (n0 + 2)), .val (.ref (n0 + 0)), .val (.int (3 : Int32)), .val (.int (1 : Int32)), .val (.int (Int32.ofNat g0)), .unset, .unset]) X2 hx (hb hby d2_33) rfl (by decide) rfl (pc' := 36) rfl ?_
  refine w_goto X2 hx (hb hby d2_36) (by decide) (pc' := 13) (by decide) ?_
  refine w_iload X2 hx (hb hby d2_13) rfl (pc' := 15) rfl ?_
  refine w_iloadN X2 hx (hb hby d2_15) rfl (pc' := 16) rfl ?_
  refine w_icmp_ge X2 hx (hb hby d2_16) (by decide) (pcY := 39) (by decide) (pc' := 19) rfl (fun h1 => absurd h1 (by decide)) (fun h1 => ?_)
  refine w_aloadN X2 hx (hb hby d2_19) rfl rfl (pc' := 20) rfl ?_
  refine w_iload X2 hx (hb hby d2_20) rfl (pc' := 22) rfl ?_
  refine w_iaload (i := 0) (jn := 1) (v := .int (Int32.ofNat g1)) X2 hx hZ P2 rfl hk0 (hb hby d2_22) (by decide) rfl (pc' := 23) rfl ?_
  refine w_istore (l' := #[.val (.ref (n0 + 0)), .val (.ref (n0 + 2)), .val (.ref (n0 + 0)), .val (.int (3 : Int32)), .val (.int (1 : Int32)), .val (.int (Int32.ofNat g1)), .unset, .unset]) X2 hx (hb hby d2_23) rfl (pc' := 25) rfl ?_
  refine w_aloadN X2 hx (hb hby d2_25) rfl rfl (pc' := 26) rfl ?_
  refine w_iload X2 hx (hb hby d2_26) rfl (pc' := 28) rfl ?_
  refine w_dup2 X2 hx (hb hby d2_28) rfl rfl (pc' := 29) rfl ?_
  refine w_ialoadL (i := 2) (jn := g1) X2 hx hZ P2 rfl hkA1 (hb hby d2_29) (own_oN (by omega)) (own_llt (own_sl (show ([0, 0, 0] : List Int32).length = 3 from rfl)) (by omega)) (pc' := 30) rfl ?_
  refine w_iconst (v := (1 : Int32)) X2 hx (hb hby d2_30) rfl (pc' := 31) rfl ?_
  refine w_iadd X2 hx (hb hby d2_31) (pc' := 32) rfl ?_
  refine w_iastoreL (i := 2) (jn := g1) X2 hx hZ N1 P2 rfl hkA1 (hb hby d2_32) (own_oN (by omega)) (own_llt (own_sl (show ([0, 0, 0] : List Int32).length = 3 from rfl)) (by omega)) (pc' := 33) rfl ?_
  intro T3 L2 N2 X3 P3
  replace P3 : HP n0 T3.heap [AC k0 [.int (Int32.ofNat g0), .int (Int32.ofNat g1), .int (Int32.ofNat g2)], AC k1 [.int vv0, .int vv1, .int vv2, .int vv3, .int vv4], AC kA1 (List.map Value.int ((own_inc ([0, 0, 0] : List Int32) g0).set g1 (((own_inc ([0, 0, 0] : List Int32) g0).getD g1 0) + (1 : Int32))))] := P3
  replace P3 : HP n0 T3.heap [AC k0 [.int (Int32.ofNat g0), .int (Int32.ofNat g1), .int (Int32.ofNat g2)], AC k1 [.int vv0, .int vv1, .int vv2, .int vv3, .int vv4], AC kA1 (List.map Value.int (own_inc (own_inc ([0, 0, 0] : List Int32) g0) g1))] := P3
  refine w_iincE (z := (2 : Int32)) (l' := #[.val (.ref (n0 + 0)), .val (.ref (n0 + 2)), .val (.ref (n0 + 0)), .val (.int (3 : Int32)), .val (.int (2 : Int32)), .val (.int (Int32.ofNat g1)), .unset, .unset]) X3 hx (hb hby d2_33) rfl (by decide) rfl (pc' := 36) rfl ?_
  refine w_goto X3 hx (hb hby d2_36) (by decide) (pc' := 13) (by decide) ?_
  refine w_iload X3 hx (hb hby d2_13) rfl (pc' := 15) rfl ?_
  refine w_iloadN X3 hx (hb hby d2_15) rfl (pc' := 16) rfl ?_
  refine w_icmp_ge X3 hx (hb hby d2_16) (by decide) (pcY := 39) (by decide) (pc' := 19) rfl (fun h2 => absurd h2 (by decide)) (fun h2 => ?_)
  refine w_aloadN X3 hx (hb hby d2_19) rfl rfl (pc' := 20) rfl ?_
  refine w_iload X3 hx (hb hby d2_20) rfl (pc' := 22) rfl ?_
  refine w_iaload (i := 0) (jn := 2) (v := .int (Int32.ofNat g2)) X3 hx hZ P3 rfl hk0 (hb hby d2_22) (by decide) rfl (pc' := 23) rfl ?_
  refine w_istore (l' := #[.val (.ref (n0 + 0)), .val (.ref (n0 + 2)), .val (.ref (n0 + 0)), .val (.int (3 : Int32)), .val (.int (2 : Int32)), .val (.int (Int32.ofNat g2)), .unset, .unset]) X3 hx (hb hby d2_23) rfl (pc' := 25) rfl ?_
  refine w_aloadN X3 hx (hb hby d2_25) rfl rfl (pc' := 26) rfl ?_
  refine w_iload X3 hx (hb hby d2_26) rfl (pc' := 28) rfl ?_
  refine w_dup2 X3 hx (hb hby d2_28) rfl rfl (pc' := 29) rfl ?_
  refine w_ialoadL (i := 2) (jn := g2) X3 hx hZ P3 rfl hkA1 (hb hby d2_29) (own_oN (by omega)) (own_llt (own_sl (own_sl (show ([0, 0, 0] : List Int32).length = 3 from rfl))) (by omega)) (pc' := 30) rfl ?_
  refine w_iconst (v := (1 : Int32)) X3 hx (hb hby d2_30) rfl (pc' := 31) rfl ?_
  refine w_iadd X3 hx (hb hby d2_31) (pc' := 32) rfl ?_
  refine w_iastoreL (i := 2) (jn := g2) X3 hx hZ N2 P3 rfl hkA1 (hb hby d2_32) (own_oN (by omega)) (own_llt (own_sl (own_sl (show ([0, 0, 0] : List Int32).length = 3 from rfl))) (by omega)) (pc' := 33) rfl ?_
  intro T4 L3 N3 X4 P4
  replace P4 : HP n0 T4.heap [AC k0 [.int (Int32.ofNat g0), .int (Int32.ofNat g1), .int (Int32.ofNat g2)], AC k1 [.int vv0, .int vv1, .int vv2, .int vv3, .int vv4], AC kA1 (List.map Value.int ((own_inc (own_inc ([0, 0, 0] : List Int32) g0) g1).set g2 (((own_inc (own_inc ([0, 0, 0] : List Int32) g0) g1).getD g2 0) + (1 : Int32))))] := P4
  replace P4 : HP n0 T4.heap [AC k0 [.int (Int32.ofNat g0), .int (Int32.ofNat g1), .int (Int32.ofNat g2)], AC k1 [.int vv0, .int vv1, .int vv2, .int vv3, .int vv4], AC kA1 (List.map Value.int (own_inc (own_inc (own_inc ([0, 0, 0] : List Int32) g0) g1) g2))] := P4
  refine w_iincE (z := (3 : Int32)) (l' := #[.val (.ref (n0 + 0)), .val (.ref (n0 + 2)), .val (.ref (n0 + 0)), .val (.int (3 : Int32)), .val (.int (3 : Int32)), .val (.int (Int32.ofNat g2)), .unset, .unset]) X4 hx (hb hby d2_33) rfl (by decide) rfl (pc' := 36) rfl ?_
  refine w_goto X4 hx (hb hby d2_36) (by decide) (pc' := 13) (by decide) ?_
  refine w_iload X4 hx (hb hby d2_13) rfl (pc' := 15) rfl ?_
  refine w_iloadN X4 hx (hb hby d2_15) rfl (pc' := 16) rfl ?_
  refine w_icmp_ge X4 hx (hb hby d2_16) (by decide) (pcY := 39) (by decide) (pc' := 19) rfl (fun h3 => ?_) (fun h3 => absurd h3 (by decide))
  refine w_lconst (v := (0 : Int64)) X4 hx (hb hby d2_39) rfl (pc' := 40) rfl ?_
  refine w_lstoreN (l' := #[.val (.ref (n0 + 0)), .val (.ref (n0 + 2)), .val (.long (0 : Int64)), .second, .val (.int (3 : Int32)), .val (.int (Int32.ofNat g2)), .unset, .unset]) X4 hx (hb hby d2_40) rfl (pc' := 41) rfl ?_
  refine w_aloadN X4 hx (hb hby d2_41) rfl rfl (pc' := 42) rfl ?_
  refine w_astore (l' := #[.val (.ref (n0 + 0)), .val (.ref (n0 + 2)), .val (.long (0 : Int64)), .second, .val (.ref (n0 + 2)), .val (.int (Int32.ofNat g2)), .unset, .unset]) X4 hx (hb hby d2_42) rfl rfl (pc' := 44) rfl ?_
  refine w_aload X4 hx (hb hby d2_44) rfl rfl (pc' := 46) rfl ?_
  refine w_arrlen (i := 2) X4 hx hZ P4 rfl hkA1 (hb hby d2_46) (z := (3 : Int32)) (own_len (own_sl (own_sl (own_sl (show ([0, 0, 0] : List Int32).length = 3 from rfl))))) (pc' := 47) rfl ?_
  refine w_istore (l' := #[.val (.ref (n0 + 0)), .val (.ref (n0 + 2)), .val (.long (0 : Int64)), .second, .val (.ref (n0 + 2)), .val (.int (3 : Int32)), .unset, .unset]) X4 hx (hb hby d2_47) rfl (pc' := 49) rfl ?_
  refine w_iconst (v := (0 : Int32)) X4 hx (hb hby d2_49) rfl (pc' := 50) rfl ?_
  refine w_istore (l' := #[.val (.ref (n0 + 0)), .val (.ref (n0 + 2)), .val (.long (0 : Int64)), .second, .val (.ref (n0 + 2)), .val (.int (3 : Int32)), .val (.int (0 : Int32)), .unset]) X4 hx (hb hby d2_50) rfl (pc' := 52) rfl ?_
  refine w_iload X4 hx (hb hby d2_52) rfl (pc' := 54) rfl ?_
  refine w_iload X4 hx (hb hby d2_54) rfl (pc' := 56) rfl ?_
  refine w_icmp_ge X4 hx (hb hby d2_56) (by decide) (pcY := 88) (by decide) (pc' := 59) rfl (fun h4 => absurd h4 (by decide)) (fun h4 => ?_)
  refine w_aload X4 hx (hb hby d2_59) rfl rfl (pc' := 61) rfl ?_
  refine w_iload X4 hx (hb hby d2_61) rfl (pc' := 63) rfl ?_
  refine w_ialoadL (i := 2) (jn := 0) X4 hx hZ P4 rfl hkA1 (hb hby d2_63) (by decide) (own_llt (own_sl (own_sl (own_sl (show ([0, 0, 0] : List Int32).length = 3 from rfl)))) (by omega)) (pc' := 64) rfl ?_
  refine w_istore (l' := #[.val (.ref (n0 + 0)), .val (.ref (n0 + 2)), .val (.long (0 : Int64)), .second, .val (.ref (n0 + 2)), .val (.int (3 : Int32)), .val (.int (0 : Int32)), .val (.int ((own_inc (own_inc (own_inc ([0, 0, 0] : List Int32) g0) g1) g2).getD 0 0))]) X4 hx (hb hby d2_64) rfl (pc' := 66) rfl ?_
  refine w_lloadN X4 hx (hb hby d2_66) rfl (pc' := 67) rfl ?_
  refine w_iload X4 hx (hb hby d2_67) rfl (pc' := 69) rfl ?_
  refine w_i2l X4 hx (hb hby d2_69) (pc' := 70) rfl ?_
  refine w_iload X4 hx (hb hby d2_70) rfl (pc' := 72) rfl ?_
  refine w_iconst (v := (1 : Int32)) X4 hx (hb hby d2_72) rfl (pc' := 73) rfl ?_
  refine w_isub X4 hx (hb hby d2_73) (pc' := 74) rfl ?_
  refine w_i2l X4 hx (hb hby d2_74) (pc' := 75) rfl ?_
  refine w_lmul X4 hx (hb hby d2_75) (pc' := 76) rfl ?_
  refine w_ldc2 X4 hx (hb hby d2_76) hown (mvT hZ (wd10 hw)) (pc' := 79) rfl ?_
  refine w_ldiv X4 hx (hb hby d2_79) (by decide) (pc' := 80) rfl ?_
  refine w_ladd X4 hx (hb hby d2_80) (pc' := 81) rfl ?_
  refine w_lstoreN (l' := #[.val (.ref (n0 + 0)), .val (.ref (n0 + 2)), .val (.long ((0 : Int64) + (((Int32.toInt64 ((own_inc (own_inc (own_inc ([0, 0, 0] : List Int32) g0) g1) g2).getD 0 0)) * (Int32.toInt64 (((own_inc (own_inc (own_inc ([0, 0, 0] : List Int32) g0) g1) g2).getD 0 0) - (1 : Int32)))) / (2 : Int64)))), .second, .val (.ref (n0 + 2)), .val (.int (3 : Int32)), .val (.int (0 : Int32)), .val (.int ((own_inc (own_inc (own_inc ([0, 0, 0] : List Int32) g0) g1) g2).getD 0 0))]) X4 hx (hb hby d2_81) rfl (pc' := 82) rfl ?_
  refine w_iincE (z := (1 : Int32)) (l' := #[.val (.ref (n0 + 0)), .val (.ref (n0 + 2)), .val (.long ((0 : Int64) + (((Int32.toInt64 ((own_inc (own_inc (own_inc ([0, 0, 0] : List Int32) g0) g1) g2).getD 0 0)) * (Int32.toInt64 (((own_inc (own_inc (own_inc ([0, 0, 0] : List Int32) g0) g1) g2).getD 0 0) - (1 : Int32)))) / (2 : Int64)))), .second, .val (.ref (n0 + 2)), .val (.int (3 : Int32)), .val (.int (1 : Int32)), .val (.int ((own_inc (own_inc (own_inc ([0, 0, 0] : List Int32) g0) g1) g2).getD 0 0))]) X4 hx (hb hby d2_82) rfl (by decide) rfl (pc' := 85) rfl ?_
  refine w_goto X4 hx (hb hby d2_85) (by decide) (pc' := 52) (by decide) ?_
  refine w_iload X4 hx (hb hby d2_52) rfl (pc' := 54) rfl ?_
  refine w_iload X4 hx (hb hby d2_54) rfl (pc' := 56) rfl ?_
  refine w_icmp_ge X4 hx (hb hby d2_56) (by decide) (pcY := 88) (by decide) (pc' := 59) rfl (fun h5 => absurd h5 (by decide)) (fun h5 => ?_)
  refine w_aload X4 hx (hb hby d2_59) rfl rfl (pc' := 61) rfl ?_
  refine w_iload X4 hx (hb hby d2_61) rfl (pc' := 63) rfl ?_
  refine w_ialoadL (i := 2) (jn := 1) X4 hx hZ P4 rfl hkA1 (hb hby d2_63) (by decide) (own_llt (own_sl (own_sl (own_sl (show ([0, 0, 0] : List Int32).length = 3 from rfl)))) (by omega)) (pc' := 64) rfl ?_
  refine w_istore (l' := #[.val (.ref (n0 + 0)), .val (.ref (n0 + 2)), .val (.long ((0 : Int64) + (((Int32.toInt64 ((own_inc (own_inc (own_inc ([0, 0, 0] : List Int32) g0) g1) g2).getD 0 0)) * (Int32.toInt64 (((own_inc (own_inc (own_inc ([0, 0, 0] : List Int32) g0) g1) g2).getD 0 0) - (1 : Int32)))) / (2 : Int64)))), .second, .val (.ref (n0 + 2)), .val (.int (3 : Int32)), .val (.int (1 : Int32)), .val (.int ((own_inc (own_inc (own_inc ([0, 0, 0] : List Int32) g0) g1) g2).getD 1 0))]) X4 hx (hb hby d2_64) rfl (pc' := 66) rfl ?_
  refine w_lloadN X4 hx (hb hby d2_66) rfl (pc' := 67) rfl ?_
  refine w_iload X4 hx (hb hby d2_67) rfl (pc' := 69) rfl ?_
  refine w_i2l X4 hx (hb hby d2_69) (pc' := 70) rfl ?_
  refine w_iload X4 hx (hb hby d2_70) rfl (pc' := 72) rfl ?_
  refine w_iconst (v := (1 : Int32)) X4 hx (hb hby d2_72) rfl (pc' := 73) rfl ?_
  refine w_isub X4 hx (hb hby d2_73) (pc' := 74) rfl ?_
  refine w_i2l X4 hx (hb hby d2_74) (pc' := 75) rfl ?_
  refine w_lmul X4 hx (hb hby d2_75) (pc' := 76) rfl ?_
  refine w_ldc2 X4 hx (hb hby d2_76) hown (mvT hZ (wd10 hw)) (pc' := 79) rfl ?_
  refine w_ldiv X4 hx (hb hby d2_79) (by decide) (pc' := 80) rfl ?_
  refine w_ladd X4 hx (hb hby d2_80) (pc' := 81) rfl ?_
  refine w_lstoreN (l' := #[.val (.ref (n0 + 0)), .val (.ref (n0 + 2)), .val (.long (((0 : Int64) + (((Int32.toInt64 ((own_inc (own_inc (own_inc ([0, 0, 0] : List Int32) g0) g1) g2).getD 0 0)) * (Int32.toInt64 (((own_inc (own_inc (own_inc ([0, 0, 0] : List Int32) g0) g1) g2).getD 0 0) - (1 : Int32)))) / (2 : Int64))) + (((Int32.toInt64 ((own_inc (own_inc (own_inc ([0, 0, 0] : List Int32) g0) g1) g2).getD 1 0)) * (Int32.toInt64 (((own_inc (own_inc (own_inc ([0, 0, 0] : List Int32) g0) g1) g2).getD 1 0) - (1 : Int32)))) / (2 : Int64)))), .second, .val (.ref (n0 + 2)), .val (.int (3 : Int32)), .val (.int (1 : Int32)), .val (.int ((own_inc (own_inc (own_inc ([0, 0, 0] : List Int32) g0) g1) g2).getD 1 0))]) X4 hx (hb hby d2_81) rfl (pc' := 82) rfl ?_
  refine w_iincE (z := (2 : Int32)) (l' := #[.val (.ref (n0 + 0)), .val (.ref (n0 + 2)), .val (.long (((0 : Int64) + (((Int32.toInt64 ((own_inc (own_inc (own_inc ([0, 0, 0] : List Int32) g0) g1) g2).getD 0 0)) * (Int32.toInt64 (((own_inc (own_inc (own_inc ([0, 0, 0] : List Int32) g0) g1) g2).getD 0 0) - (1 : Int32)))) / (2 : Int64))) + (((Int32.toInt64 ((own_inc (own_inc (own_inc ([0, 0, 0] : List Int32) g0) g1) g2).getD 1 0)) * (Int32.toInt64 (((own_inc (own_inc (own_inc ([0, 0, 0] : List Int32) g0) g1) g2).getD 1 0) - (1 : Int32)))) / (2 : Int64)))), .second, .val (.ref (n0 + 2)), .val (.int (3 : Int32)), .val (.int (2 : Int32)), .val (.int ((own_inc (own_inc (own_inc ([0, 0, 0] : List Int32) g0) g1) g2).getD 1 0))]) X4 hx (hb hby d2_82) rfl (by decide) rfl (pc' := 85) rfl ?_
  refine w_goto X4 hx (hb hby d2_85) (by decide) (pc' := 52) (by decide) ?_
  refine w_iload X4 hx (hb hby d2_52) rfl (pc' := 54) rfl ?_
  refine w_iload X4 hx (hb hby d2_54) rfl (pc' := 56) rfl ?_
  refine w_icmp_ge X4 hx (hb hby d2_56) (by decide) (pcY := 88) (by decide) (pc' := 59) rfl (fun h6 => absurd h6 (by decide)) (fun h6 => ?_)
  refine w_aload X4 hx (hb hby d2_59) rfl rfl (pc' := 61) rfl ?_
  refine w_iload X4 hx (hb hby d2_61) rfl (pc' := 63) rfl ?_
  refine w_ialoadL (i := 2) (jn := 2) X4 hx hZ P4 rfl hkA1 (hb hby d2_63) (by decide) (own_llt (own_sl (own_sl (own_sl (show ([0, 0, 0] : List Int32).length = 3 from rfl)))) (by omega)) (pc' := 64) rfl ?_
  refine w_istore (l' := #[.val (.ref (n0 + 0)), .val (.ref (n0 + 2)), .val (.long (((0 : Int64) + (((Int32.toInt64 ((own_inc (own_inc (own_inc ([0, 0, 0] : List Int32) g0) g1) g2).getD 0 0)) * (Int32.toInt64 (((own_inc (own_inc (own_inc ([0, 0, 0] : List Int32) g0) g1) g2).getD 0 0) - (1 : Int32)))) / (2 : Int64))) + (((Int32.toInt64 ((own_inc (own_inc (own_inc ([0, 0, 0] : List Int32) g0) g1) g2).getD 1 0)) * (Int32.toInt64 (((own_inc (own_inc (own_inc ([0, 0, 0] : List Int32) g0) g1) g2).getD 1 0) - (1 : Int32)))) / (2 : Int64)))), .second, .val (.ref (n0 + 2)), .val (.int (3 : Int32)), .val (.int (2 : Int32)), .val (.int ((own_inc (own_inc (own_inc ([0, 0, 0] : List Int32) g0) g1) g2).getD 2 0))]) X4 hx (hb hby d2_64) rfl (pc' := 66) rfl ?_
  refine w_lloadN X4 hx (hb hby d2_66) rfl (pc' := 67) rfl ?_
  refine w_iload X4 hx (hb hby d2_67) rfl (pc' := 69) rfl ?_
  refine w_i2l X4 hx (hb hby d2_69) (pc' := 70) rfl ?_
  refine w_iload X4 hx (hb hby d2_70) rfl (pc' := 72) rfl ?_
  refine w_iconst (v := (1 : Int32)) X4 hx (hb hby d2_72) rfl (pc' := 73) rfl ?_
  refine w_isub X4 hx (hb hby d2_73) (pc' := 74) rfl ?_
  refine w_i2l X4 hx (hb hby d2_74) (pc' := 75) rfl ?_
  refine w_lmul X4 hx (hb hby d2_75) (pc' := 76) rfl ?_
  refine w_ldc2 X4 hx (hb hby d2_76) hown (mvT hZ (wd10 hw)) (pc' := 79) rfl ?_
  refine w_ldiv X4 hx (hb hby d2_79) (by decide) (pc' := 80) rfl ?_
  refine w_ladd X4 hx (hb hby d2_80) (pc' := 81) rfl ?_
  refine w_lstoreN (l' := #[.val (.ref (n0 + 0)), .val (.ref (n0 + 2)), .val (.long ((((0 : Int64) + (((Int32.toInt64 ((own_inc (own_inc (own_inc ([0, 0, 0] : List Int32) g0) g1) g2).getD 0 0)) * (Int32.toInt64 (((own_inc (own_inc (own_inc ([0, 0, 0] : List Int32) g0) g1) g2).getD 0 0) - (1 : Int32)))) / (2 : Int64))) + (((Int32.toInt64 ((own_inc (own_inc (own_inc ([0, 0, 0] : List Int32) g0) g1) g2).getD 1 0)) * (Int32.toInt64 (((own_inc (own_inc (own_inc ([0, 0, 0] : List Int32) g0) g1) g2).getD 1 0) - (1 : Int32)))) / (2 : Int64))) + (((Int32.toInt64 ((own_inc (own_inc (own_inc ([0, 0, 0] : List Int32) g0) g1) g2).getD 2 0)) * (Int32.toInt64 (((own_inc (own_inc (own_inc ([0, 0, 0] : List Int32) g0) g1) g2).getD 2 0) - (1 : Int32)))) / (2 : Int64)))), .second, .val (.ref (n0 + 2)), .val (.int (3 : Int32)), .val (.int (2 : Int32)), .val (.int ((own_inc (own_inc (own_inc ([0, 0, 0] : List Int32) g0) g1) g2).getD 2 0))]) X4 hx (hb hby d2_81) rfl (pc' := 82) rfl ?_
  refine w_iincE (z := (3 : Int32)) (l' := #[.val (.ref (n0 + 0)), .val (.ref (n0 + 2)), .val (.long ((((0 : Int64) + (((Int32.toInt64 ((own_inc (own_inc (own_inc ([0, 0, 0] : List Int32) g0) g1) g2).getD 0 0)) * (Int32.toInt64 (((own_inc (own_inc (own_inc ([0, 0, 0] : List Int32) g0) g1) g2).getD 0 0) - (1 : Int32)))) / (2 : Int64))) + (((Int32.toInt64 ((own_inc (own_inc (own_inc ([0, 0, 0] : List Int32) g0) g1) g2).getD 1 0)) * (Int32.toInt64 (((own_inc (own_inc (own_inc ([0, 0, 0] : List Int32) g0) g1) g2).getD 1 0) - (1 : Int32)))) / (2 : Int64))) + (((Int32.toInt64 ((own_inc (own_inc (own_inc ([0, 0, 0] : List Int32) g0) g1) g2).getD 2 0)) * (Int32.toInt64 (((own_inc (own_inc (own_inc ([0, 0, 0] : List Int32) g0) g1) g2).getD 2 0) - (1 : Int32)))) / (2 : Int64)))), .second, .val (.ref (n0 + 2)), .val (.int (3 : Int32)), .val (.int (3 : Int32)), .val (.int ((own_inc (own_inc (own_inc ([0, 0, 0] : List Int32) g0) g1) g2).getD 2 0))]) X4 hx (hb hby d2_82) rfl (by decide) rfl (pc' := 85) rfl ?_
  refine w_goto X4 hx (hb hby d2_85) (by decide) (pc' := 52) (by decide) ?_
  refine w_iload X4 hx (hb hby d2_52) rfl (pc' := 54) rfl ?_
  refine w_iload X4 hx (hb hby d2_54) rfl (pc' := 56) rfl ?_
  refine w_icmp_ge X4 hx (hb hby d2_56) (by decide) (pcY := 88) (by decide) (pc' := 59) rfl (fun h7 => ?_) (fun h7 => absurd h7 (by decide))
  refine w_lloadN X4 hx (hb hby d2_88) rfl (pc' := 89) rfl ?_
  exact w_ret_l X4 hx hret hlk (hb hby d2_89) (by decide) (by decide) ⟨rfl, N3⟩
theorem own_fin3 : ∀ g0, g0 < 3 → ∀ g1, g1 < 3 → ∀ g2, g2 < 3 → ∀ g3, g3 < 3 → ∀ g4, g4 < 3 → own_pa3 g0 g1 g2 = ((((((((((sp_sm3_01 (Int32.ofNat g0) (Int32.ofNat g1) (Int32.ofNat g2) (Int32.ofNat g0) (Int32.ofNat g1) (Int32.ofNat g2) (Int32.ofNat g3) (Int32.ofNat g4)) + (sp_sm3_02 (Int32.ofNat g0) (Int32.ofNat g1) (Int32.ofNat g2) (Int32.ofNat g0) (Int32.ofNat g1) (Int32.ofNat g2) (Int32.ofNat g3) (Int32.ofNat g4))) + (sp_sm3_03 (Int32.ofNat g0) (Int32.ofNat g1) (Int32.ofNat g2) (Int32.ofNat g0) (Int32.ofNat g1) (Int32.ofNat g2) (Int32.ofNat g3) (Int32.ofNat g4))) + (sp_sm3_04 (Int32.ofNat g0) (Int32.ofNat g1) (Int32.ofNat g2) (Int32.ofNat g0) (Int32.ofNat g1) (Int32.ofNat g2) (Int32.ofNat g3) (Int32.ofNat g4))) + (sp_sm3_12 (Int32.ofNat g0) (Int32.ofNat g1) (Int32.ofNat g2) (Int32.ofNat g0) (Int32.ofNat g1) (Int32.ofNat g2) (Int32.ofNat g3) (Int32.ofNat g4))) + (sp_sm3_13 (Int32.ofNat g0) (Int32.ofNat g1) (Int32.ofNat g2) (Int32.ofNat g0) (Int32.ofNat g1) (Int32.ofNat g2) (Int32.ofNat g3) (Int32.ofNat g4))) + (sp_sm3_14 (Int32.ofNat g0) (Int32.ofNat g1) (Int32.ofNat g2) (Int32.ofNat g0) (Int32.ofNat g1) (Int32.ofNat g2) (Int32.ofNat g3) (Int32.ofNat g4))) + (sp_sm3_23 (Int32.ofNat g0) (Int32.ofNat g1) (Int32.ofNat g2) (Int32.ofNat g0) (Int32.ofNat g1) (Int32.ofNat g2) (Int32.ofNat g3) (Int32.ofNat g4))) + (sp_sm3_24 (Int32.ofNat g0) (Int32.ofNat g1) (Int32.ofNat g2) (Int32.ofNat g0) (Int32.ofNat g1) (Int32.ofNat g2) (Int32.ofNat g3) (Int32.ofNat g4))) + (sp_sm3_34 (Int32.ofNat g0) (Int32.ofNat g1) (Int32.ofNat g2) (Int32.ofNat g0) (Int32.ofNat g1) (Int32.ofNat g2) (Int32.ofNat g3) (Int32.ofNat g4))) := by decide +kernel
theorem ef_sm4_01 (m : MethodId) (n0 : Nat) (gg0 : Int32) (gg1 : Int32) (gg2 : Int32) (gg3 : Int32) (vv0 : Int32) (vv1 : Int32) (vv2 : Int32) (vv3 : Int32) (vv4 : Int32) : entryFrame m #[.ref (n0 + 1), .int (4 : Int32), .int (0 : Int32), .int (1 : Int32)] 4 = mkF m 0 #[.val (.ref (n0 + 1)), .val (.int (4 : Int32)), .val (.int (0 : Int32)), .val (.int (1 : Int32))] [] := by first | (simp [entryFrame, mkF, argsToLocals, Value.category]; done) | rfl
def sp_sm4_01 (gg0 : Int32) (gg1 : Int32) (gg2 : Int32) (gg3 : Int32) (vv0 : Int32) (vv1 : Int32) (vv2 : Int32) (vv3 : Int32) (vv4 : Int32) : Int64 := (if vv0 = vv1 then (1 : Int64) else (0 : Int64))
set_option maxRecDepth 65536 in
set_option maxHeartbeats 40000000 in
theorem rm_sm4_01 (l : Launch) (Z : State) (a0 : Array Value) (hw : ∀ d ∈ tables_1, d.before a0 Z = true) (ws : List Jvm.Cond) (n0 : Nat) (gg0 : Int32) (gg1 : Int32) (gg2 : Int32) (gg3 : Int32) (vv0 : Int32) (vv1 : Int32) (vv2 : Int32) (vv3 : Int32) (vv4 : Int32) (k0 : ClassId) (hk0 : IsA Z k0 .int) (k1 : ClassId) (hk1 : IsA Z k1 .int) (h0 : Heap) (P0 : HP n0 h0 [AC k0 [.int gg0, .int gg1, .int gg2, .int gg3], AC k1 [.int vv0, .int vv1, .int vv2, .int vv3, .int vv4]]) :
    MetFree l (⟨"com/example/protomata/protomata/PartitionPairsAlikePinLaw", "same", "([IIII)J"⟩ : MethodName) (head1 (Jvm.Cond.code (⟨"com/example/protomata/protomata/PartitionPairsAlikePinLaw", "same", "([IIII)J"⟩ : MethodName) method_3_code 4 (some .long) :: ws) ({ frames := 0, cells := 0, slots := 0, locals := 0 } : Room)) (fun aa U => aa = #[.ref (n0 + 1), .int (4 : Int32), .int (0 : Int32), .int (1 : Int32)] ∧ Z.Warmed39 U.vm ∧ U.heap = h0) (fun _ _ _ _ _ => True) (fun _ U o U' => ∃ v L, o = .returned v ∧ PureQ (.long (sp_sm4_01 gg0 gg1 gg2 gg3 vv0 vv1 vv2 vv3 vv4)) h0 v U'.heap L ∧ FrameEnd U o U' L ({ frames := 0, cells := 0, slots := 0, locals := 0 } : Room).cells ({ frames := 0, cells := 0, slots := 0, locals := 0 } : Room).slots) := by
  refine own_body pn1 ?_
  intro p e s m below meth c T0 hx hby hml hret hlk hown hnm hZ X0 e0
  subst e0
  refine own_cast (ef_sm4_01 m n0 gg0 gg1 gg2 gg3 vv0 vv1 vv2 vv3 vv4) ?_
  refine w_iloadN X0 hx (hb hby d1_0) rfl (pc' := 1) rfl ?_
  refine w_iloadN X0 hx (hb hby d1_1) rfl (pc' := 2) rfl ?_
  refine w_icmp_ge X0 hx (hb hby d1_2) (by decide) (pcY := 16) (by decide) (pc' := 5) rfl (fun h0 => absurd h0 (by decide)) (fun h0 => ?_)
  refine w_aloadN X0 hx (hb hby d1_5) rfl rfl (pc' := 6) rfl ?_
  refine w_iloadN X0 hx (hb hby d1_6) rfl (pc' := 7) rfl ?_
  refine w_iaload (i := 1) (jn := 0) (v := .int vv0) X0 hx hZ P0 rfl hk1 (hb hby d1_7) (by decide) rfl (pc' := 8) rfl ?_
  refine w_aloadN X0 hx (hb hby d1_8) rfl rfl (pc' := 9) rfl ?_
  refine w_iloadN X0 hx (hb hby d1_9) rfl (pc' := 10) rfl ?_
  refine w_iaload (i := 1) (jn := 1) (v := .int vv1) X0 hx hZ P0 rfl hk1 (hb hby d1_10) (by decide) rfl (pc' := 11) rfl ?_
  refine w_icmp_ne X0 hx (hb hby d1_11) (by decide) (pcY := 16) (by decide) (pc' := 14) rfl (fun h1 => ?_) (fun h1 => ?_)
  · refine w_lconst (v := (0 : Int64)) X0 hx (hb hby d1_16) rfl (pc' := 17) rfl ?_
    exact w_ret_l X0 hx hret hlk (hb hby d1_17) (by decide) (by decide) ⟨congrArg (fun q => some (Value.long q)) (show (0 : Int64) = sp_sm4_01 gg0 gg1 gg2 gg3 vv0 vv1 vv2 vv3 vv4 from by rw [sp_sm4_01, if_neg h1]), rfl, rfl⟩
  · refine w_lconst (v := (1 : Int64)) X0 hx (hb hby d1_14) rfl (pc' := 15) rfl ?_
    exact w_ret_l X0 hx hret hlk (hb hby d1_15) (by decide) (by decide) ⟨congrArg (fun q => some (Value.long q)) (show (1 : Int64) = sp_sm4_01 gg0 gg1 gg2 gg3 vv0 vv1 vv2 vv3 vv4 from by rw [sp_sm4_01, if_pos h1]), rfl, rfl⟩
theorem ef_sm4_02 (m : MethodId) (n0 : Nat) (gg0 : Int32) (gg1 : Int32) (gg2 : Int32) (gg3 : Int32) (vv0 : Int32) (vv1 : Int32) (vv2 : Int32) (vv3 : Int32) (vv4 : Int32) : entryFrame m #[.ref (n0 + 1), .int (4 : Int32), .int (0 : Int32), .int (2 : Int32)] 4 = mkF m 0 #[.val (.ref (n0 + 1)), .val (.int (4 : Int32)), .val (.int (0 : Int32)), .val (.int (2 : Int32))] [] := by first | (simp [entryFrame, mkF, argsToLocals, Value.category]; done) | rfl
def sp_sm4_02 (gg0 : Int32) (gg1 : Int32) (gg2 : Int32) (gg3 : Int32) (vv0 : Int32) (vv1 : Int32) (vv2 : Int32) (vv3 : Int32) (vv4 : Int32) : Int64 := (if vv0 = vv2 then (1 : Int64) else (0 : Int64))
set_option maxRecDepth 65536 in
set_option maxHeartbeats 40000000 in
theorem rm_sm4_02 (l : Launch) (Z : State) (a0 : Array Value) (hw : ∀ d ∈ tables_1, d.before a0 Z = true) (ws : List Jvm.Cond) (n0 : Nat) (gg0 : Int32) (gg1 : Int32) (gg2 : Int32) (gg3 : Int32) (vv0 : Int32) (vv1 : Int32) (vv2 : Int32) (vv3 : Int32) (vv4 : Int32) (k0 : ClassId) (hk0 : IsA Z k0 .int) (k1 : ClassId) (hk1 : IsA Z k1 .int) (h0 : Heap) (P0 : HP n0 h0 [AC k0 [.int gg0, .int gg1, .int gg2, .int gg3], AC k1 [.int vv0, .int vv1, .int vv2, .int vv3, .int vv4]]) :
    MetFree l (⟨"com/example/protomata/protomata/PartitionPairsAlikePinLaw", "same", "([IIII)J"⟩ : MethodName) (head1 (Jvm.Cond.code (⟨"com/example/protomata/protomata/PartitionPairsAlikePinLaw", "same", "([IIII)J"⟩ : MethodName) method_3_code 4 (some .long) :: ws) ({ frames := 0, cells := 0, slots := 0, locals := 0 } : Room)) (fun aa U => aa = #[.ref (n0 + 1), .int (4 : Int32), .int (0 : Int32), .int (2 : Int32)] ∧ Z.Warmed39 U.vm ∧ U.heap = h0) (fun _ _ _ _ _ => True) (fun _ U o U' => ∃ v L, o = .returned v ∧ PureQ (.long (sp_sm4_02 gg0 gg1 gg2 gg3 vv0 vv1 vv2 vv3 vv4)) h0 v U'.heap L ∧ FrameEnd U o U' L ({ frames := 0, cells := 0, slots := 0, locals := 0 } : Room).cells ({ frames := 0, cells := 0, slots := 0, locals := 0 } : Room).slots) := by
  refine own_body pn1 ?_
  intro p e s m below meth c T0 hx hby hml hret hlk hown hnm hZ X0 e0
  subst e0
  refine own_cast (ef_sm4_02 m n0 gg0 gg1 gg2 gg3 vv0 vv1 vv2 vv3 vv4) ?_
  refine w_iloadN X0 hx (hb hby d1_0) rfl (pc' := 1) rfl ?_
  refine w_iloadN X0 hx (hb hby d1_1) rfl (pc' := 2) rfl ?_
  refine w_icmp_ge X0 hx (hb hby d1_2) (by decide) (pcY := 16) (by decide) (pc' := 5) rfl (fun h0 => absurd h0 (by decide)) (fun h0 => ?_)
  refine w_aloadN X0 hx (hb hby d1_5) rfl rfl (pc' := 6) rfl ?_
  refine w_iloadN X0 hx (hb hby d1_6) rfl (pc' := 7) rfl ?_
  refine w_iaload (i := 1) (jn := 0) (v := .int vv0) X0 hx hZ P0 rfl hk1 (hb hby d1_7) (by decide) rfl (pc' := 8) rfl ?_
  refine w_aloadN X0 hx (hb hby d1_8) rfl rfl (pc' := 9) rfl ?_
  refine w_iloadN X0 hx (hb hby d1_9) rfl (pc' := 10) rfl ?_
  refine w_iaload (i := 1) (jn := 2) (v := .int vv2) X0 hx hZ P0 rfl hk1 (hb hby d1_10) (by decide) rfl (pc' := 11) rfl ?_
  refine w_icmp_ne X0 hx (hb hby d1_11) (by decide) (pcY := 16) (by decide) (pc' := 14) rfl (fun h1 => ?_) (fun h1 => ?_)
  · refine w_lconst (v := (0 : Int64)) X0 hx (hb hby d1_16) rfl (pc' := 17) rfl ?_
    exact w_ret_l X0 hx hret hlk (hb hby d1_17) (by decide) (by decide) ⟨congrArg (fun q => some (Value.long q)) (show (0 : Int64) = sp_sm4_02 gg0 gg1 gg2 gg3 vv0 vv1 vv2 vv3 vv4 from by rw [sp_sm4_02, if_neg h1]), rfl, rfl⟩
  · refine w_lconst (v := (1 : Int64)) X0 hx (hb hby d1_14) rfl (pc' := 15) rfl ?_
    exact w_ret_l X0 hx hret hlk (hb hby d1_15) (by decide) (by decide) ⟨congrArg (fun q => some (Value.long q)) (show (1 : Int64) = sp_sm4_02 gg0 gg1 gg2 gg3 vv0 vv1 vv2 vv3 vv4 from by rw [sp_sm4_02, if_pos h1]), rfl, rfl⟩
theorem ef_sm4_03 (m : MethodId) (n0 : Nat) (gg0 : Int32) (gg1 : Int32) (gg2 : Int32) (gg3 : Int32) (vv0 : Int32) (vv1 : Int32) (vv2 : Int32) (vv3 : Int32) (vv4 : Int32) : entryFrame m #[.ref (n0 + 1), .int (4 : Int32), .int (0 : Int32), .int (3 : Int32)] 4 = mkF m 0 #[.val (.ref (n0 + 1)), .val (.int (4 : Int32)), .val (.int (0 : Int32)), .val (.int (3 : Int32))] [] := by first | (simp [entryFrame, mkF, argsToLocals, Value.category]; done) | rfl
def sp_sm4_03 (gg0 : Int32) (gg1 : Int32) (gg2 : Int32) (gg3 : Int32) (vv0 : Int32) (vv1 : Int32) (vv2 : Int32) (vv3 : Int32) (vv4 : Int32) : Int64 := (if vv0 = vv3 then (1 : Int64) else (0 : Int64))
set_option maxRecDepth 65536 in
set_option maxHeartbeats 40000000 in
theorem rm_sm4_03 (l : Launch) (Z : State) (a0 : Array Value) (hw : ∀ d ∈ tables_1, d.before a0 Z = true) (ws : List Jvm.Cond) (n0 : Nat) (gg0 : Int32) (gg1 : Int32) (gg2 : Int32) (gg3 : Int32) (vv0 : Int32) (vv1 : Int32) (vv2 : Int32) (vv3 : Int32) (vv4 : Int32) (k0 : ClassId) (hk0 : IsA Z k0 .int) (k1 : ClassId) (hk1 : IsA Z k1 .int) (h0 : Heap) (P0 : HP n0 h0 [AC k0 [.int gg0, .int gg1, .int gg2, .int gg3], AC k1 [.int vv0, .int vv1, .int vv2, .int vv3, .int vv4]]) :
    MetFree l (⟨"com/example/protomata/protomata/PartitionPairsAlikePinLaw", "same", "([IIII)J"⟩ : MethodName) (head1 (Jvm.Cond.code (⟨"com/example/protomata/protomata/PartitionPairsAlikePinLaw", "same", "([IIII)J"⟩ : MethodName) method_3_code 4 (some .long) :: ws) ({ frames := 0, cells := 0, slots := 0, locals := 0 } : Room)) (fun aa U => aa = #[.ref (n0 + 1), .int (4 : Int32), .int (0 : Int32), .int (3 : Int32)] ∧ Z.Warmed39 U.vm ∧ U.heap = h0) (fun _ _ _ _ _ => True) (fun _ U o U' => ∃ v L, o = .returned v ∧ PureQ (.long (sp_sm4_03 gg0 gg1 gg2 gg3 vv0 vv1 vv2 vv3 vv4)) h0 v U'.heap L ∧ FrameEnd U o U' L ({ frames := 0, cells := 0, slots := 0, locals := 0 } : Room).cells ({ frames := 0, cells := 0, slots := 0, locals := 0 } : Room).slots) := by
  refine own_body pn1 ?_
  intro p e s m below meth c T0 hx hby hml hret hlk hown hnm hZ X0 e0
  subst e0
  refine own_cast (ef_sm4_03 m n0 gg0 gg1 gg2 gg3 vv0 vv1 vv2 vv3 vv4) ?_
  refine w_iloadN X0 hx (hb hby d1_0) rfl (pc' := 1) rfl ?_
  refine w_iloadN X0 hx (hb hby d1_1) rfl (pc' := 2) rfl ?_
  refine w_icmp_ge X0 hx (hb hby d1_2) (by decide) (pcY := 16) (by decide) (pc' := 5) rfl (fun h0 => absurd h0 (by decide)) (fun h0 => ?_)
  refine w_aloadN X0 hx (hb hby d1_5) rfl rfl (pc' := 6) rfl ?_
  refine w_iloadN X0 hx (hb hby d1_6) rfl (pc' := 7) rfl ?_
  refine w_iaload (i := 1) (jn := 0) (v := .int vv0) X0 hx hZ P0 rfl hk1 (hb hby d1_7) (by decide) rfl (pc' := 8) rfl ?_
  refine w_aloadN X0 hx (hb hby d1_8) rfl rfl (pc' := 9) rfl ?_
  refine w_iloadN X0 hx (hb hby d1_9) rfl (pc' := 10) rfl ?_
  refine w_iaload (i := 1) (jn := 3) (v := .int vv3) X0 hx hZ P0 rfl hk1 (hb hby d1_10) (by decide) rfl (pc' := 11) rfl ?_
  refine w_icmp_ne X0 hx (hb hby d1_11) (by decide) (pcY := 16) (by decide) (pc' := 14) rfl (fun h1 => ?_) (fun h1 => ?_)
  · refine w_lconst (v := (0 : Int64)) X0 hx (hb hby d1_16) rfl (pc' := 17) rfl ?_
    exact w_ret_l X0 hx hret hlk (hb hby d1_17) (by decide) (by decide) ⟨congrArg (fun q => some (Value.long q)) (show (0 : Int64) = sp_sm4_03 gg0 gg1 gg2 gg3 vv0 vv1 vv2 vv3 vv4 from by rw [sp_sm4_03, if_neg h1]), rfl, rfl⟩
  · refine w_lconst (v := (1 : Int64)) X0 hx (hb hby d1_14) rfl (pc' := 15) rfl ?_
    exact w_ret_l X0 hx hret hlk (hb hby d1_15) (by decide) (by decide) ⟨congrArg (fun q => some (Value.long q)) (show (1 : Int64) = sp_sm4_03 gg0 gg1 gg2 gg3 vv0 vv1 vv2 vv3 vv4 from by rw [sp_sm4_03, if_pos h1]), rfl, rfl⟩
theorem ef_sm4_04 (m : MethodId) (n0 : Nat) (gg0 : Int32) (gg1 : Int32) (gg2 : Int32) (gg3 : Int32) (vv0 : Int32) (vv1 : Int32) (vv2 : Int32) (vv3 : Int32) (vv4 : Int32) : entryFrame m #[.ref (n0 + 1), .int (4 : Int32), .int (0 : Int32), .int (4 : Int32)] 4 = mkF m 0 #[.val (.ref (n0 + 1)), .val (.int (4 : Int32)), .val (.int (0 : Int32)), .val (.int (4 : Int32))] [] := by first | (simp [entryFrame, mkF, argsToLocals, Value.category]; done) | rfl
def sp_sm4_04 (gg0 : Int32) (gg1 : Int32) (gg2 : Int32) (gg3 : Int32) (vv0 : Int32) (vv1 : Int32) (vv2 : Int32) (vv3 : Int32) (vv4 : Int32) : Int64 := (0 : Int64)
set_option maxRecDepth 65536 in
set_option maxHeartbeats 40000000 in
theorem rm_sm4_04 (l : Launch) (Z : State) (a0 : Array Value) (hw : ∀ d ∈ tables_1, d.before a0 Z = true) (ws : List Jvm.Cond) (n0 : Nat) (gg0 : Int32) (gg1 : Int32) (gg2 : Int32) (gg3 : Int32) (vv0 : Int32) (vv1 : Int32) (vv2 : Int32) (vv3 : Int32) (vv4 : Int32) (k0 : ClassId) (hk0 : IsA Z k0 .int) (k1 : ClassId) (hk1 : IsA Z k1 .int) (h0 : Heap) (P0 : HP n0 h0 [AC k0 [.int gg0, .int gg1, .int gg2, .int gg3], AC k1 [.int vv0, .int vv1, .int vv2, .int vv3, .int vv4]]) :
    MetFree l (⟨"com/example/protomata/protomata/PartitionPairsAlikePinLaw", "same", "([IIII)J"⟩ : MethodName) (head1 (Jvm.Cond.code (⟨"com/example/protomata/protomata/PartitionPairsAlikePinLaw", "same", "([IIII)J"⟩ : MethodName) method_3_code 4 (some .long) :: ws) ({ frames := 0, cells := 0, slots := 0, locals := 0 } : Room)) (fun aa U => aa = #[.ref (n0 + 1), .int (4 : Int32), .int (0 : Int32), .int (4 : Int32)] ∧ Z.Warmed39 U.vm ∧ U.heap = h0) (fun _ _ _ _ _ => True) (fun _ U o U' => ∃ v L, o = .returned v ∧ PureQ (.long (sp_sm4_04 gg0 gg1 gg2 gg3 vv0 vv1 vv2 vv3 vv4)) h0 v U'.heap L ∧ FrameEnd U o U' L ({ frames := 0, cells := 0, slots := 0, locals := 0 } : Room).cells ({ frames := 0, cells := 0, slots := 0, locals := 0 } : Room).slots) := by
  refine own_body pn1 ?_
  intro p e s m below meth c T0 hx hby hml hret hlk hown hnm hZ X0 e0
  subst e0
  refine own_cast (ef_sm4_04 m n0 gg0 gg1 gg2 gg3 vv0 vv1 vv2 vv3 vv4) ?_
  refine w_iloadN X0 hx (hb hby d1_0) rfl (pc' := 1) rfl ?_
  refine w_iloadN X0 hx (hb hby d1_1) rfl (pc' := 2) rfl ?_
  refine w_icmp_ge X0 hx (hb hby d1_2) (by decide) (pcY := 16) (by decide) (pc' := 5) rfl (fun h0 => ?_) (fun h0 => absurd h0 (by decide))
  refine w_lconst (v := (0 : Int64)) X0 hx (hb hby d1_16) rfl (pc' := 17) rfl ?_
  exact w_ret_l X0 hx hret hlk (hb hby d1_17) (by decide) (by decide) ⟨congrArg (fun q => some (Value.long q)) (show (0 : Int64) = sp_sm4_04 gg0 gg1 gg2 gg3 vv0 vv1 vv2 vv3 vv4 from by rw [sp_sm4_04]), rfl, rfl⟩
theorem ef_sm4_12 (m : MethodId) (n0 : Nat) (gg0 : Int32) (gg1 : Int32) (gg2 : Int32) (gg3 : Int32) (vv0 : Int32) (vv1 : Int32) (vv2 : Int32) (vv3 : Int32) (vv4 : Int32) : entryFrame m #[.ref (n0 + 1), .int (4 : Int32), .int (1 : Int32), .int (2 : Int32)] 4 = mkF m 0 #[.val (.ref (n0 + 1)), .val (.int (4 : Int32)), .val (.int (1 : Int32)), .val (.int (2 : Int32))] [] := by first | (simp [entryFrame, mkF, argsToLocals, Value.category]; done) | rfl
def sp_sm4_12 (gg0 : Int32) (gg1 : Int32) (gg2 : Int32) (gg3 : Int32) (vv0 : Int32) (vv1 : Int32) (vv2 : Int32) (vv3 : Int32) (vv4 : Int32) : Int64 := (if vv1 = vv2 then (1 : Int64) else (0 : Int64))
set_option maxRecDepth 65536 in
set_option maxHeartbeats 40000000 in
theorem rm_sm4_12 (l : Launch) (Z : State) (a0 : Array Value) (hw : ∀ d ∈ tables_1, d.before a0 Z = true) (ws : List Jvm.Cond) (n0 : Nat) (gg0 : Int32) (gg1 : Int32) (gg2 : Int32) (gg3 : Int32) (vv0 : Int32) (vv1 : Int32) (vv2 : Int32) (vv3 : Int32) (vv4 : Int32) (k0 : ClassId) (hk0 : IsA Z k0 .int) (k1 : ClassId) (hk1 : IsA Z k1 .int) (h0 : Heap) (P0 : HP n0 h0 [AC k0 [.int gg0, .int gg1, .int gg2, .int gg3], AC k1 [.int vv0, .int vv1, .int vv2, .int vv3, .int vv4]]) :
    MetFree l (⟨"com/example/protomata/protomata/PartitionPairsAlikePinLaw", "same", "([IIII)J"⟩ : MethodName) (head1 (Jvm.Cond.code (⟨"com/example/protomata/protomata/PartitionPairsAlikePinLaw", "same", "([IIII)J"⟩ : MethodName) method_3_code 4 (some .long) :: ws) ({ frames := 0, cells := 0, slots := 0, locals := 0 } : Room)) (fun aa U => aa = #[.ref (n0 + 1), .int (4 : Int32), .int (1 : Int32), .int (2 : Int32)] ∧ Z.Warmed39 U.vm ∧ U.heap = h0) (fun _ _ _ _ _ => True) (fun _ U o U' => ∃ v L, o = .returned v ∧ PureQ (.long (sp_sm4_12 gg0 gg1 gg2 gg3 vv0 vv1 vv2 vv3 vv4)) h0 v U'.heap L ∧ FrameEnd U o U' L ({ frames := 0, cells := 0, slots := 0, locals := 0 } : Room).cells ({ frames := 0, cells := 0, slots := 0, locals := 0 } : Room).slots) := by
  refine own_body pn1 ?_
  intro p e s m below meth c T0 hx hby hml hret hlk hown hnm hZ X0 e0
  subst e0
  refine own_cast (ef_sm4_12 m n0 gg0 gg1 gg2 gg3 vv0 vv1 vv2 vv3 vv4) ?_
  refine w_iloadN X0 hx (hb hby d1_0) rfl (pc' := 1) rfl ?_
  refine w_iloadN X0 hx (hb hby d1_1) rfl (pc' := 2) rfl ?_
  refine w_icmp_ge X0 hx (hb hby d1_2) (by decide) (pcY := 16) (by decide) (pc' := 5) rfl (fun h0 => absurd h0 (by decide)) (fun h0 => ?_)
  refine w_aloadN X0 hx (hb hby d1_5) rfl rfl (pc' := 6) rfl ?_
  refine w_iloadN X0 hx (hb hby d1_6) rfl (pc' := 7) rfl ?_
  refine w_iaload (i := 1) (jn := 1) (v := .int vv1) X0 hx hZ P0 rfl hk1 (hb hby d1_7) (by decide) rfl (pc' := 8) rfl ?_
  refine w_aloadN X0 hx (hb hby d1_8) rfl rfl (pc' := 9) rfl ?_
  refine w_iloadN X0 hx (hb hby d1_9) rfl (pc' := 10) rfl ?_
  refine w_iaload (i := 1) (jn := 2) (v := .int vv2) X0 hx hZ P0 rfl hk1 (hb hby d1_10) (by decide) rfl (pc' := 11) rfl ?_
  refine w_icmp_ne X0 hx (hb hby d1_11) (by decide) (pcY := 16) (by decide) (pc' := 14) rfl (fun h1 => ?_) (fun h1 => ?_)
  · refine w_lconst (v := (0 : Int64)) X0 hx (hb hby d1_16) rfl (pc' := 17) rfl ?_
    exact w_ret_l X0 hx hret hlk (hb hby d1_17) (by decide) (by decide) ⟨congrArg (fun q => some (Value.long q)) (show (0 : Int64) = sp_sm4_12 gg0 gg1 gg2 gg3 vv0 vv1 vv2 vv3 vv4 from by rw [sp_sm4_12, if_neg h1]), rfl, rfl⟩
  · refine w_lconst (v := (1 : Int64)) X0 hx (hb hby d1_14) rfl (pc' := 15) rfl ?_
    exact w_ret_l X0 hx hret hlk (hb hby d1_15) (by decide) (by decide) ⟨congrArg (fun q => some (Value.long q)) (show (1 : Int64) = sp_sm4_12 gg0 gg1 gg2 gg3 vv0 vv1 vv2 vv3 vv4 from by rw [sp_sm4_12, if_pos h1]), rfl, rfl⟩
theorem ef_sm4_13 (m : MethodId) (n0 : Nat) (gg0 : Int32) (gg1 : Int32) (gg2 : Int32) (gg3 : Int32) (vv0 : Int32) (vv1 : Int32) (vv2 : Int32) (vv3 : Int32) (vv4 : Int32) : entryFrame m #[.ref (n0 + 1), .int (4 : Int32), .int (1 : Int32), .int (3 : Int32)] 4 = mkF m 0 #[.val (.ref (n0 + 1)), .val (.int (4 : Int32)), .val (.int (1 : Int32)), .val (.int (3 : Int32))] [] := by first | (simp [entryFrame, mkF, argsToLocals, Value.category]; done) | rfl
def sp_sm4_13 (gg0 : Int32) (gg1 : Int32) (gg2 : Int32) (gg3 : Int32) (vv0 : Int32) (vv1 : Int32) (vv2 : Int32) (vv3 : Int32) (vv4 : Int32) : Int64 := (if vv1 = vv3 then (1 : Int64) else (0 : Int64))
set_option maxRecDepth 65536 in
set_option maxHeartbeats 40000000 in
theorem rm_sm4_13 (l : Launch) (Z : State) (a0 : Array Value) (hw : ∀ d ∈ tables_1, d.before a0 Z = true) (ws : List Jvm.Cond) (n0 : Nat) (gg0 : Int32) (gg1 : Int32) (gg2 : Int32) (gg3 : Int32) (vv0 : Int32) (vv1 : Int32) (vv2 : Int32) (vv3 : Int32) (vv4 : Int32) (k0 : ClassId) (hk0 : IsA Z k0 .int) (k1 : ClassId) (hk1 : IsA Z k1 .int) (h0 : Heap) (P0 : HP n0 h0 [AC k0 [.int gg0, .int gg1, .int gg2, .int gg3], AC k1 [.int vv0, .int vv1, .int vv2, .int vv3, .int vv4]]) :
    MetFree l (⟨"com/example/protomata/protomata/PartitionPairsAlikePinLaw", "same", "([IIII)J"⟩ : MethodName) (head1 (Jvm.Cond.code (⟨"com/example/protomata/protomata/PartitionPairsAlikePinLaw", "same", "([IIII)J"⟩ : MethodName) method_3_code 4 (some .long) :: ws) ({ frames := 0, cells := 0, slots := 0, locals := 0 } : Room)) (fun aa U => aa = #[.ref (n0 + 1), .int (4 : Int32), .int (1 : Int32), .int (3 : Int32)] ∧ Z.Warmed39 U.vm ∧ U.heap = h0) (fun _ _ _ _ _ => True) (fun _ U o U' => ∃ v L, o = .returned v ∧ PureQ (.long (sp_sm4_13 gg0 gg1 gg2 gg3 vv0 vv1 vv2 vv3 vv4)) h0 v U'.heap L ∧ FrameEnd U o U' L ({ frames := 0, cells := 0, slots := 0, locals := 0 } : Room).cells ({ frames := 0, cells := 0, slots := 0, locals := 0 } : Room).slots) := by
  refine own_body pn1 ?_
  intro p e s m below meth c T0 hx hby hml hret hlk hown hnm hZ X0 e0
  subst e0
  refine own_cast (ef_sm4_13 m n0 gg0 gg1 gg2 gg3 vv0 vv1 vv2 vv3 vv4) ?_
  refine w_iloadN X0 hx (hb hby d1_0) rfl (pc' := 1) rfl ?_
  refine w_iloadN X0 hx (hb hby d1_1) rfl (pc' := 2) rfl ?_
  refine w_icmp_ge X0 hx (hb hby d1_2) (by decide) (pcY := 16) (by decide) (pc' := 5) rfl (fun h0 => absurd h0 (by decide)) (fun h0 => ?_)
  refine w_aloadN X0 hx (hb hby d1_5) rfl rfl (pc' := 6) rfl ?_
  refine w_iloadN X0 hx (hb hby d1_6) rfl (pc' := 7) rfl ?_
  refine w_iaload (i := 1) (jn := 1) (v := .int vv1) X0 hx hZ P0 rfl hk1 (hb hby d1_7) (by decide) rfl (pc' := 8) rfl ?_
  refine w_aloadN X0 hx (hb hby d1_8) rfl rfl (pc' := 9) rfl ?_
  refine w_iloadN X0 hx (hb hby d1_9) rfl (pc' := 10) rfl ?_
  refine w_iaload (i := 1) (jn := 3) (v := .int vv3) X0 hx hZ P0 rfl hk1 (hb hby d1_10) (by decide) rfl (pc' := 11) rfl ?_
  refine w_icmp_ne X0 hx (hb hby d1_11) (by decide) (pcY := 16) (by decide) (pc' := 14) rfl (fun h1 => ?_) (fun h1 => ?_)
  · refine w_lconst (v := (0 : Int64)) X0 hx (hb hby d1_16) rfl (pc' := 17) rfl ?_
    exact w_ret_l X0 hx hret hlk (hb hby d1_17) (by decide) (by decide) ⟨congrArg (fun q => some (Value.long q)) (show (0 : Int64) = sp_sm4_13 gg0 gg1 gg2 gg3 vv0 vv1 vv2 vv3 vv4 from by rw [sp_sm4_13, if_neg h1]), rfl, rfl⟩
  · refine w_lconst (v := (1 : Int64)) X0 hx (hb hby d1_14) rfl (pc' := 15) rfl ?_
    exact w_ret_l X0 hx hret hlk (hb hby d1_15) (by decide) (by decide) ⟨congrArg (fun q => some (Value.long q)) (show (1 : Int64) = sp_sm4_13 gg0 gg1 gg2 gg3 vv0 vv1 vv2 vv3 vv4 from by rw [sp_sm4_13, if_pos h1]), rfl, rfl⟩
theorem ef_sm4_14 (m : MethodId) (n0 : Nat) (gg0 : Int32) (gg1 : Int32) (gg2 : Int32) (gg3 : Int32) (vv0 : Int32) (vv1 : Int32) (vv2 : Int32) (vv3 : Int32) (vv4 : Int32) : entryFrame m #[.ref (n0 + 1), .int (4 : Int32), .int (1 : Int32), .int (4 : Int32)] 4 = mkF m 0 #[.val (.ref (n0 + 1)), .val (.int (4 : Int32)), .val (.int (1 : Int32)), .val (.int (4 : Int32))] [] := by first | (simp [entryFrame, mkF, argsToLocals, Value.category]; done) | rfl
def sp_sm4_14 (gg0 : Int32) (gg1 : Int32) (gg2 : Int32) (gg3 : Int32) (vv0 : Int32) (vv1 : Int32) (vv2 : Int32) (vv3 : Int32) (vv4 : Int32) : Int64 := (0 : Int64)
set_option maxRecDepth 65536 in
set_option maxHeartbeats 40000000 in
theorem rm_sm4_14 (l : Launch) (Z : State) (a0 : Array Value) (hw : ∀ d ∈ tables_1, d.before a0 Z = true) (ws : List Jvm.Cond) (n0 : Nat) (gg0 : Int32) (gg1 : Int32) (gg2 : Int32) (gg3 : Int32) (vv0 : Int32) (vv1 : Int32) (vv2 : Int32) (vv3 : Int32) (vv4 : Int32) (k0 : ClassId) (hk0 : IsA Z k0 .int) (k1 : ClassId) (hk1 : IsA Z k1 .int) (h0 : Heap) (P0 : HP n0 h0 [AC k0 [.int gg0, .int gg1, .int gg2, .int gg3], AC k1 [.int vv0, .int vv1, .int vv2, .int vv3, .int vv4]]) :
    MetFree l (⟨"com/example/protomata/protomata/PartitionPairsAlikePinLaw", "same", "([IIII)J"⟩ : MethodName) (head1 (Jvm.Cond.code (⟨"com/example/protomata/protomata/PartitionPairsAlikePinLaw", "same", "([IIII)J"⟩ : MethodName) method_3_code 4 (some .long) :: ws) ({ frames := 0, cells := 0, slots := 0, locals := 0 } : Room)) (fun aa U => aa = #[.ref (n0 + 1), .int (4 : Int32), .int (1 : Int32), .int (4 : Int32)] ∧ Z.Warmed39 U.vm ∧ U.heap = h0) (fun _ _ _ _ _ => True) (fun _ U o U' => ∃ v L, o = .returned v ∧ PureQ (.long (sp_sm4_14 gg0 gg1 gg2 gg3 vv0 vv1 vv2 vv3 vv4)) h0 v U'.heap L ∧ FrameEnd U o U' L ({ frames := 0, cells := 0, slots := 0, locals := 0 } : Room).cells ({ frames := 0, cells := 0, slots := 0, locals := 0 } : Room).slots) := by
  refine own_body pn1 ?_
  intro p e s m below meth c T0 hx hby hml hret hlk hown hnm hZ X0 e0
  subst e0
  refine own_cast (ef_sm4_14 m n0 gg0 gg1 gg2 gg3 vv0 vv1 vv2 vv3 vv4) ?_
  refine w_iloadN X0 hx (hb hby d1_0) rfl (pc' := 1) rfl ?_
  refine w_iloadN X0 hx (hb hby d1_1) rfl (pc' := 2) rfl ?_
  refine w_icmp_ge X0 hx (hb hby d1_2) (by decide) (pcY := 16) (by decide) (pc' := 5) rfl (fun h0 => ?_) (fun h0 => absurd h0 (by decide))
  refine w_lconst (v := (0 : Int64)) X0 hx (hb hby d1_16) rfl (pc' := 17) rfl ?_
  exact w_ret_l X0 hx hret hlk (hb hby d1_17) (by decide) (by decide) ⟨congrArg (fun q => some (Value.long q)) (show (0 : Int64) = sp_sm4_14 gg0 gg1 gg2 gg3 vv0 vv1 vv2 vv3 vv4 from by rw [sp_sm4_14]), rfl, rfl⟩
theorem ef_sm4_23 (m : MethodId) (n0 : Nat) (gg0 : Int32) (gg1 : Int32) (gg2 : Int32) (gg3 : Int32) (vv0 : Int32) (vv1 : Int32) (vv2 : Int32) (vv3 : Int32) (vv4 : Int32) : entryFrame m #[.ref (n0 + 1), .int (4 : Int32), .int (2 : Int32), .int (3 : Int32)] 4 = mkF m 0 #[.val (.ref (n0 + 1)), .val (.int (4 : Int32)), .val (.int (2 : Int32)), .val (.int (3 : Int32))] [] := by first | (simp [entryFrame, mkF, argsToLocals, Value.category]; done) | rfl
def sp_sm4_23 (gg0 : Int32) (gg1 : Int32) (gg2 : Int32) (gg3 : Int32) (vv0 : Int32) (vv1 : Int32) (vv2 : Int32) (vv3 : Int32) (vv4 : Int32) : Int64 := (if vv2 = vv3 then (1 : Int64) else (0 : Int64))
set_option maxRecDepth 65536 in
set_option maxHeartbeats 40000000 in
theorem rm_sm4_23 (l : Launch) (Z : State) (a0 : Array Value) (hw : ∀ d ∈ tables_1, d.before a0 Z = true) (ws : List Jvm.Cond) (n0 : Nat) (gg0 : Int32) (gg1 : Int32) (gg2 : Int32) (gg3 : Int32) (vv0 : Int32) (vv1 : Int32) (vv2 : Int32) (vv3 : Int32) (vv4 : Int32) (k0 : ClassId) (hk0 : IsA Z k0 .int) (k1 : ClassId) (hk1 : IsA Z k1 .int) (h0 : Heap) (P0 : HP n0 h0 [AC k0 [.int gg0, .int gg1, .int gg2, .int gg3], AC k1 [.int vv0, .int vv1, .int vv2, .int vv3, .int vv4]]) :
    MetFree l (⟨"com/example/protomata/protomata/PartitionPairsAlikePinLaw", "same", "([IIII)J"⟩ : MethodName) (head1 (Jvm.Cond.code (⟨"com/example/protomata/protomata/PartitionPairsAlikePinLaw", "same", "([IIII)J"⟩ : MethodName) method_3_code 4 (some .long) :: ws) ({ frames := 0, cells := 0, slots := 0, locals := 0 } : Room)) (fun aa U => aa = #[.ref (n0 + 1), .int (4 : Int32), .int (2 : Int32), .int (3 : Int32)] ∧ Z.Warmed39 U.vm ∧ U.heap = h0) (fun _ _ _ _ _ => True) (fun _ U o U' => ∃ v L, o = .returned v ∧ PureQ (.long (sp_sm4_23 gg0 gg1 gg2 gg3 vv0 vv1 vv2 vv3 vv4)) h0 v U'.heap L ∧ FrameEnd U o U' L ({ frames := 0, cells := 0, slots := 0, locals := 0 } : Room).cells ({ frames := 0, cells := 0, slots := 0, locals := 0 } : Room).slots) := by
  refine own_body pn1 ?_
  intro p e s m below meth c T0 hx hby hml hret hlk hown hnm hZ X0 e0
  subst e0
  refine own_cast (ef_sm4_23 m n0 gg0 gg1 gg2 gg3 vv0 vv1 vv2 vv3 vv4) ?_
  refine w_iloadN X0 hx (hb hby d1_0) rfl (pc' := 1) rfl ?_
  refine w_iloadN X0 hx (hb hby d1_1) rfl (pc' := 2) rfl ?_
  refine w_icmp_ge X0 hx (hb hby d1_2) (by decide) (pcY := 16) (by decide) (pc' := 5) rfl (fun h0 => absurd h0 (by decide)) (fun h0 => ?_)
  refine w_aloadN X0 hx (hb hby d1_5) rfl rfl (pc' := 6) rfl ?_
  refine w_iloadN X0 hx (hb hby d1_6) rfl (pc' := 7) rfl ?_
  refine w_iaload (i := 1) (jn := 2) (v := .int vv2) X0 hx hZ P0 rfl hk1 (hb hby d1_7) (by decide) rfl (pc' := 8) rfl ?_
  refine w_aloadN X0 hx (hb hby d1_8) rfl rfl (pc' := 9) rfl ?_
  refine w_iloadN X0 hx (hb hby d1_9) rfl (pc' := 10) rfl ?_
  refine w_iaload (i := 1) (jn := 3) (v := .int vv3) X0 hx hZ P0 rfl hk1 (hb hby d1_10) (by decide) rfl (pc' := 11) rfl ?_
  refine w_icmp_ne X0 hx (hb hby d1_11) (by decide) (pcY := 16) (by decide) (pc' := 14) rfl (fun h1 => ?_) (fun h1 => ?_)
  · refine w_lconst (v := (0 : Int64)) X0 hx (hb hby d1_16) rfl (pc' := 17) rfl ?_
    exact w_ret_l X0 hx hret hlk (hb hby d1_17) (by decide) (by decide) ⟨congrArg (fun q => some (Value.long q)) (show (0 : Int64) = sp_sm4_23 gg0 gg1 gg2 gg3 vv0 vv1 vv2 vv3 vv4 from by rw [sp_sm4_23, if_neg h1]), rfl, rfl⟩
  · refine w_lconst (v := (1 : Int64)) X0 hx (hb hby d1_14) rfl (pc' := 15) rfl ?_
    exact w_ret_l X0 hx hret hlk (hb hby d1_15) (by decide) (by decide) ⟨congrArg (fun q => some (Value.long q)) (show (1 : Int64) = sp_sm4_23 gg0 gg1 gg2 gg3 vv0 vv1 vv2 vv3 vv4 from by rw [sp_sm4_23, if_pos h1]), rfl, rfl⟩
theorem ef_sm4_24 (m : MethodId) (n0 : Nat) (gg0 : Int32) (gg1 : Int32) (gg2 : Int32) (gg3 : Int32) (vv0 : Int32) (vv1 : Int32) (vv2 : Int32) (vv3 : Int32) (vv4 : Int32) : entryFrame m #[.ref (n0 + 1), .int (4 : Int32), .int (2 : Int32), .int (4 : Int32)] 4 = mkF m 0 #[.val (.ref (n0 + 1)), .val (.int (4 : Int32)), .val (.int (2 : Int32)), .val (.int (4 : Int32))] [] := by first | (simp [entryFrame, mkF, argsToLocals, Value.category]; done) | rfl
def sp_sm4_24 (gg0 : Int32) (gg1 : Int32) (gg2 : Int32) (gg3 : Int32) (vv0 : Int32) (vv1 : Int32) (vv2 : Int32) (vv3 : Int32) (vv4 : Int32) : Int64 := (0 : Int64)
set_option maxRecDepth 65536 in
set_option maxHeartbeats 40000000 in
theorem rm_sm4_24 (l : Launch) (Z : State) (a0 : Array Value) (hw : ∀ d ∈ tables_1, d.before a0 Z = true) (ws : List Jvm.Cond) (n0 : Nat) (gg0 : Int32) (gg1 : Int32) (gg2 : Int32) (gg3 : Int32) (vv0 : Int32) (vv1 : Int32) (vv2 : Int32) (vv3 : Int32) (vv4 : Int32) (k0 : ClassId) (hk0 : IsA Z k0 .int) (k1 : ClassId) (hk1 : IsA Z k1 .int) (h0 : Heap) (P0 : HP n0 h0 [AC k0 [.int gg0, .int gg1, .int gg2, .int gg3], AC k1 [.int vv0, .int vv1, .int vv2, .int vv3, .int vv4]]) :
    MetFree l (⟨"com/example/protomata/protomata/PartitionPairsAlikePinLaw", "same", "([IIII)J"⟩ : MethodName) (head1 (Jvm.Cond.code (⟨"com/example/protomata/protomata/PartitionPairsAlikePinLaw", "same", "([IIII)J"⟩ : MethodName) method_3_code 4 (some .long) :: ws) ({ frames := 0, cells := 0, slots := 0, locals := 0 } : Room)) (fun aa U => aa = #[.ref (n0 + 1), .int (4 : Int32), .int (2 : Int32), .int (4 : Int32)] ∧ Z.Warmed39 U.vm ∧ U.heap = h0) (fun _ _ _ _ _ => True) (fun _ U o U' => ∃ v L, o = .returned v ∧ PureQ (.long (sp_sm4_24 gg0 gg1 gg2 gg3 vv0 vv1 vv2 vv3 vv4)) h0 v U'.heap L ∧ FrameEnd U o U' L ({ frames := 0, cells := 0, slots := 0, locals := 0 } : Room).cells ({ frames := 0, cells := 0, slots := 0, locals := 0 } : Room).slots) := by
  refine own_body pn1 ?_
  intro p e s m below meth c T0 hx hby hml hret hlk hown hnm hZ X0 e0
  subst e0
  refine own_cast (ef_sm4_24 m n0 gg0 gg1 gg2 gg3 vv0 vv1 vv2 vv3 vv4) ?_
  refine w_iloadN X0 hx (hb hby d1_0) rfl (pc' := 1) rfl ?_
  refine w_iloadN X0 hx (hb hby d1_1) rfl (pc' := 2) rfl ?_
  refine w_icmp_ge X0 hx (hb hby d1_2) (by decide) (pcY := 16) (by decide) (pc' := 5) rfl (fun h0 => ?_) (fun h0 => absurd h0 (by decide))
  refine w_lconst (v := (0 : Int64)) X0 hx (hb hby d1_16) rfl (pc' := 17) rfl ?_
  exact w_ret_l X0 hx hret hlk (hb hby d1_17) (by decide) (by decide) ⟨congrArg (fun q => some (Value.long q)) (show (0 : Int64) = sp_sm4_24 gg0 gg1 gg2 gg3 vv0 vv1 vv2 vv3 vv4 from by rw [sp_sm4_24]), rfl, rfl⟩
theorem ef_sm4_34 (m : MethodId) (n0 : Nat) (gg0 : Int32) (gg1 : Int32) (gg2 : Int32) (gg3 : Int32) (vv0 : Int32) (vv1 : Int32) (vv2 : Int32) (vv3 : Int32) (vv4 : Int32) : entryFrame m #[.ref (n0 + 1), .int (4 : Int32), .int (3 : Int32), .int (4 : Int32)] 4 = mkF m 0 #[.val (.ref (n0 + 1)), .val (.int (4 : Int32)), .val (.int (3 : Int32)), .val (.int (4 : Int32))] [] := by first | (simp [entryFrame, mkF, argsToLocals, Value.category]; done) | rfl
def sp_sm4_34 (gg0 : Int32) (gg1 : Int32) (gg2 : Int32) (gg3 : Int32) (vv0 : Int32) (vv1 : Int32) (vv2 : Int32) (vv3 : Int32) (vv4 : Int32) : Int64 := (0 : Int64)
set_option maxRecDepth 65536 in
set_option maxHeartbeats 40000000 in
theorem rm_sm4_34 (l : Launch) (Z : State) (a0 : Array Value) (hw : ∀ d ∈ tables_1, d.before a0 Z = true) (ws : List Jvm.Cond) (n0 : Nat) (gg0 : Int32) (gg1 : Int32) (gg2 : Int32) (gg3 : Int32) (vv0 : Int32) (vv1 : Int32) (vv2 : Int32) (vv3 : Int32) (vv4 : Int32) (k0 : ClassId) (hk0 : IsA Z k0 .int) (k1 : ClassId) (hk1 : IsA Z k1 .int) (h0 : Heap) (P0 : HP n0 h0 [AC k0 [.int gg0, .int gg1, .int gg2, .int gg3], AC k1 [.int vv0, .int vv1, .int vv2, .int vv3, .int vv4]]) :
    MetFree l (⟨"com/example/protomata/protomata/PartitionPairsAlikePinLaw", "same", "([IIII)J"⟩ : MethodName) (head1 (Jvm.Cond.code (⟨"com/example/protomata/protomata/PartitionPairsAlikePinLaw", "same", "([IIII)J"⟩ : MethodName) method_3_code 4 (some .long) :: ws) ({ frames := 0, cells := 0, slots := 0, locals := 0 } : Room)) (fun aa U => aa = #[.ref (n0 + 1), .int (4 : Int32), .int (3 : Int32), .int (4 : Int32)] ∧ Z.Warmed39 U.vm ∧ U.heap = h0) (fun _ _ _ _ _ => True) (fun _ U o U' => ∃ v L, o = .returned v ∧ PureQ (.long (sp_sm4_34 gg0 gg1 gg2 gg3 vv0 vv1 vv2 vv3 vv4)) h0 v U'.heap L ∧ FrameEnd U o U' L ({ frames := 0, cells := 0, slots := 0, locals := 0 } : Room).cells ({ frames := 0, cells := 0, slots := 0, locals := 0 } : Room).slots) := by
  refine own_body pn1 ?_
  intro p e s m below meth c T0 hx hby hml hret hlk hown hnm hZ X0 e0
  subst e0
  refine own_cast (ef_sm4_34 m n0 gg0 gg1 gg2 gg3 vv0 vv1 vv2 vv3 vv4) ?_
  refine w_iloadN X0 hx (hb hby d1_0) rfl (pc' := 1) rfl ?_
  refine w_iloadN X0 hx (hb hby d1_1) rfl (pc' := 2) rfl ?_
  refine w_icmp_ge X0 hx (hb hby d1_2) (by decide) (pcY := 16) (by decide) (pc' := 5) rfl (fun h0 => ?_) (fun h0 => absurd h0 (by decide))
  refine w_lconst (v := (0 : Int64)) X0 hx (hb hby d1_16) rfl (pc' := 17) rfl ?_
  exact w_ret_l X0 hx hret hlk (hb hby d1_17) (by decide) (by decide) ⟨congrArg (fun q => some (Value.long q)) (show (0 : Int64) = sp_sm4_34 gg0 gg1 gg2 gg3 vv0 vv1 vv2 vv3 vv4 from by rw [sp_sm4_34]), rfl, rfl⟩
def own_pa4 (g0 g1 g2 g3 : Nat) : Int64 := (((((0 : Int64) + (((Int32.toInt64 ((own_inc (own_inc (own_inc (own_inc ([0, 0, 0, 0] : List Int32) g0) g1) g2) g3).getD 0 0)) * (Int32.toInt64 (((own_inc (own_inc (own_inc (own_inc ([0, 0, 0, 0] : List Int32) g0) g1) g2) g3).getD 0 0) - (1 : Int32)))) / (2 : Int64))) + (((Int32.toInt64 ((own_inc (own_inc (own_inc (own_inc ([0, 0, 0, 0] : List Int32) g0) g1) g2) g3).getD 1 0)) * (Int32.toInt64 (((own_inc (own_inc (own_inc (own_inc ([0, 0, 0, 0] : List Int32) g0) g1) g2) g3).getD 1 0) - (1 : Int32)))) / (2 : Int64))) + (((Int32.toInt64 ((own_inc (own_inc (own_inc (own_inc ([0, 0, 0, 0] : List Int32) g0) g1) g2) g3).getD 2 0)) * (Int32.toInt64 (((own_inc (own_inc (own_inc (own_inc ([0, 0, 0, 0] : List Int32) g0) g1) g2) g3).getD 2 0) - (1 : Int32)))) / (2 : Int64))) + (((Int32.toInt64 ((own_inc (own_inc (own_inc (own_inc ([0, 0, 0, 0] : List Int32) g0) g1) g2) g3).getD 3 0)) * (Int32.toInt64 (((own_inc (own_inc (own_inc (own_inc ([0, 0, 0, 0] : List Int32) g0) g1) g2) g3).getD 3 0) - (1 : Int32)))) / (2 : Int64)))
theorem ef_pa4 (m : MethodId) (n0 : Nat) (g0 : Nat) (g1 : Nat) (g2 : Nat) (g3 : Nat) (vv0 : Int32) (vv1 : Int32) (vv2 : Int32) (vv3 : Int32) (vv4 : Int32) : entryFrame m #[.ref (n0 + 0)] 8 = mkF m 0 #[.val (.ref (n0 + 0)), .unset, .unset, .unset, .unset, .unset, .unset, .unset] [] := by first | (simp [entryFrame, mkF, argsToLocals, Value.category]; done) | rfl
def Q_pa4 (Z : State) (n0 : Nat) (k0 : ClassId) (k1 : ClassId) (g0 : Nat) (g1 : Nat) (g2 : Nat) (g3 : Nat) (vv0 : Int32) (vv1 : Int32) (vv2 : Int32) (vv3 : Int32) (vv4 : Int32) (v : Option Value) (h : Heap) (L : List Loc) : Prop := v = some (.long (own_pa4 g0 g1 g2 g3)) ∧ Fr n0 L
set_option maxRecDepth 65536 in
set_option maxHeartbeats 40000000 in
theorem rm_pa4 (l : Launch) (Z : State) (a0 : Array Value) (hw : ∀ d ∈ tables_1, d.before a0 Z = true) (ws : List Jvm.Cond) (n0 : Nat) (k0 : ClassId) (k1 : ClassId) (g0 : Nat) (g1 : Nat) (g2 : Nat) (g3 : Nat) (vv0 : Int32) (vv1 : Int32) (vv2 : Int32) (vv3 : Int32) (vv4 : Int32) (h0 : Heap) (P0 : HP n0 h0 [AC k0 [.int (Int32.ofNat g0), .int (Int32.ofNat g1), .int (Int32.ofNat g2), .int (Int32.ofNat g3)], AC k1 [.int vv0, .int vv1, .int vv2, .int vv3, .int vv4]]) (hk0 : IsA Z k0 .int) (hk1 : IsA Z k1 .int) (hg0 : g0 < 4) (hg1 : g1 < 4) (hg2 : g2 < 4) (hg3 : g3 < 4) :
    MetFree l (⟨"com/example/protomata/protomata/Partition", "pairsAlike", "([I)J"⟩ : MethodName) (head1 (Jvm.Cond.code (⟨"com/example/protomata/protomata/Partition", "pairsAlike", "([I)J"⟩ : MethodName) prog_101_method_9_code 8 (some .long) :: ws) ({ frames := 0, cells := 1, slots := 4, locals := 0 } : Room)) (fun aa U => aa = #[.ref (n0 + 0)] ∧ Z.Warmed39 U.vm ∧ U.heap = h0) (fun _ _ _ _ _ => True) (fun _ U o U' => ∃ v L, o = .returned v ∧ Q_pa4 Z n0 k0 k1 g0 g1 g2 g3 vv0 vv1 vv2 vv3 vv4 v U'.heap L ∧ FrameEnd U o U' L ({ frames := 0, cells := 1, slots := 4, locals := 0 } : Room).cells ({ frames := 0, cells := 1, slots := 4, locals := 0 } : Room).slots) := by
  refine own_body pn2 ?_
  intro p e s m below meth c T0 hx hby hml hret hlk hown hnm hZ X0 e0
  subst e0
  have N0 : Fr n0 [] := Fr.nil n0
  refine own_cast (ef_pa4 m n0 g0 g1 g2 g3 vv0 vv1 vv2 vv3 vv4) ?_
  refine w_aloadN X0 hx (hb hby d2_0) rfl rfl (pc' := 1) rfl ?_
  refine w_arrlen (i := 0) X0 hx hZ P0 rfl hk0 (hb hby d2_1) (z := (4 : Int32)) rfl (pc' := 2) rfl ?_
  refine w_newarr (N := 4) (j := 2) X0 hx hZ P0 (ty := .int) rfl (wd1 hw) (hb hby d2_2) (by decide) (by decide) (by decide) (by decide) rfl (pc' := 4) rfl ?_
  intro T1 kA1 X1 hkA1 P1
  replace P1 : HP n0 T1.heap [AC k0 [.int (Int32.ofNat g0), .int (Int32.ofNat g1), .int (Int32.ofNat g2), .int (Int32.ofNat g3)], AC k1 [.int vv0, .int vv1, .int vv2, .int vv3, .int vv4], AC kA1 [.int (0 : Int32), .int (0 : Int32), .int (0 : Int32), .int (0 : Int32)]] := P1
  replace P1 : HP n0 T1.heap [AC k0 [.int (Int32.ofNat g0), .int (Int32.ofNat g1), .int (Int32.ofNat g2), .int (Int32.ofNat g3)], AC k1 [.int vv0, .int vv1, .int vv2, .int vv3, .int vv4], AC kA1 (List.map Value.int ([0, 0, 0, 0] : List Int32))] := P1
  refine w_astoreN (l' := #[.val (.ref (n0 + 0)), .val (.ref (n0 + 2)), .unset, .unset, .unset, .unset, .unset, .unset]) X1 hx (hb hby d2_4) rfl rfl (pc' := 5) rfl ?_
  refine w_aloadN X1 hx (hb hby d2_5) rfl rfl (pc' := 6) rfl ?_
  refine w_astoreN (l' := #[.val (.ref (n0 + 0)), .val (.ref (n0 + 2)), .val (.ref (n0 + 0)), .unset, .unset, .unset, .unset, .unset]) X1 hx (hb hby d2_6) rfl rfl (pc' := 7) rfl ?_
  refine w_aloadN X1 hx (hb hby d2_7) rfl rfl (pc' := 8) rfl ?_
  refine w_arrlen (i := 0) X1 hx hZ P1 rfl hk0 (hb hby d2_8) (z := (4 : Int32)) rfl (pc' := 9) rfl ?_
  refine w_istoreN (l' := #[.val (.ref (n0 + 0)), .val (.ref (n0 + 2)), .val (.ref (n0 + 0)), .val (.int (4 : Int32)), .unset, .unset, .unset, .unset]) X1 hx (hb hby d2_9) rfl (pc' := 10) rfl ?_
  refine w_iconst (v := (0 : Int32)) X1 hx (hb hby d2_10) rfl (pc' := 11) rfl ?_
  refine w_istore (l' := #[.val (.ref (n0 + 0)), .val (.ref (n0 + 2)), .val (.ref (n0 + 0)), .val (.int (4 : Int32)), .val (.int (0 : Int32)), .unset, .unset, .unset]) X1 hx (hb hby d2_11) rfl (pc' := 13) rfl ?_
  refine w_iload X1 hx (hb hby d2_13) rfl (pc' := 15) rfl ?_
  refine w_iloadN X1 hx (hb hby d2_15) rfl (pc' := 16) rfl ?_
  refine w_icmp_ge X1 hx (hb hby d2_16) (by decide) (pcY := 39) (by decide) (pc' := 19) rfl (fun h0 => absurd h0 (by decide)) (fun h0 => ?_)
  refine w_aloadN X1 hx (hb hby d2_19) rfl rfl (pc' := 20) rfl ?_
  refine w_iload X1 hx (hb hby d2_20) rfl (pc' := 22) rfl ?_
  refine w_iaload (i := 0) (jn := 0) (v := .int (Int32.ofNat g0)) X1 hx hZ P1 rfl hk0 (hb hby d2_22) (by decide) rfl (pc' := 23) rfl ?_
  refine w_istore (l' := #[.val (.ref (n0 + 0)), .val (.ref (n0 + 2)), .val (.ref (n0 + 0)), .val (.int (4 : Int32)), .val (.int (0 : Int32)), .val (.int (Int32.ofNat g0)), .unset, .unset]) X1 hx (hb hby d2_23) rfl (pc' := 25) rfl ?_
  refine w_aloadN X1 hx (hb hby d2_25) rfl rfl (pc' := 26) rfl ?_
  refine w_iload X1 hx (hb hby d2_26) rfl (pc' := 28) rfl ?_
  refine w_dup2 X1 hx (hb hby d2_28) rfl rfl (pc' := 29) rfl ?_
  refine w_ialoadL (i := 2) (jn := g0) X1 hx hZ P1 rfl hkA1 (hb hby d2_29) (own_oN (by omega)) (own_llt (show ([0, 0, 0, 0] : List Int32).length = 4 from rfl) (by omega)) (pc' := 30) rfl ?_
  refine w_iconst (v := (1 : Int32)) X1 hx (hb hby d2_30) rfl (pc' := 31) rfl ?_
  refine w_iadd X1 hx (hb hby d2_31) (pc' := 32) rfl ?_
  refine w_iastoreL (i := 2) (jn := g0) X1 hx hZ N0 P1 rfl hkA1 (hb hby d2_32) (own_oN (by omega)) (own_llt (show ([0, 0, 0, 0] : List Int32).length = 4 from rfl) (by omega)) (pc' := 33) rfl ?_
  intro T2 L1 N1 X2 P2
  replace P2 : HP n0 T2.heap [AC k0 [.int (Int32.ofNat g0), .int (Int32.ofNat g1), .int (Int32.ofNat g2), .int (Int32.ofNat g3)], AC k1 [.int vv0, .int vv1, .int vv2, .int vv3, .int vv4], AC kA1 (List.map Value.int (([0, 0, 0, 0] : List Int32).set g0 ((([0, 0, 0, 0] : List Int32).getD g0 0) + (1 : Int32))))] := P2
  replace P2 : HP n0 T2.heap [AC k0 [.int (Int32.ofNat g0), .int (Int32.ofNat g1), .int (Int32.ofNat g2), .int (Int32.ofNat g3)], AC k1 [.int vv0, .int vv1, .int vv2, .int vv3, .int vv4], AC kA1 (List.map Value.int (own_inc ([0, 0, 0, 0] : List Int32) g0))] := P2
  refine w_iincE (z := (1 : Int32)) (l' := #[.val (.ref (n0 + 0)), .val (.ref (n0 + 2)), .val (.ref (n0 + 0)), .val (.int (4 : Int32)), .val (.int (1 : Int32)), .val (.int (Int32.ofNat g0)), .unset, .unset]) X2 hx (hb hby d2_33) rfl (by decide) rfl (pc' := 36) rfl ?_
  refine w_goto X2 hx (hb hby d2_36) (by decide) (pc' := 13) (by decide) ?_
  refine w_iload X2 hx (hb hby d2_13) rfl (pc' := 15) rfl ?_
  refine w_iloadN X2 hx (hb hby d2_15) rfl (pc' := 16) rfl ?_
  refine w_icmp_ge X2 hx (hb hby d2_16) (by decide) (pcY := 39) (by decide) (pc' := 19) rfl (fun h1 => absurd h1 (by decide)) (fun h1 => ?_)
  refine w_aloadN X2 hx (hb hby d2_19) rfl rfl (pc' := 20) rfl ?_
  refine w_iload X2 hx (hb hby d2_20) rfl (pc' := 22) rfl ?_
  refine w_iaload (i := 0) (jn := 1) (v := .int (Int32.ofNat g1)) X2 hx hZ P2 rfl hk0 (hb hby d2_22) (by decide) rfl (pc' := 23) rfl ?_
  refine w_istore (l' := #[.val (.ref (n0 + 0)), .val (.ref (n0 + 2)), .val (.ref (n0 + 0)), .val (.int (4 : Int32)), .val (.int (1 : Int32)), .val (.int (Int32.ofNat g1)), .unset, .unset]) X2 hx (hb hby d2_23) rfl (pc' := 25) rfl ?_
  refine w_aloadN X2 hx (hb hby d2_25) rfl rfl (pc' := 26) rfl ?_
  refine w_iload X2 hx (hb hby d2_26) rfl (pc' := 28) rfl ?_
  refine w_dup2 X2 hx (hb hby d2_28) rfl rfl (pc' := 29) rfl ?_
  refine w_ialoadL (i := 2) (jn := g1) X2 hx hZ P2 rfl hkA1 (hb hby d2_29) (own_oN (by omega)) (own_llt (own_sl (show ([0, 0, 0, 0] : List Int32).length = 4 from rfl)) (by omega)) (pc' := 30) rfl ?_
  refine w_iconst (v := (1 : Int32)) X2 hx (hb hby d2_30) rfl (pc' := 31) rfl ?_
  refine w_iadd X2 hx (hb hby d2_31) (pc' := 32) rfl ?_
  refine w_iastoreL (i := 2) (jn := g1) X2 hx hZ N1 P2 rfl hkA1 (hb hby d2_32) (own_oN (by omega)) (own_llt (own_sl (show ([0, 0, 0, 0] : List Int32).length = 4 from rfl)) (by omega)) (pc' := 33) rfl ?_
  intro T3 L2 N2 X3 P3
  replace P3 : HP n0 T3.heap [AC k0 [.int (Int32.ofNat g0), .int (Int32.ofNat g1), .int (Int32.ofNat g2), .int (Int32.ofNat g3)], AC k1 [.int vv0, .int vv1, .int vv2, .int vv3, .int vv4], AC kA1 (List.map Value.int ((own_inc ([0, 0, 0, 0] : List Int32) g0).set g1 (((own_inc ([0, 0, 0, 0] : List Int32) g0).getD g1 0) + (1 : Int32))))] := P3
  replace P3 : HP n0 T3.heap [AC k0 [.int (Int32.ofNat g0), .int (Int32.ofNat g1), .int (Int32.ofNat g2), .int (Int32.ofNat g3)], AC k1 [.int vv0, .int vv1, .int vv2, .int vv3, .int vv4], AC kA1 (List.map Value.int (own_inc (own_inc ([0, 0, 0, 0] : List Int32) g0) g1))] := P3
  refine w_iincE (z := (2 : Int32)) (l' := #[.val (.ref (n0 + 0)), .val (.ref (n0 + 2)), .val (.ref (n0 + 0)), .val (.int (4 : Int32)), .val (.int (2 : Int32)), .val (.int (Int32.ofNat g1)), .unset, .unset]) X3 hx (hb hby d2_33) rfl (by decide) rfl (pc' := 36) rfl ?_
  refine w_goto X3 hx (hb hby d2_36) (by decide) (pc' := 13) (by decide) ?_
  refine w_iload X3 hx (hb hby d2_13) rfl (pc' := 15) rfl ?_
  refine w_iloadN X3 hx (hb hby d2_15) rfl (pc' := 16) rfl ?_
  refine w_icmp_ge X3 hx (hb hby d2_16) (by decide) (pcY := 39) (by decide) (pc' := 19) rfl (fun h2 => absurd h2 (by decide)) (fun h2 => ?_)
  refine w_aloadN X3 hx (hb hby d2_19) rfl rfl (pc' := 20) rfl ?_
  refine w_iload X3 hx (hb hby d2_20) rfl (pc' := 22) rfl ?_
  refine w_iaload (i := 0) (jn := 2) (v := .int (Int32.ofNat g2)) X3 hx hZ P3 rfl hk0 (hb hby d2_22) (by decide) rfl (pc' := 23) rfl ?_
  refine w_istore (l' := #[.val (.ref (n0 + 0)), .val (.ref (n0 + 2)), .val (.ref (n0 + 0)), .val (.int (4 : Int32)), .val (.int (2 : Int32)), .val (.int (Int32.ofNat g2)), .unset, .unset]) X3 hx (hb hby d2_23) rfl (pc' := 25) rfl ?_
  refine w_aloadN X3 hx (hb hby d2_25) rfl rfl (pc' := 26) rfl ?_
  refine w_iload X3 hx (hb hby d2_26) rfl (pc' := 28) rfl ?_
  refine w_dup2 X3 hx (hb hby d2_28) rfl rfl (pc' := 29) rfl ?_
  refine w_ialoadL (i := 2) (jn := g2) X3 hx hZ P3 rfl hkA1 (hb hby d2_29) (own_oN (by omega)) (own_llt (own_sl (own_sl (show ([0, 0, 0, 0] : List Int32).length = 4 from rfl))) (by omega)) (pc' := 30) rfl ?_
  refine w_iconst (v := (1 : Int32)) X3 hx (hb hby d2_30) rfl (pc' := 31) rfl ?_
  refine w_iadd X3 hx (hb hby d2_31) (pc' := 32) rfl ?_
  refine w_iastoreL (i := 2) (jn := g2) X3 hx hZ N2 P3 rfl hkA1 (hb hby d2_32) (own_oN (by omega)) (own_llt (own_sl (own_sl (show ([0, 0, 0, 0] : List Int32).length = 4 from rfl))) (by omega)) (pc' := 33) rfl ?_
  intro T4 L3 N3 X4 P4
  replace P4 : HP n0 T4.heap [AC k0 [.int (Int32.ofNat g0), .int (Int32.ofNat g1), .int (Int32.ofNat g2), .int (Int32.ofNat g3)], AC k1 [.int vv0, .int vv1, .int vv2, .int vv3, .int vv4], AC kA1 (List.map Value.int ((own_inc (own_inc ([0, 0, 0, 0] : List Int32) g0) g1).set g2 (((own_inc (own_inc ([0, 0, 0, 0] : List Int32) g0) g1).getD g2 0) + (1 : Int32))))] := P4
  replace P4 : HP n0 T4.heap [AC k0 [.int (Int32.ofNat g0), .int (Int32.ofNat g1), .int (Int32.ofNat g2), .int (Int32.ofNat g3)], AC k1 [.int vv0, .int vv1, .int vv2, .int vv3, .int vv4], AC kA1 (List.map Value.int (own_inc (own_inc (own_inc ([0, 0, 0, 0] : List Int32) g0) g1) g2))] := P4
  refine w_iincE (z := (3 : Int32)) (l' := #[.val (.ref (n0 + 0)), .val (.ref (n0 + 2)), .val (.ref (n0 + 0)), .val (.int (4 : Int32)), .val (.int (3 : Int32)), .val (.int (Int32.ofNat g2)), .unset, .unset]) X4 hx (hb hby d2_33) rfl (by decide) rfl (pc' := 36) rfl ?_
  refine w_goto X4 hx (hb hby d2_36) (by decide) (pc' := 13) (by decide) ?_
  refine w_iload X4 hx (hb hby d2_13) rfl (pc' := 15) rfl ?_
  refine w_iloadN X4 hx (hb hby d2_15) rfl (pc' := 16) rfl ?_
  refine w_icmp_ge X4 hx (hb hby d2_16) (by decide) (pcY := 39) (by decide) (pc' := 19) rfl (fun h3 => absurd h3 (by decide)) (fun h3 => ?_)
  refine w_aloadN X4 hx (hb hby d2_19) rfl rfl (pc' := 20) rfl ?_
  refine w_iload X4 hx (hb hby d2_20) rfl (pc' := 22) rfl ?_
  refine w_iaload (i := 0) (jn := 3) (v := .int (Int32.ofNat g3)) X4 hx hZ P4 rfl hk0 (hb hby d2_22) (by decide) rfl (pc' := 23) rfl ?_
  refine w_istore (l' := #[.val (.ref (n0 + 0)), .val (.ref (n0 + 2)), .val (.ref (n0 + 0)), .val (.int (4 : Int32)), .val (.int (3 : Int32)), .val (.int (Int32.ofNat g3)), .unset, .unset]) X4 hx (hb hby d2_23) rfl (pc' := 25) rfl ?_
  refine w_aloadN X4 hx (hb hby d2_25) rfl rfl (pc' := 26) rfl ?_
  refine w_iload X4 hx (hb hby d2_26) rfl (pc' := 28) rfl ?_
  refine w_dup2 X4 hx (hb hby d2_28) rfl rfl (pc' := 29) rfl ?_
  refine w_ialoadL (i := 2) (jn := g3) X4 hx hZ P4 rfl hkA1 (hb hby d2_29) (own_oN (by omega)) (own_llt (own_sl (own_sl (own_sl (show ([0, 0, 0, 0] : List Int32).length = 4 from rfl)))) (by omega)) (pc' := 30) rfl ?_
  refine w_iconst (v := (1 : Int32)) X4 hx (hb hby d2_30) rfl (pc' := 31) rfl ?_
  refine w_iadd X4 hx (hb hby d2_31) (pc' := 32) rfl ?_
  refine w_iastoreL (i := 2) (jn := g3) X4 hx hZ N3 P4 rfl hkA1 (hb hby d2_32) (own_oN (by omega)) (own_llt (own_sl (own_sl (own_sl (show ([0, 0, 0, 0] : List Int32).length = 4 from rfl)))) (by omega)) (pc' := 33) rfl ?_
  intro T5 L4 N4 X5 P5
  replace P5 : HP n0 T5.heap [AC k0 [.int (Int32.ofNat g0), .int (Int32.ofNat g1), .int (Int32.ofNat g2), .int (Int32.ofNat g3)], AC k1 [.int vv0, .int vv1, .int vv2, .int vv3, .int vv4], AC kA1 (List.map Value.int ((own_inc (own_inc (own_inc ([0, 0, 0, 0] : List Int32) g0) g1) g2).set g3 (((own_inc (own_inc (own_inc ([0, 0, 0, 0] : List Int32) g0) g1) g2).getD g3 0) + (1 : Int32))))] := P5
  replace P5 : HP n0 T5.heap [AC k0 [.int (Int32.ofNat g0), .int (Int32.ofNat g1), .int (Int32.ofNat g2), .int (Int32.ofNat g3)], AC k1 [.int vv0, .int vv1, .int vv2, .int vv3, .int vv4], AC kA1 (List.map Value.int (own_inc (own_inc (own_inc (own_inc ([0, 0, 0, 0] : List Int32) g0) g1) g2) g3))] := P5
  refine w_iincE (z := (4 : Int32)) (l' := #[.val (.ref (n0 + 0)), .val (.ref (n0 + 2)), .val (.ref (n0 + 0)), .val (.int (4 : Int32)), .val (.int (4 : Int32)), .val (.int (Int32.ofNat g3)), .unset, .unset]) X5 hx (hb hby d2_33) rfl (by decide) rfl (pc' := 36) rfl ?_
  refine w_goto X5 hx (hb hby d2_36) (by decide) (pc' := 13) (by decide) ?_
  refine w_iload X5 hx (hb hby d2_13) rfl (pc' := 15) rfl ?_
  refine w_iloadN X5 hx (hb hby d2_15) rfl (pc' := 16) rfl ?_
  refine w_icmp_ge X5 hx (hb hby d2_16) (by decide) (pcY := 39) (by decide) (pc' := 19) rfl (fun h4 => ?_) (fun h4 => absurd h4 (by decide))
  refine w_lconst (v := (0 : Int64)) X5 hx (hb hby d2_39) rfl (pc' := 40) rfl ?_
  refine w_lstoreN (l' := #[.val (.ref (n0 + 0)), .val (.ref (n0 + 2)), .val (.long (0 : Int64)), .second, .val (.int (4 : Int32)), .val (.int (Int32.ofNat g3)), .unset, .unset]) X5 hx (hb hby d2_40) rfl (pc' := 41) rfl ?_
  refine w_aloadN X5 hx (hb hby d2_41) rfl rfl (pc' := 42) rfl ?_
  refine w_astore (l' := #[.val (.ref (n0 + 0)), .val (.ref (n0 + 2)), .val (.long (0 : Int64)), .second, .val (.ref (n0 + 2)), .val (.int (Int32.ofNat g3)), .unset, .unset]) X5 hx (hb hby d2_42) rfl rfl (pc' := 44) rfl ?_
  refine w_aload X5 hx (hb hby d2_44) rfl rfl (pc' := 46) rfl ?_
  refine w_arrlen (i := 2) X5 hx hZ P5 rfl hkA1 (hb hby d2_46) (z := (4 : Int32)) (own_len (own_sl (own_sl (own_sl (own_sl (show ([0, 0, 0, 0] : List Int32).length = 4 from rfl)))))) (pc' := 47) rfl ?_
  refine w_istore (l' := #[.val (.ref (n0 + 0)), .val (.ref (n0 + 2)), .val (.long (0 : Int64)), .second, .val (.ref (n0 + 2)), .val (.int (4 : Int32)), .unset, .unset]) X5 hx (hb hby d2_47) rfl (pc' := 49) rfl ?_
  refine w_iconst (v := (0 : Int32)) X5 hx (hb hby d2_49) rfl (pc' := 50) rfl ?_
  refine w_istore (l' := #[.val (.ref (n0 + 0)), .val (.ref (n0 + 2)), .val (.long (0 : Int64)), .second, .val (.ref (n0 + 2)), .val (.int (4 : Int32)), .val (.int (0 : Int32)), .unset]) X5 hx (hb hby d2_50) rfl (pc' := 52) rfl ?_
  refine w_iload X5 hx (hb hby d2_52) rfl (pc' := 54) rfl ?_
  refine w_iload X5 hx (hb hby d2_54) rfl (pc' := 56) rfl ?_
  refine w_icmp_ge X5 hx (hb hby d2_56) (by decide) (pcY := 88) (by decide) (pc' := 59) rfl (fun h5 => absurd h5 (by decide)) (fun h5 => ?_)
  refine w_aload X5 hx (hb hby d2_59) rfl rfl (pc' := 61) rfl ?_
  refine w_iload X5 hx (hb hby d2_61) rfl (pc' := 63) rfl ?_
  refine w_ialoadL (i := 2) (jn := 0) X5 hx hZ P5 rfl hkA1 (hb hby d2_63) (by decide) (own_llt (own_sl (own_sl (own_sl (own_sl (show ([0, 0, 0, 0] : List Int32).length = 4 from rfl))))) (by omega)) (pc' := 64) rfl ?_
  refine w_istore (l' := #[.val (.ref (n0 + 0)), .val (.ref (n0 + 2)), .val (.long (0 : Int64)), .second, .val (.ref (n0 + 2)), .val (.int (4 : Int32)), .val (.int (0 : Int32)), .val (.int ((own_inc (own_inc (own_inc (own_inc ([0, 0, 0, 0] : List Int32) g0) g1) g2) g3).getD 0 0))]) X5 hx (hb hby d2_64) rfl (pc' := 66) rfl ?_
  refine w_lloadN X5 hx (hb hby d2_66) rfl (pc' := 67) rfl ?_
  refine w_iload X5 hx (hb hby d2_67) rfl (pc' := 69) rfl ?_
  refine w_i2l X5 hx (hb hby d2_69) (pc' := 70) rfl ?_
  refine w_iload X5 hx (hb hby d2_70) rfl (pc' := 72) rfl ?_
  refine w_iconst (v := (1 : Int32)) X5 hx (hb hby d2_72) rfl (pc' := 73) rfl ?_
  refine w_isub X5 hx (hb hby d2_73) (pc' := 74) rfl ?_
  refine w_i2l X5 hx (hb hby d2_74) (pc' := 75) rfl ?_
  refine w_lmul X5 hx (hb hby d2_75) (pc' := 76) rfl ?_
  refine w_ldc2 X5 hx (hb hby d2_76) hown (mvT hZ (wd10 hw)) (pc' := 79) rfl ?_
  refine w_ldiv X5 hx (hb hby d2_79) (by decide) (pc' := 80) rfl ?_
  refine w_ladd X5 hx (hb hby d2_80) (pc' := 81) rfl ?_
  refine w_lstoreN (l' := #[.val (.ref (n0 + 0)), .val (.ref (n0 + 2)), .val (.long ((0 : Int64) + (((Int32.toInt64 ((own_inc (own_inc (own_inc (own_inc ([0, 0, 0, 0] : List Int32) g0) g1) g2) g3).getD 0 0)) * (Int32.toInt64 (((own_inc (own_inc (own_inc (own_inc ([0, 0, 0, 0] : List Int32) g0) g1) g2) g3).getD 0 0) - (1 : Int32)))) / (2 : Int64)))), .second, .val (.ref (n0 + 2)), .val (.int (4 : Int32)), .val (.int (0 : Int32)), .val (.int ((own_inc (own_inc (own_inc (own_inc ([0, 0, 0, 0] : List Int32) g0) g1) g2) g3).getD 0 0))]) X5 hx (hb hby d2_81) rfl (pc' := 82) rfl ?_
  refine w_iincE (z := (1 : Int32)) (l' := #[.val (.ref (n0 + 0)), .val (.ref (n0 + 2)), .val (.long ((0 : Int64) + (((Int32.toInt64 ((own_inc (own_inc (own_inc (own_inc ([0, 0, 0, 0] : List Int32) g0) g1) g2) g3).getD 0 0)) * (Int32.toInt64 (((own_inc (own_inc (own_inc (own_inc ([0, 0, 0, 0] : List Int32) g0) g1) g2) g3).getD 0 0) - (1 : Int32)))) / (2 : Int64)))), .second, .val (.ref (n0 + 2)), .val (.int (4 : Int32)), .val (.int (1 : Int32)), .val (.int ((own_inc (own_inc (own_inc (own_inc ([0, 0, 0, 0] : List Int32) g0) g1) g2) g3).getD 0 0))]) X5 hx (hb hby d2_82) rfl (by decide) rfl (pc' := 85) rfl ?_
  refine w_goto X5 hx (hb hby d2_85) (by decide) (pc' := 52) (by decide) ?_
  refine w_iload X5 hx (hb hby d2_52) rfl (pc' := 54) rfl ?_
  refine w_iload X5 hx (hb hby d2_54) rfl (pc' := 56) rfl ?_
  refine w_icmp_ge X5 hx (hb hby d2_56) (by decide) (pcY := 88) (by decide) (pc' := 59) rfl (fun h6 => absurd h6 (by decide)) (fun h6 => ?_)
  refine w_aload X5 hx (hb hby d2_59) rfl rfl (pc' := 61) rfl ?_
  refine w_iload X5 hx (hb hby d2_61) rfl (pc' := 63) rfl ?_
  refine w_ialoadL (i := 2) (jn := 1) X5 hx hZ P5 rfl hkA1 (hb hby d2_63) (by decide) (own_llt (own_sl (own_sl (own_sl (own_sl (show ([0, 0, 0, 0] : List Int32).length = 4 from rfl))))) (by omega)) (pc' := 64) rfl ?_
  refine w_istore (l' := #[.val (.ref (n0 + 0)), .val (.ref (n0 + 2)), .val (.long ((0 : Int64) + (((Int32.toInt64 ((own_inc (own_inc (own_inc (own_inc ([0, 0, 0, 0] : List Int32) g0) g1) g2) g3).getD 0 0)) * (Int32.toInt64 (((own_inc (own_inc (own_inc (own_inc ([0, 0, 0, 0] : List Int32) g0) g1) g2) g3).getD 0 0) - (1 : Int32)))) / (2 : Int64)))), .second, .val (.ref (n0 + 2)), .val (.int (4 : Int32)), .val (.int (1 : Int32)), .val (.int ((own_inc (own_inc (own_inc (own_inc ([0, 0, 0, 0] : List Int32) g0) g1) g2) g3).getD 1 0))]) X5 hx (hb hby d2_64) rfl (pc' := 66) rfl ?_
  refine w_lloadN X5 hx (hb hby d2_66) rfl (pc' := 67) rfl ?_
  refine w_iload X5 hx (hb hby d2_67) rfl (pc' := 69) rfl ?_
  refine w_i2l X5 hx (hb hby d2_69) (pc' := 70) rfl ?_
  refine w_iload X5 hx (hb hby d2_70) rfl (pc' := 72) rfl ?_
  refine w_iconst (v := (1 : Int32)) X5 hx (hb hby d2_72) rfl (pc' := 73) rfl ?_
  refine w_isub X5 hx (hb hby d2_73) (pc' := 74) rfl ?_
  refine w_i2l X5 hx (hb hby d2_74) (pc' := 75) rfl ?_
  refine w_lmul X5 hx (hb hby d2_75) (pc' := 76) rfl ?_
  refine w_ldc2 X5 hx (hb hby d2_76) hown (mvT hZ (wd10 hw)) (pc' := 79) rfl ?_
  refine w_ldiv X5 hx (hb hby d2_79) (by decide) (pc' := 80) rfl ?_
  refine w_ladd X5 hx (hb hby d2_80) (pc' := 81) rfl ?_
  refine w_lstoreN (l' := #[.val (.ref (n0 + 0)), .val (.ref (n0 + 2)), .val (.long (((0 : Int64) + (((Int32.toInt64 ((own_inc (own_inc (own_inc (own_inc ([0, 0, 0, 0] : List Int32) g0) g1) g2) g3).getD 0 0)) * (Int32.toInt64 (((own_inc (own_inc (own_inc (own_inc ([0, 0, 0, 0] : List Int32) g0) g1) g2) g3).getD 0 0) - (1 : Int32)))) / (2 : Int64))) + (((Int32.toInt64 ((own_inc (own_inc (own_inc (own_inc ([0, 0, 0, 0] : List Int32) g0) g1) g2) g3).getD 1 0)) * (Int32.toInt64 (((own_inc (own_inc (own_inc (own_inc ([0, 0, 0, 0] : List Int32) g0) g1) g2) g3).getD 1 0) - (1 : Int32)))) / (2 : Int64)))), .second, .val (.ref (n0 + 2)), .val (.int (4 : Int32)), .val (.int (1 : Int32)), .val (.int ((own_inc (own_inc (own_inc (own_inc ([0, 0, 0, 0] : List Int32) g0) g1) g2) g3).getD 1 0))]) X5 hx (hb hby d2_81) rfl (pc' := 82) rfl ?_
  refine w_iincE (z := (2 : Int32)) (l' := #[.val (.ref (n0 + 0)), .val (.ref (n0 + 2)), .val (.long (((0 : Int64) + (((Int32.toInt64 ((own_inc (own_inc (own_inc (own_inc ([0, 0, 0, 0] : List Int32) g0) g1) g2) g3).getD 0 0)) * (Int32.toInt64 (((own_inc (own_inc (own_inc (own_inc ([0, 0, 0, 0] : List Int32) g0) g1) g2) g3).getD 0 0) - (1 : Int32)))) / (2 : Int64))) + (((Int32.toInt64 ((own_inc (own_inc (own_inc (own_inc ([0, 0, 0, 0] : List Int32) g0) g1) g2) g3).getD 1 0)) * (Int32.toInt64 (((own_inc (own_inc (own_inc (own_inc ([0, 0, 0, 0] : List Int32) g0) g1) g2) g3).getD 1 0) - (1 : Int32)))) / (2 : Int64)))), .second, .val (.ref (n0 + 2)), .val (.int (4 : Int32)), .val (.int (2 : Int32)), .val (.int ((own_inc (own_inc (own_inc (own_inc ([0, 0, 0, 0] : List Int32) g0) g1) g2) g3).getD 1 0))]) X5 hx (hb hby d2_82) rfl (by decide) rfl (pc' := 85) rfl ?_
  refine w_goto X5 hx (hb hby d2_85) (by decide) (pc' := 52) (by decide) ?_
  refine w_iload X5 hx (hb hby d2_52) rfl (pc' := 54) rfl ?_
  refine w_iload X5 hx (hb hby d2_54) rfl (pc' := 56) rfl ?_
  refine w_icmp_ge X5 hx (hb hby d2_56) (by decide) (pcY := 88) (by decide) (pc' := 59) rfl (fun h7 => absurd h7 (by decide)) (fun h7 => ?_)
  refine w_aload X5 hx (hb hby d2_59) rfl rfl (pc' := 61) rfl ?_
  refine w_iload X5 hx (hb hby d2_61) rfl (pc' := 63) rfl ?_
  refine w_ialoadL (i := 2) (jn := 2) X5 hx hZ P5 rfl hkA1 (hb hby d2_63) (by decide) (own_llt (own_sl (own_sl (own_sl (own_sl (show ([0, 0, 0, 0] : List Int32).length = 4 from rfl))))) (by omega)) (pc' := 64) rfl ?_
  refine w_istore (l' := #[.val (.ref (n0 + 0)), .val (.ref (n0 + 2)), .val (.long (((0 : Int64) + (((Int32.toInt64 ((own_inc (own_inc (own_inc (own_inc ([0, 0, 0, 0] : List Int32) g0) g1) g2) g3).getD 0 0)) * (Int32.toInt64 (((own_inc (own_inc (own_inc (own_inc ([0, 0, 0, 0] : List Int32) g0) g1) g2) g3).getD 0 0) - (1 : Int32)))) / (2 : Int64))) + (((Int32.toInt64 ((own_inc (own_inc (own_inc (own_inc ([0, 0, 0, 0] : List Int32) g0) g1) g2) g3).getD 1 0)) * (Int32.toInt64 (((own_inc (own_inc (own_inc (own_inc ([0, 0, 0, 0] : List Int32) g0) g1) g2) g3).getD 1 0) - (1 : Int32)))) / (2 : Int64)))), .second, .val (.ref (n0 + 2)), .val (.int (4 : Int32)), .val (.int (2 : Int32)), .val (.int ((own_inc (own_inc (own_inc (own_inc ([0, 0, 0, 0] : List Int32) g0) g1) g2) g3).getD 2 0))]) X5 hx (hb hby d2_64) rfl (pc' := 66) rfl ?_
  refine w_lloadN X5 hx (hb hby d2_66) rfl (pc' := 67) rfl ?_
  refine w_iload X5 hx (hb hby d2_67) rfl (pc' := 69) rfl ?_
  refine w_i2l X5 hx (hb hby d2_69) (pc' := 70) rfl ?_
  refine w_iload X5 hx (hb hby d2_70) rfl (pc' := 72) rfl ?_
  refine w_iconst (v := (1 : Int32)) X5 hx (hb hby d2_72) rfl (pc' := 73) rfl ?_
  refine w_isub X5 hx (hb hby d2_73) (pc' := 74) rfl ?_
  refine w_i2l X5 hx (hb hby d2_74) (pc' := 75) rfl ?_
  refine w_lmul X5 hx (hb hby d2_75) (pc' := 76) rfl ?_
  refine w_ldc2 X5 hx (hb hby d2_76) hown (mvT hZ (wd10 hw)) (pc' := 79) rfl ?_
  refine w_ldiv X5 hx (hb hby d2_79) (by decide) (pc' := 80) rfl ?_
  refine w_ladd X5 hx (hb hby d2_80) (pc' := 81) rfl ?_
  refine w_lstoreN (l' := #[.val (.ref (n0 + 0)), .val (.ref (n0 + 2)), .val (.long ((((0 : Int64) + (((Int32.toInt64 ((own_inc (own_inc (own_inc (own_inc ([0, 0, 0, 0] : List Int32) g0) g1) g2) g3).getD 0 0)) * (Int32.toInt64 (((own_inc (own_inc (own_inc (own_inc ([0, 0, 0, 0] : List Int32) g0) g1) g2) g3).getD 0 0) - (1 : Int32)))) / (2 : Int64))) + (((Int32.toInt64 ((own_inc (own_inc (own_inc (own_inc ([0, 0, 0, 0] : List Int32) g0) g1) g2) g3).getD 1 0)) * (Int32.toInt64 (((own_inc (own_inc (own_inc (own_inc ([0, 0, 0, 0] : List Int32) g0) g1) g2) g3).getD 1 0) - (1 : Int32)))) / (2 : Int64))) + (((Int32.toInt64 ((own_inc (own_inc (own_inc (own_inc ([0, 0, 0, 0] : List Int32) g0) g1) g2) g3).getD 2 0)) * (Int32.toInt64 (((own_inc (own_inc (own_inc (own_inc ([0, 0, 0, 0] : List Int32) g0) g1) g2) g3).getD 2 0) - (1 : Int32)))) / (2 : Int64)))), .second, .val (.ref (n0 + 2)), .val (.int (4 : Int32)), .val (.int (2 : Int32)), .val (.int ((own_inc (own_inc (own_inc (own_inc ([0, 0, 0, 0] : List Int32) g0) g1) g2) g3).getD 2 0))]) X5 hx (hb hby d2_81) rfl (pc' := 82) rfl ?_
  refine w_iincE (z := (3 : Int32)) (l' := #[.val (.ref (n0 + 0)), .val (.ref (n0 + 2)), .val (.long ((((0 : Int64) + (((Int32.toInt64 ((own_inc (own_inc (own_inc (own_inc ([0, 0, 0, 0] : List Int32) g0) g1) g2) g3).getD 0 0)) * (Int32.toInt64 (((own_inc (own_inc (own_inc (own_inc ([0, 0, 0, 0] : List Int32) g0) g1) g2) g3).getD 0 0) - (1 : Int32)))) / (2 : Int64))) + (((Int32.toInt64 ((own_inc (own_inc (own_inc (own_inc ([0, 0, 0, 0] : List Int32) g0) g1) g2) g3).getD 1 0)) * (Int32.toInt64 (((own_inc (own_inc (own_inc (own_inc ([0, 0, 0, 0] : List Int32) g0) g1) g2) g3).getD 1 0) - (1 : Int32)))) / (2 : Int64))) + (((Int32.toInt64 ((own_inc (own_inc (own_inc (own_inc ([0, 0, 0, 0] : List Int32) g0) g1) g2) g3).getD 2 0)) * (Int32.toInt64 (((own_inc (own_inc (own_inc (own_inc ([0, 0, 0, 0] : List Int32) g0) g1) g2) g3).getD 2 0) - (1 : Int32)))) / (2 : Int64)))), .second, .val (.ref (n0 + 2)), .val (.int (4 : Int32)), .val (.int (3 : Int32)), .val (.int ((own_inc (own_inc (own_inc (own_inc ([0, 0, 0, 0] : List Int32) g0) g1) g2) g3).getD 2 0))]) X5 hx (hb hby d2_82) rfl (by decide) rfl (pc' := 85) rfl ?_
  refine w_goto X5 hx (hb hby d2_85) (by decide) (pc' := 52) (by decide) ?_
  refine w_iload X5 hx (hb hby d2_52) rfl (pc' := 54) rfl ?_
  refine w_iload X5 hx (hb hby d2_54) rfl (pc' := 56) rfl ?_
  refine w_icmp_ge X5 hx (hb hby d2_56) (by decide) (pcY := 88) (by decide) (pc' := 59) rfl (fun h8 => absurd h8 (by decide)) (fun h8 => ?_)
  refine w_aload X5 hx (hb hby d2_59) rfl rfl (pc' := 61) rfl ?_
  refine w_iload X5 hx (hb hby d2_61) rfl (pc' := 63) rfl ?_
  refine w_ialoadL (i := 2) (jn := 3) X5 hx hZ P5 rfl hkA1 (hb hby d2_63) (by decide) (own_llt (own_sl (own_sl (own_sl (own_sl (show ([0, 0, 0, 0] : List Int32).length = 4 from rfl))))) (by omega)) (pc' := 64) rfl ?_
  refine w_istore (l' := #[.val (.ref (n0 + 0)), .val (.ref (n0 + 2)), .val (.long ((((0 : Int64) + (((Int32.toInt64 ((own_inc (own_inc (own_inc (own_inc ([0, 0, 0, 0] : List Int32) g0) g1) g2) g3).getD 0 0)) * (Int32.toInt64 (((own_inc (own_inc (own_inc (own_inc ([0, 0, 0, 0] : List Int32) g0) g1) g2) g3).getD 0 0) - (1 : Int32)))) / (2 : Int64))) + (((Int32.toInt64 ((own_inc (own_inc (own_inc (own_inc ([0, 0, 0, 0] : List Int32) g0) g1) g2) g3).getD 1 0)) * (Int32.toInt64 (((own_inc (own_inc (own_inc (own_inc ([0, 0, 0, 0] : List Int32) g0) g1) g2) g3).getD 1 0) - (1 : Int32)))) / (2 : Int64))) + (((Int32.toInt64 ((own_inc (own_inc (own_inc (own_inc ([0, 0, 0, 0] : List Int32) g0) g1) g2) g3).getD 2 0)) * (Int32.toInt64 (((own_inc (own_inc (own_inc (own_inc ([0, 0, 0, 0] : List Int32) g0) g1) g2) g3).getD 2 0) - (1 : Int32)))) / (2 : Int64)))), .second, .val (.ref (n0 + 2)), .val (.int (4 : Int32)), .val (.int (3 : Int32)), .val (.int ((own_inc (own_inc (own_inc (own_inc ([0, 0, 0, 0] : List Int32) g0) g1) g2) g3).getD 3 0))]) X5 hx (hb hby d2_64) rfl (pc' := 66) rfl ?_
  refine w_lloadN X5 hx (hb hby d2_66) rfl (pc' := 67) rfl ?_
  refine w_iload X5 hx (hb hby d2_67) rfl (pc' := 69) rfl ?_
  refine w_i2l X5 hx (hb hby d2_69) (pc' := 70) rfl ?_
  refine w_iload X5 hx (hb hby d2_70) rfl (pc' := 72) rfl ?_
  refine w_iconst (v := (1 : Int32)) X5 hx (hb hby d2_72) rfl (pc' := 73) rfl ?_
  refine w_isub X5 hx (hb hby d2_73) (pc' := 74) rfl ?_
  refine w_i2l X5 hx (hb hby d2_74) (pc' := 75) rfl ?_
  refine w_lmul X5 hx (hb hby d2_75) (pc' := 76) rfl ?_
  refine w_ldc2 X5 hx (hb hby d2_76) hown (mvT hZ (wd10 hw)) (pc' := 79) rfl ?_
  refine w_ldiv X5 hx (hb hby d2_79) (by decide) (pc' := 80) rfl ?_
  refine w_ladd X5 hx (hb hby d2_80) (pc' := 81) rfl ?_
  refine w_lstoreN (l' := #[.val (.ref (n0 + 0)), .val (.ref (n0 + 2)), .val (.long (((((0 : Int64) + (((Int32.toInt64 ((own_inc (own_inc (own_inc (own_inc ([0, 0, 0, 0] : List Int32) g0) g1) g2) g3).getD 0 0)) * (Int32.toInt64 (((own_inc (own_inc (own_inc (own_inc ([0, 0, 0, 0] : List Int32) g0) g1) g2) g3).getD 0 0) - (1 : Int32)))) / (2 : Int64))) + (((Int32.toInt64 ((own_inc (own_inc (own_inc (own_inc ([0, 0, 0, 0] : List Int32) g0) g1) g2) g3).getD 1 0)) * (Int32.toInt64 (((own_inc (own_inc (own_inc (own_inc ([0, 0, 0, 0] : List Int32) g0) g1) g2) g3).getD 1 0) - (1 : Int32)))) / (2 : Int64))) + (((Int32.toInt64 ((own_inc (own_inc (own_inc (own_inc ([0, 0, 0, 0] : List Int32) g0) g1) g2) g3).getD 2 0)) * (Int32.toInt64 (((own_inc (own_inc (own_inc (own_inc ([0, 0, 0, 0] : List Int32) g0) g1) g2) g3).getD 2 0) - (1 : Int32)))) / (2 : Int64))) + (((Int32.toInt64 ((own_inc (own_inc (own_inc (own_inc ([0, 0, 0, 0] : List Int32) g0) g1) g2) g3).getD 3 0)) * (Int32.toInt64 (((own_inc (own_inc (own_inc (own_inc ([0, 0, 0, 0] : List Int32) g0) g1) g2) g3).getD 3 0) - (1 : Int32)))) / (2 : Int64)))), .second, .val (.ref (n0 + 2)), .val (.int (4 : Int32)), .val (.int (3 : Int32)), .val (.int ((own_inc (own_inc (own_inc (own_inc ([0, 0, 0, 0] : List Int32) g0) g1) g2) g3).getD 3 0))]) X5 hx (hb hby d2_81) rfl (pc' := 82) rfl ?_
  refine w_iincE (z := (4 : Int32)) (l' := #[.val (.ref (n0 + 0)), .val (.ref (n0 + 2)), .val (.long (((((0 : Int64) + (((Int32.toInt64 ((own_inc (own_inc (own_inc (own_inc ([0, 0, 0, 0] : List Int32) g0) g1) g2) g3).getD 0 0)) * (Int32.toInt64 (((own_inc (own_inc (own_inc (own_inc ([0, 0, 0, 0] : List Int32) g0) g1) g2) g3).getD 0 0) - (1 : Int32)))) / (2 : Int64))) + (((Int32.toInt64 ((own_inc (own_inc (own_inc (own_inc ([0, 0, 0, 0] : List Int32) g0) g1) g2) g3).getD 1 0)) * (Int32.toInt64 (((own_inc (own_inc (own_inc (own_inc ([0, 0, 0, 0] : List Int32) g0) g1) g2) g3).getD 1 0) - (1 : Int32)))) / (2 : Int64))) + (((Int32.toInt64 ((own_inc (own_inc (own_inc (own_inc ([0, 0, 0, 0] : List Int32) g0) g1) g2) g3).getD 2 0)) * (Int32.toInt64 (((own_inc (own_inc (own_inc (own_inc ([0, 0, 0, 0] : List Int32) g0) g1) g2) g3).getD 2 0) - (1 : Int32)))) / (2 : Int64))) + (((Int32.toInt64 ((own_inc (own_inc (own_inc (own_inc ([0, 0, 0, 0] : List Int32) g0) g1) g2) g3).getD 3 0)) * (Int32.toInt64 (((own_inc (own_inc (own_inc (own_inc ([0, 0, 0, 0] : List Int32) g0) g1) g2) g3).getD 3 0) - (1 : Int32)))) / (2 : Int64)))), .second, .val (.ref (n0 + 2)), .val (.int (4 : Int32)), .val (.int (4 : Int32)), .val (.int ((own_inc (own_inc (own_inc (own_inc ([0, 0, 0, 0] : List Int32) g0) g1) g2) g3).getD 3 0))]) X5 hx (hb hby d2_82) rfl (by decide) rfl (pc' := 85) rfl ?_
  refine w_goto X5 hx (hb hby d2_85) (by decide) (pc' := 52) (by decide) ?_
  refine w_iload X5 hx (hb hby d2_52) rfl (pc' := 54) rfl ?_
  refine w_iload X5 hx (hb hby d2_54) rfl (pc' := 56) rfl ?_
  refine w_icmp_ge X5 hx (hb hby d2_56) (by decide) (pcY := 88) (by decide) (pc' := 59) rfl (fun h9 => ?_) (fun h9 => absurd h9 (by decide))
  refine w_lloadN X5 hx (hb hby d2_88) rfl (pc' := 89) rfl ?_
  exact w_ret_l X5 hx hret hlk (hb hby d2_89) (by decide) (by decide) ⟨rfl, N4⟩
theorem own_fin4 : ∀ g0, g0 < 4 → ∀ g1, g1 < 4 → ∀ g2, g2 < 4 → ∀ g3, g3 < 4 → ∀ g4, g4 < 4 → own_pa4 g0 g1 g2 g3 = ((((((((((sp_sm4_01 (Int32.ofNat g0) (Int32.ofNat g1) (Int32.ofNat g2) (Int32.ofNat g3) (Int32.ofNat g0) (Int32.ofNat g1) (Int32.ofNat g2) (Int32.ofNat g3) (Int32.ofNat g4)) + (sp_sm4_02 (Int32.ofNat g0) (Int32.ofNat g1) (Int32.ofNat g2) (Int32.ofNat g3) (Int32.ofNat g0) (Int32.ofNat g1) (Int32.ofNat g2) (Int32.ofNat g3) (Int32.ofNat g4))) + (sp_sm4_03 (Int32.ofNat g0) (Int32.ofNat g1) (Int32.ofNat g2) (Int32.ofNat g3) (Int32.ofNat g0) (Int32.ofNat g1) (Int32.ofNat g2) (Int32.ofNat g3) (Int32.ofNat g4))) + (sp_sm4_04 (Int32.ofNat g0) (Int32.ofNat g1) (Int32.ofNat g2) (Int32.ofNat g3) (Int32.ofNat g0) (Int32.ofNat g1) (Int32.ofNat g2) (Int32.ofNat g3) (Int32.ofNat g4))) + (sp_sm4_12 (Int32.ofNat g0) (Int32.ofNat g1) (Int32.ofNat g2) (Int32.ofNat g3) (Int32.ofNat g0) (Int32.ofNat g1) (Int32.ofNat g2) (Int32.ofNat g3) (Int32.ofNat g4))) + (sp_sm4_13 (Int32.ofNat g0) (Int32.ofNat g1) (Int32.ofNat g2) (Int32.ofNat g3) (Int32.ofNat g0) (Int32.ofNat g1) (Int32.ofNat g2) (Int32.ofNat g3) (Int32.ofNat g4))) + (sp_sm4_14 (Int32.ofNat g0) (Int32.ofNat g1) (Int32.ofNat g2) (Int32.ofNat g3) (Int32.ofNat g0) (Int32.ofNat g1) (Int32.ofNat g2) (Int32.ofNat g3) (Int32.ofNat g4))) + (sp_sm4_23 (Int32.ofNat g0) (Int32.ofNat g1) (Int32.ofNat g2) (Int32.ofNat g3) (Int32.ofNat g0) (Int32.ofNat g1) (Int32.ofNat g2) (Int32.ofNat g3) (Int32.ofNat g4))) + (sp_sm4_24 (Int32.ofNat g0) (Int32.ofNat g1) (Int32.ofNat g2) (Int32.ofNat g3) (Int32.ofNat g0) (Int32.ofNat g1) (Int32.ofNat g2) (Int32.ofNat g3) (Int32.ofNat g4))) + (sp_sm4_34 (Int32.ofNat g0) (Int32.ofNat g1) (Int32.ofNat g2) (Int32.ofNat g3) (Int32.ofNat g0) (Int32.ofNat g1) (Int32.ofNat g2) (Int32.ofNat g3) (Int32.ofNat g4))) := by decide +kernel
theorem ef_sm5_01 (m : MethodId) (n0 : Nat) (gg0 : Int32) (gg1 : Int32) (gg2 : Int32) (gg3 : Int32) (gg4 : Int32) (vv0 : Int32) (vv1 : Int32) (vv2 : Int32) (vv3 : Int32) (vv4 : Int32) : entryFrame m #[.ref (n0 + 1), .int (5 : Int32), .int (0 : Int32), .int (1 : Int32)] 4 = mkF m 0 #[.val (.ref (n0 + 1)), .val (.int (5 : Int32)), .val (.int (0 : Int32)), .val (.int (1 : Int32))] [] := by first | (simp [entryFrame, mkF, argsToLocals, Value.category]; done) | rfl
def sp_sm5_01 (gg0 : Int32) (gg1 : Int32) (gg2 : Int32) (gg3 : Int32) (gg4 : Int32) (vv0 : Int32) (vv1 : Int32) (vv2 : Int32) (vv3 : Int32) (vv4 : Int32) : Int64 := (if vv0 = vv1 then (1 : Int64) else (0 : Int64))
set_option maxRecDepth 65536 in
set_option maxHeartbeats 40000000 in
theorem rm_sm5_01 (l : Launch) (Z : State) (a0 : Array Value) (hw : ∀ d ∈ tables_1, d.before a0 Z = true) (ws : List Jvm.Cond) (n0 : Nat) (gg0 : Int32) (gg1 : Int32) (gg2 : Int32) (gg3 : Int32) (gg4 : Int32) (vv0 : Int32) (vv1 : Int32) (vv2 : Int32) (vv3 : Int32) (vv4 : Int32) (k0 : ClassId) (hk0 : IsA Z k0 .int) (k1 : ClassId) (hk1 : IsA Z k1 .int) (h0 : Heap) (P0 : HP n0 h0 [AC k0 [.int gg0, .int gg1, .int gg2, .int gg3, .int gg4], AC k1 [.int vv0, .int vv1, .int vv2, .int vv3, .int vv4]]) :
    MetFree l (⟨"com/example/protomata/protomata/PartitionPairsAlikePinLaw", "same", "([IIII)J"⟩ : MethodName) (head1 (Jvm.Cond.code (⟨"com/example/protomata/protomata/PartitionPairsAlikePinLaw", "same", "([IIII)J"⟩ : MethodName) method_3_code 4 (some .long) :: ws) ({ frames := 0, cells := 0, slots := 0, locals := 0 } : Room)) (fun aa U => aa = #[.ref (n0 + 1), .int (5 : Int32), .int (0 : Int32), .int (1 : Int32)] ∧ Z.Warmed39 U.vm ∧ U.heap = h0) (fun _ _ _ _ _ => True) (fun _ U o U' => ∃ v L, o = .returned v ∧ PureQ (.long (sp_sm5_01 gg0 gg1 gg2 gg3 gg4 vv0 vv1 vv2 vv3 vv4)) h0 v U'.heap L ∧ FrameEnd U o U' L ({ frames := 0, cells := 0, slots := 0, locals := 0 } : Room).cells ({ frames := 0, cells := 0, slots := 0, locals := 0 } : Room).slots) := by
  refine own_body pn1 ?_
  intro p e s m below meth c T0 hx hby hml hret hlk hown hnm hZ X0 e0
  subst e0
  refine own_cast (ef_sm5_01 m n0 gg0 gg1 gg2 gg3 gg4 vv0 vv1 vv2 vv3 vv4) ?_
  refine w_iloadN X0 hx (hb hby d1_0) rfl (pc' := 1) rfl ?_
  refine w_iloadN X0 hx (hb hby d1_1) rfl (pc' := 2) rfl ?_
  refine w_icmp_ge X0 hx (hb hby d1_2) (by decide) (pcY := 16) (by decide) (pc' := 5) rfl (fun h0 => absurd h0 (by decide)) (fun h0 => ?_)
  refine w_aloadN X0 hx (hb hby d1_5) rfl rfl (pc' := 6) rfl ?_
  refine w_iloadN X0 hx (hb hby d1_6) rfl (pc' := 7) rfl ?_
  refine w_iaload (i := 1) (jn := 0) (v := .int vv0) X0 hx hZ P0 rfl hk1 (hb hby d1_7) (by decide) rfl (pc' := 8) rfl ?_
  refine w_aloadN X0 hx (hb hby d1_8) rfl rfl (pc' := 9) rfl ?_
  refine w_iloadN X0 hx (hb hby d1_9) rfl (pc' := 10) rfl ?_
  refine w_iaload (i := 1) (jn := 1) (v := .int vv1) X0 hx hZ P0 rfl hk1 (hb hby d1_10) (by decide) rfl (pc' := 11) rfl ?_
  refine w_icmp_ne X0 hx (hb hby d1_11) (by decide) (pcY := 16) (by decide) (pc' := 14) rfl (fun h1 => ?_) (fun h1 => ?_)
  · refine w_lconst (v := (0 : Int64)) X0 hx (hb hby d1_16) rfl (pc' := 17) rfl ?_
    exact w_ret_l X0 hx hret hlk (hb hby d1_17) (by decide) (by decide) ⟨congrArg (fun q => some (Value.long q)) (show (0 : Int64) = sp_sm5_01 gg0 gg1 gg2 gg3 gg4 vv0 vv1 vv2 vv3 vv4 from by rw [sp_sm5_01, if_neg h1]), rfl, rfl⟩
  · refine w_lconst (v := (1 : Int64)) X0 hx (hb hby d1_14) rfl (pc' := 15) rfl ?_
    exact w_ret_l X0 hx hret hlk (hb hby d1_15) (by decide) (by decide) ⟨congrArg (fun q => some (Value.long q)) (show (1 : Int64) = sp_sm5_01 gg0 gg1 gg2 gg3 gg4 vv0 vv1 vv2 vv3 vv4 from by rw [sp_sm5_01, if_pos h1]), rfl, rfl⟩
theorem ef_sm5_02 (m : MethodId) (n0 : Nat) (gg0 : Int32) (gg1 : Int32) (gg2 : Int32) (gg3 : Int32) (gg4 : Int32) (vv0 : Int32) (vv1 : Int32) (vv2 : Int32) (vv3 : Int32) (vv4 : Int32) : entryFrame m #[.ref (n0 + 1), .int (5 : Int32), .int (0 : Int32), .int (2 : Int32)] 4 = mkF m 0 #[.val (.ref (n0 + 1)), .val (.int (5 : Int32)), .val (.int (0 : Int32)), .val (.int (2 : Int32))] [] := by first | (simp [entryFrame, mkF, argsToLocals, Value.category]; done) | rfl
def sp_sm5_02 (gg0 : Int32) (gg1 : Int32) (gg2 : Int32) (gg3 : Int32) (gg4 : Int32) (vv0 : Int32) (vv1 : Int32) (vv2 : Int32) (vv3 : Int32) (vv4 : Int32) : Int64 := (if vv0 = vv2 then (1 : Int64) else (0 : Int64))
set_option maxRecDepth 65536 in
set_option maxHeartbeats 40000000 in
theorem rm_sm5_02 (l : Launch) (Z : State) (a0 : Array Value) (hw : ∀ d ∈ tables_1, d.before a0 Z = true) (ws : List Jvm.Cond) (n0 : Nat) (gg0 : Int32) (gg1 : Int32) (gg2 : Int32) (gg3 : Int32) (gg4 : Int32) (vv0 : Int32) (vv1 : Int32) (vv2 : Int32) (vv3 : Int32) (vv4 : Int32) (k0 : ClassId) (hk0 : IsA Z k0 .int) (k1 : ClassId) (hk1 : IsA Z k1 .int) (h0 : Heap) (P0 : HP n0 h0 [AC k0 [.int gg0, .int gg1, .int gg2, .int gg3, .int gg4], AC k1 [.int vv0, .int vv1, .int vv2, .int vv3, .int vv4]]) :
    MetFree l (⟨"com/example/protomata/protomata/PartitionPairsAlikePinLaw", "same", "([IIII)J"⟩ : MethodName) (head1 (Jvm.Cond.code (⟨"com/example/protomata/protomata/PartitionPairsAlikePinLaw", "same", "([IIII)J"⟩ : MethodName) method_3_code 4 (some .long) :: ws) ({ frames := 0, cells := 0, slots := 0, locals := 0 } : Room)) (fun aa U => aa = #[.ref (n0 + 1), .int (5 : Int32), .int (0 : Int32), .int (2 : Int32)] ∧ Z.Warmed39 U.vm ∧ U.heap = h0) (fun _ _ _ _ _ => True) (fun _ U o U' => ∃ v L, o = .returned v ∧ PureQ (.long (sp_sm5_02 gg0 gg1 gg2 gg3 gg4 vv0 vv1 vv2 vv3 vv4)) h0 v U'.heap L ∧ FrameEnd U o U' L ({ frames := 0, cells := 0, slots := 0, locals := 0 } : Room).cells ({ frames := 0, cells := 0, slots := 0, locals := 0 } : Room).slots) := by
  refine own_body pn1 ?_
  intro p e s m below meth c T0 hx hby hml hret hlk hown hnm hZ X0 e0
  subst e0
  refine own_cast (ef_sm5_02 m n0 gg0 gg1 gg2 gg3 gg4 vv0 vv1 vv2 vv3 vv4) ?_
  refine w_iloadN X0 hx (hb hby d1_0) rfl (pc' := 1) rfl ?_
  refine w_iloadN X0 hx (hb hby d1_1) rfl (pc' := 2) rfl ?_
  refine w_icmp_ge X0 hx (hb hby d1_2) (by decide) (pcY := 16) (by decide) (pc' := 5) rfl (fun h0 => absurd h0 (by decide)) (fun h0 => ?_)
  refine w_aloadN X0 hx (hb hby d1_5) rfl rfl (pc' := 6) rfl ?_
  refine w_iloadN X0 hx (hb hby d1_6) rfl (pc' := 7) rfl ?_
  refine w_iaload (i := 1) (jn := 0) (v := .int vv0) X0 hx hZ P0 rfl hk1 (hb hby d1_7) (by decide) rfl (pc' := 8) rfl ?_
  refine w_aloadN X0 hx (hb hby d1_8) rfl rfl (pc' := 9) rfl ?_
  refine w_iloadN X0 hx (hb hby d1_9) rfl (pc' := 10) rfl ?_
  refine w_iaload (i := 1) (jn := 2) (v := .int vv2) X0 hx hZ P0 rfl hk1 (hb hby d1_10) (by decide) rfl (pc' := 11) rfl ?_
  refine w_icmp_ne X0 hx (hb hby d1_11) (by decide) (pcY := 16) (by decide) (pc' := 14) rfl (fun h1 => ?_) (fun h1 => ?_)
  · refine w_lconst (v := (0 : Int64)) X0 hx (hb hby d1_16) rfl (pc' := 17) rfl ?_
    exact w_ret_l X0 hx hret hlk (hb hby d1_17) (by decide) (by decide) ⟨congrArg (fun q => some (Value.long q)) (show (0 : Int64) = sp_sm5_02 gg0 gg1 gg2 gg3 gg4 vv0 vv1 vv2 vv3 vv4 from by rw [sp_sm5_02, if_neg h1]), rfl, rfl⟩
  · refine w_lconst (v := (1 : Int64)) X0 hx (hb hby d1_14) rfl (pc' := 15) rfl ?_
    exact w_ret_l X0 hx hret hlk (hb hby d1_15) (by decide) (by decide) ⟨congrArg (fun q => some (Value.long q)) (show (1 : Int64) = sp_sm5_02 gg0 gg1 gg2 gg3 gg4 vv0 vv1 vv2 vv3 vv4 from by rw [sp_sm5_02, if_pos h1]), rfl, rfl⟩
theorem ef_sm5_03 (m : MethodId) (n0 : Nat) (gg0 : Int32) (gg1 : Int32) (gg2 : Int32) (gg3 : Int32) (gg4 : Int32) (vv0 : Int32) (vv1 : Int32) (vv2 : Int32) (vv3 : Int32) (vv4 : Int32) : entryFrame m #[.ref (n0 + 1), .int (5 : Int32), .int (0 : Int32), .int (3 : Int32)] 4 = mkF m 0 #[.val (.ref (n0 + 1)), .val (.int (5 : Int32)), .val (.int (0 : Int32)), .val (.int (3 : Int32))] [] := by first | (simp [entryFrame, mkF, argsToLocals, Value.category]; done) | rfl
def sp_sm5_03 (gg0 : Int32) (gg1 : Int32) (gg2 : Int32) (gg3 : Int32) (gg4 : Int32) (vv0 : Int32) (vv1 : Int32) (vv2 : Int32) (vv3 : Int32) (vv4 : Int32) : Int64 := (if vv0 = vv3 then (1 : Int64) else (0 : Int64))
set_option maxRecDepth 65536 in
set_option maxHeartbeats 40000000 in
theorem rm_sm5_03 (l : Launch) (Z : State) (a0 : Array Value) (hw : ∀ d ∈ tables_1, d.before a0 Z = true) (ws : List Jvm.Cond) (n0 : Nat) (gg0 : Int32) (gg1 : Int32) (gg2 : Int32) (gg3 : Int32) (gg4 : Int32) (vv0 : Int32) (vv1 : Int32) (vv2 : Int32) (vv3 : Int32) (vv4 : Int32) (k0 : ClassId) (hk0 : IsA Z k0 .int) (k1 : ClassId) (hk1 : IsA Z k1 .int) (h0 : Heap) (P0 : HP n0 h0 [AC k0 [.int gg0, .int gg1, .int gg2, .int gg3, .int gg4], AC k1 [.int vv0, .int vv1, .int vv2, .int vv3, .int vv4]]) :
    MetFree l (⟨"com/example/protomata/protomata/PartitionPairsAlikePinLaw", "same", "([IIII)J"⟩ : MethodName) (head1 (Jvm.Cond.code (⟨"com/example/protomata/protomata/PartitionPairsAlikePinLaw", "same", "([IIII)J"⟩ : MethodName) method_3_code 4 (some .long) :: ws) ({ frames := 0, cells := 0, slots := 0, locals := 0 } : Room)) (fun aa U => aa = #[.ref (n0 + 1), .int (5 : Int32), .int (0 : Int32), .int (3 : Int32)] ∧ Z.Warmed39 U.vm ∧ U.heap = h0) (fun _ _ _ _ _ => True) (fun _ U o U' => ∃ v L, o = .returned v ∧ PureQ (.long (sp_sm5_03 gg0 gg1 gg2 gg3 gg4 vv0 vv1 vv2 vv3 vv4)) h0 v U'.heap L ∧ FrameEnd U o U' L ({ frames := 0, cells := 0, slots := 0, locals := 0 } : Room).cells ({ frames := 0, cells := 0, slots := 0, locals := 0 } : Room).slots) := by
  refine own_body pn1 ?_
  intro p e s m below meth c T0 hx hby hml hret hlk hown hnm hZ X0 e0
  subst e0
  refine own_cast (ef_sm5_03 m n0 gg0 gg1 gg2 gg3 gg4 vv0 vv1 vv2 vv3 vv4) ?_
  refine w_iloadN X0 hx (hb hby d1_0) rfl (pc' := 1) rfl ?_
  refine w_iloadN X0 hx (hb hby d1_1) rfl (pc' := 2) rfl ?_
  refine w_icmp_ge X0 hx (hb hby d1_2) (by decide) (pcY := 16) (by decide) (pc' := 5) rfl (fun h0 => absurd h0 (by decide)) (fun h0 => ?_)
  refine w_aloadN X0 hx (hb hby d1_5) rfl rfl (pc' := 6) rfl ?_
  refine w_iloadN X0 hx (hb hby d1_6) rfl (pc' := 7) rfl ?_
  refine w_iaload (i := 1) (jn := 0) (v := .int vv0) X0 hx hZ P0 rfl hk1 (hb hby d1_7) (by decide) rfl (pc' := 8) rfl ?_
  refine w_aloadN X0 hx (hb hby d1_8) rfl rfl (pc' := 9) rfl ?_
  refine w_iloadN X0 hx (hb hby d1_9) rfl (pc' := 10) rfl ?_
  refine w_iaload (i := 1) (jn := 3) (v := .int vv3) X0 hx hZ P0 rfl hk1 (hb hby d1_10) (by decide) rfl (pc' := 11) rfl ?_
  refine w_icmp_ne X0 hx (hb hby d1_11) (by decide) (pcY := 16) (by decide) (pc' := 14) rfl (fun h1 => ?_) (fun h1 => ?_)
  · refine w_lconst (v := (0 : Int64)) X0 hx (hb hby d1_16) rfl (pc' := 17) rfl ?_
    exact w_ret_l X0 hx hret hlk (hb hby d1_17) (by decide) (by decide) ⟨congrArg (fun q => some (Value.long q)) (show (0 : Int64) = sp_sm5_03 gg0 gg1 gg2 gg3 gg4 vv0 vv1 vv2 vv3 vv4 from by rw [sp_sm5_03, if_neg h1]), rfl, rfl⟩
  · refine w_lconst (v := (1 : Int64)) X0 hx (hb hby d1_14) rfl (pc' := 15) rfl ?_
    exact w_ret_l X0 hx hret hlk (hb hby d1_15) (by decide) (by decide) ⟨congrArg (fun q => some (Value.long q)) (show (1 : Int64) = sp_sm5_03 gg0 gg1 gg2 gg3 gg4 vv0 vv1 vv2 vv3 vv4 from by rw [sp_sm5_03, if_pos h1]), rfl, rfl⟩
theorem ef_sm5_04 (m : MethodId) (n0 : Nat) (gg0 : Int32) (gg1 : Int32) (gg2 : Int32) (gg3 : Int32) (gg4 : Int32) (vv0 : Int32) (vv1 : Int32) (vv2 : Int32) (vv3 : Int32) (vv4 : Int32) : entryFrame m #[.ref (n0 + 1), .int (5 : Int32), .int (0 : Int32), .int (4 : Int32)] 4 = mkF m 0 #[.val (.ref (n0 + 1)), .val (.int (5 : Int32)), .val (.int (0 : Int32)), .val (.int (4 : Int32))] [] := by first | (simp [entryFrame, mkF, argsToLocals, Value.category]; done) | rfl
def sp_sm5_04 (gg0 : Int32) (gg1 : Int32) (gg2 : Int32) (gg3 : Int32) (gg4 : Int32) (vv0 : Int32) (vv1 : Int32) (vv2 : Int32) (vv3 : Int32) (vv4 : Int32) : Int64 := (if vv0 = vv4 then (1 : Int64) else (0 : Int64))
set_option maxRecDepth 65536 in
set_option maxHeartbeats 40000000 in
theorem rm_sm5_04 (l : Launch) (Z : State) (a0 : Array Value) (hw : ∀ d ∈ tables_1, d.before a0 Z = true) (ws : List Jvm.Cond) (n0 : Nat) (gg0 : Int32) (gg1 : Int32) (gg2 : Int32) (gg3 : Int32) (gg4 : Int32) (vv0 : Int32) (vv1 : Int32) (vv2 : Int32) (vv3 : Int32) (vv4 : Int32) (k0 : ClassId) (hk0 : IsA Z k0 .int) (k1 : ClassId) (hk1 : IsA Z k1 .int) (h0 : Heap) (P0 : HP n0 h0 [AC k0 [.int gg0, .int gg1, .int gg2, .int gg3, .int gg4], AC k1 [.int vv0, .int vv1, .int vv2, .int vv3, .int vv4]]) :
    MetFree l (⟨"com/example/protomata/protomata/PartitionPairsAlikePinLaw", "same", "([IIII)J"⟩ : MethodName) (head1 (Jvm.Cond.code (⟨"com/example/protomata/protomata/PartitionPairsAlikePinLaw", "same", "([IIII)J"⟩ : MethodName) method_3_code 4 (some .long) :: ws) ({ frames := 0, cells := 0, slots := 0, locals := 0 } : Room)) (fun aa U => aa = #[.ref (n0 + 1), .int (5 : Int32), .int (0 : Int32), .int (4 : Int32)] ∧ Z.Warmed39 U.vm ∧ U.heap = h0) (fun _ _ _ _ _ => True) (fun _ U o U' => ∃ v L, o = .returned v ∧ PureQ (.long (sp_sm5_04 gg0 gg1 gg2 gg3 gg4 vv0 vv1 vv2 vv3 vv4)) h0 v U'.heap L ∧ FrameEnd U o U' L ({ frames := 0, cells := 0, slots := 0, locals := 0 } : Room).cells ({ frames := 0, cells := 0, slots := 0, locals := 0 } : Room).slots) := by
  refine own_body pn1 ?_
  intro p e s m below meth c T0 hx hby hml hret hlk hown hnm hZ X0 e0
  subst e0
  refine own_cast (ef_sm5_04 m n0 gg0 gg1 gg2 gg3 gg4 vv0 vv1 vv2 vv3 vv4) ?_
  refine w_iloadN X0 hx (hb hby d1_0) rfl (pc' := 1) rfl ?_
  refine w_iloadN X0 hx (hb hby d1_1) rfl (pc' := 2) rfl ?_
  refine w_icmp_ge X0 hx (hb hby d1_2) (by decide) (pcY := 16) (by decide) (pc' := 5) rfl (fun h0 => absurd h0 (by decide)) (fun h0 => ?_)
  refine w_aloadN X0 hx (hb hby d1_5) rfl rfl (pc' := 6) rfl ?_
  refine w_iloadN X0 hx (hb hby d1_6) rfl (pc' := 7) rfl ?_
  refine w_iaload (i := 1) (jn := 0) (v := .int vv0) X0 hx hZ P0 rfl hk1 (hb hby d1_7) (by decide) rfl (pc' := 8) rfl ?_
  refine w_aloadN X0 hx (hb hby d1_8) rfl rfl (pc' := 9) rfl ?_
  refine w_iloadN X0 hx (hb hby d1_9) rfl (pc' := 10) rfl ?_
  refine w_iaload (i := 1) (jn := 4) (v := .int vv4) X0 hx hZ P0 rfl hk1 (hb hby d1_10) (by decide) rfl (pc' := 11) rfl ?_
  refine w_icmp_ne X0 hx (hb hby d1_11) (by decide) (pcY := 16) (by decide) (pc' := 14) rfl (fun h1 => ?_) (fun h1 => ?_)
  · refine w_lconst (v := (0 : Int64)) X0 hx (hb hby d1_16) rfl (pc' := 17) rfl ?_
    exact w_ret_l X0 hx hret hlk (hb hby d1_17) (by decide) (by decide) ⟨congrArg (fun q => some (Value.long q)) (show (0 : Int64) = sp_sm5_04 gg0 gg1 gg2 gg3 gg4 vv0 vv1 vv2 vv3 vv4 from by rw [sp_sm5_04, if_neg h1]), rfl, rfl⟩
  · refine w_lconst (v := (1 : Int64)) X0 hx (hb hby d1_14) rfl (pc' := 15) rfl ?_
    exact w_ret_l X0 hx hret hlk (hb hby d1_15) (by decide) (by decide) ⟨congrArg (fun q => some (Value.long q)) (show (1 : Int64) = sp_sm5_04 gg0 gg1 gg2 gg3 gg4 vv0 vv1 vv2 vv3 vv4 from by rw [sp_sm5_04, if_pos h1]), rfl, rfl⟩
theorem ef_sm5_12 (m : MethodId) (n0 : Nat) (gg0 : Int32) (gg1 : Int32) (gg2 : Int32) (gg3 : Int32) (gg4 : Int32) (vv0 : Int32) (vv1 : Int32) (vv2 : Int32) (vv3 : Int32) (vv4 : Int32) : entryFrame m #[.ref (n0 + 1), .int (5 : Int32), .int (1 : Int32), .int (2 : Int32)] 4 = mkF m 0 #[.val (.ref (n0 + 1)), .val (.int (5 : Int32)), .val (.int (1 : Int32)), .val (.int (2 : Int32))] [] := by first | (simp [entryFrame, mkF, argsToLocals, Value.category]; done) | rfl
def sp_sm5_12 (gg0 : Int32) (gg1 : Int32) (gg2 : Int32) (gg3 : Int32) (gg4 : Int32) (vv0 : Int32) (vv1 : Int32) (vv2 : Int32) (vv3 : Int32) (vv4 : Int32) : Int64 := (if vv1 = vv2 then (1 : Int64) else (0 : Int64))
set_option maxRecDepth 65536 in
set_option maxHeartbeats 40000000 in
theorem rm_sm5_12 (l : Launch) (Z : State) (a0 : Array Value) (hw : ∀ d ∈ tables_1, d.before a0 Z = true) (ws : List Jvm.Cond) (n0 : Nat) (gg0 : Int32) (gg1 : Int32) (gg2 : Int32) (gg3 : Int32) (gg4 : Int32) (vv0 : Int32) (vv1 : Int32) (vv2 : Int32) (vv3 : Int32) (vv4 : Int32) (k0 : ClassId) (hk0 : IsA Z k0 .int) (k1 : ClassId) (hk1 : IsA Z k1 .int) (h0 : Heap) (P0 : HP n0 h0 [AC k0 [.int gg0, .int gg1, .int gg2, .int gg3, .int gg4], AC k1 [.int vv0, .int vv1, .int vv2, .int vv3, .int vv4]]) :
    MetFree l (⟨"com/example/protomata/protomata/PartitionPairsAlikePinLaw", "same", "([IIII)J"⟩ : MethodName) (head1 (Jvm.Cond.code (⟨"com/example/protomata/protomata/PartitionPairsAlikePinLaw", "same", "([IIII)J"⟩ : MethodName) method_3_code 4 (some .long) :: ws) ({ frames := 0, cells := 0, slots := 0, locals := 0 } : Room)) (fun aa U => aa = #[.ref (n0 + 1), .int (5 : Int32), .int (1 : Int32), .int (2 : Int32)] ∧ Z.Warmed39 U.vm ∧ U.heap = h0) (fun _ _ _ _ _ => True) (fun _ U o U' => ∃ v L, o = .returned v ∧ PureQ (.long (sp_sm5_12 gg0 gg1 gg2 gg3 gg4 vv0 vv1 vv2 vv3 vv4)) h0 v U'.heap L ∧ FrameEnd U o U' L ({ frames := 0, cells := 0, slots := 0, locals := 0 } : Room).cells ({ frames := 0, cells := 0, slots := 0, locals := 0 } : Room).slots) := by
  refine own_body pn1 ?_
  intro p e s m below meth c T0 hx hby hml hret hlk hown hnm hZ X0 e0
  subst e0
  refine own_cast (ef_sm5_12 m n0 gg0 gg1 gg2 gg3 gg4 vv0 vv1 vv2 vv3 vv4) ?_
  refine w_iloadN X0 hx (hb hby d1_0) rfl (pc' := 1) rfl ?_
  refine w_iloadN X0 hx (hb hby d1_1) rfl (pc' := 2) rfl ?_
  refine w_icmp_ge X0 hx (hb hby d1_2) (by decide) (pcY := 16) (by decide) (pc' := 5) rfl (fun h0 => absurd h0 (by decide)) (fun h0 => ?_)
  refine w_aloadN X0 hx (hb hby d1_5) rfl rfl (pc' := 6) rfl ?_
  refine w_iloadN X0 hx (hb hby d1_6) rfl (pc' := 7) rfl ?_
  refine w_iaload (i := 1) (jn := 1) (v := .int vv1) X0 hx hZ P0 rfl hk1 (hb hby d1_7) (by decide) rfl (pc' := 8) rfl ?_
  refine w_aloadN X0 hx (hb hby d1_8) rfl rfl (pc' := 9) rfl ?_
  refine w_iloadN X0 hx (hb hby d1_9) rfl (pc' := 10) rfl ?_
  refine w_iaload (i := 1) (jn := 2) (v := .int vv2) X0 hx hZ P0 rfl hk1 (hb hby d1_10) (by decide) rfl (pc' := 11) rfl ?_
  refine w_icmp_ne X0 hx (hb hby d1_11) (by decide) (pcY := 16) (by decide) (pc' := 14) rfl (fun h1 => ?_) (fun h1 => ?_)
  · refine w_lconst (v := (0 : Int64)) X0 hx (hb hby d1_16) rfl (pc' := 17) rfl ?_
    exact w_ret_l X0 hx hret hlk (hb hby d1_17) (by decide) (by decide) ⟨congrArg (fun q => some (Value.long q)) (show (0 : Int64) = sp_sm5_12 gg0 gg1 gg2 gg3 gg4 vv0 vv1 vv2 vv3 vv4 from by rw [sp_sm5_12, if_neg h1]), rfl, rfl⟩
  · refine w_lconst (v := (1 : Int64)) X0 hx (hb hby d1_14) rfl (pc' := 15) rfl ?_
    exact w_ret_l X0 hx hret hlk (hb hby d1_15) (by decide) (by decide) ⟨congrArg (fun q => some (Value.long q)) (show (1 : Int64) = sp_sm5_12 gg0 gg1 gg2 gg3 gg4 vv0 vv1 vv2 vv3 vv4 from by rw [sp_sm5_12, if_pos h1]), rfl, rfl⟩
theorem ef_sm5_13 (m : MethodId) (n0 : Nat) (gg0 : Int32) (gg1 : Int32) (gg2 : Int32) (gg3 : Int32) (gg4 : Int32) (vv0 : Int32) (vv1 : Int32) (vv2 : Int32) (vv3 : Int32) (vv4 : Int32) : entryFrame m #[.ref (n0 + 1), .int (5 : Int32), .int (1 : Int32), .int (3 : Int32)] 4 = mkF m 0 #[.val (.ref (n0 + 1)), .val (.int (5 : Int32)), .val (.int (1 : Int32)), .val (.int (3 : Int32))] [] := by first | (simp [entryFrame, mkF, argsToLocals, Value.category]; done) | rfl
def sp_sm5_13 (gg0 : Int32) (gg1 : Int32) (gg2 : Int32) (gg3 : Int32) (gg4 : Int32) (vv0 : Int32) (vv1 : Int32) (vv2 : Int32) (vv3 : Int32) (vv4 : Int32) : Int64 := (if vv1 = vv3 then (1 : Int64) else (0 : Int64))
set_option maxRecDepth 65536 in
set_option maxHeartbeats 40000000 in
theorem rm_sm5_13 (l : Launch) (Z : State) (a0 : Array Value) (hw : ∀ d ∈ tables_1, d.before a0 Z = true) (ws : List Jvm.Cond) (n0 : Nat) (gg0 : Int32) (gg1 : Int32) (gg2 : Int32) (gg3 : Int32) (gg4 : Int32) (vv0 : Int32) (vv1 : Int32) (vv2 : Int32) (vv3 : Int32) (vv4 : Int32) (k0 : ClassId) (hk0 : IsA Z k0 .int) (k1 : ClassId) (hk1 : IsA Z k1 .int) (h0 : Heap) (P0 : HP n0 h0 [AC k0 [.int gg0, .int gg1, .int gg2, .int gg3, .int gg4], AC k1 [.int vv0, .int vv1, .int vv2, .int vv3, .int vv4]]) :
    MetFree l (⟨"com/example/protomata/protomata/PartitionPairsAlikePinLaw", "same", "([IIII)J"⟩ : MethodName) (head1 (Jvm.Cond.code (⟨"com/example/protomata/protomata/PartitionPairsAlikePinLaw", "same", "([IIII)J"⟩ : MethodName) method_3_code 4 (some .long) :: ws) ({ frames := 0, cells := 0, slots := 0, locals := 0 } : Room)) (fun aa U => aa = #[.ref (n0 + 1), .int (5 : Int32), .int (1 : Int32), .int (3 : Int32)] ∧ Z.Warmed39 U.vm ∧ U.heap = h0) (fun _ _ _ _ _ => True) (fun _ U o U' => ∃ v L, o = .returned v ∧ PureQ (.long (sp_sm5_13 gg0 gg1 gg2 gg3 gg4 vv0 vv1 vv2 vv3 vv4)) h0 v U'.heap L ∧ FrameEnd U o U' L ({ frames := 0, cells := 0, slots := 0, locals := 0 } : Room).cells ({ frames := 0, cells := 0, slots := 0, locals := 0 } : Room).slots) := by
  refine own_body pn1 ?_
  intro p e s m below meth c T0 hx hby hml hret hlk hown hnm hZ X0 e0
  subst e0
  refine own_cast (ef_sm5_13 m n0 gg0 gg1 gg2 gg3 gg4 vv0 vv1 vv2 vv3 vv4) ?_
  refine w_iloadN X0 hx (hb hby d1_0) rfl (pc' := 1) rfl ?_
  refine w_iloadN X0 hx (hb hby d1_1) rfl (pc' := 2) rfl ?_
  refine w_icmp_ge X0 hx (hb hby d1_2) (by decide) (pcY := 16) (by decide) (pc' := 5) rfl (fun h0 => absurd h0 (by decide)) (fun h0 => ?_)
  refine w_aloadN X0 hx (hb hby d1_5) rfl rfl (pc' := 6) rfl ?_
  refine w_iloadN X0 hx (hb hby d1_6) rfl (pc' := 7) rfl ?_
  refine w_iaload (i := 1) (jn := 1) (v := .int vv1) X0 hx hZ P0 rfl hk1 (hb hby d1_7) (by decide) rfl (pc' := 8) rfl ?_
  refine w_aloadN X0 hx (hb hby d1_8) rfl rfl (pc' := 9) rfl ?_
  refine w_iloadN X0 hx (hb hby d1_9) rfl (pc' := 10) rfl ?_
  refine w_iaload (i := 1) (jn := 3) (v := .int vv3) X0 hx hZ P0 rfl hk1 (hb hby d1_10) (by decide) rfl (pc' := 11) rfl ?_
  refine w_icmp_ne X0 hx (hb hby d1_11) (by decide) (pcY := 16) (by decide) (pc' := 14) rfl (fun h1 => ?_) (fun h1 => ?_)
  · refine w_lconst (v := (0 : Int64)) X0 hx (hb hby d1_16) rfl (pc' := 17) rfl ?_
    exact w_ret_l X0 hx hret hlk (hb hby d1_17) (by decide) (by decide) ⟨congrArg (fun q => some (Value.long q)) (show (0 : Int64) = sp_sm5_13 gg0 gg1 gg2 gg3 gg4 vv0 vv1 vv2 vv3 vv4 from by rw [sp_sm5_13, if_neg h1]), rfl, rfl⟩
  · refine w_lconst (v := (1 : Int64)) X0 hx (hb hby d1_14) rfl (pc' := 15) rfl ?_
    exact w_ret_l X0 hx hret hlk (hb hby d1_15) (by decide) (by decide) ⟨congrArg (fun q => some (Value.long q)) (show (1 : Int64) = sp_sm5_13 gg0 gg1 gg2 gg3 gg4 vv0 vv1 vv2 vv3 vv4 from by rw [sp_sm5_13, if_pos h1]), rfl, rfl⟩
theorem ef_sm5_14 (m : MethodId) (n0 : Nat) (gg0 : Int32) (gg1 : Int32) (gg2 : Int32) (gg3 : Int32) (gg4 : Int32) (vv0 : Int32) (vv1 : Int32) (vv2 : Int32) (vv3 : Int32) (vv4 : Int32) : entryFrame m #[.ref (n0 + 1), .int (5 : Int32), .int (1 : Int32), .int (4 : Int32)] 4 = mkF m 0 #[.val (.ref (n0 + 1)), .val (.int (5 : Int32)), .val (.int (1 : Int32)), .val (.int (4 : Int32))] [] := by first | (simp [entryFrame, mkF, argsToLocals, Value.category]; done) | rfl
def sp_sm5_14 (gg0 : Int32) (gg1 : Int32) (gg2 : Int32) (gg3 : Int32) (gg4 : Int32) (vv0 : Int32) (vv1 : Int32) (vv2 : Int32) (vv3 : Int32) (vv4 : Int32) : Int64 := (if vv1 = vv4 then (1 : Int64) else (0 : Int64))
set_option maxRecDepth 65536 in
set_option maxHeartbeats 40000000 in
theorem rm_sm5_14 (l : Launch) (Z : State) (a0 : Array Value) (hw : ∀ d ∈ tables_1, d.before a0 Z = true) (ws : List Jvm.Cond) (n0 : Nat) (gg0 : Int32) (gg1 : Int32) (gg2 : Int32) (gg3 : Int32) (gg4 : Int32) (vv0 : Int32) (vv1 : Int32) (vv2 : Int32) (vv3 : Int32) (vv4 : Int32) (k0 : ClassId) (hk0 : IsA Z k0 .int) (k1 : ClassId) (hk1 : IsA Z k1 .int) (h0 : Heap) (P0 : HP n0 h0 [AC k0 [.int gg0, .int gg1, .int gg2, .int gg3, .int gg4], AC k1 [.int vv0, .int vv1, .int vv2, .int vv3, .int vv4]]) :
    MetFree l (⟨"com/example/protomata/protomata/PartitionPairsAlikePinLaw", "same", "([IIII)J"⟩ : MethodName) (head1 (Jvm.Cond.code (⟨"com/example/protomata/protomata/PartitionPairsAlikePinLaw", "same", "([IIII)J"⟩ : MethodName) method_3_code 4 (some .long) :: ws) ({ frames := 0, cells := 0, slots := 0, locals := 0 } : Room)) (fun aa U => aa = #[.ref (n0 + 1), .int (5 : Int32), .int (1 : Int32), .int (4 : Int32)] ∧ Z.Warmed39 U.vm ∧ U.heap = h0) (fun _ _ _ _ _ => True) (fun _ U o U' => ∃ v L, o = .returned v ∧ PureQ (.long (sp_sm5_14 gg0 gg1 gg2 gg3 gg4 vv0 vv1 vv2 vv3 vv4)) h0 v U'.heap L ∧ FrameEnd U o U' L ({ frames := 0, cells := 0, slots := 0, locals := 0 } : Room).cells ({ frames := 0, cells := 0, slots := 0, locals := 0 } : Room).slots) := by
  refine own_body pn1 ?_
  intro p e s m below meth c T0 hx hby hml hret hlk hown hnm hZ X0 e0
  subst e0
  refine own_cast (ef_sm5_14 m n0 gg0 gg1 gg2 gg3 gg4 vv0 vv1 vv2 vv3 vv4) ?_
  refine w_iloadN X0 hx (hb hby d1_0) rfl (pc' := 1) rfl ?_
  refine w_iloadN X0 hx (hb hby d1_1) rfl (pc' := 2) rfl ?_
  refine w_icmp_ge X0 hx (hb hby d1_2) (by decide) (pcY := 16) (by decide) (pc' := 5) rfl (fun h0 => absurd h0 (by decide)) (fun h0 => ?_)
  refine w_aloadN X0 hx (hb hby d1_5) rfl rfl (pc' := 6) rfl ?_
  refine w_iloadN X0 hx (hb hby d1_6) rfl (pc' := 7) rfl ?_
  refine w_iaload (i := 1) (jn := 1) (v := .int vv1) X0 hx hZ P0 rfl hk1 (hb hby d1_7) (by decide) rfl (pc' := 8) rfl ?_
  refine w_aloadN X0 hx (hb hby d1_8) rfl rfl (pc' := 9) rfl ?_
  refine w_iloadN X0 hx (hb hby d1_9) rfl (pc' := 10) rfl ?_
  refine w_iaload (i := 1) (jn := 4) (v := .int vv4) X0 hx hZ P0 rfl hk1 (hb hby d1_10) (by decide) rfl (pc' := 11) rfl ?_
  refine w_icmp_ne X0 hx (hb hby d1_11) (by decide) (pcY := 16) (by decide) (pc' := 14) rfl (fun h1 => ?_) (fun h1 => ?_)
  · refine w_lconst (v := (0 : Int64)) X0 hx (hb hby d1_16) rfl (pc' := 17) rfl ?_
    exact w_ret_l X0 hx hret hlk (hb hby d1_17) (by decide) (by decide) ⟨congrArg (fun q => some (Value.long q)) (show (0 : Int64) = sp_sm5_14 gg0 gg1 gg2 gg3 gg4 vv0 vv1 vv2 vv3 vv4 from by rw [sp_sm5_14, if_neg h1]), rfl, rfl⟩
  · refine w_lconst (v := (1 : Int64)) X0 hx (hb hby d1_14) rfl (pc' := 15) rfl ?_
    exact w_ret_l X0 hx hret hlk (hb hby d1_15) (by decide) (by decide) ⟨congrArg (fun q => some (Value.long q)) (show (1 : Int64) = sp_sm5_14 gg0 gg1 gg2 gg3 gg4 vv0 vv1 vv2 vv3 vv4 from by rw [sp_sm5_14, if_pos h1]), rfl, rfl⟩
theorem ef_sm5_23 (m : MethodId) (n0 : Nat) (gg0 : Int32) (gg1 : Int32) (gg2 : Int32) (gg3 : Int32) (gg4 : Int32) (vv0 : Int32) (vv1 : Int32) (vv2 : Int32) (vv3 : Int32) (vv4 : Int32) : entryFrame m #[.ref (n0 + 1), .int (5 : Int32), .int (2 : Int32), .int (3 : Int32)] 4 = mkF m 0 #[.val (.ref (n0 + 1)), .val (.int (5 : Int32)), .val (.int (2 : Int32)), .val (.int (3 : Int32))] [] := by first | (simp [entryFrame, mkF, argsToLocals, Value.category]; done) | rfl
def sp_sm5_23 (gg0 : Int32) (gg1 : Int32) (gg2 : Int32) (gg3 : Int32) (gg4 : Int32) (vv0 : Int32) (vv1 : Int32) (vv2 : Int32) (vv3 : Int32) (vv4 : Int32) : Int64 := (if vv2 = vv3 then (1 : Int64) else (0 : Int64))
set_option maxRecDepth 65536 in
set_option maxHeartbeats 40000000 in
theorem rm_sm5_23 (l : Launch) (Z : State) (a0 : Array Value) (hw : ∀ d ∈ tables_1, d.before a0 Z = true) (ws : List Jvm.Cond) (n0 : Nat) (gg0 : Int32) (gg1 : Int32) (gg2 : Int32) (gg3 : Int32) (gg4 : Int32) (vv0 : Int32) (vv1 : Int32) (vv2 : Int32) (vv3 : Int32) (vv4 : Int32) (k0 : ClassId) (hk0 : IsA Z k0 .int) (k1 : ClassId) (hk1 : IsA Z k1 .int) (h0 : Heap) (P0 : HP n0 h0 [AC k0 [.int gg0, .int gg1, .int gg2, .int gg3, .int gg4], AC k1 [.int vv0, .int vv1, .int vv2, .int vv3, .int vv4]]) :
    MetFree l (⟨"com/example/protomata/protomata/PartitionPairsAlikePinLaw", "same", "([IIII)J"⟩ : MethodName) (head1 (Jvm.Cond.code (⟨"com/example/protomata/protomata/PartitionPairsAlikePinLaw", "same", "([IIII)J"⟩ : MethodName) method_3_code 4 (some .long) :: ws) ({ frames := 0, cells := 0, slots := 0, locals := 0 } : Room)) (fun aa U => aa = #[.ref (n0 + 1), .int (5 : Int32), .int (2 : Int32), .int (3 : Int32)] ∧ Z.Warmed39 U.vm ∧ U.heap = h0) (fun _ _ _ _ _ => True) (fun _ U o U' => ∃ v L, o = .returned v ∧ PureQ (.long (sp_sm5_23 gg0 gg1 gg2 gg3 gg4 vv0 vv1 vv2 vv3 vv4)) h0 v U'.heap L ∧ FrameEnd U o U' L ({ frames := 0, cells := 0, slots := 0, locals := 0 } : Room).cells ({ frames := 0, cells := 0, slots := 0, locals := 0 } : Room).slots) := by
  refine own_body pn1 ?_
  intro p e s m below meth c T0 hx hby hml hret hlk hown hnm hZ X0 e0
  subst e0
  refine own_cast (ef_sm5_23 m n0 gg0 gg1 gg2 gg3 gg4 vv0 vv1 vv2 vv3 vv4) ?_
  refine w_iloadN X0 hx (hb hby d1_0) rfl (pc' := 1) rfl ?_
  refine w_iloadN X0 hx (hb hby d1_1) rfl (pc' := 2) rfl ?_
  refine w_icmp_ge X0 hx (hb hby d1_2) (by decide) (pcY := 16) (by decide) (pc' := 5) rfl (fun h0 => absurd h0 (by decide)) (fun h0 => ?_)
  refine w_aloadN X0 hx (hb hby d1_5) rfl rfl (pc' := 6) rfl ?_
  refine w_iloadN X0 hx (hb hby d1_6) rfl (pc' := 7) rfl ?_
  refine w_iaload (i := 1) (jn := 2) (v := .int vv2) X0 hx hZ P0 rfl hk1 (hb hby d1_7) (by decide) rfl (pc' := 8) rfl ?_
  refine w_aloadN X0 hx (hb hby d1_8) rfl rfl (pc' := 9) rfl ?_
  refine w_iloadN X0 hx (hb hby d1_9) rfl (pc' := 10) rfl ?_
  refine w_iaload (i := 1) (jn := 3) (v := .int vv3) X0 hx hZ P0 rfl hk1 (hb hby d1_10) (by decide) rfl (pc' := 11) rfl ?_
  refine w_icmp_ne X0 hx (hb hby d1_11) (by decide) (pcY := 16) (by decide) (pc' := 14) rfl (fun h1 => ?_) (fun h1 => ?_)
  · refine w_lconst (v := (0 : Int64)) X0 hx (hb hby d1_16) rfl (pc' := 17) rfl ?_
    exact w_ret_l X0 hx hret hlk (hb hby d1_17) (by decide) (by decide) ⟨congrArg (fun q => some (Value.long q)) (show (0 : Int64) = sp_sm5_23 gg0 gg1 gg2 gg3 gg4 vv0 vv1 vv2 vv3 vv4 from by rw [sp_sm5_23, if_neg h1]), rfl, rfl⟩
  · refine w_lconst (v := (1 : Int64)) X0 hx (hb hby d1_14) rfl (pc' := 15) rfl ?_
    exact w_ret_l X0 hx hret hlk (hb hby d1_15) (by decide) (by decide) ⟨congrArg (fun q => some (Value.long q)) (show (1 : Int64) = sp_sm5_23 gg0 gg1 gg2 gg3 gg4 vv0 vv1 vv2 vv3 vv4 from by rw [sp_sm5_23, if_pos h1]), rfl, rfl⟩
theorem ef_sm5_24 (m : MethodId) (n0 : Nat) (gg0 : Int32) (gg1 : Int32) (gg2 : Int32) (gg3 : Int32) (gg4 : Int32) (vv0 : Int32) (vv1 : Int32) (vv2 : Int32) (vv3 : Int32) (vv4 : Int32) : entryFrame m #[.ref (n0 + 1), .int (5 : Int32), .int (2 : Int32), .int (4 : Int32)] 4 = mkF m 0 #[.val (.ref (n0 + 1)), .val (.int (5 : Int32)), .val (.int (2 : Int32)), .val (.int (4 : Int32))] [] := by first | (simp [entryFrame, mkF, argsToLocals, Value.category]; done) | rfl
def sp_sm5_24 (gg0 : Int32) (gg1 : Int32) (gg2 : Int32) (gg3 : Int32) (gg4 : Int32) (vv0 : Int32) (vv1 : Int32) (vv2 : Int32) (vv3 : Int32) (vv4 : Int32) : Int64 := (if vv2 = vv4 then (1 : Int64) else (0 : Int64))
set_option maxRecDepth 65536 in
set_option maxHeartbeats 40000000 in
theorem rm_sm5_24 (l : Launch) (Z : State) (a0 : Array Value) (hw : ∀ d ∈ tables_1, d.before a0 Z = true) (ws : List Jvm.Cond) (n0 : Nat) (gg0 : Int32) (gg1 : Int32) (gg2 : Int32) (gg3 : Int32) (gg4 : Int32) (vv0 : Int32) (vv1 : Int32) (vv2 : Int32) (vv3 : Int32) (vv4 : Int32) (k0 : ClassId) (hk0 : IsA Z k0 .int) (k1 : ClassId) (hk1 : IsA Z k1 .int) (h0 : Heap) (P0 : HP n0 h0 [AC k0 [.int gg0, .int gg1, .int gg2, .int gg3, .int gg4], AC k1 [.int vv0, .int vv1, .int vv2, .int vv3, .int vv4]]) :
    MetFree l (⟨"com/example/protomata/protomata/PartitionPairsAlikePinLaw", "same", "([IIII)J"⟩ : MethodName) (head1 (Jvm.Cond.code (⟨"com/example/protomata/protomata/PartitionPairsAlikePinLaw", "same", "([IIII)J"⟩ : MethodName) method_3_code 4 (some .long) :: ws) ({ frames := 0, cells := 0, slots := 0, locals := 0 } : Room)) (fun aa U => aa = #[.ref (n0 + 1), .int (5 : Int32), .int (2 : Int32), .int (4 : Int32)] ∧ Z.Warmed39 U.vm ∧ U.heap = h0) (fun _ _ _ _ _ => True) (fun _ U o U' => ∃ v L, o = .returned v ∧ PureQ (.long (sp_sm5_24 gg0 gg1 gg2 gg3 gg4 vv0 vv1 vv2 vv3 vv4)) h0 v U'.heap L ∧ FrameEnd U o U' L ({ frames := 0, cells := 0, slots := 0, locals := 0 } : Room).cells ({ frames := 0, cells := 0, slots := 0, locals := 0 } : Room).slots) := by
  refine own_body pn1 ?_
  intro p e s m below meth c T0 hx hby hml hret hlk hown hnm hZ X0 e0
  subst e0
  refine own_cast (ef_sm5_24 m n0 gg0 gg1 gg2 gg3 gg4 vv0 vv1 vv2 vv3 vv4) ?_
  refine w_iloadN X0 hx (hb hby d1_0) rfl (pc' := 1) rfl ?_
  refine w_iloadN X0 hx (hb hby d1_1) rfl (pc' := 2) rfl ?_
  refine w_icmp_ge X0 hx (hb hby d1_2) (by decide) (pcY := 16) (by decide) (pc' := 5) rfl (fun h0 => absurd h0 (by decide)) (fun h0 => ?_)
  refine w_aloadN X0 hx (hb hby d1_5) rfl rfl (pc' := 6) rfl ?_
  refine w_iloadN X0 hx (hb hby d1_6) rfl (pc' := 7) rfl ?_
  refine w_iaload (i := 1) (jn := 2) (v := .int vv2) X0 hx hZ P0 rfl hk1 (hb hby d1_7) (by decide) rfl (pc' := 8) rfl ?_
  refine w_aloadN X0 hx (hb hby d1_8) rfl rfl (pc' := 9) rfl ?_
  refine w_iloadN X0 hx (hb hby d1_9) rfl (pc' := 10) rfl ?_
  refine w_iaload (i := 1) (jn := 4) (v := .int vv4) X0 hx hZ P0 rfl hk1 (hb hby d1_10) (by decide) rfl (pc' := 11) rfl ?_
  refine w_icmp_ne X0 hx (hb hby d1_11) (by decide) (pcY := 16) (by decide) (pc' := 14) rfl (fun h1 => ?_) (fun h1 => ?_)
  · refine w_lconst (v := (0 : Int64)) X0 hx (hb hby d1_16) rfl (pc' := 17) rfl ?_
    exact w_ret_l X0 hx hret hlk (hb hby d1_17) (by decide) (by decide) ⟨congrArg (fun q => some (Value.long q)) (show (0 : Int64) = sp_sm5_24 gg0 gg1 gg2 gg3 gg4 vv0 vv1 vv2 vv3 vv4 from by rw [sp_sm5_24, if_neg h1]), rfl, rfl⟩
  · refine w_lconst (v := (1 : Int64)) X0 hx (hb hby d1_14) rfl (pc' := 15) rfl ?_
    exact w_ret_l X0 hx hret hlk (hb hby d1_15) (by decide) (by decide) ⟨congrArg (fun q => some (Value.long q)) (show (1 : Int64) = sp_sm5_24 gg0 gg1 gg2 gg3 gg4 vv0 vv1 vv2 vv3 vv4 from by rw [sp_sm5_24, if_pos h1]), rfl, rfl⟩
theorem ef_sm5_34 (m : MethodId) (n0 : Nat) (gg0 : Int32) (gg1 : Int32) (gg2 : Int32) (gg3 : Int32) (gg4 : Int32) (vv0 : Int32) (vv1 : Int32) (vv2 : Int32) (vv3 : Int32) (vv4 : Int32) : entryFrame m #[.ref (n0 + 1), .int (5 : Int32), .int (3 : Int32), .int (4 : Int32)] 4 = mkF m 0 #[.val (.ref (n0 + 1)), .val (.int (5 : Int32)), .val (.int (3 : Int32)), .val (.int (4 : Int32))] [] := by first | (simp [entryFrame, mkF, argsToLocals, Value.category]; done) | rfl
def sp_sm5_34 (gg0 : Int32) (gg1 : Int32) (gg2 : Int32) (gg3 : Int32) (gg4 : Int32) (vv0 : Int32) (vv1 : Int32) (vv2 : Int32) (vv3 : Int32) (vv4 : Int32) : Int64 := (if vv3 = vv4 then (1 : Int64) else (0 : Int64))
set_option maxRecDepth 65536 in
set_option maxHeartbeats 40000000 in
theorem rm_sm5_34 (l : Launch) (Z : State) (a0 : Array Value) (hw : ∀ d ∈ tables_1, d.before a0 Z = true) (ws : List Jvm.Cond) (n0 : Nat) (gg0 : Int32) (gg1 : Int32) (gg2 : Int32) (gg3 : Int32) (gg4 : Int32) (vv0 : Int32) (vv1 : Int32) (vv2 : Int32) (vv3 : Int32) (vv4 : Int32) (k0 : ClassId) (hk0 : IsA Z k0 .int) (k1 : ClassId) (hk1 : IsA Z k1 .int) (h0 : Heap) (P0 : HP n0 h0 [AC k0 [.int gg0, .int gg1, .int gg2, .int gg3, .int gg4], AC k1 [.int vv0, .int vv1, .int vv2, .int vv3, .int vv4]]) :
    MetFree l (⟨"com/example/protomata/protomata/PartitionPairsAlikePinLaw", "same", "([IIII)J"⟩ : MethodName) (head1 (Jvm.Cond.code (⟨"com/example/protomata/protomata/PartitionPairsAlikePinLaw", "same", "([IIII)J"⟩ : MethodName) method_3_code 4 (some .long) :: ws) ({ frames := 0, cells := 0, slots := 0, locals := 0 } : Room)) (fun aa U => aa = #[.ref (n0 + 1), .int (5 : Int32), .int (3 : Int32), .int (4 : Int32)] ∧ Z.Warmed39 U.vm ∧ U.heap = h0) (fun _ _ _ _ _ => True) (fun _ U o U' => ∃ v L, o = .returned v ∧ PureQ (.long (sp_sm5_34 gg0 gg1 gg2 gg3 gg4 vv0 vv1 vv2 vv3 vv4)) h0 v U'.heap L ∧ FrameEnd U o U' L ({ frames := 0, cells := 0, slots := 0, locals := 0 } : Room).cells ({ frames := 0, cells := 0, slots := 0, locals := 0 } : Room).slots) := by
  refine own_body pn1 ?_
  intro p e s m below meth c T0 hx hby hml hret hlk hown hnm hZ X0 e0
  subst e0
  refine own_cast (ef_sm5_34 m n0 gg0 gg1 gg2 gg3 gg4 vv0 vv1 vv2 vv3 vv4) ?_
  refine w_iloadN X0 hx (hb hby d1_0) rfl (pc' := 1) rfl ?_
  refine w_iloadN X0 hx (hb hby d1_1) rfl (pc' := 2) rfl ?_
  refine w_icmp_ge X0 hx (hb hby d1_2) (by decide) (pcY := 16) (by decide) (pc' := 5) rfl (fun h0 => absurd h0 (by decide)) (fun h0 => ?_)
  refine w_aloadN X0 hx (hb hby d1_5) rfl rfl (pc' := 6) rfl ?_
  refine w_iloadN X0 hx (hb hby d1_6) rfl (pc' := 7) rfl ?_
  refine w_iaload (i := 1) (jn := 3) (v := .int vv3) X0 hx hZ P0 rfl hk1 (hb hby d1_7) (by decide) rfl (pc' := 8) rfl ?_
  refine w_aloadN X0 hx (hb hby d1_8) rfl rfl (pc' := 9) rfl ?_
  refine w_iloadN X0 hx (hb hby d1_9) rfl (pc' := 10) rfl ?_
  refine w_iaload (i := 1) (jn := 4) (v := .int vv4) X0 hx hZ P0 rfl hk1 (hb hby d1_10) (by decide) rfl (pc' := 11) rfl ?_
  refine w_icmp_ne X0 hx (hb hby d1_11) (by decide) (pcY := 16) (by decide) (pc' := 14) rfl (fun h1 => ?_) (fun h1 => ?_)
  · refine w_lconst (v := (0 : Int64)) X0 hx (hb hby d1_16) rfl (pc' := 17) rfl ?_
    exact w_ret_l X0 hx hret hlk (hb hby d1_17) (by decide) (by decide) ⟨congrArg (fun q => some (Value.long q)) (show (0 : Int64) = sp_sm5_34 gg0 gg1 gg2 gg3 gg4 vv0 vv1 vv2 vv3 vv4 from by rw [sp_sm5_34, if_neg h1]), rfl, rfl⟩
  · refine w_lconst (v := (1 : Int64)) X0 hx (hb hby d1_14) rfl (pc' := 15) rfl ?_
    exact w_ret_l X0 hx hret hlk (hb hby d1_15) (by decide) (by decide) ⟨congrArg (fun q => some (Value.long q)) (show (1 : Int64) = sp_sm5_34 gg0 gg1 gg2 gg3 gg4 vv0 vv1 vv2 vv3 vv4 from by rw [sp_sm5_34, if_pos h1]), rfl, rfl⟩
def own_pa5 (g0 g1 g2 g3 g4 : Nat) : Int64 := ((((((0 : Int64) + (((Int32.toInt64 ((own_inc (own_inc (own_inc (own_inc (own_inc ([0, 0, 0, 0, 0] : List Int32) g0) g1) g2) g3) g4).getD 0 0)) * (Int32.toInt64 (((own_inc (own_inc (own_inc (own_inc (own_inc ([0, 0, 0, 0, 0] : List Int32) g0) g1) g2) g3) g4).getD 0 0) - (1 : Int32)))) / (2 : Int64))) + (((Int32.toInt64 ((own_inc (own_inc (own_inc (own_inc (own_inc ([0, 0, 0, 0, 0] : List Int32) g0) g1) g2) g3) g4).getD 1 0)) * (Int32.toInt64 (((own_inc (own_inc (own_inc (own_inc (own_inc ([0, 0, 0, 0, 0] : List Int32) g0) g1) g2) g3) g4).getD 1 0) - (1 : Int32)))) / (2 : Int64))) + (((Int32.toInt64 ((own_inc (own_inc (own_inc (own_inc (own_inc ([0, 0, 0, 0, 0] : List Int32) g0) g1) g2) g3) g4).getD 2 0)) * (Int32.toInt64 (((own_inc (own_inc (own_inc (own_inc (own_inc ([0, 0, 0, 0, 0] : List Int32) g0) g1) g2) g3) g4).getD 2 0) - (1 : Int32)))) / (2 : Int64))) + (((Int32.toInt64 ((own_inc (own_inc (own_inc (own_inc (own_inc ([0, 0, 0, 0, 0] : List Int32) g0) g1) g2) g3) g4).getD 3 0)) * (Int32.toInt64 (((own_inc (own_inc (own_inc (own_inc (own_inc ([0, 0, 0, 0, 0] : List Int32) g0) g1) g2) g3) g4).getD 3 0) - (1 : Int32)))) / (2 : Int64))) + (((Int32.toInt64 ((own_inc (own_inc (own_inc (own_inc (own_inc ([0, 0, 0, 0, 0] : List Int32) g0) g1) g2) g3) g4).getD 4 0)) * (Int32.toInt64 (((own_inc (own_inc (own_inc (own_inc (own_inc ([0, 0, 0, 0, 0] : List Int32) g0) g1) g2) g3) g4).getD 4 0) - (1 : Int32)))) / (2 : Int64)))
theorem ef_pa5 (m : MethodId) (n0 : Nat) (g0 : Nat) (g1 : Nat) (g2 : Nat) (g3 : Nat) (g4 : Nat) (vv0 : Int32) (vv1 : Int32) (vv2 : Int32) (vv3 : Int32) (vv4 : Int32) : entryFrame m #[.ref (n0 + 0)] 8 = mkF m 0 #[.val (.ref (n0 + 0)), .unset, .unset, .unset, .unset, .unset, .unset, .unset] [] := by first | (simp [entryFrame, mkF, argsToLocals, Value.category]; done) | rfl
def Q_pa5 (Z : State) (n0 : Nat) (k0 : ClassId) (k1 : ClassId) (g0 : Nat) (g1 : Nat) (g2 : Nat) (g3 : Nat) (g4 : Nat) (vv0 : Int32) (vv1 : Int32) (vv2 : Int32) (vv3 : Int32) (vv4 : Int32) (v : Option Value) (h : Heap) (L : List Loc) : Prop := v = some (.long (own_pa5 g0 g1 g2 g3 g4)) ∧ Fr n0 L
set_option maxRecDepth 65536 in
set_option maxHeartbeats 40000000 in
theorem rm_pa5 (l : Launch) (Z : State) (a0 : Array Value) (hw : ∀ d ∈ tables_1, d.before a0 Z = true) (ws : List Jvm.Cond) (n0 : Nat) (k0 : ClassId) (k1 : ClassId) (g0 : Nat) (g1 : Nat) (g2 : Nat) (g3 : Nat) (g4 : Nat) (vv0 : Int32) (vv1 : Int32) (vv2 : Int32) (vv3 : Int32) (vv4 : Int32) (h0 : Heap) (P0 : HP n0 h0 [AC k0 [.int (Int32.ofNat g0), .int (Int32.ofNat g1), .int (Int32.ofNat g2), .int (Int32.ofNat g3), .int (Int32.ofNat g4)], AC k1 [.int vv0, .int vv1, .int vv2, .int vv3, .int vv4]]) (hk0 : IsA Z k0 .int) (hk1 : IsA Z k1 .int) (hg0 : g0 < 5) (hg1 : g1 < 5) (hg2 : g2 < 5) (hg3 : g3 < 5) (hg4 : g4 < 5) :
    MetFree l (⟨"com/example/protomata/protomata/Partition", "pairsAlike", "([I)J"⟩ : MethodName) (head1 (Jvm.Cond.code (⟨"com/example/protomata/protomata/Partition", "pairsAlike", "([I)J"⟩ : MethodName) prog_101_method_9_code 8 (some .long) :: ws) ({ frames := 0, cells := 1, slots := 5, locals := 0 } : Room)) (fun aa U => aa = #[.ref (n0 + 0)] ∧ Z.Warmed39 U.vm ∧ U.heap = h0) (fun _ _ _ _ _ => True) (fun _ U o U' => ∃ v L, o = .returned v ∧ Q_pa5 Z n0 k0 k1 g0 g1 g2 g3 g4 vv0 vv1 vv2 vv3 vv4 v U'.heap L ∧ FrameEnd U o U' L ({ frames := 0, cells := 1, slots := 5, locals := 0 } : Room).cells ({ frames := 0, cells := 1, slots := 5, locals := 0 } : Room).slots) := by
  refine own_body pn2 ?_
  intro p e s m below meth c T0 hx hby hml hret hlk hown hnm hZ X0 e0
  subst e0
  have N0 : Fr n0 [] := Fr.nil n0
  refine own_cast (ef_pa5 m n0 g0 g1 g2 g3 g4 vv0 vv1 vv2 vv3 vv4) ?_
  refine w_aloadN X0 hx (hb hby d2_0) rfl rfl (pc' := 1) rfl ?_
  refine w_arrlen (i := 0) X0 hx hZ P0 rfl hk0 (hb hby d2_1) (z := (5 : Int32)) rfl (pc' := 2) rfl ?_
  refine w_newarr (N := 5) (j := 2) X0 hx hZ P0 (ty := .int) rfl (wd1 hw) (hb hby d2_2) (by decide) (by decide) (by decide) (by decide) rfl (pc' := 4) rfl ?_
  intro T1 kA1 X1 hkA1 P1
  replace P1 : HP n0 T1.heap [AC k0 [.int (Int32.ofNat g0), .int (Int32.ofNat g1), .int (Int32.ofNat g2), .int (Int32.ofNat g3), .int (Int32.ofNat g4)], AC k1 [.int vv0, .int vv1, .int vv2, .int vv3, .int vv4], AC kA1 [.int (0 : Int32), .int (0 : Int32), .int (0 : Int32), .int (0 : Int32), .int (0 : Int32)]] := P1
  replace P1 : HP n0 T1.heap [AC k0 [.int (Int32.ofNat g0), .int (Int32.ofNat g1), .int (Int32.ofNat g2), .int (Int32.ofNat g3), .int (Int32.ofNat g4)], AC k1 [.int vv0, .int vv1, .int vv2, .int vv3, .int vv4], AC kA1 (List.map Value.int ([0, 0, 0, 0, 0] : List Int32))] := P1
  refine w_astoreN (l' := #[.val (.ref (n0 + 0)), .val (.ref (n0 + 2)), .unset, .unset, .unset, .unset, .unset, .unset]) X1 hx (hb hby d2_4) rfl rfl (pc' := 5) rfl ?_
  refine w_aloadN X1 hx (hb hby d2_5) rfl rfl (pc' := 6) rfl ?_
  refine w_astoreN (l' := #[.val (.ref (n0 + 0)), .val (.ref (n0 + 2)), .val (.ref (n0 + 0)), .unset, .unset, .unset, .unset, .unset]) X1 hx (hb hby d2_6) rfl rfl (pc' := 7) rfl ?_
  refine w_aloadN X1 hx (hb hby d2_7) rfl rfl (pc' := 8) rfl ?_
  refine w_arrlen (i := 0) X1 hx hZ P1 rfl hk0 (hb hby d2_8) (z := (5 : Int32)) rfl (pc' := 9) rfl ?_
  refine w_istoreN (l' := #[.val (.ref (n0 + 0)), .val (.ref (n0 + 2)), .val (.ref (n0 + 0)), .val (.int (5 : Int32)), .unset, .unset, .unset, .unset]) X1 hx (hb hby d2_9) rfl (pc' := 10) rfl ?_
  refine w_iconst (v := (0 : Int32)) X1 hx (hb hby d2_10) rfl (pc' := 11) rfl ?_
  refine w_istore (l' := #[.val (.ref (n0 + 0)), .val (.ref (n0 + 2)), .val (.ref (n0 + 0)), .val (.int (5 : Int32)), .val (.int (0 : Int32)), .unset, .unset, .unset]) X1 hx (hb hby d2_11) rfl (pc' := 13) rfl ?_
  refine w_iload X1 hx (hb hby d2_13) rfl (pc' := 15) rfl ?_
  refine w_iloadN X1 hx (hb hby d2_15) rfl (pc' := 16) rfl ?_
  refine w_icmp_ge X1 hx (hb hby d2_16) (by decide) (pcY := 39) (by decide) (pc' := 19) rfl (fun h0 => absurd h0 (by decide)) (fun h0 => ?_)
  refine w_aloadN X1 hx (hb hby d2_19) rfl rfl (pc' := 20) rfl ?_
  refine w_iload X1 hx (hb hby d2_20) rfl (pc' := 22) rfl ?_
  refine w_iaload (i := 0) (jn := 0) (v := .int (Int32.ofNat g0)) X1 hx hZ P1 rfl hk0 (hb hby d2_22) (by decide) rfl (pc' := 23) rfl ?_
  refine w_istore (l' := #[.val (.ref (n0 + 0)), .val (.ref (n0 + 2)), .val (.ref (n0 + 0)), .val (.int (5 : Int32)), .val (.int (0 : Int32)), .val (.int (Int32.ofNat g0)), .unset, .unset]) X1 hx (hb hby d2_23) rfl (pc' := 25) rfl ?_
  refine w_aloadN X1 hx (hb hby d2_25) rfl rfl (pc' := 26) rfl ?_
  refine w_iload X1 hx (hb hby d2_26) rfl (pc' := 28) rfl ?_
  refine w_dup2 X1 hx (hb hby d2_28) rfl rfl (pc' := 29) rfl ?_
  refine w_ialoadL (i := 2) (jn := g0) X1 hx hZ P1 rfl hkA1 (hb hby d2_29) (own_oN (by omega)) (own_llt (show ([0, 0, 0, 0, 0] : List Int32).length = 5 from rfl) (by omega)) (pc' := 30) rfl ?_
  refine w_iconst (v := (1 : Int32)) X1 hx (hb hby d2_30) rfl (pc' := 31) rfl ?_
  refine w_iadd X1 hx (hb hby d2_31) (pc' := 32) rfl ?_
  refine w_iastoreL (i := 2) (jn := g0) X1 hx hZ N0 P1 rfl hkA1 (hb hby d2_32) (own_oN (by omega)) (own_llt (show ([0, 0, 0, 0, 0] : List Int32).length = 5 from rfl) (by omega)) (pc' := 33) rfl ?_
  intro T2 L1 N1 X2 P2
  replace P2 : HP n0 T2.heap [AC k0 [.int (Int32.ofNat g0), .int (Int32.ofNat g1), .int (Int32.ofNat g2), .int (Int32.ofNat g3), .int (Int32.ofNat g4)], AC k1 [.int vv0, .int vv1, .int vv2, .int vv3, .int vv4], AC kA1 (List.map Value.int (([0, 0, 0, 0, 0] : List Int32).set g0 ((([0, 0, 0, 0, 0] : List Int32).getD g0 0) + (1 : Int32))))] := P2
  replace P2 : HP n0 T2.heap [AC k0 [.int (Int32.ofNat g0), .int (Int32.ofNat g1), .int (Int32.ofNat g2), .int (Int32.ofNat g3), .int (Int32.ofNat g4)], AC k1 [.int vv0, .int vv1, .int vv2, .int vv3, .int vv4], AC kA1 (List.map Value.int (own_inc ([0, 0, 0, 0, 0] : List Int32) g0))] := P2
  refine w_iincE (z := (1 : Int32)) (l' := #[.val (.ref (n0 + 0)), .val (.ref (n0 + 2)), .val (.ref (n0 + 0)), .val (.int (5 : Int32)), .val (.int (1 : Int32)), .val (.int (Int32.ofNat g0)), .unset, .unset]) X2 hx (hb hby d2_33) rfl (by decide) rfl (pc' := 36) rfl ?_
  refine w_goto X2 hx (hb hby d2_36) (by decide) (pc' := 13) (by decide) ?_
  refine w_iload X2 hx (hb hby d2_13) rfl (pc' := 15) rfl ?_
  refine w_iloadN X2 hx (hb hby d2_15) rfl (pc' := 16) rfl ?_
  refine w_icmp_ge X2 hx (hb hby d2_16) (by decide) (pcY := 39) (by decide) (pc' := 19) rfl (fun h1 => absurd h1 (by decide)) (fun h1 => ?_)
  refine w_aloadN X2 hx (hb hby d2_19) rfl rfl (pc' := 20) rfl ?_
  refine w_iload X2 hx (hb hby d2_20) rfl (pc' := 22) rfl ?_
  refine w_iaload (i := 0) (jn := 1) (v := .int (Int32.ofNat g1)) X2 hx hZ P2 rfl hk0 (hb hby d2_22) (by decide) rfl (pc' := 23) rfl ?_
  refine w_istore (l' := #[.val (.ref (n0 + 0)), .val (.ref (n0 + 2)), .val (.ref (n0 + 0)), .val (.int (5 : Int32)), .val (.int (1 : Int32)), .val (.int (Int32.ofNat g1)), .unset, .unset]) X2 hx (hb hby d2_23) rfl (pc' := 25) rfl ?_
  refine w_aloadN X2 hx (hb hby d2_25) rfl rfl (pc' := 26) rfl ?_
  refine w_iload X2 hx (hb hby d2_26) rfl (pc' := 28) rfl ?_
  refine w_dup2 X2 hx (hb hby d2_28) rfl rfl (pc' := 29) rfl ?_
  refine w_ialoadL (i := 2) (jn := g1) X2 hx hZ P2 rfl hkA1 (hb hby d2_29) (own_oN (by omega)) (own_llt (own_sl (show ([0, 0, 0, 0, 0] : List Int32).length = 5 from rfl)) (by omega)) (pc' := 30) rfl ?_
  refine w_iconst (v := (1 : Int32)) X2 hx (hb hby d2_30) rfl (pc' := 31) rfl ?_
  refine w_iadd X2 hx (hb hby d2_31) (pc' := 32) rfl ?_
  refine w_iastoreL (i := 2) (jn := g1) X2 hx hZ N1 P2 rfl hkA1 (hb hby d2_32) (own_oN (by omega)) (own_llt (own_sl (show ([0, 0, 0, 0, 0] : List Int32).length = 5 from rfl)) (by omega)) (pc' := 33) rfl ?_
  intro T3 L2 N2 X3 P3
  replace P3 : HP n0 T3.heap [AC k0 [.int (Int32.ofNat g0), .int (Int32.ofNat g1), .int (Int32.ofNat g2), .int (Int32.ofNat g3), .int (Int32.ofNat g4)], AC k1 [.int vv0, .int vv1, .int vv2, .int vv3, .int vv4], AC kA1 (List.map Value.int ((own_inc ([0, 0, 0, 0, 0] : List Int32) g0).set g1 (((own_inc ([0, 0, 0, 0, 0] : List Int32) g0).getD g1 0) + (1 : Int32))))] := P3
  replace P3 : HP n0 T3.heap [AC k0 [.int (Int32.ofNat g0), .int (Int32.ofNat g1), .int (Int32.ofNat g2), .int (Int32.ofNat g3), .int (Int32.ofNat g4)], AC k1 [.int vv0, .int vv1, .int vv2, .int vv3, .int vv4], AC kA1 (List.map Value.int (own_inc (own_inc ([0, 0, 0, 0, 0] : List Int32) g0) g1))] := P3
  refine w_iincE (z := (2 : Int32)) (l' := #[.val (.ref (n0 + 0)), .val (.ref (n0 + 2)), .val (.ref (n0 + 0)), .val (.int (5 : Int32)), .val (.int (2 : Int32)), .val (.int (Int32.ofNat g1)), .unset, .unset]) X3 hx (hb hby d2_33) rfl (by decide) rfl (pc' := 36) rfl ?_
  refine w_goto X3 hx (hb hby d2_36) (by decide) (pc' := 13) (by decide) ?_
  refine w_iload X3 hx (hb hby d2_13) rfl (pc' := 15) rfl ?_
  refine w_iloadN X3 hx (hb hby d2_15) rfl (pc' := 16) rfl ?_
  refine w_icmp_ge X3 hx (hb hby d2_16) (by decide) (pcY := 39) (by decide) (pc' := 19) rfl (fun h2 => absurd h2 (by decide)) (fun h2 => ?_)
  refine w_aloadN X3 hx (hb hby d2_19) rfl rfl (pc' := 20) rfl ?_
  refine w_iload X3 hx (hb hby d2_20) rfl (pc' := 22) rfl ?_
  refine w_iaload (i := 0) (jn := 2) (v := .int (Int32.ofNat g2)) X3 hx hZ P3 rfl hk0 (hb hby d2_22) (by decide) rfl (pc' := 23) rfl ?_
  refine w_istore (l' := #[.val (.ref (n0 + 0)), .val (.ref (n0 + 2)), .val (.ref (n0 + 0)), .val (.int (5 : Int32)), .val (.int (2 : Int32)), .val (.int (Int32.ofNat g2)), .unset, .unset]) X3 hx (hb hby d2_23) rfl (pc' := 25) rfl ?_
  refine w_aloadN X3 hx (hb hby d2_25) rfl rfl (pc' := 26) rfl ?_
  refine w_iload X3 hx (hb hby d2_26) rfl (pc' := 28) rfl ?_
  refine w_dup2 X3 hx (hb hby d2_28) rfl rfl (pc' := 29) rfl ?_
  refine w_ialoadL (i := 2) (jn := g2) X3 hx hZ P3 rfl hkA1 (hb hby d2_29) (own_oN (by omega)) (own_llt (own_sl (own_sl (show ([0, 0, 0, 0, 0] : List Int32).length = 5 from rfl))) (by omega)) (pc' := 30) rfl ?_
  refine w_iconst (v := (1 : Int32)) X3 hx (hb hby d2_30) rfl (pc' := 31) rfl ?_
  refine w_iadd X3 hx (hb hby d2_31) (pc' := 32) rfl ?_
  refine w_iastoreL (i := 2) (jn := g2) X3 hx hZ N2 P3 rfl hkA1 (hb hby d2_32) (own_oN (by omega)) (own_llt (own_sl (own_sl (show ([0, 0, 0, 0, 0] : List Int32).length = 5 from rfl))) (by omega)) (pc' := 33) rfl ?_
  intro T4 L3 N3 X4 P4
  replace P4 : HP n0 T4.heap [AC k0 [.int (Int32.ofNat g0), .int (Int32.ofNat g1), .int (Int32.ofNat g2), .int (Int32.ofNat g3), .int (Int32.ofNat g4)], AC k1 [.int vv0, .int vv1, .int vv2, .int vv3, .int vv4], AC kA1 (List.map Value.int ((own_inc (own_inc ([0, 0, 0, 0, 0] : List Int32) g0) g1).set g2 (((own_inc (own_inc ([0, 0, 0, 0, 0] : List Int32) g0) g1).getD g2 0) + (1 : Int32))))] := P4
  replace P4 : HP n0 T4.heap [AC k0 [.int (Int32.ofNat g0), .int (Int32.ofNat g1), .int (Int32.ofNat g2), .int (Int32.ofNat g3), .int (Int32.ofNat g4)], AC k1 [.int vv0, .int vv1, .int vv2, .int vv3, .int vv4], AC kA1 (List.map Value.int (own_inc (own_inc (own_inc ([0, 0, 0, 0, 0] : List Int32) g0) g1) g2))] := P4
  refine w_iincE (z := (3 : Int32)) (l' := #[.val (.ref (n0 + 0)), .val (.ref (n0 + 2)), .val (.ref (n0 + 0)), .val (.int (5 : Int32)), .val (.int (3 : Int32)), .val (.int (Int32.ofNat g2)), .unset, .unset]) X4 hx (hb hby d2_33) rfl (by decide) rfl (pc' := 36) rfl ?_
  refine w_goto X4 hx (hb hby d2_36) (by decide) (pc' := 13) (by decide) ?_
  refine w_iload X4 hx (hb hby d2_13) rfl (pc' := 15) rfl ?_
  refine w_iloadN X4 hx (hb hby d2_15) rfl (pc' := 16) rfl ?_
  refine w_icmp_ge X4 hx (hb hby d2_16) (by decide) (pcY := 39) (by decide) (pc' := 19) rfl (fun h3 => absurd h3 (by decide)) (fun h3 => ?_)
  refine w_aloadN X4 hx (hb hby d2_19) rfl rfl (pc' := 20) rfl ?_
  refine w_iload X4 hx (hb hby d2_20) rfl (pc' := 22) rfl ?_
  refine w_iaload (i := 0) (jn := 3) (v := .int (Int32.ofNat g3)) X4 hx hZ P4 rfl hk0 (hb hby d2_22) (by decide) rfl (pc' := 23) rfl ?_
  refine w_istore (l' := #[.val (.ref (n0 + 0)), .val (.ref (n0 + 2)), .val (.ref (n0 + 0)), .val (.int (5 : Int32)), .val (.int (3 : Int32)), .val (.int (Int32.ofNat g3)), .unset, .unset]) X4 hx (hb hby d2_23) rfl (pc' := 25) rfl ?_
  refine w_aloadN X4 hx (hb hby d2_25) rfl rfl (pc' := 26) rfl ?_
  refine w_iload X4 hx (hb hby d2_26) rfl (pc' := 28) rfl ?_
  refine w_dup2 X4 hx (hb hby d2_28) rfl rfl (pc' := 29) rfl ?_
  refine w_ialoadL (i := 2) (jn := g3) X4 hx hZ P4 rfl hkA1 (hb hby d2_29) (own_oN (by omega)) (own_llt (own_sl (own_sl (own_sl (show ([0, 0, 0, 0, 0] : List Int32).length = 5 from rfl)))) (by omega)) (pc' := 30) rfl ?_
  refine w_iconst (v := (1 : Int32)) X4 hx (hb hby d2_30) rfl (pc' := 31) rfl ?_
  refine w_iadd X4 hx (hb hby d2_31) (pc' := 32) rfl ?_
  refine w_iastoreL (i := 2) (jn := g3) X4 hx hZ N3 P4 rfl hkA1 (hb hby d2_32) (own_oN (by omega)) (own_llt (own_sl (own_sl (own_sl (show ([0, 0, 0, 0, 0] : List Int32).length = 5 from rfl)))) (by omega)) (pc' := 33) rfl ?_
  intro T5 L4 N4 X5 P5
  replace P5 : HP n0 T5.heap [AC k0 [.int (Int32.ofNat g0), .int (Int32.ofNat g1), .int (Int32.ofNat g2), .int (Int32.ofNat g3), .int (Int32.ofNat g4)], AC k1 [.int vv0, .int vv1, .int vv2, .int vv3, .int vv4], AC kA1 (List.map Value.int ((own_inc (own_inc (own_inc ([0, 0, 0, 0, 0] : List Int32) g0) g1) g2).set g3 (((own_inc (own_inc (own_inc ([0, 0, 0, 0, 0] : List Int32) g0) g1) g2).getD g3 0) + (1 : Int32))))] := P5
  replace P5 : HP n0 T5.heap [AC k0 [.int (Int32.ofNat g0), .int (Int32.ofNat g1), .int (Int32.ofNat g2), .int (Int32.ofNat g3), .int (Int32.ofNat g4)], AC k1 [.int vv0, .int vv1, .int vv2, .int vv3, .int vv4], AC kA1 (List.map Value.int (own_inc (own_inc (own_inc (own_inc ([0, 0, 0, 0, 0] : List Int32) g0) g1) g2) g3))] := P5
  refine w_iincE (z := (4 : Int32)) (l' := #[.val (.ref (n0 + 0)), .val (.ref (n0 + 2)), .val (.ref (n0 + 0)), .val (.int (5 : Int32)), .val (.int (4 : Int32)), .val (.int (Int32.ofNat g3)), .unset, .unset]) X5 hx (hb hby d2_33) rfl (by decide) rfl (pc' := 36) rfl ?_
  refine w_goto X5 hx (hb hby d2_36) (by decide) (pc' := 13) (by decide) ?_
  refine w_iload X5 hx (hb hby d2_13) rfl (pc' := 15) rfl ?_
  refine w_iloadN X5 hx (hb hby d2_15) rfl (pc' := 16) rfl ?_
  refine w_icmp_ge X5 hx (hb hby d2_16) (by decide) (pcY := 39) (by decide) (pc' := 19) rfl (fun h4 => absurd h4 (by decide)) (fun h4 => ?_)
  refine w_aloadN X5 hx (hb hby d2_19) rfl rfl (pc' := 20) rfl ?_
  refine w_iload X5 hx (hb hby d2_20) rfl (pc' := 22) rfl ?_
  refine w_iaload (i := 0) (jn := 4) (v := .int (Int32.ofNat g4)) X5 hx hZ P5 rfl hk0 (hb hby d2_22) (by decide) rfl (pc' := 23) rfl ?_
  refine w_istore (l' := #[.val (.ref (n0 + 0)), .val (.ref (n0 + 2)), .val (.ref (n0 + 0)), .val (.int (5 : Int32)), .val (.int (4 : Int32)), .val (.int (Int32.ofNat g4)), .unset, .unset]) X5 hx (hb hby d2_23) rfl (pc' := 25) rfl ?_
  refine w_aloadN X5 hx (hb hby d2_25) rfl rfl (pc' := 26) rfl ?_
  refine w_iload X5 hx (hb hby d2_26) rfl (pc' := 28) rfl ?_
  refine w_dup2 X5 hx (hb hby d2_28) rfl rfl (pc' := 29) rfl ?_
  refine w_ialoadL (i := 2) (jn := g4) X5 hx hZ P5 rfl hkA1 (hb hby d2_29) (own_oN (by omega)) (own_llt (own_sl (own_sl (own_sl (own_sl (show ([0, 0, 0, 0, 0] : List Int32).length = 5 from rfl))))) (by omega)) (pc' := 30) rfl ?_
  refine w_iconst (v := (1 : Int32)) X5 hx (hb hby d2_30) rfl (pc' := 31) rfl ?_
  refine w_iadd X5 hx (hb hby d2_31) (pc' := 32) rfl ?_
  refine w_iastoreL (i := 2) (jn := g4) X5 hx hZ N4 P5 rfl hkA1 (hb hby d2_32) (own_oN (by omega)) (own_llt (own_sl (own_sl (own_sl (own_sl (show ([0, 0, 0, 0, 0] : List Int32).length = 5 from rfl))))) (by omega)) (pc' := 33) rfl ?_
  intro T6 L5 N5 X6 P6
  replace P6 : HP n0 T6.heap [AC k0 [.int (Int32.ofNat g0), .int (Int32.ofNat g1), .int (Int32.ofNat g2), .int (Int32.ofNat g3), .int (Int32.ofNat g4)], AC k1 [.int vv0, .int vv1, .int vv2, .int vv3, .int vv4], AC kA1 (List.map Value.int ((own_inc (own_inc (own_inc (own_inc ([0, 0, 0, 0, 0] : List Int32) g0) g1) g2) g3).set g4 (((own_inc (own_inc (own_inc (own_inc ([0, 0, 0, 0, 0] : List Int32) g0) g1) g2) g3).getD g4 0) + (1 : Int32))))] := P6
  replace P6 : HP n0 T6.heap [AC k0 [.int (Int32.ofNat g0), .int (Int32.ofNat g1), .int (Int32.ofNat g2), .int (Int32.ofNat g3), .int (Int32.ofNat g4)], AC k1 [.int vv0, .int vv1, .int vv2, .int vv3, .int vv4], AC kA1 (List.map Value.int (own_inc (own_inc (own_inc (own_inc (own_inc ([0, 0, 0, 0, 0] : List Int32) g0) g1) g2) g3) g4))] := P6
  refine w_iincE (z := (5 : Int32)) (l' := #[.val (.ref (n0 + 0)), .val (.ref (n0 + 2)), .val (.ref (n0 + 0)), .val (.int (5 : Int32)), .val (.int (5 : Int32)), .val (.int (Int32.ofNat g4)), .unset, .unset]) X6 hx (hb hby d2_33) rfl (by decide) rfl (pc' := 36) rfl ?_
  refine w_goto X6 hx (hb hby d2_36) (by decide) (pc' := 13) (by decide) ?_
  refine w_iload X6 hx (hb hby d2_13) rfl (pc' := 15) rfl ?_
  refine w_iloadN X6 hx (hb hby d2_15) rfl (pc' := 16) rfl ?_
  refine w_icmp_ge X6 hx (hb hby d2_16) (by decide) (pcY := 39) (by decide) (pc' := 19) rfl (fun h5 => ?_) (fun h5 => absurd h5 (by decide))
  refine w_lconst (v := (0 : Int64)) X6 hx (hb hby d2_39) rfl (pc' := 40) rfl ?_
  refine w_lstoreN (l' := #[.val (.ref (n0 + 0)), .val (.ref (n0 + 2)), .val (.long (0 : Int64)), .second, .val (.int (5 : Int32)), .val (.int (Int32.ofNat g4)), .unset, .unset]) X6 hx (hb hby d2_40) rfl (pc' := 41) rfl ?_
  refine w_aloadN X6 hx (hb hby d2_41) rfl rfl (pc' := 42) rfl ?_
  refine w_astore (l' := #[.val (.ref (n0 + 0)), .val (.ref (n0 + 2)), .val (.long (0 : Int64)), .second, .val (.ref (n0 + 2)), .val (.int (Int32.ofNat g4)), .unset, .unset]) X6 hx (hb hby d2_42) rfl rfl (pc' := 44) rfl ?_
  refine w_aload X6 hx (hb hby d2_44) rfl rfl (pc' := 46) rfl ?_
  refine w_arrlen (i := 2) X6 hx hZ P6 rfl hkA1 (hb hby d2_46) (z := (5 : Int32)) (own_len (own_sl (own_sl (own_sl (own_sl (own_sl (show ([0, 0, 0, 0, 0] : List Int32).length = 5 from rfl))))))) (pc' := 47) rfl ?_
  refine w_istore (l' := #[.val (.ref (n0 + 0)), .val (.ref (n0 + 2)), .val (.long (0 : Int64)), .second, .val (.ref (n0 + 2)), .val (.int (5 : Int32)), .unset, .unset]) X6 hx (hb hby d2_47) rfl (pc' := 49) rfl ?_
  refine w_iconst (v := (0 : Int32)) X6 hx (hb hby d2_49) rfl (pc' := 50) rfl ?_
  refine w_istore (l' := #[.val (.ref (n0 + 0)), .val (.ref (n0 + 2)), .val (.long (0 : Int64)), .second, .val (.ref (n0 + 2)), .val (.int (5 : Int32)), .val (.int (0 : Int32)), .unset]) X6 hx (hb hby d2_50) rfl (pc' := 52) rfl ?_
  refine w_iload X6 hx (hb hby d2_52) rfl (pc' := 54) rfl ?_
  refine w_iload X6 hx (hb hby d2_54) rfl (pc' := 56) rfl ?_
  refine w_icmp_ge X6 hx (hb hby d2_56) (by decide) (pcY := 88) (by decide) (pc' := 59) rfl (fun h6 => absurd h6 (by decide)) (fun h6 => ?_)
  refine w_aload X6 hx (hb hby d2_59) rfl rfl (pc' := 61) rfl ?_
  refine w_iload X6 hx (hb hby d2_61) rfl (pc' := 63) rfl ?_
  refine w_ialoadL (i := 2) (jn := 0) X6 hx hZ P6 rfl hkA1 (hb hby d2_63) (by decide) (own_llt (own_sl (own_sl (own_sl (own_sl (own_sl (show ([0, 0, 0, 0, 0] : List Int32).length = 5 from rfl)))))) (by omega)) (pc' := 64) rfl ?_
  refine w_istore (l' := #[.val (.ref (n0 + 0)), .val (.ref (n0 + 2)), .val (.long (0 : Int64)), .second, .val (.ref (n0 + 2)), .val (.int (5 : Int32)), .val (.int (0 : Int32)), .val (.int ((own_inc (own_inc (own_inc (own_inc (own_inc ([0, 0, 0, 0, 0] : List Int32) g0) g1) g2) g3) g4).getD 0 0))]) X6 hx (hb hby d2_64) rfl (pc' := 66) rfl ?_
  refine w_lloadN X6 hx (hb hby d2_66) rfl (pc' := 67) rfl ?_
  refine w_iload X6 hx (hb hby d2_67) rfl (pc' := 69) rfl ?_
  refine w_i2l X6 hx (hb hby d2_69) (pc' := 70) rfl ?_
  refine w_iload X6 hx (hb hby d2_70) rfl (pc' := 72) rfl ?_
  refine w_iconst (v := (1 : Int32)) X6 hx (hb hby d2_72) rfl (pc' := 73) rfl ?_
  refine w_isub X6 hx (hb hby d2_73) (pc' := 74) rfl ?_
  refine w_i2l X6 hx (hb hby d2_74) (pc' := 75) rfl ?_
  refine w_lmul X6 hx (hb hby d2_75) (pc' := 76) rfl ?_
  refine w_ldc2 X6 hx (hb hby d2_76) hown (mvT hZ (wd10 hw)) (pc' := 79) rfl ?_
  refine w_ldiv X6 hx (hb hby d2_79) (by decide) (pc' := 80) rfl ?_
  refine w_ladd X6 hx (hb hby d2_80) (pc' := 81) rfl ?_
  refine w_lstoreN (l' := #[.val (.ref (n0 + 0)), .val (.ref (n0 + 2)), .val (.long ((0 : Int64) + (((Int32.toInt64 ((own_inc (own_inc (own_inc (own_inc (own_inc ([0, 0, 0, 0, 0] : List Int32) g0) g1) g2) g3) g4).getD 0 0)) * (Int32.toInt64 (((own_inc (own_inc (own_inc (own_inc (own_inc ([0, 0, 0, 0, 0] : List Int32) g0) g1) g2) g3) g4).getD 0 0) - (1 : Int32)))) / (2 : Int64)))), .second, .val (.ref (n0 + 2)), .val (.int (5 : Int32)), .val (.int (0 : Int32)), .val (.int ((own_inc (own_inc (own_inc (own_inc (own_inc ([0, 0, 0, 0, 0] : List Int32) g0) g1) g2) g3) g4).getD 0 0))]) X6 hx (hb hby d2_81) rfl (pc' := 82) rfl ?_
  refine w_iincE (z := (1 : Int32)) (l' := #[.val (.ref (n0 + 0)), .val (.ref (n0 + 2)), .val (.long ((0 : Int64) + (((Int32.toInt64 ((own_inc (own_inc (own_inc (own_inc (own_inc ([0, 0, 0, 0, 0] : List Int32) g0) g1) g2) g3) g4).getD 0 0)) * (Int32.toInt64 (((own_inc (own_inc (own_inc (own_inc (own_inc ([0, 0, 0, 0, 0] : List Int32) g0) g1) g2) g3) g4).getD 0 0) - (1 : Int32)))) / (2 : Int64)))), .second, .val (.ref (n0 + 2)), .val (.int (5 : Int32)), .val (.int (1 : Int32)), .val (.int ((own_inc (own_inc (own_inc (own_inc (own_inc ([0, 0, 0, 0, 0] : List Int32) g0) g1) g2) g3) g4).getD 0 0))]) X6 hx (hb hby d2_82) rfl (by decide) rfl (pc' := 85) rfl ?_
  refine w_goto X6 hx (hb hby d2_85) (by decide) (pc' := 52) (by decide) ?_
  refine w_iload X6 hx (hb hby d2_52) rfl (pc' := 54) rfl ?_
  refine w_iload X6 hx (hb hby d2_54) rfl (pc' := 56) rfl ?_
  refine w_icmp_ge X6 hx (hb hby d2_56) (by decide) (pcY := 88) (by decide) (pc' := 59) rfl (fun h7 => absurd h7 (by decide)) (fun h7 => ?_)
  refine w_aload X6 hx (hb hby d2_59) rfl rfl (pc' := 61) rfl ?_
  refine w_iload X6 hx (hb hby d2_61) rfl (pc' := 63) rfl ?_
  refine w_ialoadL (i := 2) (jn := 1) X6 hx hZ P6 rfl hkA1 (hb hby d2_63) (by decide) (own_llt (own_sl (own_sl (own_sl (own_sl (own_sl (show ([0, 0, 0, 0, 0] : List Int32).length = 5 from rfl)))))) (by omega)) (pc' := 64) rfl ?_
  refine w_istore (l' := #[.val (.ref (n0 + 0)), .val (.ref (n0 + 2)), .val (.long ((0 : Int64) + (((Int32.toInt64 ((own_inc (own_inc (own_inc (own_inc (own_inc ([0, 0, 0, 0, 0] : List Int32) g0) g1) g2) g3) g4).getD 0 0)) * (Int32.toInt64 (((own_inc (own_inc (own_inc (own_inc (own_inc ([0, 0, 0, 0, 0] : List Int32) g0) g1) g2) g3) g4).getD 0 0) - (1 : Int32)))) / (2 : Int64)))), .second, .val (.ref (n0 + 2)), .val (.int (5 : Int32)), .val (.int (1 : Int32)), .val (.int ((own_inc (own_inc (own_inc (own_inc (own_inc ([0, 0, 0, 0, 0] : List Int32) g0) g1) g2) g3) g4).getD 1 0))]) X6 hx (hb hby d2_64) rfl (pc' := 66) rfl ?_
  refine w_lloadN X6 hx (hb hby d2_66) rfl (pc' := 67) rfl ?_
  refine w_iload X6 hx (hb hby d2_67) rfl (pc' := 69) rfl ?_
  refine w_i2l X6 hx (hb hby d2_69) (pc' := 70) rfl ?_
  refine w_iload X6 hx (hb hby d2_70) rfl (pc' := 72) rfl ?_
  refine w_iconst (v := (1 : Int32)) X6 hx (hb hby d2_72) rfl (pc' := 73) rfl ?_
  refine w_isub X6 hx (hb hby d2_73) (pc' := 74) rfl ?_
  refine w_i2l X6 hx (hb hby d2_74) (pc' := 75) rfl ?_
  refine w_lmul X6 hx (hb hby d2_75) (pc' := 76) rfl ?_
  refine w_ldc2 X6 hx (hb hby d2_76) hown (mvT hZ (wd10 hw)) (pc' := 79) rfl ?_
  refine w_ldiv X6 hx (hb hby d2_79) (by decide) (pc' := 80) rfl ?_
  refine w_ladd X6 hx (hb hby d2_80) (pc' := 81) rfl ?_
  refine w_lstoreN (l' := #[.val (.ref (n0 + 0)), .val (.ref (n0 + 2)), .val (.long (((0 : Int64) + (((Int32.toInt64 ((own_inc (own_inc (own_inc (own_inc (own_inc ([0, 0, 0, 0, 0] : List Int32) g0) g1) g2) g3) g4).getD 0 0)) * (Int32.toInt64 (((own_inc (own_inc (own_inc (own_inc (own_inc ([0, 0, 0, 0, 0] : List Int32) g0) g1) g2) g3) g4).getD 0 0) - (1 : Int32)))) / (2 : Int64))) + (((Int32.toInt64 ((own_inc (own_inc (own_inc (own_inc (own_inc ([0, 0, 0, 0, 0] : List Int32) g0) g1) g2) g3) g4).getD 1 0)) * (Int32.toInt64 (((own_inc (own_inc (own_inc (own_inc (own_inc ([0, 0, 0, 0, 0] : List Int32) g0) g1) g2) g3) g4).getD 1 0) - (1 : Int32)))) / (2 : Int64)))), .second, .val (.ref (n0 + 2)), .val (.int (5 : Int32)), .val (.int (1 : Int32)), .val (.int ((own_inc (own_inc (own_inc (own_inc (own_inc ([0, 0, 0, 0, 0] : List Int32) g0) g1) g2) g3) g4).getD 1 0))]) X6 hx (hb hby d2_81) rfl (pc' := 82) rfl ?_
  refine w_iincE (z := (2 : Int32)) (l' := #[.val (.ref (n0 + 0)), .val (.ref (n0 + 2)), .val (.long (((0 : Int64) + (((Int32.toInt64 ((own_inc (own_inc (own_inc (own_inc (own_inc ([0, 0, 0, 0, 0] : List Int32) g0) g1) g2) g3) g4).getD 0 0)) * (Int32.toInt64 (((own_inc (own_inc (own_inc (own_inc (own_inc ([0, 0, 0, 0, 0] : List Int32) g0) g1) g2) g3) g4).getD 0 0) - (1 : Int32)))) / (2 : Int64))) + (((Int32.toInt64 ((own_inc (own_inc (own_inc (own_inc (own_inc ([0, 0, 0, 0, 0] : List Int32) g0) g1) g2) g3) g4).getD 1 0)) * (Int32.toInt64 (((own_inc (own_inc (own_inc (own_inc (own_inc ([0, 0, 0, 0, 0] : List Int32) g0) g1) g2) g3) g4).getD 1 0) - (1 : Int32)))) / (2 : Int64)))), .second, .val (.ref (n0 + 2)), .val (.int (5 : Int32)), .val (.int (2 : Int32)), .val (.int ((own_inc (own_inc (own_inc (own_inc (own_inc ([0, 0, 0, 0, 0] : List Int32) g0) g1) g2) g3) g4).getD 1 0))]) X6 hx (hb hby d2_82) rfl (by decide) rfl (pc' := 85) rfl ?_
  refine w_goto X6 hx (hb hby d2_85) (by decide) (pc' := 52) (by decide) ?_
  refine w_iload X6 hx (hb hby d2_52) rfl (pc' := 54) rfl ?_
  refine w_iload X6 hx (hb hby d2_54) rfl (pc' := 56) rfl ?_
  refine w_icmp_ge X6 hx (hb hby d2_56) (by decide) (pcY := 88) (by decide) (pc' := 59) rfl (fun h8 => absurd h8 (by decide)) (fun h8 => ?_)
  refine w_aload X6 hx (hb hby d2_59) rfl rfl (pc' := 61) rfl ?_
  refine w_iload X6 hx (hb hby d2_61) rfl (pc' := 63) rfl ?_
  refine w_ialoadL (i := 2) (jn := 2) X6 hx hZ P6 rfl hkA1 (hb hby d2_63) (by decide) (own_llt (own_sl (own_sl (own_sl (own_sl (own_sl (show ([0, 0, 0, 0, 0] : List Int32).length = 5 from rfl)))))) (by omega)) (pc' := 64) rfl ?_
  refine w_istore (l' := #[.val (.ref (n0 + 0)), .val (.ref (n0 + 2)), .val (.long (((0 : Int64) + (((Int32.toInt64 ((own_inc (own_inc (own_inc (own_inc (own_inc ([0, 0, 0, 0, 0] : List Int32) g0) g1) g2) g3) g4).getD 0 0)) * (Int32.toInt64 (((own_inc (own_inc (own_inc (own_inc (own_inc ([0, 0, 0, 0, 0] : List Int32) g0) g1) g2) g3) g4).getD 0 0) - (1 : Int32)))) / (2 : Int64))) + (((Int32.toInt64 ((own_inc (own_inc (own_inc (own_inc (own_inc ([0, 0, 0, 0, 0] : List Int32) g0) g1) g2) g3) g4).getD 1 0)) * (Int32.toInt64 (((own_inc (own_inc (own_inc (own_inc (own_inc ([0, 0, 0, 0, 0] : List Int32) g0) g1) g2) g3) g4).getD 1 0) - (1 : Int32)))) / (2 : Int64)))), .second, .val (.ref (n0 + 2)), .val (.int (5 : Int32)), .val (.int (2 : Int32)), .val (.int ((own_inc (own_inc (own_inc (own_inc (own_inc ([0, 0, 0, 0, 0] : List Int32) g0) g1) g2) g3) g4).getD 2 0))]) X6 hx (hb hby d2_64) rfl (pc' := 66) rfl ?_
  refine w_lloadN X6 hx (hb hby d2_66) rfl (pc' := 67) rfl ?_
  refine w_iload X6 hx (hb hby d2_67) rfl (pc' := 69) rfl ?_
  refine w_i2l X6 hx (hb hby d2_69) (pc' := 70) rfl ?_
  refine w_iload X6 hx (hb hby d2_70) rfl (pc' := 72) rfl ?_
  refine w_iconst (v := (1 : Int32)) X6 hx (hb hby d2_72) rfl (pc' := 73) rfl ?_
  refine w_isub X6 hx (hb hby d2_73) (pc' := 74) rfl ?_
  refine w_i2l X6 hx (hb hby d2_74) (pc' := 75) rfl ?_
  refine w_lmul X6 hx (hb hby d2_75) (pc' := 76) rfl ?_
  refine w_ldc2 X6 hx (hb hby d2_76) hown (mvT hZ (wd10 hw)) (pc' := 79) rfl ?_
  refine w_ldiv X6 hx (hb hby d2_79) (by decide) (pc' := 80) rfl ?_
  refine w_ladd X6 hx (hb hby d2_80) (pc' := 81) rfl ?_
  refine w_lstoreN (l' := #[.val (.ref (n0 + 0)), .val (.ref (n0 + 2)), .val (.long ((((0 : Int64) + (((Int32.toInt64 ((own_inc (own_inc (own_inc (own_inc (own_inc ([0, 0, 0, 0, 0] : List Int32) g0) g1) g2) g3) g4).getD 0 0)) * (Int32.toInt64 (((own_inc (own_inc (own_inc (own_inc (own_inc ([0, 0, 0, 0, 0] : List Int32) g0) g1) g2) g3) g4).getD 0 0) - (1 : Int32)))) / (2 : Int64))) + (((Int32.toInt64 ((own_inc (own_inc (own_inc (own_inc (own_inc ([0, 0, 0, 0, 0] : List Int32) g0) g1) g2) g3) g4).getD 1 0)) * (Int32.toInt64 (((own_inc (own_inc (own_inc (own_inc (own_inc ([0, 0, 0, 0, 0] : List Int32) g0) g1) g2) g3) g4).getD 1 0) - (1 : Int32)))) / (2 : Int64))) + (((Int32.toInt64 ((own_inc (own_inc (own_inc (own_inc (own_inc ([0, 0, 0, 0, 0] : List Int32) g0) g1) g2) g3) g4).getD 2 0)) * (Int32.toInt64 (((own_inc (own_inc (own_inc (own_inc (own_inc ([0, 0, 0, 0, 0] : List Int32) g0) g1) g2) g3) g4).getD 2 0) - (1 : Int32)))) / (2 : Int64)))), .second, .val (.ref (n0 + 2)), .val (.int (5 : Int32)), .val (.int (2 : Int32)), .val (.int ((own_inc (own_inc (own_inc (own_inc (own_inc ([0, 0, 0, 0, 0] : List Int32) g0) g1) g2) g3) g4).getD 2 0))]) X6 hx (hb hby d2_81) rfl (pc' := 82) rfl ?_
  refine w_iincE (z := (3 : Int32)) (l' := #[.val (.ref (n0 + 0)), .val (.ref (n0 + 2)), .val (.long ((((0 : Int64) + (((Int32.toInt64 ((own_inc (own_inc (own_inc (own_inc (own_inc ([0, 0, 0, 0, 0] : List Int32) g0) g1) g2) g3) g4).getD 0 0)) * (Int32.toInt64 (((own_inc (own_inc (own_inc (own_inc (own_inc ([0, 0, 0, 0, 0] : List Int32) g0) g1) g2) g3) g4).getD 0 0) - (1 : Int32)))) / (2 : Int64))) + (((Int32.toInt64 ((own_inc (own_inc (own_inc (own_inc (own_inc ([0, 0, 0, 0, 0] : List Int32) g0) g1) g2) g3) g4).getD 1 0)) * (Int32.toInt64 (((own_inc (own_inc (own_inc (own_inc (own_inc ([0, 0, 0, 0, 0] : List Int32) g0) g1) g2) g3) g4).getD 1 0) - (1 : Int32)))) / (2 : Int64))) + (((Int32.toInt64 ((own_inc (own_inc (own_inc (own_inc (own_inc ([0, 0, 0, 0, 0] : List Int32) g0) g1) g2) g3) g4).getD 2 0)) * (Int32.toInt64 (((own_inc (own_inc (own_inc (own_inc (own_inc ([0, 0, 0, 0, 0] : List Int32) g0) g1) g2) g3) g4).getD 2 0) - (1 : Int32)))) / (2 : Int64)))), .second, .val (.ref (n0 + 2)), .val (.int (5 : Int32)), .val (.int (3 : Int32)), .val (.int ((own_inc (own_inc (own_inc (own_inc (own_inc ([0, 0, 0, 0, 0] : List Int32) g0) g1) g2) g3) g4).getD 2 0))]) X6 hx (hb hby d2_82) rfl (by decide) rfl (pc' := 85) rfl ?_
  refine w_goto X6 hx (hb hby d2_85) (by decide) (pc' := 52) (by decide) ?_
  refine w_iload X6 hx (hb hby d2_52) rfl (pc' := 54) rfl ?_
  refine w_iload X6 hx (hb hby d2_54) rfl (pc' := 56) rfl ?_
  refine w_icmp_ge X6 hx (hb hby d2_56) (by decide) (pcY := 88) (by decide) (pc' := 59) rfl (fun h9 => absurd h9 (by decide)) (fun h9 => ?_)
  refine w_aload X6 hx (hb hby d2_59) rfl rfl (pc' := 61) rfl ?_
  refine w_iload X6 hx (hb hby d2_61) rfl (pc' := 63) rfl ?_
  refine w_ialoadL (i := 2) (jn := 3) X6 hx hZ P6 rfl hkA1 (hb hby d2_63) (by decide) (own_llt (own_sl (own_sl (own_sl (own_sl (own_sl (show ([0, 0, 0, 0, 0] : List Int32).length = 5 from rfl)))))) (by omega)) (pc' := 64) rfl ?_
  refine w_istore (l' := #[.val (.ref (n0 + 0)), .val (.ref (n0 + 2)), .val (.long ((((0 : Int64) + (((Int32.toInt64 ((own_inc (own_inc (own_inc (own_inc (own_inc ([0, 0, 0, 0, 0] : List Int32) g0) g1) g2) g3) g4).getD 0 0)) * (Int32.toInt64 (((own_inc (own_inc (own_inc (own_inc (own_inc ([0, 0, 0, 0, 0] : List Int32) g0) g1) g2) g3) g4).getD 0 0) - (1 : Int32)))) / (2 : Int64))) + (((Int32.toInt64 ((own_inc (own_inc (own_inc (own_inc (own_inc ([0, 0, 0, 0, 0] : List Int32) g0) g1) g2) g3) g4).getD 1 0)) * (Int32.toInt64 (((own_inc (own_inc (own_inc (own_inc (own_inc ([0, 0, 0, 0, 0] : List Int32) g0) g1) g2) g3) g4).getD 1 0) - (1 : Int32)))) / (2 : Int64))) + (((Int32.toInt64 ((own_inc (own_inc (own_inc (own_inc (own_inc ([0, 0, 0, 0, 0] : List Int32) g0) g1) g2) g3) g4).getD 2 0)) * (Int32.toInt64 (((own_inc (own_inc (own_inc (own_inc (own_inc ([0, 0, 0, 0, 0] : List Int32) g0) g1) g2) g3) g4).getD 2 0) - (1 : Int32)))) / (2 : Int64)))), .second, .val (.ref (n0 + 2)), .val (.int (5 : Int32)), .val (.int (3 : Int32)), .val (.int ((own_inc (own_inc (own_inc (own_inc (own_inc ([0, 0, 0, 0, 0] : List Int32) g0) g1) g2) g3) g4).getD 3 0))]) X6 hx (hb hby d2_64) rfl (pc' := 66) rfl ?_
  refine w_lloadN X6 hx (hb hby d2_66) rfl (pc' := 67) rfl ?_
  refine w_iload X6 hx (hb hby d2_67) rfl (pc' := 69) rfl ?_
  refine w_i2l X6 hx (hb hby d2_69) (pc' := 70) rfl ?_
  refine w_iload X6 hx (hb hby d2_70) rfl (pc' := 72) rfl ?_
  refine w_iconst (v := (1 : Int32)) X6 hx (hb hby d2_72) rfl (pc' := 73) rfl ?_
  refine w_isub X6 hx (hb hby d2_73) (pc' := 74) rfl ?_
  refine w_i2l X6 hx (hb hby d2_74) (pc' := 75) rfl ?_
  refine w_lmul X6 hx (hb hby d2_75) (pc' := 76) rfl ?_
  refine w_ldc2 X6 hx (hb hby d2_76) hown (mvT hZ (wd10 hw)) (pc' := 79) rfl ?_
  refine w_ldiv X6 hx (hb hby d2_79) (by decide) (pc' := 80) rfl ?_
  refine w_ladd X6 hx (hb hby d2_80) (pc' := 81) rfl ?_
  refine w_lstoreN (l' := #[.val (.ref (n0 + 0)), .val (.ref (n0 + 2)), .val (.long (((((0 : Int64) + (((Int32.toInt64 ((own_inc (own_inc (own_inc (own_inc (own_inc ([0, 0, 0, 0, 0] : List Int32) g0) g1) g2) g3) g4).getD 0 0)) * (Int32.toInt64 (((own_inc (own_inc (own_inc (own_inc (own_inc ([0, 0, 0, 0, 0] : List Int32) g0) g1) g2) g3) g4).getD 0 0) - (1 : Int32)))) / (2 : Int64))) + (((Int32.toInt64 ((own_inc (own_inc (own_inc (own_inc (own_inc ([0, 0, 0, 0, 0] : List Int32) g0) g1) g2) g3) g4).getD 1 0)) * (Int32.toInt64 (((own_inc (own_inc (own_inc (own_inc (own_inc ([0, 0, 0, 0, 0] : List Int32) g0) g1) g2) g3) g4).getD 1 0) - (1 : Int32)))) / (2 : Int64))) + (((Int32.toInt64 ((own_inc (own_inc (own_inc (own_inc (own_inc ([0, 0, 0, 0, 0] : List Int32) g0) g1) g2) g3) g4).getD 2 0)) * (Int32.toInt64 (((own_inc (own_inc (own_inc (own_inc (own_inc ([0, 0, 0, 0, 0] : List Int32) g0) g1) g2) g3) g4).getD 2 0) - (1 : Int32)))) / (2 : Int64))) + (((Int32.toInt64 ((own_inc (own_inc (own_inc (own_inc (own_inc ([0, 0, 0, 0, 0] : List Int32) g0) g1) g2) g3) g4).getD 3 0)) * (Int32.toInt64 (((own_inc (own_inc (own_inc (own_inc (own_inc ([0, 0, 0, 0, 0] : List Int32) g0) g1) g2) g3) g4).getD 3 0) - (1 : Int32)))) / (2 : Int64)))), .second, .val (.ref (n0 + 2)), .val (.int (5 : Int32)), .val (.int (3 : Int32)), .val (.int ((own_inc (own_inc (own_inc (own_inc (own_inc ([0, 0, 0, 0, 0] : List Int32) g0) g1) g2) g3) g4).getD 3 0))]) X6 hx (hb hby d2_81) rfl (pc' := 82) rfl ?_
  refine w_iincE (z := (4 : Int32)) (l' := #[.val (.ref (n0 + 0)), .val (.ref (n0 + 2)), .val (.long (((((0 : Int64) + (((Int32.toInt64 ((own_inc (own_inc (own_inc (own_inc (own_inc ([0, 0, 0, 0, 0] : List Int32) g0) g1) g2) g3) g4).getD 0 0)) * (Int32.toInt64 (((own_inc (own_inc (own_inc (own_inc (own_inc ([0, 0, 0, 0, 0] : List Int32) g0) g1) g2) g3) g4).getD 0 0) - (1 : Int32)))) / (2 : Int64))) + (((Int32.toInt64 ((own_inc (own_inc (own_inc (own_inc (own_inc ([0, 0, 0, 0, 0] : List Int32) g0) g1) g2) g3) g4).getD 1 0)) * (Int32.toInt64 (((own_inc (own_inc (own_inc (own_inc (own_inc ([0, 0, 0, 0, 0] : List Int32) g0) g1) g2) g3) g4).getD 1 0) - (1 : Int32)))) / (2 : Int64))) + (((Int32.toInt64 ((own_inc (own_inc (own_inc (own_inc (own_inc ([0, 0, 0, 0, 0] : List Int32) g0) g1) g2) g3) g4).getD 2 0)) * (Int32.toInt64 (((own_inc (own_inc (own_inc (own_inc (own_inc ([0, 0, 0, 0, 0] : List Int32) g0) g1) g2) g3) g4).getD 2 0) - (1 : Int32)))) / (2 : Int64))) + (((Int32.toInt64 ((own_inc (own_inc (own_inc (own_inc (own_inc ([0, 0, 0, 0, 0] : List Int32) g0) g1) g2) g3) g4).getD 3 0)) * (Int32.toInt64 (((own_inc (own_inc (own_inc (own_inc (own_inc ([0, 0, 0, 0, 0] : List Int32) g0) g1) g2) g3) g4).getD 3 0) - (1 : Int32)))) / (2 : Int64)))), .second, .val (.ref (n0 + 2)), .val (.int (5 : Int32)), .val (.int (4 : Int32)), .val (.int ((own_inc (own_inc (own_inc (own_inc (own_inc ([0, 0, 0, 0, 0] : List Int32) g0) g1) g2) g3) g4).getD 3 0))]) X6 hx (hb hby d2_82) rfl (by decide) rfl (pc' := 85) rfl ?_
  refine w_goto X6 hx (hb hby d2_85) (by decide) (pc' := 52) (by decide) ?_
  refine w_iload X6 hx (hb hby d2_52) rfl (pc' := 54) rfl ?_
  refine w_iload X6 hx (hb hby d2_54) rfl (pc' := 56) rfl ?_
  refine w_icmp_ge X6 hx (hb hby d2_56) (by decide) (pcY := 88) (by decide) (pc' := 59) rfl (fun h10 => absurd h10 (by decide)) (fun h10 => ?_)
  refine w_aload X6 hx (hb hby d2_59) rfl rfl (pc' := 61) rfl ?_
  refine w_iload X6 hx (hb hby d2_61) rfl (pc' := 63) rfl ?_
  refine w_ialoadL (i := 2) (jn := 4) X6 hx hZ P6 rfl hkA1 (hb hby d2_63) (by decide) (own_llt (own_sl (own_sl (own_sl (own_sl (own_sl (show ([0, 0, 0, 0, 0] : List Int32).length = 5 from rfl)))))) (by omega)) (pc' := 64) rfl ?_
  refine w_istore (l' := #[.val (.ref (n0 + 0)), .val (.ref (n0 + 2)), .val (.long (((((0 : Int64) + (((Int32.toInt64 ((own_inc (own_inc (own_inc (own_inc (own_inc ([0, 0, 0, 0, 0] : List Int32) g0) g1) g2) g3) g4).getD 0 0)) * (Int32.toInt64 (((own_inc (own_inc (own_inc (own_inc (own_inc ([0, 0, 0, 0, 0] : List Int32) g0) g1) g2) g3) g4).getD 0 0) - (1 : Int32)))) / (2 : Int64))) + (((Int32.toInt64 ((own_inc (own_inc (own_inc (own_inc (own_inc ([0, 0, 0, 0, 0] : List Int32) g0) g1) g2) g3) g4).getD 1 0)) * (Int32.toInt64 (((own_inc (own_inc (own_inc (own_inc (own_inc ([0, 0, 0, 0, 0] : List Int32) g0) g1) g2) g3) g4).getD 1 0) - (1 : Int32)))) / (2 : Int64))) + (((Int32.toInt64 ((own_inc (own_inc (own_inc (own_inc (own_inc ([0, 0, 0, 0, 0] : List Int32) g0) g1) g2) g3) g4).getD 2 0)) * (Int32.toInt64 (((own_inc (own_inc (own_inc (own_inc (own_inc ([0, 0, 0, 0, 0] : List Int32) g0) g1) g2) g3) g4).getD 2 0) - (1 : Int32)))) / (2 : Int64))) + (((Int32.toInt64 ((own_inc (own_inc (own_inc (own_inc (own_inc ([0, 0, 0, 0, 0] : List Int32) g0) g1) g2) g3) g4).getD 3 0)) * (Int32.toInt64 (((own_inc (own_inc (own_inc (own_inc (own_inc ([0, 0, 0, 0, 0] : List Int32) g0) g1) g2) g3) g4).getD 3 0) - (1 : Int32)))) / (2 : Int64)))), .second, .val (.ref (n0 + 2)), .val (.int (5 : Int32)), .val (.int (4 : Int32)), .val (.int ((own_inc (own_inc (own_inc (own_inc (own_inc ([0, 0, 0, 0, 0] : List Int32) g0) g1) g2) g3) g4).getD 4 0))]) X6 hx (hb hby d2_64) rfl (pc' := 66) rfl ?_
  refine w_lloadN X6 hx (hb hby d2_66) rfl (pc' := 67) rfl ?_
  refine w_iload X6 hx (hb hby d2_67) rfl (pc' := 69) rfl ?_
  refine w_i2l X6 hx (hb hby d2_69) (pc' := 70) rfl ?_
  refine w_iload X6 hx (hb hby d2_70) rfl (pc' := 72) rfl ?_
  refine w_iconst (v := (1 : Int32)) X6 hx (hb hby d2_72) rfl (pc' := 73) rfl ?_
  refine w_isub X6 hx (hb hby d2_73) (pc' := 74) rfl ?_
  refine w_i2l X6 hx (hb hby d2_74) (pc' := 75) rfl ?_
  refine w_lmul X6 hx (hb hby d2_75) (pc' := 76) rfl ?_
  refine w_ldc2 X6 hx (hb hby d2_76) hown (mvT hZ (wd10 hw)) (pc' := 79) rfl ?_
  refine w_ldiv X6 hx (hb hby d2_79) (by decide) (pc' := 80) rfl ?_
  refine w_ladd X6 hx (hb hby d2_80) (pc' := 81) rfl ?_
  refine w_lstoreN (l' := #[.val (.ref (n0 + 0)), .val (.ref (n0 + 2)), .val (.long ((((((0 : Int64) + (((Int32.toInt64 ((own_inc (own_inc (own_inc (own_inc (own_inc ([0, 0, 0, 0, 0] : List Int32) g0) g1) g2) g3) g4).getD 0 0)) * (Int32.toInt64 (((own_inc (own_inc (own_inc (own_inc (own_inc ([0, 0, 0, 0, 0] : List Int32) g0) g1) g2) g3) g4).getD 0 0) - (1 : Int32)))) / (2 : Int64))) + (((Int32.toInt64 ((own_inc (own_inc (own_inc (own_inc (own_inc ([0, 0, 0, 0, 0] : List Int32) g0) g1) g2) g3) g4).getD 1 0)) * (Int32.toInt64 (((own_inc (own_inc (own_inc (own_inc (own_inc ([0, 0, 0, 0, 0] : List Int32) g0) g1) g2) g3) g4).getD 1 0) - (1 : Int32)))) / (2 : Int64))) + (((Int32.toInt64 ((own_inc (own_inc (own_inc (own_inc (own_inc ([0, 0, 0, 0, 0] : List Int32) g0) g1) g2) g3) g4).getD 2 0)) * (Int32.toInt64 (((own_inc (own_inc (own_inc (own_inc (own_inc ([0, 0, 0, 0, 0] : List Int32) g0) g1) g2) g3) g4).getD 2 0) - (1 : Int32)))) / (2 : Int64))) + (((Int32.toInt64 ((own_inc (own_inc (own_inc (own_inc (own_inc ([0, 0, 0, 0, 0] : List Int32) g0) g1) g2) g3) g4).getD 3 0)) * (Int32.toInt64 (((own_inc (own_inc (own_inc (own_inc (own_inc ([0, 0, 0, 0, 0] : List Int32) g0) g1) g2) g3) g4).getD 3 0) - (1 : Int32)))) / (2 : Int64))) + (((Int32.toInt64 ((own_inc (own_inc (own_inc (own_inc (own_inc ([0, 0, 0, 0, 0] : List Int32) g0) g1) g2) g3) g4).getD 4 0)) * (Int32.toInt64 (((own_inc (own_inc (own_inc (own_inc (own_inc ([0, 0, 0, 0, 0] : List Int32) g0) g1) g2) g3) g4).getD 4 0) - (1 : Int32)))) / (2 : Int64)))), .second, .val (.ref (n0 + 2)), .val (.int (5 : Int32)), .val (.int (4 : Int32)), .val (.int ((own_inc (own_inc (own_inc (own_inc (own_inc ([0, 0, 0, 0, 0] : List Int32) g0) g1) g2) g3) g4).getD 4 0))]) X6 hx (hb hby d2_81) rfl (pc' := 82) rfl ?_
  refine w_iincE (z := (5 : Int32)) (l' := #[.val (.ref (n0 + 0)), .val (.ref (n0 + 2)), .val (.long ((((((0 : Int64) + (((Int32.toInt64 ((own_inc (own_inc (own_inc (own_inc (own_inc ([0, 0, 0, 0, 0] : List Int32) g0) g1) g2) g3) g4).getD 0 0)) * (Int32.toInt64 (((own_inc (own_inc (own_inc (own_inc (own_inc ([0, 0, 0, 0, 0] : List Int32) g0) g1) g2) g3) g4).getD 0 0) - (1 : Int32)))) / (2 : Int64))) + (((Int32.toInt64 ((own_inc (own_inc (own_inc (own_inc (own_inc ([0, 0, 0, 0, 0] : List Int32) g0) g1) g2) g3) g4).getD 1 0)) * (Int32.toInt64 (((own_inc (own_inc (own_inc (own_inc (own_inc ([0, 0, 0, 0, 0] : List Int32) g0) g1) g2) g3) g4).getD 1 0) - (1 : Int32)))) / (2 : Int64))) + (((Int32.toInt64 ((own_inc (own_inc (own_inc (own_inc (own_inc ([0, 0, 0, 0, 0] : List Int32) g0) g1) g2) g3) g4).getD 2 0)) * (Int32.toInt64 (((own_inc (own_inc (own_inc (own_inc (own_inc ([0, 0, 0, 0, 0] : List Int32) g0) g1) g2) g3) g4).getD 2 0) - (1 : Int32)))) / (2 : Int64))) + (((Int32.toInt64 ((own_inc (own_inc (own_inc (own_inc (own_inc ([0, 0, 0, 0, 0] : List Int32) g0) g1) g2) g3) g4).getD 3 0)) * (Int32.toInt64 (((own_inc (own_inc (own_inc (own_inc (own_inc ([0, 0, 0, 0, 0] : List Int32) g0) g1) g2) g3) g4).getD 3 0) - (1 : Int32)))) / (2 : Int64))) + (((Int32.toInt64 ((own_inc (own_inc (own_inc (own_inc (own_inc ([0, 0, 0, 0, 0] : List Int32) g0) g1) g2) g3) g4).getD 4 0)) * (Int32.toInt64 (((own_inc (own_inc (own_inc (own_inc (own_inc ([0, 0, 0, 0, 0] : List Int32) g0) g1) g2) g3) g4).getD 4 0) - (1 : Int32)))) / (2 : Int64)))), .second, .val (.ref (n0 + 2)), .val (.int (5 : Int32)), .val (.int (5 : Int32)), .val (.int ((own_inc (own_inc (own_inc (own_inc (own_inc ([0, 0, 0, 0, 0] : List Int32) g0) g1) g2) g3) g4).getD 4 0))]) X6 hx (hb hby d2_82) rfl (by decide) rfl (pc' := 85) rfl ?_
  refine w_goto X6 hx (hb hby d2_85) (by decide) (pc' := 52) (by decide) ?_
  refine w_iload X6 hx (hb hby d2_52) rfl (pc' := 54) rfl ?_
  refine w_iload X6 hx (hb hby d2_54) rfl (pc' := 56) rfl ?_
  refine w_icmp_ge X6 hx (hb hby d2_56) (by decide) (pcY := 88) (by decide) (pc' := 59) rfl (fun h11 => ?_) (fun h11 => absurd h11 (by decide))
  refine w_lloadN X6 hx (hb hby d2_88) rfl (pc' := 89) rfl ?_
  exact w_ret_l X6 hx hret hlk (hb hby d2_89) (by decide) (by decide) ⟨rfl, N5⟩
theorem own_fin5 : ∀ g0, g0 < 5 → ∀ g1, g1 < 5 → ∀ g2, g2 < 5 → ∀ g3, g3 < 5 → ∀ g4, g4 < 5 → own_pa5 g0 g1 g2 g3 g4 = ((((((((((sp_sm5_01 (Int32.ofNat g0) (Int32.ofNat g1) (Int32.ofNat g2) (Int32.ofNat g3) (Int32.ofNat g4) (Int32.ofNat g0) (Int32.ofNat g1) (Int32.ofNat g2) (Int32.ofNat g3) (Int32.ofNat g4)) + (sp_sm5_02 (Int32.ofNat g0) (Int32.ofNat g1) (Int32.ofNat g2) (Int32.ofNat g3) (Int32.ofNat g4) (Int32.ofNat g0) (Int32.ofNat g1) (Int32.ofNat g2) (Int32.ofNat g3) (Int32.ofNat g4))) + (sp_sm5_03 (Int32.ofNat g0) (Int32.ofNat g1) (Int32.ofNat g2) (Int32.ofNat g3) (Int32.ofNat g4) (Int32.ofNat g0) (Int32.ofNat g1) (Int32.ofNat g2) (Int32.ofNat g3) (Int32.ofNat g4))) + (sp_sm5_04 (Int32.ofNat g0) (Int32.ofNat g1) (Int32.ofNat g2) (Int32.ofNat g3) (Int32.ofNat g4) (Int32.ofNat g0) (Int32.ofNat g1) (Int32.ofNat g2) (Int32.ofNat g3) (Int32.ofNat g4))) + (sp_sm5_12 (Int32.ofNat g0) (Int32.ofNat g1) (Int32.ofNat g2) (Int32.ofNat g3) (Int32.ofNat g4) (Int32.ofNat g0) (Int32.ofNat g1) (Int32.ofNat g2) (Int32.ofNat g3) (Int32.ofNat g4))) + (sp_sm5_13 (Int32.ofNat g0) (Int32.ofNat g1) (Int32.ofNat g2) (Int32.ofNat g3) (Int32.ofNat g4) (Int32.ofNat g0) (Int32.ofNat g1) (Int32.ofNat g2) (Int32.ofNat g3) (Int32.ofNat g4))) + (sp_sm5_14 (Int32.ofNat g0) (Int32.ofNat g1) (Int32.ofNat g2) (Int32.ofNat g3) (Int32.ofNat g4) (Int32.ofNat g0) (Int32.ofNat g1) (Int32.ofNat g2) (Int32.ofNat g3) (Int32.ofNat g4))) + (sp_sm5_23 (Int32.ofNat g0) (Int32.ofNat g1) (Int32.ofNat g2) (Int32.ofNat g3) (Int32.ofNat g4) (Int32.ofNat g0) (Int32.ofNat g1) (Int32.ofNat g2) (Int32.ofNat g3) (Int32.ofNat g4))) + (sp_sm5_24 (Int32.ofNat g0) (Int32.ofNat g1) (Int32.ofNat g2) (Int32.ofNat g3) (Int32.ofNat g4) (Int32.ofNat g0) (Int32.ofNat g1) (Int32.ofNat g2) (Int32.ofNat g3) (Int32.ofNat g4))) + (sp_sm5_34 (Int32.ofNat g0) (Int32.ofNat g1) (Int32.ofNat g2) (Int32.ofNat g3) (Int32.ofNat g4) (Int32.ofNat g0) (Int32.ofNat g1) (Int32.ofNat g2) (Int32.ofNat g3) (Int32.ofNat g4))) := by decide +kernel
theorem pn0 : plainFor (⟨"com/example/protomata/protomata/PartitionPairsAlikePinLaw", "law", "(IIIIII)Z"⟩ : MethodName) = true := plainFor_of_name (by first | (simp [plainName, overriddenIn]; done) | decide +kernel)
theorem pd0 : parseMethodDescriptor (⟨"com/example/protomata/protomata/PartitionPairsAlikePinLaw", "law", "(IIIIII)Z"⟩ : MethodName).desc = some ⟨[.int, .int, .int, .int, .int, .int], some .boolean⟩ := by decide +kernel
theorem ef0 (m : MethodId) (x0 : Int32) (x1 : Int32) (x2 : Int32) (x3 : Int32) (x4 : Int32) (x5 : Int32) : entryFrame m #[Value.int x0, Value.int x1, Value.int x2, Value.int x3, Value.int x4, Value.int x5] maxLocals = mkF m 0 #[.val (.int x0), .val (.int x1), .val (.int x2), .val (.int x3), .val (.int x4), .val (.int x5), .unset, .unset, .unset, .unset, .unset] [] := by first | (simp [entryFrame, mkF, argsToLocals, Value.category, maxLocals]; done) | rfl
def LawQ (n0 : Nat) (v : Option Value) (h : Heap) (L : List Loc) : Prop := v = some (.int 1) ∧ Fr n0 L
set_option maxRecDepth 65536 in
set_option maxHeartbeats 40000000 in
theorem rm0 (l : Launch) (Z : State) (a0 : Array Value) (hw : ∀ d ∈ tables_1, d.before a0 Z = true) (ws : List Jvm.Cond) (x0 : Int32) (x1 : Int32) (x2 : Int32) (x3 : Int32) (x4 : Int32) (x5 : Int32) (h0 : Heap) (n0 : Nat) (Z0 : h0.size = n0) :
    MetFree l x (head1 (Jvm.Cond.code x code maxLocals ret :: ws) room_1) (fun aa U => aa = #[Value.int x0, Value.int x1, Value.int x2, Value.int x3, Value.int x4, Value.int x5] ∧ Z.Warmed39 U.vm ∧ U.heap = h0) (fun _ _ _ _ _ => True) (fun _ U o U' => ∃ v L, o = .returned v ∧ LawQ n0 v U'.heap L ∧ FrameEnd U o U' L room_1.cells room_1.slots) := by
  refine own_body pn0 ?_
  intro p e s m below meth c T0 hx hby hml hret hlk hown hnm hZ X0 e0
  subst e0 Z0
  have P0 := HP.nil T0.heap
  generalize T0.heap.size = n0 at P0 ⊢
  have N0 : Fr n0 [] := Fr.nil n0
  refine own_cast (ef0 m x0 x1 x2 x3 x4 x5) ?_
  refine w_iloadN X0 hx (hb hby at_0) rfl (pc' := 1) rfl ?_
  refine w_ldc X0 hx (hb hby at_1) hown (mvT hZ (wd0 hw)) (pc' := 3) rfl ?_
  refine w_iand X0 hx (hb hby at_3) (pc' := 4) rfl ?_
  refine w_bipush (v := (6 : Int32)) X0 hx (hb hby at_4) rfl (pc' := 6) rfl ?_
  refine w_irem X0 hx (hb hby at_6) (by decide) (pc' := 7) rfl ?_
  rcases (own_c6 (own_rem x0 6 6 (by decide) (by decide))) with g0 | g1 | g2 | g3 | g4 | g5
  · refine w_eqI (z := (0 : Int32)) g0 ?_
    refine w_istore (l' := #[.val (.int x0), .val (.int x1), .val (.int x2), .val (.int x3), .val (.int x4), .val (.int x5), .val (.int (0 : Int32)), .unset, .unset, .unset, .unset]) X0 hx (hb hby at_7) rfl (pc' := 9) rfl ?_
    refine w_iload X0 hx (hb hby at_9) rfl (pc' := 11) rfl ?_
    refine w_newarr (N := 0) (j := 0) X0 hx hZ P0 (ty := .int) rfl (wd1 hw) (hb hby at_11) (by decide) (by decide) (by decide) (by decide) rfl (pc' := 13) rfl ?_
    intro T1 kA1 X1 hkA1 P1
    replace P1 : HP n0 T1.heap [AC kA1 []] := P1
    refine w_astore (l' := #[.val (.int x0), .val (.int x1), .val (.int x2), .val (.int x3), .val (.int x4), .val (.int x5), .val (.int (0 : Int32)), .val (.ref (n0 + 0)), .unset, .unset, .unset]) X1 hx (hb hby at_13) rfl rfl (pc' := 15) rfl ?_
    refine w_iconst (v := (5 : Int32)) X1 hx (hb hby at_15) rfl (pc' := 16) rfl ?_
    refine w_newarr (N := 5) (j := 1) X1 hx hZ P1 (ty := .int) rfl (wd1 hw) (hb hby at_16) (by decide) (by decide) (by decide) (by decide) rfl (pc' := 18) rfl ?_
    intro T2 kA2 X2 hkA2 P2
    replace P2 : HP n0 T2.heap [AC kA1 [], AC kA2 [.int (0 : Int32), .int (0 : Int32), .int (0 : Int32), .int (0 : Int32), .int (0 : Int32)]] := P2
    refine w_astore (l' := #[.val (.int x0), .val (.int x1), .val (.int x2), .val (.int x3), .val (.int x4), .val (.int x5), .val (.int (0 : Int32)), .val (.ref (n0 + 0)), .val (.ref (n0 + 1)), .unset, .unset]) X2 hx (hb hby at_18) rfl rfl (pc' := 20) rfl ?_
    refine w_iload X2 hx (hb hby at_20) rfl (pc' := 22) rfl ?_
    refine w_if_le X2 hx (hb hby at_22) (by decide) (pcY := 82) (by decide) (pc' := 25) rfl (fun h6 => ?_) (fun h6 => absurd h6 (by decide))
    refine w_iload X2 hx (hb hby at_82) rfl (pc' := 84) rfl ?_
    refine w_if_le X2 hx (hb hby at_84) (by decide) (pcY := 95) (by decide) (pc' := 87) rfl (fun h7 => ?_) (fun h7 => absurd h7 (by decide))
    refine w_iload X2 hx (hb hby at_95) rfl (pc' := 97) rfl ?_
    refine w_iconst (v := (1 : Int32)) X2 hx (hb hby at_97) rfl (pc' := 98) rfl ?_
    refine w_icmp_le X2 hx (hb hby at_98) (by decide) (pcY := 109) (by decide) (pc' := 101) rfl (fun h8 => ?_) (fun h8 => absurd h8 (by decide))
    refine w_iload X2 hx (hb hby at_109) rfl (pc' := 111) rfl ?_
    refine w_iconst (v := (2 : Int32)) X2 hx (hb hby at_111) rfl (pc' := 112) rfl ?_
    refine w_icmp_le X2 hx (hb hby at_112) (by decide) (pcY := 123) (by decide) (pc' := 115) rfl (fun h9 => ?_) (fun h9 => absurd h9 (by decide))
    refine w_iload X2 hx (hb hby at_123) rfl (pc' := 125) rfl ?_
    refine w_iconst (v := (3 : Int32)) X2 hx (hb hby at_125) rfl (pc' := 126) rfl ?_
    refine w_icmp_le X2 hx (hb hby at_126) (by decide) (pcY := 137) (by decide) (pc' := 129) rfl (fun h10 => ?_) (fun h10 => absurd h10 (by decide))
    refine w_iload X2 hx (hb hby at_137) rfl (pc' := 139) rfl ?_
    refine w_iconst (v := (4 : Int32)) X2 hx (hb hby at_139) rfl (pc' := 140) rfl ?_
    refine w_icmp_le X2 hx (hb hby at_140) (by decide) (pcY := 151) (by decide) (pc' := 143) rfl (fun h11 => ?_) (fun h11 => absurd h11 (by decide))
    refine w_aload X2 hx (hb hby at_151) rfl rfl (pc' := 153) rfl ?_
    refine w_iload X2 hx (hb hby at_153) rfl (pc' := 155) rfl ?_
    refine w_iconst (v := (0 : Int32)) X2 hx (hb hby at_155) rfl (pc' := 156) rfl ?_
    refine w_iconst (v := (1 : Int32)) X2 hx (hb hby at_156) rfl (pc' := 157) rfl ?_
    refine w_callP (W := 0) X2 hx hZ rfl hown hml.symm (wd2 hw) (wd3 hw) (wd4 hw) (wd5 hw) (rm_sm0_01 l Z a0 hw [] n0 (0 : Int32) (0 : Int32) (0 : Int32) (0 : Int32) (0 : Int32) kA1 hkA1 kA2 hkA2 _ P2) (by decide) (by decide) (by decide) rfl rfl (by decide) (by decide) (argsL := [.ref (n0 + 1), .int (0 : Int32), .int (0 : Int32), .int (1 : Int32)]) (rest := []) pd1 rfl rfl rfl (Nat.le_of_eq rfl) (hb hby at_157) (pc' := 160) rfl ?_
    intro T3 X3 e3
    have P3 : HP n0 T3.heap [AC kA1 [], AC kA2 [.int (0 : Int32), .int (0 : Int32), .int (0 : Int32), .int (0 : Int32), .int (0 : Int32)]] := by rw [e3]; exact P2
    refine w_aload X3 hx (hb hby at_160) rfl rfl (pc' := 162) rfl ?_
    refine w_iload X3 hx (hb hby at_162) rfl (pc' := 164) rfl ?_
    refine w_iconst (v := (0 : Int32)) X3 hx (hb hby at_164) rfl (pc' := 165) rfl ?_
    refine w_iconst (v := (2 : Int32)) X3 hx (hb hby at_165) rfl (pc' := 166) rfl ?_
    refine w_callP (W := 2) X3 hx hZ rfl hown hml.symm (wd2 hw) (wd3 hw) (wd4 hw) (wd5 hw) (rm_sm0_02 l Z a0 hw [] n0 (0 : Int32) (0 : Int32) (0 : Int32) (0 : Int32) (0 : Int32) kA1 hkA1 kA2 hkA2 _ P3) (by decide) (by decide) (by decide) rfl rfl (by decide) (by decide) (argsL := [.ref (n0 + 1), .int (0 : Int32), .int (0 : Int32), .int (2 : Int32)]) (rest := [.long (sp_sm0_01 (0 : Int32) (0 : Int32) (0 : Int32) (0 : Int32) (0 : Int32))]) pd1 rfl rfl rfl (Nat.le_of_eq rfl) (hb hby at_166) (pc' := 169) rfl ?_
    intro T4 X4 e4
    have P4 : HP n0 T4.heap [AC kA1 [], AC kA2 [.int (0 : Int32), .int (0 : Int32), .int (0 : Int32), .int (0 : Int32), .int (0 : Int32)]] := by rw [e4]; exact P3
    refine w_ladd X4 hx (hb hby at_169) (pc' := 170) rfl ?_
    refine w_aload X4 hx (hb hby at_170) rfl rfl (pc' := 172) rfl ?_
    refine w_iload X4 hx (hb hby at_172) rfl (pc' := 174) rfl ?_
    refine w_iconst (v := (0 : Int32)) X4 hx (hb hby at_174) rfl (pc' := 175) rfl ?_
    refine w_iconst (v := (3 : Int32)) X4 hx (hb hby at_175) rfl (pc' := 176) rfl ?_
    refine w_callP (W := 2) X4 hx hZ rfl hown hml.symm (wd2 hw) (wd3 hw) (wd4 hw) (wd5 hw) (rm_sm0_03 l Z a0 hw [] n0 (0 : Int32) (0 : Int32) (0 : Int32) (0 : Int32) (0 : Int32) kA1 hkA1 kA2 hkA2 _ P4) (by decide) (by decide) (by decide) rfl rfl (by decide) (by decide) (argsL := [.ref (n0 + 1), .int (0 : Int32), .int (0 : Int32), .int (3 : Int32)]) (rest := [.long ((sp_sm0_01 (0 : Int32) (0 : Int32) (0 : Int32) (0 : Int32) (0 : Int32)) + (sp_sm0_02 (0 : Int32) (0 : Int32) (0 : Int32) (0 : Int32) (0 : Int32)))]) pd1 rfl rfl rfl (Nat.le_of_eq rfl) (hb hby at_176) (pc' := 179) rfl ?_
    intro T5 X5 e5
    have P5 : HP n0 T5.heap [AC kA1 [], AC kA2 [.int (0 : Int32), .int (0 : Int32), .int (0 : Int32), .int (0 : Int32), .int (0 : Int32)]] := by rw [e5]; exact P4
    refine w_ladd X5 hx (hb hby at_179) (pc' := 180) rfl ?_
    refine w_aload X5 hx (hb hby at_180) rfl rfl (pc' := 182) rfl ?_
    refine w_iload X5 hx (hb hby at_182) rfl (pc' := 184) rfl ?_
    refine w_iconst (v := (0 : Int32)) X5 hx (hb hby at_184) rfl (pc' := 185) rfl ?_
    refine w_iconst (v := (4 : Int32)) X5 hx (hb hby at_185) rfl (pc' := 186) rfl ?_
    refine w_callP (W := 2) X5 hx hZ rfl hown hml.symm (wd2 hw) (wd3 hw) (wd4 hw) (wd5 hw) (rm_sm0_04 l Z a0 hw [] n0 (0 : Int32) (0 : Int32) (0 : Int32) (0 : Int32) (0 : Int32) kA1 hkA1 kA2 hkA2 _ P5) (by decide) (by decide) (by decide) rfl rfl (by decide) (by decide) (argsL := [.ref (n0 + 1), .int (0 : Int32), .int (0 : Int32), .int (4 : Int32)]) (rest := [.long (((sp_sm0_01 (0 : Int32) (0 : Int32) (0 : Int32) (0 : Int32) (0 : Int32)) + (sp_sm0_02 (0 : Int32) (0 : Int32) (0 : Int32) (0 : Int32) (0 : Int32))) + (sp_sm0_03 (0 : Int32) (0 : Int32) (0 : Int32) (0 : Int32) (0 : Int32)))]) pd1 rfl rfl rfl (Nat.le_of_eq rfl) (hb hby at_186) (pc' := 189) rfl ?_
    intro T6 X6 e6
    have P6 : HP n0 T6.heap [AC kA1 [], AC kA2 [.int (0 : Int32), .int (0 : Int32), .int (0 : Int32), .int (0 : Int32), .int (0 : Int32)]] := by rw [e6]; exact P5
    refine w_ladd X6 hx (hb hby at_189) (pc' := 190) rfl ?_
    refine w_aload X6 hx (hb hby at_190) rfl rfl (pc' := 192) rfl ?_
    refine w_iload X6 hx (hb hby at_192) rfl (pc' := 194) rfl ?_
    refine w_iconst (v := (1 : Int32)) X6 hx (hb hby at_194) rfl (pc' := 195) rfl ?_
    refine w_iconst (v := (2 : Int32)) X6 hx (hb hby at_195) rfl (pc' := 196) rfl ?_
    refine w_callP (W := 2) X6 hx hZ rfl hown hml.symm (wd2 hw) (wd3 hw) (wd4 hw) (wd5 hw) (rm_sm0_12 l Z a0 hw [] n0 (0 : Int32) (0 : Int32) (0 : Int32) (0 : Int32) (0 : Int32) kA1 hkA1 kA2 hkA2 _ P6) (by decide) (by decide) (by decide) rfl rfl (by decide) (by decide) (argsL := [.ref (n0 + 1), .int (0 : Int32), .int (1 : Int32), .int (2 : Int32)]) (rest := [.long ((((sp_sm0_01 (0 : Int32) (0 : Int32) (0 : Int32) (0 : Int32) (0 : Int32)) + (sp_sm0_02 (0 : Int32) (0 : Int32) (0 : Int32) (0 : Int32) (0 : Int32))) + (sp_sm0_03 (0 : Int32) (0 : Int32) (0 : Int32) (0 : Int32) (0 : Int32))) + (sp_sm0_04 (0 : Int32) (0 : Int32) (0 : Int32) (0 : Int32) (0 : Int32)))]) pd1 rfl rfl rfl (Nat.le_of_eq rfl) (hb hby at_196) (pc' := 199) rfl ?_
    intro T7 X7 e7
    have P7 : HP n0 T7.heap [AC kA1 [], AC kA2 [.int (0 : Int32), .int (0 : Int32), .int (0 : Int32), .int (0 : Int32), .int (0 : Int32)]] := by rw [e7]; exact P6
    refine w_ladd X7 hx (hb hby at_199) (pc' := 200) rfl ?_
    refine w_aload X7 hx (hb hby at_200) rfl rfl (pc' := 202) rfl ?_
    refine w_iload X7 hx (hb hby at_202) rfl (pc' := 204) rfl ?_
    refine w_iconst (v := (1 : Int32)) X7 hx (hb hby at_204) rfl (pc' := 205) rfl ?_
    refine w_iconst (v := (3 : Int32)) X7 hx (hb hby at_205) rfl (pc' := 206) rfl ?_
    refine w_callP (W := 2) X7 hx hZ rfl hown hml.symm (wd2 hw) (wd3 hw) (wd4 hw) (wd5 hw) (rm_sm0_13 l Z a0 hw [] n0 (0 : Int32) (0 : Int32) (0 : Int32) (0 : Int32) (0 : Int32) kA1 hkA1 kA2 hkA2 _ P7) (by decide) (by decide) (by decide) rfl rfl (by decide) (by decide) (argsL := [.ref (n0 + 1), .int (0 : Int32), .int (1 : Int32), .int (3 : Int32)]) (rest := [.long (((((sp_sm0_01 (0 : Int32) (0 : Int32) (0 : Int32) (0 : Int32) (0 : Int32)) + (sp_sm0_02 (0 : Int32) (0 : Int32) (0 : Int32) (0 : Int32) (0 : Int32))) + (sp_sm0_03 (0 : Int32) (0 : Int32) (0 : Int32) (0 : Int32) (0 : Int32))) + (sp_sm0_04 (0 : Int32) (0 : Int32) (0 : Int32) (0 : Int32) (0 : Int32))) + (sp_sm0_12 (0 : Int32) (0 : Int32) (0 : Int32) (0 : Int32) (0 : Int32)))]) pd1 rfl rfl rfl (Nat.le_of_eq rfl) (hb hby at_206) (pc' := 209) rfl ?_
    intro T8 X8 e8
    have P8 : HP n0 T8.heap [AC kA1 [], AC kA2 [.int (0 : Int32), .int (0 : Int32), .int (0 : Int32), .int (0 : Int32), .int (0 : Int32)]] := by rw [e8]; exact P7
    refine w_ladd X8 hx (hb hby at_209) (pc' := 210) rfl ?_
    refine w_aload X8 hx (hb hby at_210) rfl rfl (pc' := 212) rfl ?_
    refine w_iload X8 hx (hb hby at_212) rfl (pc' := 214) rfl ?_
    refine w_iconst (v := (1 : Int32)) X8 hx (hb hby at_214) rfl (pc' := 215) rfl ?_
    refine w_iconst (v := (4 : Int32)) X8 hx (hb hby at_215) rfl (pc' := 216) rfl ?_
    refine w_callP (W := 2) X8 hx hZ rfl hown hml.symm (wd2 hw) (wd3 hw) (wd4 hw) (wd5 hw) (rm_sm0_14 l Z a0 hw [] n0 (0 : Int32) (0 : Int32) (0 : Int32) (0 : Int32) (0 : Int32) kA1 hkA1 kA2 hkA2 _ P8) (by decide) (by decide) (by decide) rfl rfl (by decide) (by decide) (argsL := [.ref (n0 + 1), .int (0 : Int32), .int (1 : Int32), .int (4 : Int32)]) (rest := [.long ((((((sp_sm0_01 (0 : Int32) (0 : Int32) (0 : Int32) (0 : Int32) (0 : Int32)) + (sp_sm0_02 (0 : Int32) (0 : Int32) (0 : Int32) (0 : Int32) (0 : Int32))) + (sp_sm0_03 (0 : Int32) (0 : Int32) (0 : Int32) (0 : Int32) (0 : Int32))) + (sp_sm0_04 (0 : Int32) (0 : Int32) (0 : Int32) (0 : Int32) (0 : Int32))) + (sp_sm0_12 (0 : Int32) (0 : Int32) (0 : Int32) (0 : Int32) (0 : Int32))) + (sp_sm0_13 (0 : Int32) (0 : Int32) (0 : Int32) (0 : Int32) (0 : Int32)))]) pd1 rfl rfl rfl (Nat.le_of_eq rfl) (hb hby at_216) (pc' := 219) rfl ?_
    intro T9 X9 e9
    have P9 : HP n0 T9.heap [AC kA1 [], AC kA2 [.int (0 : Int32), .int (0 : Int32), .int (0 : Int32), .int (0 : Int32), .int (0 : Int32)]] := by rw [e9]; exact P8
    refine w_ladd X9 hx (hb hby at_219) (pc' := 220) rfl ?_
    refine w_aload X9 hx (hb hby at_220) rfl rfl (pc' := 222) rfl ?_
    refine w_iload X9 hx (hb hby at_222) rfl (pc' := 224) rfl ?_
    refine w_iconst (v := (2 : Int32)) X9 hx (hb hby at_224) rfl (pc' := 225) rfl ?_
    refine w_iconst (v := (3 : Int32)) X9 hx (hb hby at_225) rfl (pc' := 226) rfl ?_
    refine w_callP (W := 2) X9 hx hZ rfl hown hml.symm (wd2 hw) (wd3 hw) (wd4 hw) (wd5 hw) (rm_sm0_23 l Z a0 hw [] n0 (0 : Int32) (0 : Int32) (0 : Int32) (0 : Int32) (0 : Int32) kA1 hkA1 kA2 hkA2 _ P9) (by decide) (by decide) (by decide) rfl rfl (by decide) (by decide) (argsL := [.ref (n0 + 1), .int (0 : Int32), .int (2 : Int32), .int (3 : Int32)]) (rest := [.long (((((((sp_sm0_01 (0 : Int32) (0 : Int32) (0 : Int32) (0 : Int32) (0 : Int32)) + (sp_sm0_02 (0 : Int32) (0 : Int32) (0 : Int32) (0 : Int32) (0 : Int32))) + (sp_sm0_03 (0 : Int32) (0 : Int32) (0 : Int32) (0 : Int32) (0 : Int32))) + (sp_sm0_04 (0 : Int32) (0 : Int32) (0 : Int32) (0 : Int32) (0 : Int32))) + (sp_sm0_12 (0 : Int32) (0 : Int32) (0 : Int32) (0 : Int32) (0 : Int32))) + (sp_sm0_13 (0 : Int32) (0 : Int32) (0 : Int32) (0 : Int32) (0 : Int32))) + (sp_sm0_14 (0 : Int32) (0 : Int32) (0 : Int32) (0 : Int32) (0 : Int32)))]) pd1 rfl rfl rfl (Nat.le_of_eq rfl) (hb hby at_226) (pc' := 229) rfl ?_
    intro T10 X10 e10
    have P10 : HP n0 T10.heap [AC kA1 [], AC kA2 [.int (0 : Int32), .int (0 : Int32), .int (0 : Int32), .int (0 : Int32), .int (0 : Int32)]] := by rw [e10]; exact P9
    refine w_ladd X10 hx (hb hby at_229) (pc' := 230) rfl ?_
    refine w_aload X10 hx (hb hby at_230) rfl rfl (pc' := 232) rfl ?_
    refine w_iload X10 hx (hb hby at_232) rfl (pc' := 234) rfl ?_
    refine w_iconst (v := (2 : Int32)) X10 hx (hb hby at_234) rfl (pc' := 235) rfl ?_
    refine w_iconst (v := (4 : Int32)) X10 hx (hb hby at_235) rfl (pc' := 236) rfl ?_
    refine w_callP (W := 2) X10 hx hZ rfl hown hml.symm (wd2 hw) (wd3 hw) (wd4 hw) (wd5 hw) (rm_sm0_24 l Z a0 hw [] n0 (0 : Int32) (0 : Int32) (0 : Int32) (0 : Int32) (0 : Int32) kA1 hkA1 kA2 hkA2 _ P10) (by decide) (by decide) (by decide) rfl rfl (by decide) (by decide) (argsL := [.ref (n0 + 1), .int (0 : Int32), .int (2 : Int32), .int (4 : Int32)]) (rest := [.long ((((((((sp_sm0_01 (0 : Int32) (0 : Int32) (0 : Int32) (0 : Int32) (0 : Int32)) + (sp_sm0_02 (0 : Int32) (0 : Int32) (0 : Int32) (0 : Int32) (0 : Int32))) + (sp_sm0_03 (0 : Int32) (0 : Int32) (0 : Int32) (0 : Int32) (0 : Int32))) + (sp_sm0_04 (0 : Int32) (0 : Int32) (0 : Int32) (0 : Int32) (0 : Int32))) + (sp_sm0_12 (0 : Int32) (0 : Int32) (0 : Int32) (0 : Int32) (0 : Int32))) + (sp_sm0_13 (0 : Int32) (0 : Int32) (0 : Int32) (0 : Int32) (0 : Int32))) + (sp_sm0_14 (0 : Int32) (0 : Int32) (0 : Int32) (0 : Int32) (0 : Int32))) + (sp_sm0_23 (0 : Int32) (0 : Int32) (0 : Int32) (0 : Int32) (0 : Int32)))]) pd1 rfl rfl rfl (Nat.le_of_eq rfl) (hb hby at_236) (pc' := 239) rfl ?_
    intro T11 X11 e11
    have P11 : HP n0 T11.heap [AC kA1 [], AC kA2 [.int (0 : Int32), .int (0 : Int32), .int (0 : Int32), .int (0 : Int32), .int (0 : Int32)]] := by rw [e11]; exact P10
    refine w_ladd X11 hx (hb hby at_239) (pc' := 240) rfl ?_
    refine w_aload X11 hx (hb hby at_240) rfl rfl (pc' := 242) rfl ?_
    refine w_iload X11 hx (hb hby at_242) rfl (pc' := 244) rfl ?_
    refine w_iconst (v := (3 : Int32)) X11 hx (hb hby at_244) rfl (pc' := 245) rfl ?_
    refine w_iconst (v := (4 : Int32)) X11 hx (hb hby at_245) rfl (pc' := 246) rfl ?_
    refine w_callP (W := 2) X11 hx hZ rfl hown hml.symm (wd2 hw) (wd3 hw) (wd4 hw) (wd5 hw) (rm_sm0_34 l Z a0 hw [] n0 (0 : Int32) (0 : Int32) (0 : Int32) (0 : Int32) (0 : Int32) kA1 hkA1 kA2 hkA2 _ P11) (by decide) (by decide) (by decide) rfl rfl (by decide) (by decide) (argsL := [.ref (n0 + 1), .int (0 : Int32), .int (3 : Int32), .int (4 : Int32)]) (rest := [.long (((((((((sp_sm0_01 (0 : Int32) (0 : Int32) (0 : Int32) (0 : Int32) (0 : Int32)) + (sp_sm0_02 (0 : Int32) (0 : Int32) (0 : Int32) (0 : Int32) (0 : Int32))) + (sp_sm0_03 (0 : Int32) (0 : Int32) (0 : Int32) (0 : Int32) (0 : Int32))) + (sp_sm0_04 (0 : Int32) (0 : Int32) (0 : Int32) (0 : Int32) (0 : Int32))) + (sp_sm0_12 (0 : Int32) (0 : Int32) (0 : Int32) (0 : Int32) (0 : Int32))) + (sp_sm0_13 (0 : Int32) (0 : Int32) (0 : Int32) (0 : Int32) (0 : Int32))) + (sp_sm0_14 (0 : Int32) (0 : Int32) (0 : Int32) (0 : Int32) (0 : Int32))) + (sp_sm0_23 (0 : Int32) (0 : Int32) (0 : Int32) (0 : Int32) (0 : Int32))) + (sp_sm0_24 (0 : Int32) (0 : Int32) (0 : Int32) (0 : Int32) (0 : Int32)))]) pd1 rfl rfl rfl (Nat.le_of_eq rfl) (hb hby at_246) (pc' := 249) rfl ?_
    intro T12 X12 e12
    have P12 : HP n0 T12.heap [AC kA1 [], AC kA2 [.int (0 : Int32), .int (0 : Int32), .int (0 : Int32), .int (0 : Int32), .int (0 : Int32)]] := by rw [e12]; exact P11
    refine w_ladd X12 hx (hb hby at_249) (pc' := 250) rfl ?_
    refine w_lstore (l' := #[.val (.int x0), .val (.int x1), .val (.int x2), .val (.int x3), .val (.int x4), .val (.int x5), .val (.int (0 : Int32)), .val (.ref (n0 + 0)), .val (.ref (n0 + 1)), .val (.long ((((((((((sp_sm0_01 (0 : Int32) (0 : Int32) (0 : Int32) (0 : Int32) (0 : Int32)) + (sp_sm0_02 (0 : Int32) (0 : Int32) (0 : Int32) (0 : Int32) (0 : Int32))) + (sp_sm0_03 (0 : Int32) (0 : Int32) (0 : Int32) (0 : Int32) (0 : Int32))) + (sp_sm0_04 (0 : Int32) (0 : Int32) (0 : Int32) (0 : Int32) (0 : Int32))) + (sp_sm0_12 (0 : Int32) (0 : Int32) (0 : Int32) (0 : Int32) (0 : Int32))) + (sp_sm0_13 (0 : Int32) (0 : Int32) (0 : Int32) (0 : Int32) (0 : Int32))) + (sp_sm0_14 (0 : Int32) (0 : Int32) (0 : Int32) (0 : Int32) (0 : Int32))) + (sp_sm0_23 (0 : Int32) (0 : Int32) (0 : Int32) (0 : Int32) (0 : Int32))) + (sp_sm0_24 (0 : Int32) (0 : Int32) (0 : Int32) (0 : Int32) (0 : Int32))) + (sp_sm0_34 (0 : Int32) (0 : Int32) (0 : Int32) (0 : Int32) (0 : Int32)))), .second]) X12 hx (hb hby at_250) rfl (pc' := 252) rfl ?_
    refine w_aload X12 hx (hb hby at_252) rfl rfl (pc' := 254) rfl ?_
    refine own_call (W := 0) X12 hx hZ rfl hown hml.symm (wd6 hw) (wd7 hw) (wd8 hw) (wd9 hw) (rm_pa0 l Z a0 hw [] n0 kA1 kA2 (0 : Int32) (0 : Int32) (0 : Int32) (0 : Int32) (0 : Int32) _ P12 hkA1 hkA2) (by decide) (by decide) (by decide) (by decide) (by decide) (argsL := [.ref (n0 + 0)]) (rest := []) pd2 rfl rfl rfl (Nat.le_of_eq rfl) (hb hby at_254) (pc' := 257) rfl ?_
    intro v13 T13 L1 X13 hq
    obtain ⟨rfl, N1⟩ := hq
    replace N1 := Fr.app N0 N1
    refine w_lload X13 hx (hb hby at_257) rfl (pc' := 259) rfl ?_
    refine w_lcmp_ne X13 hx (hb hby at_259) rfl (hb hby at_260) (by decide) (pcY := 267) (by decide) (pc' := 263) rfl (fun h12 => absurd (own_fin0 ) h12) (fun h12 => ?_)
    refine w_iconst (v := (1 : Int32)) X13 hx (hb hby at_263) rfl (pc' := 264) rfl ?_
    refine w_goto X13 hx (hb hby at_264) (by decide) (pc' := 268) (by decide) ?_
    exact w_ret_n (t := .boolean) X13 hx hret hlk (by simp) (hb hby at_268) (z' := (1 : Int32)) rfl (by decide) (by decide) ⟨rfl, N1⟩
  · refine w_eqI (z := (1 : Int32)) g1 ?_
    refine w_istore (l' := #[.val (.int x0), .val (.int x1), .val (.int x2), .val (.int x3), .val (.int x4), .val (.int x5), .val (.int (1 : Int32)), .unset, .unset, .unset, .unset]) X0 hx (hb hby at_7) rfl (pc' := 9) rfl ?_
    refine w_iload X0 hx (hb hby at_9) rfl (pc' := 11) rfl ?_
    refine w_newarr (N := 1) (j := 0) X0 hx hZ P0 (ty := .int) rfl (wd1 hw) (hb hby at_11) (by decide) (by decide) (by decide) (by decide) rfl (pc' := 13) rfl ?_
    intro T14 kA3 X14 hkA3 P14
    replace P14 : HP n0 T14.heap [AC kA3 [.int (0 : Int32)]] := P14
    refine w_astore (l' := #[.val (.int x0), .val (.int x1), .val (.int x2), .val (.int x3), .val (.int x4), .val (.int x5), .val (.int (1 : Int32)), .val (.ref (n0 + 0)), .unset, .unset, .unset]) X14 hx (hb hby at_13) rfl rfl (pc' := 15) rfl ?_
    refine w_iconst (v := (5 : Int32)) X14 hx (hb hby at_15) rfl (pc' := 16) rfl ?_
    refine w_newarr (N := 5) (j := 1) X14 hx hZ P14 (ty := .int) rfl (wd1 hw) (hb hby at_16) (by decide) (by decide) (by decide) (by decide) rfl (pc' := 18) rfl ?_
    intro T15 kA4 X15 hkA4 P15
    replace P15 : HP n0 T15.heap [AC kA3 [.int (0 : Int32)], AC kA4 [.int (0 : Int32), .int (0 : Int32), .int (0 : Int32), .int (0 : Int32), .int (0 : Int32)]] := P15
    refine w_astore (l' := #[.val (.int x0), .val (.int x1), .val (.int x2), .val (.int x3), .val (.int x4), .val (.int x5), .val (.int (1 : Int32)), .val (.ref (n0 + 0)), .val (.ref (n0 + 1)), .unset, .unset]) X15 hx (hb hby at_18) rfl rfl (pc' := 20) rfl ?_
    refine w_iload X15 hx (hb hby at_20) rfl (pc' := 22) rfl ?_
    refine w_if_le X15 hx (hb hby at_22) (by decide) (pcY := 82) (by decide) (pc' := 25) rfl (fun h13 => absurd h13 (by decide)) (fun h13 => ?_)
    refine w_aload X15 hx (hb hby at_25) rfl rfl (pc' := 27) rfl ?_
    refine w_iconst (v := (0 : Int32)) X15 hx (hb hby at_27) rfl (pc' := 28) rfl ?_
    refine w_iloadN X15 hx (hb hby at_28) rfl (pc' := 29) rfl ?_
    refine w_ldc X15 hx (hb hby at_29) hown (mvT hZ (wd0 hw)) (pc' := 31) rfl ?_
    refine w_iand X15 hx (hb hby at_31) (pc' := 32) rfl ?_
    refine w_iload X15 hx (hb hby at_32) rfl (pc' := 34) rfl ?_
    refine w_irem X15 hx (hb hby at_34) (by decide) (pc' := 35) rfl ?_
    obtain ⟨g0, hg0, eg0⟩ := own_rem x1 1 1 (by decide) (by decide)
    refine w_eqI eg0 ?_
    refine w_iastore (i := 1) (jn := 0) X15 hx hZ N0 P15 rfl hkA4 (hb hby at_35) (by decide) (Nat.le_of_ble_eq_true rfl) (pc' := 36) rfl ?_
    intro T16 L2 N2 X16 P16
    replace P16 : HP n0 T16.heap [AC kA3 [.int (0 : Int32)], AC kA4 [.int (Int32.ofNat g0), .int (0 : Int32), .int (0 : Int32), .int (0 : Int32), .int (0 : Int32)]] := P16
    refine w_aload X16 hx (hb hby at_36) rfl rfl (pc' := 38) rfl ?_
    refine w_iconst (v := (1 : Int32)) X16 hx (hb hby at_38) rfl (pc' := 39) rfl ?_
    refine w_iloadN X16 hx (hb hby at_39) rfl (pc' := 40) rfl ?_
    refine w_ldc X16 hx (hb hby at_40) hown (mvT hZ (wd0 hw)) (pc' := 42) rfl ?_
    refine w_iand X16 hx (hb hby at_42) (pc' := 43) rfl ?_
    refine w_iload X16 hx (hb hby at_43) rfl (pc' := 45) rfl ?_
    refine w_irem X16 hx (hb hby at_45) (by decide) (pc' := 46) rfl ?_
    obtain ⟨g1, hg1, eg1⟩ := own_rem x2 1 1 (by decide) (by decide)
    refine w_eqI eg1 ?_
    refine w_iastore (i := 1) (jn := 1) X16 hx hZ N2 P16 rfl hkA4 (hb hby at_46) (by decide) (Nat.le_of_ble_eq_true rfl) (pc' := 47) rfl ?_
    intro T17 L3 N3 X17 P17
    replace P17 : HP n0 T17.heap [AC kA3 [.int (0 : Int32)], AC kA4 [.int (Int32.ofNat g0), .int (Int32.ofNat g1), .int (0 : Int32), .int (0 : Int32), .int (0 : Int32)]] := P17
    refine w_aload X17 hx (hb hby at_47) rfl rfl (pc' := 49) rfl ?_
    refine w_iconst (v := (2 : Int32)) X17 hx (hb hby at_49) rfl (pc' := 50) rfl ?_
    refine w_iloadN X17 hx (hb hby at_50) rfl (pc' := 51) rfl ?_
    refine w_ldc X17 hx (hb hby at_51) hown (mvT hZ (wd0 hw)) (pc' := 53) rfl ?_
    refine w_iand X17 hx (hb hby at_53) (pc' := 54) rfl ?_
    refine w_iload X17 hx (hb hby at_54) rfl (pc' := 56) rfl ?_
    refine w_irem X17 hx (hb hby at_56) (by decide) (pc' := 57) rfl ?_
    obtain ⟨g2, hg2, eg2⟩ := own_rem x3 1 1 (by decide) (by decide)
    refine w_eqI eg2 ?_
    refine w_iastore (i := 1) (jn := 2) X17 hx hZ N3 P17 rfl hkA4 (hb hby at_57) (by decide) (Nat.le_of_ble_eq_true rfl) (pc' := 58) rfl ?_
    intro T18 L4 N4 X18 P18
    replace P18 : HP n0 T18.heap [AC kA3 [.int (0 : Int32)], AC kA4 [.int (Int32.ofNat g0), .int (Int32.ofNat g1), .int (Int32.ofNat g2), .int (0 : Int32), .int (0 : Int32)]] := P18
    refine w_aload X18 hx (hb hby at_58) rfl rfl (pc' := 60) rfl ?_
    refine w_iconst (v := (3 : Int32)) X18 hx (hb hby at_60) rfl (pc' := 61) rfl ?_
    refine w_iload X18 hx (hb hby at_61) rfl (pc' := 63) rfl ?_
    refine w_ldc X18 hx (hb hby at_63) hown (mvT hZ (wd0 hw)) (pc' := 65) rfl ?_
    refine w_iand X18 hx (hb hby at_65) (pc' := 66) rfl ?_
    refine w_iload X18 hx (hb hby at_66) rfl (pc' := 68) rfl ?_
    refine w_irem X18 hx (hb hby at_68) (by decide) (pc' := 69) rfl ?_
    obtain ⟨g3, hg3, eg3⟩ := own_rem x4 1 1 (by decide) (by decide)
    refine w_eqI eg3 ?_
    refine w_iastore (i := 1) (jn := 3) X18 hx hZ N4 P18 rfl hkA4 (hb hby at_69) (by decide) (Nat.le_of_ble_eq_true rfl) (pc' := 70) rfl ?_
    intro T19 L5 N5 X19 P19
    replace P19 : HP n0 T19.heap [AC kA3 [.int (0 : Int32)], AC kA4 [.int (Int32.ofNat g0), .int (Int32.ofNat g1), .int (Int32.ofNat g2), .int (Int32.ofNat g3), .int (0 : Int32)]] := P19
    refine w_aload X19 hx (hb hby at_70) rfl rfl (pc' := 72) rfl ?_
    refine w_iconst (v := (4 : Int32)) X19 hx (hb hby at_72) rfl (pc' := 73) rfl ?_
    refine w_iload X19 hx (hb hby at_73) rfl (pc' := 75) rfl ?_
    refine w_ldc X19 hx (hb hby at_75) hown (mvT hZ (wd0 hw)) (pc' := 77) rfl ?_
    refine w_iand X19 hx (hb hby at_77) (pc' := 78) rfl ?_
    refine w_iload X19 hx (hb hby at_78) rfl (pc' := 80) rfl ?_
    refine w_irem X19 hx (hb hby at_80) (by decide) (pc' := 81) rfl ?_
    obtain ⟨g4, hg4, eg4⟩ := own_rem x5 1 1 (by decide) (by decide)
    refine w_eqI eg4 ?_
    refine w_iastore (i := 1) (jn := 4) X19 hx hZ N5 P19 rfl hkA4 (hb hby at_81) (by decide) (Nat.le_of_ble_eq_true rfl) (pc' := 82) rfl ?_
    intro T20 L6 N6 X20 P20
    replace P20 : HP n0 T20.heap [AC kA3 [.int (0 : Int32)], AC kA4 [.int (Int32.ofNat g0), .int (Int32.ofNat g1), .int (Int32.ofNat g2), .int (Int32.ofNat g3), .int (Int32.ofNat g4)]] := P20
    refine w_iload X20 hx (hb hby at_82) rfl (pc' := 84) rfl ?_
    refine w_if_le X20 hx (hb hby at_84) (by decide) (pcY := 95) (by decide) (pc' := 87) rfl (fun h14 => absurd h14 (by decide)) (fun h14 => ?_)
    refine w_aload X20 hx (hb hby at_87) rfl rfl (pc' := 89) rfl ?_
    refine w_iconst (v := (0 : Int32)) X20 hx (hb hby at_89) rfl (pc' := 90) rfl ?_
    refine w_aload X20 hx (hb hby at_90) rfl rfl (pc' := 92) rfl ?_
    refine w_iconst (v := (0 : Int32)) X20 hx (hb hby at_92) rfl (pc' := 93) rfl ?_
    refine w_iaload (i := 1) (jn := 0) (v := .int (Int32.ofNat g0)) X20 hx hZ P20 rfl hkA4 (hb hby at_93) (by decide) rfl (pc' := 94) rfl ?_
    refine w_iastore (i := 0) (jn := 0) X20 hx hZ N6 P20 rfl hkA3 (hb hby at_94) (by decide) (Nat.le_of_ble_eq_true rfl) (pc' := 95) rfl ?_
    intro T21 L7 N7 X21 P21
    replace P21 : HP n0 T21.heap [AC kA3 [.int (Int32.ofNat g0)], AC kA4 [.int (Int32.ofNat g0), .int (Int32.ofNat g1), .int (Int32.ofNat g2), .int (Int32.ofNat g3), .int (Int32.ofNat g4)]] := P21
    refine w_iload X21 hx (hb hby at_95) rfl (pc' := 97) rfl ?_
    refine w_iconst (v := (1 : Int32)) X21 hx (hb hby at_97) rfl (pc' := 98) rfl ?_
    refine w_icmp_le X21 hx (hb hby at_98) (by decide) (pcY := 109) (by decide) (pc' := 101) rfl (fun h15 => ?_) (fun h15 => absurd h15 (by decide))
    refine w_iload X21 hx (hb hby at_109) rfl (pc' := 111) rfl ?_
    refine w_iconst (v := (2 : Int32)) X21 hx (hb hby at_111) rfl (pc' := 112) rfl ?_
    refine w_icmp_le X21 hx (hb hby at_112) (by decide) (pcY := 123) (by decide) (pc' := 115) rfl (fun h16 => ?_) (fun h16 => absurd h16 (by decide))
    refine w_iload X21 hx (hb hby at_123) rfl (pc' := 125) rfl ?_
    refine w_iconst (v := (3 : Int32)) X21 hx (hb hby at_125) rfl (pc' := 126) rfl ?_
    refine w_icmp_le X21 hx (hb hby at_126) (by decide) (pcY := 137) (by decide) (pc' := 129) rfl (fun h17 => ?_) (fun h17 => absurd h17 (by decide))
    refine w_iload X21 hx (hb hby at_137) rfl (pc' := 139) rfl ?_
    refine w_iconst (v := (4 : Int32)) X21 hx (hb hby at_139) rfl (pc' := 140) rfl ?_
    refine w_icmp_le X21 hx (hb hby at_140) (by decide) (pcY := 151) (by decide) (pc' := 143) rfl (fun h18 => ?_) (fun h18 => absurd h18 (by decide))
    refine w_aload X21 hx (hb hby at_151) rfl rfl (pc' := 153) rfl ?_
    refine w_iload X21 hx (hb hby at_153) rfl (pc' := 155) rfl ?_
    refine w_iconst (v := (0 : Int32)) X21 hx (hb hby at_155) rfl (pc' := 156) rfl ?_
    refine w_iconst (v := (1 : Int32)) X21 hx (hb hby at_156) rfl (pc' := 157) rfl ?_
    refine w_callP (W := 0) X21 hx hZ rfl hown hml.symm (wd2 hw) (wd3 hw) (wd4 hw) (wd5 hw) (rm_sm1_01 l Z a0 hw [] n0 (Int32.ofNat g0) (Int32.ofNat g0) (Int32.ofNat g1) (Int32.ofNat g2) (Int32.ofNat g3) (Int32.ofNat g4) kA3 hkA3 kA4 hkA4 _ P21) (by decide) (by decide) (by decide) rfl rfl (by decide) (by decide) (argsL := [.ref (n0 + 1), .int (1 : Int32), .int (0 : Int32), .int (1 : Int32)]) (rest := []) pd1 rfl rfl rfl (Nat.le_of_eq rfl) (hb hby at_157) (pc' := 160) rfl ?_
    intro T22 X22 e22
    have P22 : HP n0 T22.heap [AC kA3 [.int (Int32.ofNat g0)], AC kA4 [.int (Int32.ofNat g0), .int (Int32.ofNat g1), .int (Int32.ofNat g2), .int (Int32.ofNat g3), .int (Int32.ofNat g4)]] := by rw [e22]; exact P21
    refine w_aload X22 hx (hb hby at_160) rfl rfl (pc' := 162) rfl ?_
    refine w_iload X22 hx (hb hby at_162) rfl (pc' := 164) rfl ?_
    refine w_iconst (v := (0 : Int32)) X22 hx (hb hby at_164) rfl (pc' := 165) rfl ?_
    refine w_iconst (v := (2 : Int32)) X22 hx (hb hby at_165) rfl (pc' := 166) rfl ?_
    refine w_callP (W := 2) X22 hx hZ rfl hown hml.symm (wd2 hw) (wd3 hw) (wd4 hw) (wd5 hw) (rm_sm1_02 l Z a0 hw [] n0 (Int32.ofNat g0) (Int32.ofNat g0) (Int32.ofNat g1) (Int32.ofNat g2) (Int32.ofNat g3) (Int32.ofNat g4) kA3 hkA3 kA4 hkA4 _ P22) (by decide) (by decide) (by decide) rfl rfl (by decide) (by decide) (argsL := [.ref (n0 + 1), .int (1 : Int32), .int (0 : Int32), .int (2 : Int32)]) (rest := [.long (sp_sm1_01 (Int32.ofNat g0) (Int32.ofNat g0) (Int32.ofNat g1) (Int32.ofNat g2) (Int32.ofNat g3) (Int32.ofNat g4))]) pd1 rfl rfl rfl (Nat.le_of_eq rfl) (hb hby at_166) (pc' := 169) rfl ?_
    intro T23 X23 e23
    have P23 : HP n0 T23.heap [AC kA3 [.int (Int32.ofNat g0)], AC kA4 [.int (Int32.ofNat g0), .int (Int32.ofNat g1), .int (Int32.ofNat g2), .int (Int32.ofNat g3), .int (Int32.ofNat g4)]] := by rw [e23]; exact P22
    refine w_ladd X23 hx (hb hby at_169) (pc' := 170) rfl ?_
    refine w_aload X23 hx (hb hby at_170) rfl rfl (pc' := 172) rfl ?_
    refine w_iload X23 hx (hb hby at_172) rfl (pc' := 174) rfl ?_
    refine w_iconst (v := (0 : Int32)) X23 hx (hb hby at_174) rfl (pc' := 175) rfl ?_
    refine w_iconst (v := (3 : Int32)) X23 hx (hb hby at_175) rfl (pc' := 176) rfl ?_
    refine w_callP (W := 2) X23 hx hZ rfl hown hml.symm (wd2 hw) (wd3 hw) (wd4 hw) (wd5 hw) (rm_sm1_03 l Z a0 hw [] n0 (Int32.ofNat g0) (Int32.ofNat g0) (Int32.ofNat g1) (Int32.ofNat g2) (Int32.ofNat g3) (Int32.ofNat g4) kA3 hkA3 kA4 hkA4 _ P23) (by decide) (by decide) (by decide) rfl rfl (by decide) (by decide) (argsL := [.ref (n0 + 1), .int (1 : Int32), .int (0 : Int32), .int (3 : Int32)]) (rest := [.long ((sp_sm1_01 (Int32.ofNat g0) (Int32.ofNat g0) (Int32.ofNat g1) (Int32.ofNat g2) (Int32.ofNat g3) (Int32.ofNat g4)) + (sp_sm1_02 (Int32.ofNat g0) (Int32.ofNat g0) (Int32.ofNat g1) (Int32.ofNat g2) (Int32.ofNat g3) (Int32.ofNat g4)))]) pd1 rfl rfl rfl (Nat.le_of_eq rfl) (hb hby at_176) (pc' := 179) rfl ?_
    intro T24 X24 e24
    have P24 : HP n0 T24.heap [AC kA3 [.int (Int32.ofNat g0)], AC kA4 [.int (Int32.ofNat g0), .int (Int32.ofNat g1), .int (Int32.ofNat g2), .int (Int32.ofNat g3), .int (Int32.ofNat g4)]] := by rw [e24]; exact P23
    refine w_ladd X24 hx (hb hby at_179) (pc' := 180) rfl ?_
    refine w_aload X24 hx (hb hby at_180) rfl rfl (pc' := 182) rfl ?_
    refine w_iload X24 hx (hb hby at_182) rfl (pc' := 184) rfl ?_
    refine w_iconst (v := (0 : Int32)) X24 hx (hb hby at_184) rfl (pc' := 185) rfl ?_
    refine w_iconst (v := (4 : Int32)) X24 hx (hb hby at_185) rfl (pc' := 186) rfl ?_
    refine w_callP (W := 2) X24 hx hZ rfl hown hml.symm (wd2 hw) (wd3 hw) (wd4 hw) (wd5 hw) (rm_sm1_04 l Z a0 hw [] n0 (Int32.ofNat g0) (Int32.ofNat g0) (Int32.ofNat g1) (Int32.ofNat g2) (Int32.ofNat g3) (Int32.ofNat g4) kA3 hkA3 kA4 hkA4 _ P24) (by decide) (by decide) (by decide) rfl rfl (by decide) (by decide) (argsL := [.ref (n0 + 1), .int (1 : Int32), .int (0 : Int32), .int (4 : Int32)]) (rest := [.long (((sp_sm1_01 (Int32.ofNat g0) (Int32.ofNat g0) (Int32.ofNat g1) (Int32.ofNat g2) (Int32.ofNat g3) (Int32.ofNat g4)) + (sp_sm1_02 (Int32.ofNat g0) (Int32.ofNat g0) (Int32.ofNat g1) (Int32.ofNat g2) (Int32.ofNat g3) (Int32.ofNat g4))) + (sp_sm1_03 (Int32.ofNat g0) (Int32.ofNat g0) (Int32.ofNat g1) (Int32.ofNat g2) (Int32.ofNat g3) (Int32.ofNat g4)))]) pd1 rfl rfl rfl (Nat.le_of_eq rfl) (hb hby at_186) (pc' := 189) rfl ?_
    intro T25 X25 e25
    have P25 : HP n0 T25.heap [AC kA3 [.int (Int32.ofNat g0)], AC kA4 [.int (Int32.ofNat g0), .int (Int32.ofNat g1), .int (Int32.ofNat g2), .int (Int32.ofNat g3), .int (Int32.ofNat g4)]] := by rw [e25]; exact P24
    refine w_ladd X25 hx (hb hby at_189) (pc' := 190) rfl ?_
    refine w_aload X25 hx (hb hby at_190) rfl rfl (pc' := 192) rfl ?_
    refine w_iload X25 hx (hb hby at_192) rfl (pc' := 194) rfl ?_
    refine w_iconst (v := (1 : Int32)) X25 hx (hb hby at_194) rfl (pc' := 195) rfl ?_
    refine w_iconst (v := (2 : Int32)) X25 hx (hb hby at_195) rfl (pc' := 196) rfl ?_
    refine w_callP (W := 2) X25 hx hZ rfl hown hml.symm (wd2 hw) (wd3 hw) (wd4 hw) (wd5 hw) (rm_sm1_12 l Z a0 hw [] n0 (Int32.ofNat g0) (Int32.ofNat g0) (Int32.ofNat g1) (Int32.ofNat g2) (Int32.ofNat g3) (Int32.ofNat g4) kA3 hkA3 kA4 hkA4 _ P25) (by decide) (by decide) (by decide) rfl rfl (by decide) (by decide) (argsL := [.ref (n0 + 1), .int (1 : Int32), .int (1 : Int32), .int (2 : Int32)]) (rest := [.long ((((sp_sm1_01 (Int32.ofNat g0) (Int32.ofNat g0) (Int32.ofNat g1) (Int32.ofNat g2) (Int32.ofNat g3) (Int32.ofNat g4)) + (sp_sm1_02 (Int32.ofNat g0) (Int32.ofNat g0) (Int32.ofNat g1) (Int32.ofNat g2) (Int32.ofNat g3) (Int32.ofNat g4))) + (sp_sm1_03 (Int32.ofNat g0) (Int32.ofNat g0) (Int32.ofNat g1) (Int32.ofNat g2) (Int32.ofNat g3) (Int32.ofNat g4))) + (sp_sm1_04 (Int32.ofNat g0) (Int32.ofNat g0) (Int32.ofNat g1) (Int32.ofNat g2) (Int32.ofNat g3) (Int32.ofNat g4)))]) pd1 rfl rfl rfl (Nat.le_of_eq rfl) (hb hby at_196) (pc' := 199) rfl ?_
    intro T26 X26 e26
    have P26 : HP n0 T26.heap [AC kA3 [.int (Int32.ofNat g0)], AC kA4 [.int (Int32.ofNat g0), .int (Int32.ofNat g1), .int (Int32.ofNat g2), .int (Int32.ofNat g3), .int (Int32.ofNat g4)]] := by rw [e26]; exact P25
    refine w_ladd X26 hx (hb hby at_199) (pc' := 200) rfl ?_
    refine w_aload X26 hx (hb hby at_200) rfl rfl (pc' := 202) rfl ?_
    refine w_iload X26 hx (hb hby at_202) rfl (pc' := 204) rfl ?_
    refine w_iconst (v := (1 : Int32)) X26 hx (hb hby at_204) rfl (pc' := 205) rfl ?_
    refine w_iconst (v := (3 : Int32)) X26 hx (hb hby at_205) rfl (pc' := 206) rfl ?_
    refine w_callP (W := 2) X26 hx hZ rfl hown hml.symm (wd2 hw) (wd3 hw) (wd4 hw) (wd5 hw) (rm_sm1_13 l Z a0 hw [] n0 (Int32.ofNat g0) (Int32.ofNat g0) (Int32.ofNat g1) (Int32.ofNat g2) (Int32.ofNat g3) (Int32.ofNat g4) kA3 hkA3 kA4 hkA4 _ P26) (by decide) (by decide) (by decide) rfl rfl (by decide) (by decide) (argsL := [.ref (n0 + 1), .int (1 : Int32), .int (1 : Int32), .int (3 : Int32)]) (rest := [.long (((((sp_sm1_01 (Int32.ofNat g0) (Int32.ofNat g0) (Int32.ofNat g1) (Int32.ofNat g2) (Int32.ofNat g3) (Int32.ofNat g4)) + (sp_sm1_02 (Int32.ofNat g0) (Int32.ofNat g0) (Int32.ofNat g1) (Int32.ofNat g2) (Int32.ofNat g3) (Int32.ofNat g4))) + (sp_sm1_03 (Int32.ofNat g0) (Int32.ofNat g0) (Int32.ofNat g1) (Int32.ofNat g2) (Int32.ofNat g3) (Int32.ofNat g4))) + (sp_sm1_04 (Int32.ofNat g0) (Int32.ofNat g0) (Int32.ofNat g1) (Int32.ofNat g2) (Int32.ofNat g3) (Int32.ofNat g4))) + (sp_sm1_12 (Int32.ofNat g0) (Int32.ofNat g0) (Int32.ofNat g1) (Int32.ofNat g2) (Int32.ofNat g3) (Int32.ofNat g4)))]) pd1 rfl rfl rfl (Nat.le_of_eq rfl) (hb hby at_206) (pc' := 209) rfl ?_
    intro T27 X27 e27
    have P27 : HP n0 T27.heap [AC kA3 [.int (Int32.ofNat g0)], AC kA4 [.int (Int32.ofNat g0), .int (Int32.ofNat g1), .int (Int32.ofNat g2), .int (Int32.ofNat g3), .int (Int32.ofNat g4)]] := by rw [e27]; exact P26
    refine w_ladd X27 hx (hb hby at_209) (pc' := 210) rfl ?_
    refine w_aload X27 hx (hb hby at_210) rfl rfl (pc' := 212) rfl ?_
    refine w_iload X27 hx (hb hby at_212) rfl (pc' := 214) rfl ?_
    refine w_iconst (v := (1 : Int32)) X27 hx (hb hby at_214) rfl (pc' := 215) rfl ?_
    refine w_iconst (v := (4 : Int32)) X27 hx (hb hby at_215) rfl (pc' := 216) rfl ?_
    refine w_callP (W := 2) X27 hx hZ rfl hown hml.symm (wd2 hw) (wd3 hw) (wd4 hw) (wd5 hw) (rm_sm1_14 l Z a0 hw [] n0 (Int32.ofNat g0) (Int32.ofNat g0) (Int32.ofNat g1) (Int32.ofNat g2) (Int32.ofNat g3) (Int32.ofNat g4) kA3 hkA3 kA4 hkA4 _ P27) (by decide) (by decide) (by decide) rfl rfl (by decide) (by decide) (argsL := [.ref (n0 + 1), .int (1 : Int32), .int (1 : Int32), .int (4 : Int32)]) (rest := [.long ((((((sp_sm1_01 (Int32.ofNat g0) (Int32.ofNat g0) (Int32.ofNat g1) (Int32.ofNat g2) (Int32.ofNat g3) (Int32.ofNat g4)) + (sp_sm1_02 (Int32.ofNat g0) (Int32.ofNat g0) (Int32.ofNat g1) (Int32.ofNat g2) (Int32.ofNat g3) (Int32.ofNat g4))) + (sp_sm1_03 (Int32.ofNat g0) (Int32.ofNat g0) (Int32.ofNat g1) (Int32.ofNat g2) (Int32.ofNat g3) (Int32.ofNat g4))) + (sp_sm1_04 (Int32.ofNat g0) (Int32.ofNat g0) (Int32.ofNat g1) (Int32.ofNat g2) (Int32.ofNat g3) (Int32.ofNat g4))) + (sp_sm1_12 (Int32.ofNat g0) (Int32.ofNat g0) (Int32.ofNat g1) (Int32.ofNat g2) (Int32.ofNat g3) (Int32.ofNat g4))) + (sp_sm1_13 (Int32.ofNat g0) (Int32.ofNat g0) (Int32.ofNat g1) (Int32.ofNat g2) (Int32.ofNat g3) (Int32.ofNat g4)))]) pd1 rfl rfl rfl (Nat.le_of_eq rfl) (hb hby at_216) (pc' := 219) rfl ?_
    intro T28 X28 e28
    have P28 : HP n0 T28.heap [AC kA3 [.int (Int32.ofNat g0)], AC kA4 [.int (Int32.ofNat g0), .int (Int32.ofNat g1), .int (Int32.ofNat g2), .int (Int32.ofNat g3), .int (Int32.ofNat g4)]] := by rw [e28]; exact P27
    refine w_ladd X28 hx (hb hby at_219) (pc' := 220) rfl ?_
    refine w_aload X28 hx (hb hby at_220) rfl rfl (pc' := 222) rfl ?_
    refine w_iload X28 hx (hb hby at_222) rfl (pc' := 224) rfl ?_
    refine w_iconst (v := (2 : Int32)) X28 hx (hb hby at_224) rfl (pc' := 225) rfl ?_
    refine w_iconst (v := (3 : Int32)) X28 hx (hb hby at_225) rfl (pc' := 226) rfl ?_
    refine w_callP (W := 2) X28 hx hZ rfl hown hml.symm (wd2 hw) (wd3 hw) (wd4 hw) (wd5 hw) (rm_sm1_23 l Z a0 hw [] n0 (Int32.ofNat g0) (Int32.ofNat g0) (Int32.ofNat g1) (Int32.ofNat g2) (Int32.ofNat g3) (Int32.ofNat g4) kA3 hkA3 kA4 hkA4 _ P28) (by decide) (by decide) (by decide) rfl rfl (by decide) (by decide) (argsL := [.ref (n0 + 1), .int (1 : Int32), .int (2 : Int32), .int (3 : Int32)]) (rest := [.long (((((((sp_sm1_01 (Int32.ofNat g0) (Int32.ofNat g0) (Int32.ofNat g1) (Int32.ofNat g2) (Int32.ofNat g3) (Int32.ofNat g4)) + (sp_sm1_02 (Int32.ofNat g0) (Int32.ofNat g0) (Int32.ofNat g1) (Int32.ofNat g2) (Int32.ofNat g3) (Int32.ofNat g4))) + (sp_sm1_03 (Int32.ofNat g0) (Int32.ofNat g0) (Int32.ofNat g1) (Int32.ofNat g2) (Int32.ofNat g3) (Int32.ofNat g4))) + (sp_sm1_04 (Int32.ofNat g0) (Int32.ofNat g0) (Int32.ofNat g1) (Int32.ofNat g2) (Int32.ofNat g3) (Int32.ofNat g4))) + (sp_sm1_12 (Int32.ofNat g0) (Int32.ofNat g0) (Int32.ofNat g1) (Int32.ofNat g2) (Int32.ofNat g3) (Int32.ofNat g4))) + (sp_sm1_13 (Int32.ofNat g0) (Int32.ofNat g0) (Int32.ofNat g1) (Int32.ofNat g2) (Int32.ofNat g3) (Int32.ofNat g4))) + (sp_sm1_14 (Int32.ofNat g0) (Int32.ofNat g0) (Int32.ofNat g1) (Int32.ofNat g2) (Int32.ofNat g3) (Int32.ofNat g4)))]) pd1 rfl rfl rfl (Nat.le_of_eq rfl) (hb hby at_226) (pc' := 229) rfl ?_
    intro T29 X29 e29
    have P29 : HP n0 T29.heap [AC kA3 [.int (Int32.ofNat g0)], AC kA4 [.int (Int32.ofNat g0), .int (Int32.ofNat g1), .int (Int32.ofNat g2), .int (Int32.ofNat g3), .int (Int32.ofNat g4)]] := by rw [e29]; exact P28
    refine w_ladd X29 hx (hb hby at_229) (pc' := 230) rfl ?_
    refine w_aload X29 hx (hb hby at_230) rfl rfl (pc' := 232) rfl ?_
    refine w_iload X29 hx (hb hby at_232) rfl (pc' := 234) rfl ?_
    refine w_iconst (v := (2 : Int32)) X29 hx (hb hby at_234) rfl (pc' := 235) rfl ?_
    refine w_iconst (v := (4 : Int32)) X29 hx (hb hby at_235) rfl (pc' := 236) rfl ?_
    refine w_callP (W := 2) X29 hx hZ rfl hown hml.symm (wd2 hw) (wd3 hw) (wd4 hw) (wd5 hw) (rm_sm1_24 l Z a0 hw [] n0 (Int32.ofNat g0) (Int32.ofNat g0) (Int32.ofNat g1) (Int32.ofNat g2) (Int32.ofNat g3) (Int32.ofNat g4) kA3 hkA3 kA4 hkA4 _ P29) (by decide) (by decide) (by decide) rfl rfl (by decide) (by decide) (argsL := [.ref (n0 + 1), .int (1 : Int32), .int (2 : Int32), .int (4 : Int32)]) (rest := [.long ((((((((sp_sm1_01 (Int32.ofNat g0) (Int32.ofNat g0) (Int32.ofNat g1) (Int32.ofNat g2) (Int32.ofNat g3) (Int32.ofNat g4)) + (sp_sm1_02 (Int32.ofNat g0) (Int32.ofNat g0) (Int32.ofNat g1) (Int32.ofNat g2) (Int32.ofNat g3) (Int32.ofNat g4))) + (sp_sm1_03 (Int32.ofNat g0) (Int32.ofNat g0) (Int32.ofNat g1) (Int32.ofNat g2) (Int32.ofNat g3) (Int32.ofNat g4))) + (sp_sm1_04 (Int32.ofNat g0) (Int32.ofNat g0) (Int32.ofNat g1) (Int32.ofNat g2) (Int32.ofNat g3) (Int32.ofNat g4))) + (sp_sm1_12 (Int32.ofNat g0) (Int32.ofNat g0) (Int32.ofNat g1) (Int32.ofNat g2) (Int32.ofNat g3) (Int32.ofNat g4))) + (sp_sm1_13 (Int32.ofNat g0) (Int32.ofNat g0) (Int32.ofNat g1) (Int32.ofNat g2) (Int32.ofNat g3) (Int32.ofNat g4))) + (sp_sm1_14 (Int32.ofNat g0) (Int32.ofNat g0) (Int32.ofNat g1) (Int32.ofNat g2) (Int32.ofNat g3) (Int32.ofNat g4))) + (sp_sm1_23 (Int32.ofNat g0) (Int32.ofNat g0) (Int32.ofNat g1) (Int32.ofNat g2) (Int32.ofNat g3) (Int32.ofNat g4)))]) pd1 rfl rfl rfl (Nat.le_of_eq rfl) (hb hby at_236) (pc' := 239) rfl ?_
    intro T30 X30 e30
    have P30 : HP n0 T30.heap [AC kA3 [.int (Int32.ofNat g0)], AC kA4 [.int (Int32.ofNat g0), .int (Int32.ofNat g1), .int (Int32.ofNat g2), .int (Int32.ofNat g3), .int (Int32.ofNat g4)]] := by rw [e30]; exact P29
    refine w_ladd X30 hx (hb hby at_239) (pc' := 240) rfl ?_
    refine w_aload X30 hx (hb hby at_240) rfl rfl (pc' := 242) rfl ?_
    refine w_iload X30 hx (hb hby at_242) rfl (pc' := 244) rfl ?_
    refine w_iconst (v := (3 : Int32)) X30 hx (hb hby at_244) rfl (pc' := 245) rfl ?_
    refine w_iconst (v := (4 : Int32)) X30 hx (hb hby at_245) rfl (pc' := 246) rfl ?_
    refine w_callP (W := 2) X30 hx hZ rfl hown hml.symm (wd2 hw) (wd3 hw) (wd4 hw) (wd5 hw) (rm_sm1_34 l Z a0 hw [] n0 (Int32.ofNat g0) (Int32.ofNat g0) (Int32.ofNat g1) (Int32.ofNat g2) (Int32.ofNat g3) (Int32.ofNat g4) kA3 hkA3 kA4 hkA4 _ P30) (by decide) (by decide) (by decide) rfl rfl (by decide) (by decide) (argsL := [.ref (n0 + 1), .int (1 : Int32), .int (3 : Int32), .int (4 : Int32)]) (rest := [.long (((((((((sp_sm1_01 (Int32.ofNat g0) (Int32.ofNat g0) (Int32.ofNat g1) (Int32.ofNat g2) (Int32.ofNat g3) (Int32.ofNat g4)) + (sp_sm1_02 (Int32.ofNat g0) (Int32.ofNat g0) (Int32.ofNat g1) (Int32.ofNat g2) (Int32.ofNat g3) (Int32.ofNat g4))) + (sp_sm1_03 (Int32.ofNat g0) (Int32.ofNat g0) (Int32.ofNat g1) (Int32.ofNat g2) (Int32.ofNat g3) (Int32.ofNat g4))) + (sp_sm1_04 (Int32.ofNat g0) (Int32.ofNat g0) (Int32.ofNat g1) (Int32.ofNat g2) (Int32.ofNat g3) (Int32.ofNat g4))) + (sp_sm1_12 (Int32.ofNat g0) (Int32.ofNat g0) (Int32.ofNat g1) (Int32.ofNat g2) (Int32.ofNat g3) (Int32.ofNat g4))) + (sp_sm1_13 (Int32.ofNat g0) (Int32.ofNat g0) (Int32.ofNat g1) (Int32.ofNat g2) (Int32.ofNat g3) (Int32.ofNat g4))) + (sp_sm1_14 (Int32.ofNat g0) (Int32.ofNat g0) (Int32.ofNat g1) (Int32.ofNat g2) (Int32.ofNat g3) (Int32.ofNat g4))) + (sp_sm1_23 (Int32.ofNat g0) (Int32.ofNat g0) (Int32.ofNat g1) (Int32.ofNat g2) (Int32.ofNat g3) (Int32.ofNat g4))) + (sp_sm1_24 (Int32.ofNat g0) (Int32.ofNat g0) (Int32.ofNat g1) (Int32.ofNat g2) (Int32.ofNat g3) (Int32.ofNat g4)))]) pd1 rfl rfl rfl (Nat.le_of_eq rfl) (hb hby at_246) (pc' := 249) rfl ?_
    intro T31 X31 e31
    have P31 : HP n0 T31.heap [AC kA3 [.int (Int32.ofNat g0)], AC kA4 [.int (Int32.ofNat g0), .int (Int32.ofNat g1), .int (Int32.ofNat g2), .int (Int32.ofNat g3), .int (Int32.ofNat g4)]] := by rw [e31]; exact P30
    refine w_ladd X31 hx (hb hby at_249) (pc' := 250) rfl ?_
    refine w_lstore (l' := #[.val (.int x0), .val (.int x1), .val (.int x2), .val (.int x3), .val (.int x4), .val (.int x5), .val (.int (1 : Int32)), .val (.ref (n0 + 0)), .val (.ref (n0 + 1)), .val (.long ((((((((((sp_sm1_01 (Int32.ofNat g0) (Int32.ofNat g0) (Int32.ofNat g1) (Int32.ofNat g2) (Int32.ofNat g3) (Int32.ofNat g4)) + (sp_sm1_02 (Int32.ofNat g0) (Int32.ofNat g0) (Int32.ofNat g1) (Int32.ofNat g2) (Int32.ofNat g3) (Int32.ofNat g4))) + (sp_sm1_03 (Int32.ofNat g0) (Int32.ofNat g0) (Int32.ofNat g1) (Int32.ofNat g2) (Int32.ofNat g3) (Int32.ofNat g4))) + (sp_sm1_04 (Int32.ofNat g0) (Int32.ofNat g0) (Int32.ofNat g1) (Int32.ofNat g2) (Int32.ofNat g3) (Int32.ofNat g4))) + (sp_sm1_12 (Int32.ofNat g0) (Int32.ofNat g0) (Int32.ofNat g1) (Int32.ofNat g2) (Int32.ofNat g3) (Int32.ofNat g4))) + (sp_sm1_13 (Int32.ofNat g0) (Int32.ofNat g0) (Int32.ofNat g1) (Int32.ofNat g2) (Int32.ofNat g3) (Int32.ofNat g4))) + (sp_sm1_14 (Int32.ofNat g0) (Int32.ofNat g0) (Int32.ofNat g1) (Int32.ofNat g2) (Int32.ofNat g3) (Int32.ofNat g4))) + (sp_sm1_23 (Int32.ofNat g0) (Int32.ofNat g0) (Int32.ofNat g1) (Int32.ofNat g2) (Int32.ofNat g3) (Int32.ofNat g4))) + (sp_sm1_24 (Int32.ofNat g0) (Int32.ofNat g0) (Int32.ofNat g1) (Int32.ofNat g2) (Int32.ofNat g3) (Int32.ofNat g4))) + (sp_sm1_34 (Int32.ofNat g0) (Int32.ofNat g0) (Int32.ofNat g1) (Int32.ofNat g2) (Int32.ofNat g3) (Int32.ofNat g4)))), .second]) X31 hx (hb hby at_250) rfl (pc' := 252) rfl ?_
    refine w_aload X31 hx (hb hby at_252) rfl rfl (pc' := 254) rfl ?_
    refine own_call (W := 0) X31 hx hZ rfl hown hml.symm (wd6 hw) (wd7 hw) (wd8 hw) (wd9 hw) (rm_pa1 l Z a0 hw [] n0 kA3 kA4 g0 (Int32.ofNat g0) (Int32.ofNat g1) (Int32.ofNat g2) (Int32.ofNat g3) (Int32.ofNat g4) _ P31 hkA3 hkA4 hg0) (by decide) (by decide) (by decide) (by decide) (by decide) (argsL := [.ref (n0 + 0)]) (rest := []) pd2 rfl rfl rfl (Nat.le_of_eq rfl) (hb hby at_254) (pc' := 257) rfl ?_
    intro v32 T32 L8 X32 hq
    obtain ⟨rfl, N8⟩ := hq
    replace N8 := Fr.app N7 N8
    refine w_lload X32 hx (hb hby at_257) rfl (pc' := 259) rfl ?_
    refine w_lcmp_ne X32 hx (hb hby at_259) rfl (hb hby at_260) (by decide) (pcY := 267) (by decide) (pc' := 263) rfl (fun h19 => absurd (own_fin1 g0 hg0 g1 hg1 g2 hg2 g3 hg3 g4 hg4) h19) (fun h19 => ?_)
    refine w_iconst (v := (1 : Int32)) X32 hx (hb hby at_263) rfl (pc' := 264) rfl ?_
    refine w_goto X32 hx (hb hby at_264) (by decide) (pc' := 268) (by decide) ?_
    exact w_ret_n (t := .boolean) X32 hx hret hlk (by simp) (hb hby at_268) (z' := (1 : Int32)) rfl (by decide) (by decide) ⟨rfl, N8⟩
  · refine w_eqI (z := (2 : Int32)) g2 ?_
    refine w_istore (l' := #[.val (.int x0), .val (.int x1), .val (.int x2), .val (.int x3), .val (.int x4), .val (.int x5), .val (.int (2 : Int32)), .unset, .unset, .unset, .unset]) X0 hx (hb hby at_7) rfl (pc' := 9) rfl ?_
    refine w_iload X0 hx (hb hby at_9) rfl (pc' := 11) rfl ?_
    refine w_newarr (N := 2) (j := 0) X0 hx hZ P0 (ty := .int) rfl (wd1 hw) (hb hby at_11) (by decide) (by decide) (by decide) (by decide) rfl (pc' := 13) rfl ?_
    intro T33 kA5 X33 hkA5 P33
    replace P33 : HP n0 T33.heap [AC kA5 [.int (0 : Int32), .int (0 : Int32)]] := P33
    refine w_astore (l' := #[.val (.int x0), .val (.int x1), .val (.int x2), .val (.int x3), .val (.int x4), .val (.int x5), .val (.int (2 : Int32)), .val (.ref (n0 + 0)), .unset, .unset, .unset]) X33 hx (hb hby at_13) rfl rfl (pc' := 15) rfl ?_
    refine w_iconst (v := (5 : Int32)) X33 hx (hb hby at_15) rfl (pc' := 16) rfl ?_
    refine w_newarr (N := 5) (j := 1) X33 hx hZ P33 (ty := .int) rfl (wd1 hw) (hb hby at_16) (by decide) (by decide) (by decide) (by decide) rfl (pc' := 18) rfl ?_
    intro T34 kA6 X34 hkA6 P34
    replace P34 : HP n0 T34.heap [AC kA5 [.int (0 : Int32), .int (0 : Int32)], AC kA6 [.int (0 : Int32), .int (0 : Int32), .int (0 : Int32), .int (0 : Int32), .int (0 : Int32)]] := P34
    refine w_astore (l' := #[.val (.int x0), .val (.int x1), .val (.int x2), .val (.int x3), .val (.int x4), .val (.int x5), .val (.int (2 : Int32)), .val (.ref (n0 + 0)), .val (.ref (n0 + 1)), .unset, .unset]) X34 hx (hb hby at_18) rfl rfl (pc' := 20) rfl ?_
    refine w_iload X34 hx (hb hby at_20) rfl (pc' := 22) rfl ?_
    refine w_if_le X34 hx (hb hby at_22) (by decide) (pcY := 82) (by decide) (pc' := 25) rfl (fun h20 => absurd h20 (by decide)) (fun h20 => ?_)
    refine w_aload X34 hx (hb hby at_25) rfl rfl (pc' := 27) rfl ?_
    refine w_iconst (v := (0 : Int32)) X34 hx (hb hby at_27) rfl (pc' := 28) rfl ?_
    refine w_iloadN X34 hx (hb hby at_28) rfl (pc' := 29) rfl ?_
    refine w_ldc X34 hx (hb hby at_29) hown (mvT hZ (wd0 hw)) (pc' := 31) rfl ?_
    refine w_iand X34 hx (hb hby at_31) (pc' := 32) rfl ?_
    refine w_iload X34 hx (hb hby at_32) rfl (pc' := 34) rfl ?_
    refine w_irem X34 hx (hb hby at_34) (by decide) (pc' := 35) rfl ?_
    obtain ⟨g0, hg0, eg0⟩ := own_rem x1 2 2 (by decide) (by decide)
    refine w_eqI eg0 ?_
    refine w_iastore (i := 1) (jn := 0) X34 hx hZ N0 P34 rfl hkA6 (hb hby at_35) (by decide) (Nat.le_of_ble_eq_true rfl) (pc' := 36) rfl ?_
    intro T35 L9 N9 X35 P35
    replace P35 : HP n0 T35.heap [AC kA5 [.int (0 : Int32), .int (0 : Int32)], AC kA6 [.int (Int32.ofNat g0), .int (0 : Int32), .int (0 : Int32), .int (0 : Int32), .int (0 : Int32)]] := P35
    refine w_aload X35 hx (hb hby at_36) rfl rfl (pc' := 38) rfl ?_
    refine w_iconst (v := (1 : Int32)) X35 hx (hb hby at_38) rfl (pc' := 39) rfl ?_
    refine w_iloadN X35 hx (hb hby at_39) rfl (pc' := 40) rfl ?_
    refine w_ldc X35 hx (hb hby at_40) hown (mvT hZ (wd0 hw)) (pc' := 42) rfl ?_
    refine w_iand X35 hx (hb hby at_42) (pc' := 43) rfl ?_
    refine w_iload X35 hx (hb hby at_43) rfl (pc' := 45) rfl ?_
    refine w_irem X35 hx (hb hby at_45) (by decide) (pc' := 46) rfl ?_
    obtain ⟨g1, hg1, eg1⟩ := own_rem x2 2 2 (by decide) (by decide)
    refine w_eqI eg1 ?_
    refine w_iastore (i := 1) (jn := 1) X35 hx hZ N9 P35 rfl hkA6 (hb hby at_46) (by decide) (Nat.le_of_ble_eq_true rfl) (pc' := 47) rfl ?_
    intro T36 L10 N10 X36 P36
    replace P36 : HP n0 T36.heap [AC kA5 [.int (0 : Int32), .int (0 : Int32)], AC kA6 [.int (Int32.ofNat g0), .int (Int32.ofNat g1), .int (0 : Int32), .int (0 : Int32), .int (0 : Int32)]] := P36
    refine w_aload X36 hx (hb hby at_47) rfl rfl (pc' := 49) rfl ?_
    refine w_iconst (v := (2 : Int32)) X36 hx (hb hby at_49) rfl (pc' := 50) rfl ?_
    refine w_iloadN X36 hx (hb hby at_50) rfl (pc' := 51) rfl ?_
    refine w_ldc X36 hx (hb hby at_51) hown (mvT hZ (wd0 hw)) (pc' := 53) rfl ?_
    refine w_iand X36 hx (hb hby at_53) (pc' := 54) rfl ?_
    refine w_iload X36 hx (hb hby at_54) rfl (pc' := 56) rfl ?_
    refine w_irem X36 hx (hb hby at_56) (by decide) (pc' := 57) rfl ?_
    obtain ⟨g2, hg2, eg2⟩ := own_rem x3 2 2 (by decide) (by decide)
    refine w_eqI eg2 ?_
    refine w_iastore (i := 1) (jn := 2) X36 hx hZ N10 P36 rfl hkA6 (hb hby at_57) (by decide) (Nat.le_of_ble_eq_true rfl) (pc' := 58) rfl ?_
    intro T37 L11 N11 X37 P37
    replace P37 : HP n0 T37.heap [AC kA5 [.int (0 : Int32), .int (0 : Int32)], AC kA6 [.int (Int32.ofNat g0), .int (Int32.ofNat g1), .int (Int32.ofNat g2), .int (0 : Int32), .int (0 : Int32)]] := P37
    refine w_aload X37 hx (hb hby at_58) rfl rfl (pc' := 60) rfl ?_
    refine w_iconst (v := (3 : Int32)) X37 hx (hb hby at_60) rfl (pc' := 61) rfl ?_
    refine w_iload X37 hx (hb hby at_61) rfl (pc' := 63) rfl ?_
    refine w_ldc X37 hx (hb hby at_63) hown (mvT hZ (wd0 hw)) (pc' := 65) rfl ?_
    refine w_iand X37 hx (hb hby at_65) (pc' := 66) rfl ?_
    refine w_iload X37 hx (hb hby at_66) rfl (pc' := 68) rfl ?_
    refine w_irem X37 hx (hb hby at_68) (by decide) (pc' := 69) rfl ?_
    obtain ⟨g3, hg3, eg3⟩ := own_rem x4 2 2 (by decide) (by decide)
    refine w_eqI eg3 ?_
    refine w_iastore (i := 1) (jn := 3) X37 hx hZ N11 P37 rfl hkA6 (hb hby at_69) (by decide) (Nat.le_of_ble_eq_true rfl) (pc' := 70) rfl ?_
    intro T38 L12 N12 X38 P38
    replace P38 : HP n0 T38.heap [AC kA5 [.int (0 : Int32), .int (0 : Int32)], AC kA6 [.int (Int32.ofNat g0), .int (Int32.ofNat g1), .int (Int32.ofNat g2), .int (Int32.ofNat g3), .int (0 : Int32)]] := P38
    refine w_aload X38 hx (hb hby at_70) rfl rfl (pc' := 72) rfl ?_
    refine w_iconst (v := (4 : Int32)) X38 hx (hb hby at_72) rfl (pc' := 73) rfl ?_
    refine w_iload X38 hx (hb hby at_73) rfl (pc' := 75) rfl ?_
    refine w_ldc X38 hx (hb hby at_75) hown (mvT hZ (wd0 hw)) (pc' := 77) rfl ?_
    refine w_iand X38 hx (hb hby at_77) (pc' := 78) rfl ?_
    refine w_iload X38 hx (hb hby at_78) rfl (pc' := 80) rfl ?_
    refine w_irem X38 hx (hb hby at_80) (by decide) (pc' := 81) rfl ?_
    obtain ⟨g4, hg4, eg4⟩ := own_rem x5 2 2 (by decide) (by decide)
    refine w_eqI eg4 ?_
    refine w_iastore (i := 1) (jn := 4) X38 hx hZ N12 P38 rfl hkA6 (hb hby at_81) (by decide) (Nat.le_of_ble_eq_true rfl) (pc' := 82) rfl ?_
    intro T39 L13 N13 X39 P39
    replace P39 : HP n0 T39.heap [AC kA5 [.int (0 : Int32), .int (0 : Int32)], AC kA6 [.int (Int32.ofNat g0), .int (Int32.ofNat g1), .int (Int32.ofNat g2), .int (Int32.ofNat g3), .int (Int32.ofNat g4)]] := P39
    refine w_iload X39 hx (hb hby at_82) rfl (pc' := 84) rfl ?_
    refine w_if_le X39 hx (hb hby at_84) (by decide) (pcY := 95) (by decide) (pc' := 87) rfl (fun h21 => absurd h21 (by decide)) (fun h21 => ?_)
    refine w_aload X39 hx (hb hby at_87) rfl rfl (pc' := 89) rfl ?_
    refine w_iconst (v := (0 : Int32)) X39 hx (hb hby at_89) rfl (pc' := 90) rfl ?_
    refine w_aload X39 hx (hb hby at_90) rfl rfl (pc' := 92) rfl ?_
    refine w_iconst (v := (0 : Int32)) X39 hx (hb hby at_92) rfl (pc' := 93) rfl ?_
    refine w_iaload (i := 1) (jn := 0) (v := .int (Int32.ofNat g0)) X39 hx hZ P39 rfl hkA6 (hb hby at_93) (by decide) rfl (pc' := 94) rfl ?_
    refine w_iastore (i := 0) (jn := 0) X39 hx hZ N13 P39 rfl hkA5 (hb hby at_94) (by decide) (Nat.le_of_ble_eq_true rfl) (pc' := 95) rfl ?_
    intro T40 L14 N14 X40 P40
    replace P40 : HP n0 T40.heap [AC kA5 [.int (Int32.ofNat g0), .int (0 : Int32)], AC kA6 [.int (Int32.ofNat g0), .int (Int32.ofNat g1), .int (Int32.ofNat g2), .int (Int32.ofNat g3), .int (Int32.ofNat g4)]] := P40
    refine w_iload X40 hx (hb hby at_95) rfl (pc' := 97) rfl ?_
    refine w_iconst (v := (1 : Int32)) X40 hx (hb hby at_97) rfl (pc' := 98) rfl ?_
    refine w_icmp_le X40 hx (hb hby at_98) (by decide) (pcY := 109) (by decide) (pc' := 101) rfl (fun h22 => absurd h22 (by decide)) (fun h22 => ?_)
    refine w_aload X40 hx (hb hby at_101) rfl rfl (pc' := 103) rfl ?_
    refine w_iconst (v := (1 : Int32)) X40 hx (hb hby at_103) rfl (pc' := 104) rfl ?_
    refine w_aload X40 hx (hb hby at_104) rfl rfl (pc' := 106) rfl ?_
    refine w_iconst (v := (1 : Int32)) X40 hx (hb hby at_106) rfl (pc' := 107) rfl ?_
    refine w_iaload (i := 1) (jn := 1) (v := .int (Int32.ofNat g1)) X40 hx hZ P40 rfl hkA6 (hb hby at_107) (by decide) rfl (pc' := 108) rfl ?_
    refine w_iastore (i := 0) (jn := 1) X40 hx hZ N14 P40 rfl hkA5 (hb hby at_108) (by decide) (Nat.le_of_ble_eq_true rfl) (pc' := 109) rfl ?_
    intro T41 L15 N15 X41 P41
    replace P41 : HP n0 T41.heap [AC kA5 [.int (Int32.ofNat g0), .int (Int32.ofNat g1)], AC kA6 [.int (Int32.ofNat g0), .int (Int32.ofNat g1), .int (Int32.ofNat g2), .int (Int32.ofNat g3), .int (Int32.ofNat g4)]] := P41
    refine w_iload X41 hx (hb hby at_109) rfl (pc' := 111) rfl ?_
    refine w_iconst (v := (2 : Int32)) X41 hx (hb hby at_111) rfl (pc' := 112) rfl ?_
    refine w_icmp_le X41 hx (hb hby at_112) (by decide) (pcY := 123) (by decide) (pc' := 115) rfl (fun h23 => ?_) (fun h23 => absurd h23 (by decide))
    refine w_iload X41 hx (hb hby at_123) rfl (pc' := 125) rfl ?_
    refine w_iconst (v := (3 : Int32)) X41 hx (hb hby at_125) rfl (pc' := 126) rfl ?_
    refine w_icmp_le X41 hx (hb hby at_126) (by decide) (pcY := 137) (by decide) (pc' := 129) rfl (fun h24 => ?_) (fun h24 => absurd h24 (by decide))
    refine w_iload X41 hx (hb hby at_137) rfl (pc' := 139) rfl ?_
    refine w_iconst (v := (4 : Int32)) X41 hx (hb hby at_139) rfl (pc' := 140) rfl ?_
    refine w_icmp_le X41 hx (hb hby at_140) (by decide) (pcY := 151) (by decide) (pc' := 143) rfl (fun h25 => ?_) (fun h25 => absurd h25 (by decide))
    refine w_aload X41 hx (hb hby at_151) rfl rfl (pc' := 153) rfl ?_
    refine w_iload X41 hx (hb hby at_153) rfl (pc' := 155) rfl ?_
    refine w_iconst (v := (0 : Int32)) X41 hx (hb hby at_155) rfl (pc' := 156) rfl ?_
    refine w_iconst (v := (1 : Int32)) X41 hx (hb hby at_156) rfl (pc' := 157) rfl ?_
    refine w_callP (W := 0) X41 hx hZ rfl hown hml.symm (wd2 hw) (wd3 hw) (wd4 hw) (wd5 hw) (rm_sm2_01 l Z a0 hw [] n0 (Int32.ofNat g0) (Int32.ofNat g1) (Int32.ofNat g0) (Int32.ofNat g1) (Int32.ofNat g2) (Int32.ofNat g3) (Int32.ofNat g4) kA5 hkA5 kA6 hkA6 _ P41) (by decide) (by decide) (by decide) rfl rfl (by decide) (by decide) (argsL := [.ref (n0 + 1), .int (2 : Int32), .int (0 : Int32), .int (1 : Int32)]) (rest := []) pd1 rfl rfl rfl (Nat.le_of_eq rfl) (hb hby at_157) (pc' := 160) rfl ?_
    intro T42 X42 e42
    have P42 : HP n0 T42.heap [AC kA5 [.int (Int32.ofNat g0), .int (Int32.ofNat g1)], AC kA6 [.int (Int32.ofNat g0), .int (Int32.ofNat g1), .int (Int32.ofNat g2), .int (Int32.ofNat g3), .int (Int32.ofNat g4)]] := by rw [e42]; exact P41
    refine w_aload X42 hx (hb hby at_160) rfl rfl (pc' := 162) rfl ?_
    refine w_iload X42 hx (hb hby at_162) rfl (pc' := 164) rfl ?_
    refine w_iconst (v := (0 : Int32)) X42 hx (hb hby at_164) rfl (pc' := 165) rfl ?_
    refine w_iconst (v := (2 : Int32)) X42 hx (hb hby at_165) rfl (pc' := 166) rfl ?_
    refine w_callP (W := 2) X42 hx hZ rfl hown hml.symm (wd2 hw) (wd3 hw) (wd4 hw) (wd5 hw) (rm_sm2_02 l Z a0 hw [] n0 (Int32.ofNat g0) (Int32.ofNat g1) (Int32.ofNat g0) (Int32.ofNat g1) (Int32.ofNat g2) (Int32.ofNat g3) (Int32.ofNat g4) kA5 hkA5 kA6 hkA6 _ P42) (by decide) (by decide) (by decide) rfl rfl (by decide) (by decide) (argsL := [.ref (n0 + 1), .int (2 : Int32), .int (0 : Int32), .int (2 : Int32)]) (rest := [.long (sp_sm2_01 (Int32.ofNat g0) (Int32.ofNat g1) (Int32.ofNat g0) (Int32.ofNat g1) (Int32.ofNat g2) (Int32.ofNat g3) (Int32.ofNat g4))]) pd1 rfl rfl rfl (Nat.le_of_eq rfl) (hb hby at_166) (pc' := 169) rfl ?_
    intro T43 X43 e43
    have P43 : HP n0 T43.heap [AC kA5 [.int (Int32.ofNat g0), .int (Int32.ofNat g1)], AC kA6 [.int (Int32.ofNat g0), .int (Int32.ofNat g1), .int (Int32.ofNat g2), .int (Int32.ofNat g3), .int (Int32.ofNat g4)]] := by rw [e43]; exact P42
    refine w_ladd X43 hx (hb hby at_169) (pc' := 170) rfl ?_
    refine w_aload X43 hx (hb hby at_170) rfl rfl (pc' := 172) rfl ?_
    refine w_iload X43 hx (hb hby at_172) rfl (pc' := 174) rfl ?_
    refine w_iconst (v := (0 : Int32)) X43 hx (hb hby at_174) rfl (pc' := 175) rfl ?_
    refine w_iconst (v := (3 : Int32)) X43 hx (hb hby at_175) rfl (pc' := 176) rfl ?_
    refine w_callP (W := 2) X43 hx hZ rfl hown hml.symm (wd2 hw) (wd3 hw) (wd4 hw) (wd5 hw) (rm_sm2_03 l Z a0 hw [] n0 (Int32.ofNat g0) (Int32.ofNat g1) (Int32.ofNat g0) (Int32.ofNat g1) (Int32.ofNat g2) (Int32.ofNat g3) (Int32.ofNat g4) kA5 hkA5 kA6 hkA6 _ P43) (by decide) (by decide) (by decide) rfl rfl (by decide) (by decide) (argsL := [.ref (n0 + 1), .int (2 : Int32), .int (0 : Int32), .int (3 : Int32)]) (rest := [.long ((sp_sm2_01 (Int32.ofNat g0) (Int32.ofNat g1) (Int32.ofNat g0) (Int32.ofNat g1) (Int32.ofNat g2) (Int32.ofNat g3) (Int32.ofNat g4)) + (sp_sm2_02 (Int32.ofNat g0) (Int32.ofNat g1) (Int32.ofNat g0) (Int32.ofNat g1) (Int32.ofNat g2) (Int32.ofNat g3) (Int32.ofNat g4)))]) pd1 rfl rfl rfl (Nat.le_of_eq rfl) (hb hby at_176) (pc' := 179) rfl ?_
    intro T44 X44 e44
    have P44 : HP n0 T44.heap [AC kA5 [.int (Int32.ofNat g0), .int (Int32.ofNat g1)], AC kA6 [.int (Int32.ofNat g0), .int (Int32.ofNat g1), .int (Int32.ofNat g2), .int (Int32.ofNat g3), .int (Int32.ofNat g4)]] := by rw [e44]; exact P43
    refine w_ladd X44 hx (hb hby at_179) (pc' := 180) rfl ?_
    refine w_aload X44 hx (hb hby at_180) rfl rfl (pc' := 182) rfl ?_
    refine w_iload X44 hx (hb hby at_182) rfl (pc' := 184) rfl ?_
    refine w_iconst (v := (0 : Int32)) X44 hx (hb hby at_184) rfl (pc' := 185) rfl ?_
    refine w_iconst (v := (4 : Int32)) X44 hx (hb hby at_185) rfl (pc' := 186) rfl ?_
    refine w_callP (W := 2) X44 hx hZ rfl hown hml.symm (wd2 hw) (wd3 hw) (wd4 hw) (wd5 hw) (rm_sm2_04 l Z a0 hw [] n0 (Int32.ofNat g0) (Int32.ofNat g1) (Int32.ofNat g0) (Int32.ofNat g1) (Int32.ofNat g2) (Int32.ofNat g3) (Int32.ofNat g4) kA5 hkA5 kA6 hkA6 _ P44) (by decide) (by decide) (by decide) rfl rfl (by decide) (by decide) (argsL := [.ref (n0 + 1), .int (2 : Int32), .int (0 : Int32), .int (4 : Int32)]) (rest := [.long (((sp_sm2_01 (Int32.ofNat g0) (Int32.ofNat g1) (Int32.ofNat g0) (Int32.ofNat g1) (Int32.ofNat g2) (Int32.ofNat g3) (Int32.ofNat g4)) + (sp_sm2_02 (Int32.ofNat g0) (Int32.ofNat g1) (Int32.ofNat g0) (Int32.ofNat g1) (Int32.ofNat g2) (Int32.ofNat g3) (Int32.ofNat g4))) + (sp_sm2_03 (Int32.ofNat g0) (Int32.ofNat g1) (Int32.ofNat g0) (Int32.ofNat g1) (Int32.ofNat g2) (Int32.ofNat g3) (Int32.ofNat g4)))]) pd1 rfl rfl rfl (Nat.le_of_eq rfl) (hb hby at_186) (pc' := 189) rfl ?_
    intro T45 X45 e45
    have P45 : HP n0 T45.heap [AC kA5 [.int (Int32.ofNat g0), .int (Int32.ofNat g1)], AC kA6 [.int (Int32.ofNat g0), .int (Int32.ofNat g1), .int (Int32.ofNat g2), .int (Int32.ofNat g3), .int (Int32.ofNat g4)]] := by rw [e45]; exact P44
    refine w_ladd X45 hx (hb hby at_189) (pc' := 190) rfl ?_
    refine w_aload X45 hx (hb hby at_190) rfl rfl (pc' := 192) rfl ?_
    refine w_iload X45 hx (hb hby at_192) rfl (pc' := 194) rfl ?_
    refine w_iconst (v := (1 : Int32)) X45 hx (hb hby at_194) rfl (pc' := 195) rfl ?_
    refine w_iconst (v := (2 : Int32)) X45 hx (hb hby at_195) rfl (pc' := 196) rfl ?_
    refine w_callP (W := 2) X45 hx hZ rfl hown hml.symm (wd2 hw) (wd3 hw) (wd4 hw) (wd5 hw) (rm_sm2_12 l Z a0 hw [] n0 (Int32.ofNat g0) (Int32.ofNat g1) (Int32.ofNat g0) (Int32.ofNat g1) (Int32.ofNat g2) (Int32.ofNat g3) (Int32.ofNat g4) kA5 hkA5 kA6 hkA6 _ P45) (by decide) (by decide) (by decide) rfl rfl (by decide) (by decide) (argsL := [.ref (n0 + 1), .int (2 : Int32), .int (1 : Int32), .int (2 : Int32)]) (rest := [.long ((((sp_sm2_01 (Int32.ofNat g0) (Int32.ofNat g1) (Int32.ofNat g0) (Int32.ofNat g1) (Int32.ofNat g2) (Int32.ofNat g3) (Int32.ofNat g4)) + (sp_sm2_02 (Int32.ofNat g0) (Int32.ofNat g1) (Int32.ofNat g0) (Int32.ofNat g1) (Int32.ofNat g2) (Int32.ofNat g3) (Int32.ofNat g4))) + (sp_sm2_03 (Int32.ofNat g0) (Int32.ofNat g1) (Int32.ofNat g0) (Int32.ofNat g1) (Int32.ofNat g2) (Int32.ofNat g3) (Int32.ofNat g4))) + (sp_sm2_04 (Int32.ofNat g0) (Int32.ofNat g1) (Int32.ofNat g0) (Int32.ofNat g1) (Int32.ofNat g2) (Int32.ofNat g3) (Int32.ofNat g4)))]) pd1 rfl rfl rfl (Nat.le_of_eq rfl) (hb hby at_196) (pc' := 199) rfl ?_
    intro T46 X46 e46
    have P46 : HP n0 T46.heap [AC kA5 [.int (Int32.ofNat g0), .int (Int32.ofNat g1)], AC kA6 [.int (Int32.ofNat g0), .int (Int32.ofNat g1), .int (Int32.ofNat g2), .int (Int32.ofNat g3), .int (Int32.ofNat g4)]] := by rw [e46]; exact P45
    refine w_ladd X46 hx (hb hby at_199) (pc' := 200) rfl ?_
    refine w_aload X46 hx (hb hby at_200) rfl rfl (pc' := 202) rfl ?_
    refine w_iload X46 hx (hb hby at_202) rfl (pc' := 204) rfl ?_
    refine w_iconst (v := (1 : Int32)) X46 hx (hb hby at_204) rfl (pc' := 205) rfl ?_
    refine w_iconst (v := (3 : Int32)) X46 hx (hb hby at_205) rfl (pc' := 206) rfl ?_
    refine w_callP (W := 2) X46 hx hZ rfl hown hml.symm (wd2 hw) (wd3 hw) (wd4 hw) (wd5 hw) (rm_sm2_13 l Z a0 hw [] n0 (Int32.ofNat g0) (Int32.ofNat g1) (Int32.ofNat g0) (Int32.ofNat g1) (Int32.ofNat g2) (Int32.ofNat g3) (Int32.ofNat g4) kA5 hkA5 kA6 hkA6 _ P46) (by decide) (by decide) (by decide) rfl rfl (by decide) (by decide) (argsL := [.ref (n0 + 1), .int (2 : Int32), .int (1 : Int32), .int (3 : Int32)]) (rest := [.long (((((sp_sm2_01 (Int32.ofNat g0) (Int32.ofNat g1) (Int32.ofNat g0) (Int32.ofNat g1) (Int32.ofNat g2) (Int32.ofNat g3) (Int32.ofNat g4)) + (sp_sm2_02 (Int32.ofNat g0) (Int32.ofNat g1) (Int32.ofNat g0) (Int32.ofNat g1) (Int32.ofNat g2) (Int32.ofNat g3) (Int32.ofNat g4))) + (sp_sm2_03 (Int32.ofNat g0) (Int32.ofNat g1) (Int32.ofNat g0) (Int32.ofNat g1) (Int32.ofNat g2) (Int32.ofNat g3) (Int32.ofNat g4))) + (sp_sm2_04 (Int32.ofNat g0) (Int32.ofNat g1) (Int32.ofNat g0) (Int32.ofNat g1) (Int32.ofNat g2) (Int32.ofNat g3) (Int32.ofNat g4))) + (sp_sm2_12 (Int32.ofNat g0) (Int32.ofNat g1) (Int32.ofNat g0) (Int32.ofNat g1) (Int32.ofNat g2) (Int32.ofNat g3) (Int32.ofNat g4)))]) pd1 rfl rfl rfl (Nat.le_of_eq rfl) (hb hby at_206) (pc' := 209) rfl ?_
    intro T47 X47 e47
    have P47 : HP n0 T47.heap [AC kA5 [.int (Int32.ofNat g0), .int (Int32.ofNat g1)], AC kA6 [.int (Int32.ofNat g0), .int (Int32.ofNat g1), .int (Int32.ofNat g2), .int (Int32.ofNat g3), .int (Int32.ofNat g4)]] := by rw [e47]; exact P46
    refine w_ladd X47 hx (hb hby at_209) (pc' := 210) rfl ?_
    refine w_aload X47 hx (hb hby at_210) rfl rfl (pc' := 212) rfl ?_
    refine w_iload X47 hx (hb hby at_212) rfl (pc' := 214) rfl ?_
    refine w_iconst (v := (1 : Int32)) X47 hx (hb hby at_214) rfl (pc' := 215) rfl ?_
    refine w_iconst (v := (4 : Int32)) X47 hx (hb hby at_215) rfl (pc' := 216) rfl ?_
    refine w_callP (W := 2) X47 hx hZ rfl hown hml.symm (wd2 hw) (wd3 hw) (wd4 hw) (wd5 hw) (rm_sm2_14 l Z a0 hw [] n0 (Int32.ofNat g0) (Int32.ofNat g1) (Int32.ofNat g0) (Int32.ofNat g1) (Int32.ofNat g2) (Int32.ofNat g3) (Int32.ofNat g4) kA5 hkA5 kA6 hkA6 _ P47) (by decide) (by decide) (by decide) rfl rfl (by decide) (by decide) (argsL := [.ref (n0 + 1), .int (2 : Int32), .int (1 : Int32), .int (4 : Int32)]) (rest := [.long ((((((sp_sm2_01 (Int32.ofNat g0) (Int32.ofNat g1) (Int32.ofNat g0) (Int32.ofNat g1) (Int32.ofNat g2) (Int32.ofNat g3) (Int32.ofNat g4)) + (sp_sm2_02 (Int32.ofNat g0) (Int32.ofNat g1) (Int32.ofNat g0) (Int32.ofNat g1) (Int32.ofNat g2) (Int32.ofNat g3) (Int32.ofNat g4))) + (sp_sm2_03 (Int32.ofNat g0) (Int32.ofNat g1) (Int32.ofNat g0) (Int32.ofNat g1) (Int32.ofNat g2) (Int32.ofNat g3) (Int32.ofNat g4))) + (sp_sm2_04 (Int32.ofNat g0) (Int32.ofNat g1) (Int32.ofNat g0) (Int32.ofNat g1) (Int32.ofNat g2) (Int32.ofNat g3) (Int32.ofNat g4))) + (sp_sm2_12 (Int32.ofNat g0) (Int32.ofNat g1) (Int32.ofNat g0) (Int32.ofNat g1) (Int32.ofNat g2) (Int32.ofNat g3) (Int32.ofNat g4))) + (sp_sm2_13 (Int32.ofNat g0) (Int32.ofNat g1) (Int32.ofNat g0) (Int32.ofNat g1) (Int32.ofNat g2) (Int32.ofNat g3) (Int32.ofNat g4)))]) pd1 rfl rfl rfl (Nat.le_of_eq rfl) (hb hby at_216) (pc' := 219) rfl ?_
    intro T48 X48 e48
    have P48 : HP n0 T48.heap [AC kA5 [.int (Int32.ofNat g0), .int (Int32.ofNat g1)], AC kA6 [.int (Int32.ofNat g0), .int (Int32.ofNat g1), .int (Int32.ofNat g2), .int (Int32.ofNat g3), .int (Int32.ofNat g4)]] := by rw [e48]; exact P47
    refine w_ladd X48 hx (hb hby at_219) (pc' := 220) rfl ?_
    refine w_aload X48 hx (hb hby at_220) rfl rfl (pc' := 222) rfl ?_
    refine w_iload X48 hx (hb hby at_222) rfl (pc' := 224) rfl ?_
    refine w_iconst (v := (2 : Int32)) X48 hx (hb hby at_224) rfl (pc' := 225) rfl ?_
    refine w_iconst (v := (3 : Int32)) X48 hx (hb hby at_225) rfl (pc' := 226) rfl ?_
    refine w_callP (W := 2) X48 hx hZ rfl hown hml.symm (wd2 hw) (wd3 hw) (wd4 hw) (wd5 hw) (rm_sm2_23 l Z a0 hw [] n0 (Int32.ofNat g0) (Int32.ofNat g1) (Int32.ofNat g0) (Int32.ofNat g1) (Int32.ofNat g2) (Int32.ofNat g3) (Int32.ofNat g4) kA5 hkA5 kA6 hkA6 _ P48) (by decide) (by decide) (by decide) rfl rfl (by decide) (by decide) (argsL := [.ref (n0 + 1), .int (2 : Int32), .int (2 : Int32), .int (3 : Int32)]) (rest := [.long (((((((sp_sm2_01 (Int32.ofNat g0) (Int32.ofNat g1) (Int32.ofNat g0) (Int32.ofNat g1) (Int32.ofNat g2) (Int32.ofNat g3) (Int32.ofNat g4)) + (sp_sm2_02 (Int32.ofNat g0) (Int32.ofNat g1) (Int32.ofNat g0) (Int32.ofNat g1) (Int32.ofNat g2) (Int32.ofNat g3) (Int32.ofNat g4))) + (sp_sm2_03 (Int32.ofNat g0) (Int32.ofNat g1) (Int32.ofNat g0) (Int32.ofNat g1) (Int32.ofNat g2) (Int32.ofNat g3) (Int32.ofNat g4))) + (sp_sm2_04 (Int32.ofNat g0) (Int32.ofNat g1) (Int32.ofNat g0) (Int32.ofNat g1) (Int32.ofNat g2) (Int32.ofNat g3) (Int32.ofNat g4))) + (sp_sm2_12 (Int32.ofNat g0) (Int32.ofNat g1) (Int32.ofNat g0) (Int32.ofNat g1) (Int32.ofNat g2) (Int32.ofNat g3) (Int32.ofNat g4))) + (sp_sm2_13 (Int32.ofNat g0) (Int32.ofNat g1) (Int32.ofNat g0) (Int32.ofNat g1) (Int32.ofNat g2) (Int32.ofNat g3) (Int32.ofNat g4))) + (sp_sm2_14 (Int32.ofNat g0) (Int32.ofNat g1) (Int32.ofNat g0) (Int32.ofNat g1) (Int32.ofNat g2) (Int32.ofNat g3) (Int32.ofNat g4)))]) pd1 rfl rfl rfl (Nat.le_of_eq rfl) (hb hby at_226) (pc' := 229) rfl ?_
    intro T49 X49 e49
    have P49 : HP n0 T49.heap [AC kA5 [.int (Int32.ofNat g0), .int (Int32.ofNat g1)], AC kA6 [.int (Int32.ofNat g0), .int (Int32.ofNat g1), .int (Int32.ofNat g2), .int (Int32.ofNat g3), .int (Int32.ofNat g4)]] := by rw [e49]; exact P48
    refine w_ladd X49 hx (hb hby at_229) (pc' := 230) rfl ?_
    refine w_aload X49 hx (hb hby at_230) rfl rfl (pc' := 232) rfl ?_
    refine w_iload X49 hx (hb hby at_232) rfl (pc' := 234) rfl ?_
    refine w_iconst (v := (2 : Int32)) X49 hx (hb hby at_234) rfl (pc' := 235) rfl ?_
    refine w_iconst (v := (4 : Int32)) X49 hx (hb hby at_235) rfl (pc' := 236) rfl ?_
    refine w_callP (W := 2) X49 hx hZ rfl hown hml.symm (wd2 hw) (wd3 hw) (wd4 hw) (wd5 hw) (rm_sm2_24 l Z a0 hw [] n0 (Int32.ofNat g0) (Int32.ofNat g1) (Int32.ofNat g0) (Int32.ofNat g1) (Int32.ofNat g2) (Int32.ofNat g3) (Int32.ofNat g4) kA5 hkA5 kA6 hkA6 _ P49) (by decide) (by decide) (by decide) rfl rfl (by decide) (by decide) (argsL := [.ref (n0 + 1), .int (2 : Int32), .int (2 : Int32), .int (4 : Int32)]) (rest := [.long ((((((((sp_sm2_01 (Int32.ofNat g0) (Int32.ofNat g1) (Int32.ofNat g0) (Int32.ofNat g1) (Int32.ofNat g2) (Int32.ofNat g3) (Int32.ofNat g4)) + (sp_sm2_02 (Int32.ofNat g0) (Int32.ofNat g1) (Int32.ofNat g0) (Int32.ofNat g1) (Int32.ofNat g2) (Int32.ofNat g3) (Int32.ofNat g4))) + (sp_sm2_03 (Int32.ofNat g0) (Int32.ofNat g1) (Int32.ofNat g0) (Int32.ofNat g1) (Int32.ofNat g2) (Int32.ofNat g3) (Int32.ofNat g4))) + (sp_sm2_04 (Int32.ofNat g0) (Int32.ofNat g1) (Int32.ofNat g0) (Int32.ofNat g1) (Int32.ofNat g2) (Int32.ofNat g3) (Int32.ofNat g4))) + (sp_sm2_12 (Int32.ofNat g0) (Int32.ofNat g1) (Int32.ofNat g0) (Int32.ofNat g1) (Int32.ofNat g2) (Int32.ofNat g3) (Int32.ofNat g4))) + (sp_sm2_13 (Int32.ofNat g0) (Int32.ofNat g1) (Int32.ofNat g0) (Int32.ofNat g1) (Int32.ofNat g2) (Int32.ofNat g3) (Int32.ofNat g4))) + (sp_sm2_14 (Int32.ofNat g0) (Int32.ofNat g1) (Int32.ofNat g0) (Int32.ofNat g1) (Int32.ofNat g2) (Int32.ofNat g3) (Int32.ofNat g4))) + (sp_sm2_23 (Int32.ofNat g0) (Int32.ofNat g1) (Int32.ofNat g0) (Int32.ofNat g1) (Int32.ofNat g2) (Int32.ofNat g3) (Int32.ofNat g4)))]) pd1 rfl rfl rfl (Nat.le_of_eq rfl) (hb hby at_236) (pc' := 239) rfl ?_
    intro T50 X50 e50
    have P50 : HP n0 T50.heap [AC kA5 [.int (Int32.ofNat g0), .int (Int32.ofNat g1)], AC kA6 [.int (Int32.ofNat g0), .int (Int32.ofNat g1), .int (Int32.ofNat g2), .int (Int32.ofNat g3), .int (Int32.ofNat g4)]] := by rw [e50]; exact P49
    refine w_ladd X50 hx (hb hby at_239) (pc' := 240) rfl ?_
    refine w_aload X50 hx (hb hby at_240) rfl rfl (pc' := 242) rfl ?_
    refine w_iload X50 hx (hb hby at_242) rfl (pc' := 244) rfl ?_
    refine w_iconst (v := (3 : Int32)) X50 hx (hb hby at_244) rfl (pc' := 245) rfl ?_
    refine w_iconst (v := (4 : Int32)) X50 hx (hb hby at_245) rfl (pc' := 246) rfl ?_
    refine w_callP (W := 2) X50 hx hZ rfl hown hml.symm (wd2 hw) (wd3 hw) (wd4 hw) (wd5 hw) (rm_sm2_34 l Z a0 hw [] n0 (Int32.ofNat g0) (Int32.ofNat g1) (Int32.ofNat g0) (Int32.ofNat g1) (Int32.ofNat g2) (Int32.ofNat g3) (Int32.ofNat g4) kA5 hkA5 kA6 hkA6 _ P50) (by decide) (by decide) (by decide) rfl rfl (by decide) (by decide) (argsL := [.ref (n0 + 1), .int (2 : Int32), .int (3 : Int32), .int (4 : Int32)]) (rest := [.long (((((((((sp_sm2_01 (Int32.ofNat g0) (Int32.ofNat g1) (Int32.ofNat g0) (Int32.ofNat g1) (Int32.ofNat g2) (Int32.ofNat g3) (Int32.ofNat g4)) + (sp_sm2_02 (Int32.ofNat g0) (Int32.ofNat g1) (Int32.ofNat g0) (Int32.ofNat g1) (Int32.ofNat g2) (Int32.ofNat g3) (Int32.ofNat g4))) + (sp_sm2_03 (Int32.ofNat g0) (Int32.ofNat g1) (Int32.ofNat g0) (Int32.ofNat g1) (Int32.ofNat g2) (Int32.ofNat g3) (Int32.ofNat g4))) + (sp_sm2_04 (Int32.ofNat g0) (Int32.ofNat g1) (Int32.ofNat g0) (Int32.ofNat g1) (Int32.ofNat g2) (Int32.ofNat g3) (Int32.ofNat g4))) + (sp_sm2_12 (Int32.ofNat g0) (Int32.ofNat g1) (Int32.ofNat g0) (Int32.ofNat g1) (Int32.ofNat g2) (Int32.ofNat g3) (Int32.ofNat g4))) + (sp_sm2_13 (Int32.ofNat g0) (Int32.ofNat g1) (Int32.ofNat g0) (Int32.ofNat g1) (Int32.ofNat g2) (Int32.ofNat g3) (Int32.ofNat g4))) + (sp_sm2_14 (Int32.ofNat g0) (Int32.ofNat g1) (Int32.ofNat g0) (Int32.ofNat g1) (Int32.ofNat g2) (Int32.ofNat g3) (Int32.ofNat g4))) + (sp_sm2_23 (Int32.ofNat g0) (Int32.ofNat g1) (Int32.ofNat g0) (Int32.ofNat g1) (Int32.ofNat g2) (Int32.ofNat g3) (Int32.ofNat g4))) + (sp_sm2_24 (Int32.ofNat g0) (Int32.ofNat g1) (Int32.ofNat g0) (Int32.ofNat g1) (Int32.ofNat g2) (Int32.ofNat g3) (Int32.ofNat g4)))]) pd1 rfl rfl rfl (Nat.le_of_eq rfl) (hb hby at_246) (pc' := 249) rfl ?_
    intro T51 X51 e51
    have P51 : HP n0 T51.heap [AC kA5 [.int (Int32.ofNat g0), .int (Int32.ofNat g1)], AC kA6 [.int (Int32.ofNat g0), .int (Int32.ofNat g1), .int (Int32.ofNat g2), .int (Int32.ofNat g3), .int (Int32.ofNat g4)]] := by rw [e51]; exact P50
    refine w_ladd X51 hx (hb hby at_249) (pc' := 250) rfl ?_
    refine w_lstore (l' := #[.val (.int x0), .val (.int x1), .val (.int x2), .val (.int x3), .val (.int x4), .val (.int x5), .val (.int (2 : Int32)), .val (.ref (n0 + 0)), .val (.ref (n0 + 1)), .val (.long ((((((((((sp_sm2_01 (Int32.ofNat g0) (Int32.ofNat g1) (Int32.ofNat g0) (Int32.ofNat g1) (Int32.ofNat g2) (Int32.ofNat g3) (Int32.ofNat g4)) + (sp_sm2_02 (Int32.ofNat g0) (Int32.ofNat g1) (Int32.ofNat g0) (Int32.ofNat g1) (Int32.ofNat g2) (Int32.ofNat g3) (Int32.ofNat g4))) + (sp_sm2_03 (Int32.ofNat g0) (Int32.ofNat g1) (Int32.ofNat g0) (Int32.ofNat g1) (Int32.ofNat g2) (Int32.ofNat g3) (Int32.ofNat g4))) + (sp_sm2_04 (Int32.ofNat g0) (Int32.ofNat g1) (Int32.ofNat g0) (Int32.ofNat g1) (Int32.ofNat g2) (Int32.ofNat g3) (Int32.ofNat g4))) + (sp_sm2_12 (Int32.ofNat g0) (Int32.ofNat g1) (Int32.ofNat g0) (Int32.ofNat g1) (Int32.ofNat g2) (Int32.ofNat g3) (Int32.ofNat g4))) + (sp_sm2_13 (Int32.ofNat g0) (Int32.ofNat g1) (Int32.ofNat g0) (Int32.ofNat g1) (Int32.ofNat g2) (Int32.ofNat g3) (Int32.ofNat g4))) + (sp_sm2_14 (Int32.ofNat g0) (Int32.ofNat g1) (Int32.ofNat g0) (Int32.ofNat g1) (Int32.ofNat g2) (Int32.ofNat g3) (Int32.ofNat g4))) + (sp_sm2_23 (Int32.ofNat g0) (Int32.ofNat g1) (Int32.ofNat g0) (Int32.ofNat g1) (Int32.ofNat g2) (Int32.ofNat g3) (Int32.ofNat g4))) + (sp_sm2_24 (Int32.ofNat g0) (Int32.ofNat g1) (Int32.ofNat g0) (Int32.ofNat g1) (Int32.ofNat g2) (Int32.ofNat g3) (Int32.ofNat g4))) + (sp_sm2_34 (Int32.ofNat g0) (Int32.ofNat g1) (Int32.ofNat g0) (Int32.ofNat g1) (Int32.ofNat g2) (Int32.ofNat g3) (Int32.ofNat g4)))), .second]) X51 hx (hb hby at_250) rfl (pc' := 252) rfl ?_
    refine w_aload X51 hx (hb hby at_252) rfl rfl (pc' := 254) rfl ?_
    refine own_call (W := 0) X51 hx hZ rfl hown hml.symm (wd6 hw) (wd7 hw) (wd8 hw) (wd9 hw) (rm_pa2 l Z a0 hw [] n0 kA5 kA6 g0 g1 (Int32.ofNat g0) (Int32.ofNat g1) (Int32.ofNat g2) (Int32.ofNat g3) (Int32.ofNat g4) _ P51 hkA5 hkA6 hg0 hg1) (by decide) (by decide) (by decide) (by decide) (by decide) (argsL := [.ref (n0 + 0)]) (rest := []) pd2 rfl rfl rfl (Nat.le_of_eq rfl) (hb hby at_254) (pc' := 257) rfl ?_
    intro v52 T52 L16 X52 hq
    obtain ⟨rfl, N16⟩ := hq
    replace N16 := Fr.app N15 N16
    refine w_lload X52 hx (hb hby at_257) rfl (pc' := 259) rfl ?_
    refine w_lcmp_ne X52 hx (hb hby at_259) rfl (hb hby at_260) (by decide) (pcY := 267) (by decide) (pc' := 263) rfl (fun h26 => absurd (own_fin2 g0 hg0 g1 hg1 g2 hg2 g3 hg3 g4 hg4) h26) (fun h26 => ?_)
    refine w_iconst (v := (1 : Int32)) X52 hx (hb hby at_263) rfl (pc' := 264) rfl ?_
    refine w_goto X52 hx (hb hby at_264) (by decide) (pc' := 268) (by decide) ?_
    exact w_ret_n (t := .boolean) X52 hx hret hlk (by simp) (hb hby at_268) (z' := (1 : Int32)) rfl (by decide) (by decide) ⟨rfl, N16⟩
  · refine w_eqI (z := (3 : Int32)) g3 ?_
    refine w_istore (l' := #[.val (.int x0), .val (.int x1), .val (.int x2), .val (.int x3), .val (.int x4), .val (.int x5), .val (.int (3 : Int32)), .unset, .unset, .unset, .unset]) X0 hx (hb hby at_7) rfl (pc' := 9) rfl ?_
    refine w_iload X0 hx (hb hby at_9) rfl (pc' := 11) rfl ?_
    refine w_newarr (N := 3) (j := 0) X0 hx hZ P0 (ty := .int) rfl (wd1 hw) (hb hby at_11) (by decide) (by decide) (by decide) (by decide) rfl (pc' := 13) rfl ?_
    intro T53 kA7 X53 hkA7 P53
    replace P53 : HP n0 T53.heap [AC kA7 [.int (0 : Int32), .int (0 : Int32), .int (0 : Int32)]] := P53
    refine w_astore (l' := #[.val (.int x0), .val (.int x1), .val (.int x2), .val (.int x3), .val (.int x4), .val (.int x5), .val (.int (3 : Int32)), .val (.ref (n0 + 0)), .unset, .unset, .unset]) X53 hx (hb hby at_13) rfl rfl (pc' := 15) rfl ?_
    refine w_iconst (v := (5 : Int32)) X53 hx (hb hby at_15) rfl (pc' := 16) rfl ?_
    refine w_newarr (N := 5) (j := 1) X53 hx hZ P53 (ty := .int) rfl (wd1 hw) (hb hby at_16) (by decide) (by decide) (by decide) (by decide) rfl (pc' := 18) rfl ?_
    intro T54 kA8 X54 hkA8 P54
    replace P54 : HP n0 T54.heap [AC kA7 [.int (0 : Int32), .int (0 : Int32), .int (0 : Int32)], AC kA8 [.int (0 : Int32), .int (0 : Int32), .int (0 : Int32), .int (0 : Int32), .int (0 : Int32)]] := P54
    refine w_astore (l' := #[.val (.int x0), .val (.int x1), .val (.int x2), .val (.int x3), .val (.int x4), .val (.int x5), .val (.int (3 : Int32)), .val (.ref (n0 + 0)), .val (.ref (n0 + 1)), .unset, .unset]) X54 hx (hb hby at_18) rfl rfl (pc' := 20) rfl ?_
    refine w_iload X54 hx (hb hby at_20) rfl (pc' := 22) rfl ?_
    refine w_if_le X54 hx (hb hby at_22) (by decide) (pcY := 82) (by decide) (pc' := 25) rfl (fun h27 => absurd h27 (by decide)) (fun h27 => ?_)
    refine w_aload X54 hx (hb hby at_25) rfl rfl (pc' := 27) rfl ?_
    refine w_iconst (v := (0 : Int32)) X54 hx (hb hby at_27) rfl (pc' := 28) rfl ?_
    refine w_iloadN X54 hx (hb hby at_28) rfl (pc' := 29) rfl ?_
    refine w_ldc X54 hx (hb hby at_29) hown (mvT hZ (wd0 hw)) (pc' := 31) rfl ?_
    refine w_iand X54 hx (hb hby at_31) (pc' := 32) rfl ?_
    refine w_iload X54 hx (hb hby at_32) rfl (pc' := 34) rfl ?_
    refine w_irem X54 hx (hb hby at_34) (by decide) (pc' := 35) rfl ?_
    obtain ⟨g0, hg0, eg0⟩ := own_rem x1 3 3 (by decide) (by decide)
    refine w_eqI eg0 ?_
    refine w_iastore (i := 1) (jn := 0) X54 hx hZ N0 P54 rfl hkA8 (hb hby at_35) (by decide) (Nat.le_of_ble_eq_true rfl) (pc' := 36) rfl ?_
    intro T55 L17 N17 X55 P55
    replace P55 : HP n0 T55.heap [AC kA7 [.int (0 : Int32), .int (0 : Int32), .int (0 : Int32)], AC kA8 [.int (Int32.ofNat g0), .int (0 : Int32), .int (0 : Int32), .int (0 : Int32), .int (0 : Int32)]] := P55
    refine w_aload X55 hx (hb hby at_36) rfl rfl (pc' := 38) rfl ?_
    refine w_iconst (v := (1 : Int32)) X55 hx (hb hby at_38) rfl (pc' := 39) rfl ?_
    refine w_iloadN X55 hx (hb hby at_39) rfl (pc' := 40) rfl ?_
    refine w_ldc X55 hx (hb hby at_40) hown (mvT hZ (wd0 hw)) (pc' := 42) rfl ?_
    refine w_iand X55 hx (hb hby at_42) (pc' := 43) rfl ?_
    refine w_iload X55 hx (hb hby at_43) rfl (pc' := 45) rfl ?_
    refine w_irem X55 hx (hb hby at_45) (by decide) (pc' := 46) rfl ?_
    obtain ⟨g1, hg1, eg1⟩ := own_rem x2 3 3 (by decide) (by decide)
    refine w_eqI eg1 ?_
    refine w_iastore (i := 1) (jn := 1) X55 hx hZ N17 P55 rfl hkA8 (hb hby at_46) (by decide) (Nat.le_of_ble_eq_true rfl) (pc' := 47) rfl ?_
    intro T56 L18 N18 X56 P56
    replace P56 : HP n0 T56.heap [AC kA7 [.int (0 : Int32), .int (0 : Int32), .int (0 : Int32)], AC kA8 [.int (Int32.ofNat g0), .int (Int32.ofNat g1), .int (0 : Int32), .int (0 : Int32), .int (0 : Int32)]] := P56
    refine w_aload X56 hx (hb hby at_47) rfl rfl (pc' := 49) rfl ?_
    refine w_iconst (v := (2 : Int32)) X56 hx (hb hby at_49) rfl (pc' := 50) rfl ?_
    refine w_iloadN X56 hx (hb hby at_50) rfl (pc' := 51) rfl ?_
    refine w_ldc X56 hx (hb hby at_51) hown (mvT hZ (wd0 hw)) (pc' := 53) rfl ?_
    refine w_iand X56 hx (hb hby at_53) (pc' := 54) rfl ?_
    refine w_iload X56 hx (hb hby at_54) rfl (pc' := 56) rfl ?_
    refine w_irem X56 hx (hb hby at_56) (by decide) (pc' := 57) rfl ?_
    obtain ⟨g2, hg2, eg2⟩ := own_rem x3 3 3 (by decide) (by decide)
    refine w_eqI eg2 ?_
    refine w_iastore (i := 1) (jn := 2) X56 hx hZ N18 P56 rfl hkA8 (hb hby at_57) (by decide) (Nat.le_of_ble_eq_true rfl) (pc' := 58) rfl ?_
    intro T57 L19 N19 X57 P57
    replace P57 : HP n0 T57.heap [AC kA7 [.int (0 : Int32), .int (0 : Int32), .int (0 : Int32)], AC kA8 [.int (Int32.ofNat g0), .int (Int32.ofNat g1), .int (Int32.ofNat g2), .int (0 : Int32), .int (0 : Int32)]] := P57
    refine w_aload X57 hx (hb hby at_58) rfl rfl (pc' := 60) rfl ?_
    refine w_iconst (v := (3 : Int32)) X57 hx (hb hby at_60) rfl (pc' := 61) rfl ?_
    refine w_iload X57 hx (hb hby at_61) rfl (pc' := 63) rfl ?_
    refine w_ldc X57 hx (hb hby at_63) hown (mvT hZ (wd0 hw)) (pc' := 65) rfl ?_
    refine w_iand X57 hx (hb hby at_65) (pc' := 66) rfl ?_
    refine w_iload X57 hx (hb hby at_66) rfl (pc' := 68) rfl ?_
    refine w_irem X57 hx (hb hby at_68) (by decide) (pc' := 69) rfl ?_
    obtain ⟨g3, hg3, eg3⟩ := own_rem x4 3 3 (by decide) (by decide)
    refine w_eqI eg3 ?_
    refine w_iastore (i := 1) (jn := 3) X57 hx hZ N19 P57 rfl hkA8 (hb hby at_69) (by decide) (Nat.le_of_ble_eq_true rfl) (pc' := 70) rfl ?_
    intro T58 L20 N20 X58 P58
    replace P58 : HP n0 T58.heap [AC kA7 [.int (0 : Int32), .int (0 : Int32), .int (0 : Int32)], AC kA8 [.int (Int32.ofNat g0), .int (Int32.ofNat g1), .int (Int32.ofNat g2), .int (Int32.ofNat g3), .int (0 : Int32)]] := P58
    refine w_aload X58 hx (hb hby at_70) rfl rfl (pc' := 72) rfl ?_
    refine w_iconst (v := (4 : Int32)) X58 hx (hb hby at_72) rfl (pc' := 73) rfl ?_
    refine w_iload X58 hx (hb hby at_73) rfl (pc' := 75) rfl ?_
    refine w_ldc X58 hx (hb hby at_75) hown (mvT hZ (wd0 hw)) (pc' := 77) rfl ?_
    refine w_iand X58 hx (hb hby at_77) (pc' := 78) rfl ?_
    refine w_iload X58 hx (hb hby at_78) rfl (pc' := 80) rfl ?_
    refine w_irem X58 hx (hb hby at_80) (by decide) (pc' := 81) rfl ?_
    obtain ⟨g4, hg4, eg4⟩ := own_rem x5 3 3 (by decide) (by decide)
    refine w_eqI eg4 ?_
    refine w_iastore (i := 1) (jn := 4) X58 hx hZ N20 P58 rfl hkA8 (hb hby at_81) (by decide) (Nat.le_of_ble_eq_true rfl) (pc' := 82) rfl ?_
    intro T59 L21 N21 X59 P59
    replace P59 : HP n0 T59.heap [AC kA7 [.int (0 : Int32), .int (0 : Int32), .int (0 : Int32)], AC kA8 [.int (Int32.ofNat g0), .int (Int32.ofNat g1), .int (Int32.ofNat g2), .int (Int32.ofNat g3), .int (Int32.ofNat g4)]] := P59
    refine w_iload X59 hx (hb hby at_82) rfl (pc' := 84) rfl ?_
    refine w_if_le X59 hx (hb hby at_84) (by decide) (pcY := 95) (by decide) (pc' := 87) rfl (fun h28 => absurd h28 (by decide)) (fun h28 => ?_)
    refine w_aload X59 hx (hb hby at_87) rfl rfl (pc' := 89) rfl ?_
    refine w_iconst (v := (0 : Int32)) X59 hx (hb hby at_89) rfl (pc' := 90) rfl ?_
    refine w_aload X59 hx (hb hby at_90) rfl rfl (pc' := 92) rfl ?_
    refine w_iconst (v := (0 : Int32)) X59 hx (hb hby at_92) rfl (pc' := 93) rfl ?_
    refine w_iaload (i := 1) (jn := 0) (v := .int (Int32.ofNat g0)) X59 hx hZ P59 rfl hkA8 (hb hby at_93) (by decide) rfl (pc' := 94) rfl ?_
    refine w_iastore (i := 0) (jn := 0) X59 hx hZ N21 P59 rfl hkA7 (hb hby at_94) (by decide) (Nat.le_of_ble_eq_true rfl) (pc' := 95) rfl ?_
    intro T60 L22 N22 X60 P60
    replace P60 : HP n0 T60.heap [AC kA7 [.int (Int32.ofNat g0), .int (0 : Int32), .int (0 : Int32)], AC kA8 [.int (Int32.ofNat g0), .int (Int32.ofNat g1), .int (Int32.ofNat g2), .int (Int32.ofNat g3), .int (Int32.ofNat g4)]] := P60
    refine w_iload X60 hx (hb hby at_95) rfl (pc' := 97) rfl ?_
    refine w_iconst (v := (1 : Int32)) X60 hx (hb hby at_97) rfl (pc' := 98) rfl ?_
    refine w_icmp_le X60 hx (hb hby at_98) (by decide) (pcY := 109) (by decide) (pc' := 101) rfl (fun h29 => absurd h29 (by decide)) (fun h29 => ?_)
    refine w_aload X60 hx (hb hby at_101) rfl rfl (pc' := 103) rfl ?_
    refine w_iconst (v := (1 : Int32)) X60 hx (hb hby at_103) rfl (pc' := 104) rfl ?_
    refine w_aload X60 hx (hb hby at_104) rfl rfl (pc' := 106) rfl ?_
    refine w_iconst (v := (1 : Int32)) X60 hx (hb hby at_106) rfl (pc' := 107) rfl ?_
    refine w_iaload (i := 1) (jn := 1) (v := .int (Int32.ofNat g1)) X60 hx hZ P60 rfl hkA8 (hb hby at_107) (by decide) rfl (pc' := 108) rfl ?_
    refine w_iastore (i := 0) (jn := 1) X60 hx hZ N22 P60 rfl hkA7 (hb hby at_108) (by decide) (Nat.le_of_ble_eq_true rfl) (pc' := 109) rfl ?_
    intro T61 L23 N23 X61 P61
    replace P61 : HP n0 T61.heap [AC kA7 [.int (Int32.ofNat g0), .int (Int32.ofNat g1), .int (0 : Int32)], AC kA8 [.int (Int32.ofNat g0), .int (Int32.ofNat g1), .int (Int32.ofNat g2), .int (Int32.ofNat g3), .int (Int32.ofNat g4)]] := P61
    refine w_iload X61 hx (hb hby at_109) rfl (pc' := 111) rfl ?_
    refine w_iconst (v := (2 : Int32)) X61 hx (hb hby at_111) rfl (pc' := 112) rfl ?_
    refine w_icmp_le X61 hx (hb hby at_112) (by decide) (pcY := 123) (by decide) (pc' := 115) rfl (fun h30 => absurd h30 (by decide)) (fun h30 => ?_)
    refine w_aload X61 hx (hb hby at_115) rfl rfl (pc' := 117) rfl ?_
    refine w_iconst (v := (2 : Int32)) X61 hx (hb hby at_117) rfl (pc' := 118) rfl ?_
    refine w_aload X61 hx (hb hby at_118) rfl rfl (pc' := 120) rfl ?_
    refine w_iconst (v := (2 : Int32)) X61 hx (hb hby at_120) rfl (pc' := 121) rfl ?_
    refine w_iaload (i := 1) (jn := 2) (v := .int (Int32.ofNat g2)) X61 hx hZ P61 rfl hkA8 (hb hby at_121) (by decide) rfl (pc' := 122) rfl ?_
    refine w_iastore (i := 0) (jn := 2) X61 hx hZ N23 P61 rfl hkA7 (hb hby at_122) (by decide) (Nat.le_of_ble_eq_true rfl) (pc' := 123) rfl ?_
    intro T62 L24 N24 X62 P62
    replace P62 : HP n0 T62.heap [AC kA7 [.int (Int32.ofNat g0), .int (Int32.ofNat g1), .int (Int32.ofNat g2)], AC kA8 [.int (Int32.ofNat g0), .int (Int32.ofNat g1), .int (Int32.ofNat g2), .int (Int32.ofNat g3), .int (Int32.ofNat g4)]] := P62
    refine w_iload X62 hx (hb hby at_123) rfl (pc' := 125) rfl ?_
    refine w_iconst (v := (3 : Int32)) X62 hx (hb hby at_125) rfl (pc' := 126) rfl ?_
    refine w_icmp_le X62 hx (hb hby at_126) (by decide) (pcY := 137) (by decide) (pc' := 129) rfl (fun h31 => ?_) (fun h31 => absurd h31 (by decide))
    refine w_iload X62 hx (hb hby at_137) rfl (pc' := 139) rfl ?_
    refine w_iconst (v := (4 : Int32)) X62 hx (hb hby at_139) rfl (pc' := 140) rfl ?_
    refine w_icmp_le X62 hx (hb hby at_140) (by decide) (pcY := 151) (by decide) (pc' := 143) rfl (fun h32 => ?_) (fun h32 => absurd h32 (by decide))
    refine w_aload X62 hx (hb hby at_151) rfl rfl (pc' := 153) rfl ?_
    refine w_iload X62 hx (hb hby at_153) rfl (pc' := 155) rfl ?_
    refine w_iconst (v := (0 : Int32)) X62 hx (hb hby at_155) rfl (pc' := 156) rfl ?_
    refine w_iconst (v := (1 : Int32)) X62 hx (hb hby at_156) rfl (pc' := 157) rfl ?_
    refine w_callP (W := 0) X62 hx hZ rfl hown hml.symm (wd2 hw) (wd3 hw) (wd4 hw) (wd5 hw) (rm_sm3_01 l Z a0 hw [] n0 (Int32.ofNat g0) (Int32.ofNat g1) (Int32.ofNat g2) (Int32.ofNat g0) (Int32.ofNat g1) (Int32.ofNat g2) (Int32.ofNat g3) (Int32.ofNat g4) kA7 hkA7 kA8 hkA8 _ P62) (by decide) (by decide) (by decide) rfl rfl (by decide) (by decide) (argsL := [.ref (n0 + 1), .int (3 : Int32), .int (0 : Int32), .int (1 : Int32)]) (rest := []) pd1 rfl rfl rfl (Nat.le_of_eq rfl) (hb hby at_157) (pc' := 160) rfl ?_
    intro T63 X63 e63
    have P63 : HP n0 T63.heap [AC kA7 [.int (Int32.ofNat g0), .int (Int32.ofNat g1), .int (Int32.ofNat g2)], AC kA8 [.int (Int32.ofNat g0), .int (Int32.ofNat g1), .int (Int32.ofNat g2), .int (Int32.ofNat g3), .int (Int32.ofNat g4)]] := by rw [e63]; exact P62
    refine w_aload X63 hx (hb hby at_160) rfl rfl (pc' := 162) rfl ?_
    refine w_iload X63 hx (hb hby at_162) rfl (pc' := 164) rfl ?_
    refine w_iconst (v := (0 : Int32)) X63 hx (hb hby at_164) rfl (pc' := 165) rfl ?_
    refine w_iconst (v := (2 : Int32)) X63 hx (hb hby at_165) rfl (pc' := 166) rfl ?_
    refine w_callP (W := 2) X63 hx hZ rfl hown hml.symm (wd2 hw) (wd3 hw) (wd4 hw) (wd5 hw) (rm_sm3_02 l Z a0 hw [] n0 (Int32.ofNat g0) (Int32.ofNat g1) (Int32.ofNat g2) (Int32.ofNat g0) (Int32.ofNat g1) (Int32.ofNat g2) (Int32.ofNat g3) (Int32.ofNat g4) kA7 hkA7 kA8 hkA8 _ P63) (by decide) (by decide) (by decide) rfl rfl (by decide) (by decide) (argsL := [.ref (n0 + 1), .int (3 : Int32), .int (0 : Int32), .int (2 : Int32)]) (rest := [.long (sp_sm3_01 (Int32.ofNat g0) (Int32.ofNat g1) (Int32.ofNat g2) (Int32.ofNat g0) (Int32.ofNat g1) (Int32.ofNat g2) (Int32.ofNat g3) (Int32.ofNat g4))]) pd1 rfl rfl rfl (Nat.le_of_eq rfl) (hb hby at_166) (pc' := 169) rfl ?_
    intro T64 X64 e64
    have P64 : HP n0 T64.heap [AC kA7 [.int (Int32.ofNat g0), .int (Int32.ofNat g1), .int (Int32.ofNat g2)], AC kA8 [.int (Int32.ofNat g0), .int (Int32.ofNat g1), .int (Int32.ofNat g2), .int (Int32.ofNat g3), .int (Int32.ofNat g4)]] := by rw [e64]; exact P63
    refine w_ladd X64 hx (hb hby at_169) (pc' := 170) rfl ?_
    refine w_aload X64 hx (hb hby at_170) rfl rfl (pc' := 172) rfl ?_
    refine w_iload X64 hx (hb hby at_172) rfl (pc' := 174) rfl ?_
    refine w_iconst (v := (0 : Int32)) X64 hx (hb hby at_174) rfl (pc' := 175) rfl ?_
    refine w_iconst (v := (3 : Int32)) X64 hx (hb hby at_175) rfl (pc' := 176) rfl ?_
    refine w_callP (W := 2) X64 hx hZ rfl hown hml.symm (wd2 hw) (wd3 hw) (wd4 hw) (wd5 hw) (rm_sm3_03 l Z a0 hw [] n0 (Int32.ofNat g0) (Int32.ofNat g1) (Int32.ofNat g2) (Int32.ofNat g0) (Int32.ofNat g1) (Int32.ofNat g2) (Int32.ofNat g3) (Int32.ofNat g4) kA7 hkA7 kA8 hkA8 _ P64) (by decide) (by decide) (by decide) rfl rfl (by decide) (by decide) (argsL := [.ref (n0 + 1), .int (3 : Int32), .int (0 : Int32), .int (3 : Int32)]) (rest := [.long ((sp_sm3_01 (Int32.ofNat g0) (Int32.ofNat g1) (Int32.ofNat g2) (Int32.ofNat g0) (Int32.ofNat g1) (Int32.ofNat g2) (Int32.ofNat g3) (Int32.ofNat g4)) + (sp_sm3_02 (Int32.ofNat g0) (Int32.ofNat g1) (Int32.ofNat g2) (Int32.ofNat g0) (Int32.ofNat g1) (Int32.ofNat g2) (Int32.ofNat g3) (Int32.ofNat g4)))]) pd1 rfl rfl rfl (Nat.le_of_eq rfl) (hb hby at_176) (pc' := 179) rfl ?_
    intro T65 X65 e65
    have P65 : HP n0 T65.heap [AC kA7 [.int (Int32.ofNat g0), .int (Int32.ofNat g1), .int (Int32.ofNat g2)], AC kA8 [.int (Int32.ofNat g0), .int (Int32.ofNat g1), .int (Int32.ofNat g2), .int (Int32.ofNat g3), .int (Int32.ofNat g4)]] := by rw [e65]; exact P64
    refine w_ladd X65 hx (hb hby at_179) (pc' := 180) rfl ?_
    refine w_aload X65 hx (hb hby at_180) rfl rfl (pc' := 182) rfl ?_
    refine w_iload X65 hx (hb hby at_182) rfl (pc' := 184) rfl ?_
    refine w_iconst (v := (0 : Int32)) X65 hx (hb hby at_184) rfl (pc' := 185) rfl ?_
    refine w_iconst (v := (4 : Int32)) X65 hx (hb hby at_185) rfl (pc' := 186) rfl ?_
    refine w_callP (W := 2) X65 hx hZ rfl hown hml.symm (wd2 hw) (wd3 hw) (wd4 hw) (wd5 hw) (rm_sm3_04 l Z a0 hw [] n0 (Int32.ofNat g0) (Int32.ofNat g1) (Int32.ofNat g2) (Int32.ofNat g0) (Int32.ofNat g1) (Int32.ofNat g2) (Int32.ofNat g3) (Int32.ofNat g4) kA7 hkA7 kA8 hkA8 _ P65) (by decide) (by decide) (by decide) rfl rfl (by decide) (by decide) (argsL := [.ref (n0 + 1), .int (3 : Int32), .int (0 : Int32), .int (4 : Int32)]) (rest := [.long (((sp_sm3_01 (Int32.ofNat g0) (Int32.ofNat g1) (Int32.ofNat g2) (Int32.ofNat g0) (Int32.ofNat g1) (Int32.ofNat g2) (Int32.ofNat g3) (Int32.ofNat g4)) + (sp_sm3_02 (Int32.ofNat g0) (Int32.ofNat g1) (Int32.ofNat g2) (Int32.ofNat g0) (Int32.ofNat g1) (Int32.ofNat g2) (Int32.ofNat g3) (Int32.ofNat g4))) + (sp_sm3_03 (Int32.ofNat g0) (Int32.ofNat g1) (Int32.ofNat g2) (Int32.ofNat g0) (Int32.ofNat g1) (Int32.ofNat g2) (Int32.ofNat g3) (Int32.ofNat g4)))]) pd1 rfl rfl rfl (Nat.le_of_eq rfl) (hb hby at_186) (pc' := 189) rfl ?_
    intro T66 X66 e66
    have P66 : HP n0 T66.heap [AC kA7 [.int (Int32.ofNat g0), .int (Int32.ofNat g1), .int (Int32.ofNat g2)], AC kA8 [.int (Int32.ofNat g0), .int (Int32.ofNat g1), .int (Int32.ofNat g2), .int (Int32.ofNat g3), .int (Int32.ofNat g4)]] := by rw [e66]; exact P65
    refine w_ladd X66 hx (hb hby at_189) (pc' := 190) rfl ?_
    refine w_aload X66 hx (hb hby at_190) rfl rfl (pc' := 192) rfl ?_
    refine w_iload X66 hx (hb hby at_192) rfl (pc' := 194) rfl ?_
    refine w_iconst (v := (1 : Int32)) X66 hx (hb hby at_194) rfl (pc' := 195) rfl ?_
    refine w_iconst (v := (2 : Int32)) X66 hx (hb hby at_195) rfl (pc' := 196) rfl ?_
    refine w_callP (W := 2) X66 hx hZ rfl hown hml.symm (wd2 hw) (wd3 hw) (wd4 hw) (wd5 hw) (rm_sm3_12 l Z a0 hw [] n0 (Int32.ofNat g0) (Int32.ofNat g1) (Int32.ofNat g2) (Int32.ofNat g0) (Int32.ofNat g1) (Int32.ofNat g2) (Int32.ofNat g3) (Int32.ofNat g4) kA7 hkA7 kA8 hkA8 _ P66) (by decide) (by decide) (by decide) rfl rfl (by decide) (by decide) (argsL := [.ref (n0 + 1), .int (3 : Int32), .int (1 : Int32), .int (2 : Int32)]) (rest := [.long ((((sp_sm3_01 (Int32.ofNat g0) (Int32.ofNat g1) (Int32.ofNat g2) (Int32.ofNat g0) (Int32.ofNat g1) (Int32.ofNat g2) (Int32.ofNat g3) (Int32.ofNat g4)) + (sp_sm3_02 (Int32.ofNat g0) (Int32.ofNat g1) (Int32.ofNat g2) (Int32.ofNat g0) (Int32.ofNat g1) (Int32.ofNat g2) (Int32.ofNat g3) (Int32.ofNat g4))) + (sp_sm3_03 (Int32.ofNat g0) (Int32.ofNat g1) (Int32.ofNat g2) (Int32.ofNat g0) (Int32.ofNat g1) (Int32.ofNat g2) (Int32.ofNat g3) (Int32.ofNat g4))) + (sp_sm3_04 (Int32.ofNat g0) (Int32.ofNat g1) (Int32.ofNat g2) (Int32.ofNat g0) (Int32.ofNat g1) (Int32.ofNat g2) (Int32.ofNat g3) (Int32.ofNat g4)))]) pd1 rfl rfl rfl (Nat.le_of_eq rfl) (hb hby at_196) (pc' := 199) rfl ?_
    intro T67 X67 e67
    have P67 : HP n0 T67.heap [AC kA7 [.int (Int32.ofNat g0), .int (Int32.ofNat g1), .int (Int32.ofNat g2)], AC kA8 [.int (Int32.ofNat g0), .int (Int32.ofNat g1), .int (Int32.ofNat g2), .int (Int32.ofNat g3), .int (Int32.ofNat g4)]] := by rw [e67]; exact P66
    refine w_ladd X67 hx (hb hby at_199) (pc' := 200) rfl ?_
    refine w_aload X67 hx (hb hby at_200) rfl rfl (pc' := 202) rfl ?_
    refine w_iload X67 hx (hb hby at_202) rfl (pc' := 204) rfl ?_
    refine w_iconst (v := (1 : Int32)) X67 hx (hb hby at_204) rfl (pc' := 205) rfl ?_
    refine w_iconst (v := (3 : Int32)) X67 hx (hb hby at_205) rfl (pc' := 206) rfl ?_
    refine w_callP (W := 2) X67 hx hZ rfl hown hml.symm (wd2 hw) (wd3 hw) (wd4 hw) (wd5 hw) (rm_sm3_13 l Z a0 hw [] n0 (Int32.ofNat g0) (Int32.ofNat g1) (Int32.ofNat g2) (Int32.ofNat g0) (Int32.ofNat g1) (Int32.ofNat g2) (Int32.ofNat g3) (Int32.ofNat g4) kA7 hkA7 kA8 hkA8 _ P67) (by decide) (by decide) (by decide) rfl rfl (by decide) (by decide) (argsL := [.ref (n0 + 1), .int (3 : Int32), .int (1 : Int32), .int (3 : Int32)]) (rest := [.long (((((sp_sm3_01 (Int32.ofNat g0) (Int32.ofNat g1) (Int32.ofNat g2) (Int32.ofNat g0) (Int32.ofNat g1) (Int32.ofNat g2) (Int32.ofNat g3) (Int32.ofNat g4)) + (sp_sm3_02 (Int32.ofNat g0) (Int32.ofNat g1) (Int32.ofNat g2) (Int32.ofNat g0) (Int32.ofNat g1) (Int32.ofNat g2) (Int32.ofNat g3) (Int32.ofNat g4))) + (sp_sm3_03 (Int32.ofNat g0) (Int32.ofNat g1) (Int32.ofNat g2) (Int32.ofNat g0) (Int32.ofNat g1) (Int32.ofNat g2) (Int32.ofNat g3) (Int32.ofNat g4))) + (sp_sm3_04 (Int32.ofNat g0) (Int32.ofNat g1) (Int32.ofNat g2) (Int32.ofNat g0) (Int32.ofNat g1) (Int32.ofNat g2) (Int32.ofNat g3) (Int32.ofNat g4))) + (sp_sm3_12 (Int32.ofNat g0) (Int32.ofNat g1) (Int32.ofNat g2) (Int32.ofNat g0) (Int32.ofNat g1) (Int32.ofNat g2) (Int32.ofNat g3) (Int32.ofNat g4)))]) pd1 rfl rfl rfl (Nat.le_of_eq rfl) (hb hby at_206) (pc' := 209) rfl ?_
    intro T68 X68 e68
    have P68 : HP n0 T68.heap [AC kA7 [.int (Int32.ofNat g0), .int (Int32.ofNat g1), .int (Int32.ofNat g2)], AC kA8 [.int (Int32.ofNat g0), .int (Int32.ofNat g1), .int (Int32.ofNat g2), .int (Int32.ofNat g3), .int (Int32.ofNat g4)]] := by rw [e68]; exact P67
    refine w_ladd X68 hx (hb hby at_209) (pc' := 210) rfl ?_
    refine w_aload X68 hx (hb hby at_210) rfl rfl (pc' := 212) rfl ?_
    refine w_iload X68 hx (hb hby at_212) rfl (pc' := 214) rfl ?_
    refine w_iconst (v := (1 : Int32)) X68 hx (hb hby at_214) rfl (pc' := 215) rfl ?_
    refine w_iconst (v := (4 : Int32)) X68 hx (hb hby at_215) rfl (pc' := 216) rfl ?_
    refine w_callP (W := 2) X68 hx hZ rfl hown hml.symm (wd2 hw) (wd3 hw) (wd4 hw) (wd5 hw) (rm_sm3_14 l Z a0 hw [] n0 (Int32.ofNat g0) (Int32.ofNat g1) (Int32.ofNat g2) (Int32.ofNat g0) (Int32.ofNat g1) (Int32.ofNat g2) (Int32.ofNat g3) (Int32.ofNat g4) kA7 hkA7 kA8 hkA8 _ P68) (by decide) (by decide) (by decide) rfl rfl (by decide) (by decide) (argsL := [.ref (n0 + 1), .int (3 : Int32), .int (1 : Int32), .int (4 : Int32)]) (rest := [.long ((((((sp_sm3_01 (Int32.ofNat g0) (Int32.ofNat g1) (Int32.ofNat g2) (Int32.ofNat g0) (Int32.ofNat g1) (Int32.ofNat g2) (Int32.ofNat g3) (Int32.ofNat g4)) + (sp_sm3_02 (Int32.ofNat g0) (Int32.ofNat g1) (Int32.ofNat g2) (Int32.ofNat g0) (Int32.ofNat g1) (Int32.ofNat g2) (Int32.ofNat g3) (Int32.ofNat g4))) + (sp_sm3_03 (Int32.ofNat g0) (Int32.ofNat g1) (Int32.ofNat g2) (Int32.ofNat g0) (Int32.ofNat g1) (Int32.ofNat g2) (Int32.ofNat g3) (Int32.ofNat g4))) + (sp_sm3_04 (Int32.ofNat g0) (Int32.ofNat g1) (Int32.ofNat g2) (Int32.ofNat g0) (Int32.ofNat g1) (Int32.ofNat g2) (Int32.ofNat g3) (Int32.ofNat g4))) + (sp_sm3_12 (Int32.ofNat g0) (Int32.ofNat g1) (Int32.ofNat g2) (Int32.ofNat g0) (Int32.ofNat g1) (Int32.ofNat g2) (Int32.ofNat g3) (Int32.ofNat g4))) + (sp_sm3_13 (Int32.ofNat g0) (Int32.ofNat g1) (Int32.ofNat g2) (Int32.ofNat g0) (Int32.ofNat g1) (Int32.ofNat g2) (Int32.ofNat g3) (Int32.ofNat g4)))]) pd1 rfl rfl rfl (Nat.le_of_eq rfl) (hb hby at_216) (pc' := 219) rfl ?_
    intro T69 X69 e69
    have P69 : HP n0 T69.heap [AC kA7 [.int (Int32.ofNat g0), .int (Int32.ofNat g1), .int (Int32.ofNat g2)], AC kA8 [.int (Int32.ofNat g0), .int (Int32.ofNat g1), .int (Int32.ofNat g2), .int (Int32.ofNat g3), .int (Int32.ofNat g4)]] := by rw [e69]; exact P68
    refine w_ladd X69 hx (hb hby at_219) (pc' := 220) rfl ?_
    refine w_aload X69 hx (hb hby at_220) rfl rfl (pc' := 222) rfl ?_
    refine w_iload X69 hx (hb hby at_222) rfl (pc' := 224) rfl ?_
    refine w_iconst (v := (2 : Int32)) X69 hx (hb hby at_224) rfl (pc' := 225) rfl ?_
    refine w_iconst (v := (3 : Int32)) X69 hx (hb hby at_225) rfl (pc' := 226) rfl ?_
    refine w_callP (W := 2) X69 hx hZ rfl hown hml.symm (wd2 hw) (wd3 hw) (wd4 hw) (wd5 hw) (rm_sm3_23 l Z a0 hw [] n0 (Int32.ofNat g0) (Int32.ofNat g1) (Int32.ofNat g2) (Int32.ofNat g0) (Int32.ofNat g1) (Int32.ofNat g2) (Int32.ofNat g3) (Int32.ofNat g4) kA7 hkA7 kA8 hkA8 _ P69) (by decide) (by decide) (by decide) rfl rfl (by decide) (by decide) (argsL := [.ref (n0 + 1), .int (3 : Int32), .int (2 : Int32), .int (3 : Int32)]) (rest := [.long (((((((sp_sm3_01 (Int32.ofNat g0) (Int32.ofNat g1) (Int32.ofNat g2) (Int32.ofNat g0) (Int32.ofNat g1) (Int32.ofNat g2) (Int32.ofNat g3) (Int32.ofNat g4)) + (sp_sm3_02 (Int32.ofNat g0) (Int32.ofNat g1) (Int32.ofNat g2) (Int32.ofNat g0) (Int32.ofNat g1) (Int32.ofNat g2) (Int32.ofNat g3) (Int32.ofNat g4))) + (sp_sm3_03 (Int32.ofNat g0) (Int32.ofNat g1) (Int32.ofNat g2) (Int32.ofNat g0) (Int32.ofNat g1) (Int32.ofNat g2) (Int32.ofNat g3) (Int32.ofNat g4))) + (sp_sm3_04 (Int32.ofNat g0) (Int32.ofNat g1) (Int32.ofNat g2) (Int32.ofNat g0) (Int32.ofNat g1) (Int32.ofNat g2) (Int32.ofNat g3) (Int32.ofNat g4))) + (sp_sm3_12 (Int32.ofNat g0) (Int32.ofNat g1) (Int32.ofNat g2) (Int32.ofNat g0) (Int32.ofNat g1) (Int32.ofNat g2) (Int32.ofNat g3) (Int32.ofNat g4))) + (sp_sm3_13 (Int32.ofNat g0) (Int32.ofNat g1) (Int32.ofNat g2) (Int32.ofNat g0) (Int32.ofNat g1) (Int32.ofNat g2) (Int32.ofNat g3) (Int32.ofNat g4))) + (sp_sm3_14 (Int32.ofNat g0) (Int32.ofNat g1) (Int32.ofNat g2) (Int32.ofNat g0) (Int32.ofNat g1) (Int32.ofNat g2) (Int32.ofNat g3) (Int32.ofNat g4)))]) pd1 rfl rfl rfl (Nat.le_of_eq rfl) (hb hby at_226) (pc' := 229) rfl ?_
    intro T70 X70 e70
    have P70 : HP n0 T70.heap [AC kA7 [.int (Int32.ofNat g0), .int (Int32.ofNat g1), .int (Int32.ofNat g2)], AC kA8 [.int (Int32.ofNat g0), .int (Int32.ofNat g1), .int (Int32.ofNat g2), .int (Int32.ofNat g3), .int (Int32.ofNat g4)]] := by rw [e70]; exact P69
    refine w_ladd X70 hx (hb hby at_229) (pc' := 230) rfl ?_
    refine w_aload X70 hx (hb hby at_230) rfl rfl (pc' := 232) rfl ?_
    refine w_iload X70 hx (hb hby at_232) rfl (pc' := 234) rfl ?_
    refine w_iconst (v := (2 : Int32)) X70 hx (hb hby at_234) rfl (pc' := 235) rfl ?_
    refine w_iconst (v := (4 : Int32)) X70 hx (hb hby at_235) rfl (pc' := 236) rfl ?_
    refine w_callP (W := 2) X70 hx hZ rfl hown hml.symm (wd2 hw) (wd3 hw) (wd4 hw) (wd5 hw) (rm_sm3_24 l Z a0 hw [] n0 (Int32.ofNat g0) (Int32.ofNat g1) (Int32.ofNat g2) (Int32.ofNat g0) (Int32.ofNat g1) (Int32.ofNat g2) (Int32.ofNat g3) (Int32.ofNat g4) kA7 hkA7 kA8 hkA8 _ P70) (by decide) (by decide) (by decide) rfl rfl (by decide) (by decide) (argsL := [.ref (n0 + 1), .int (3 : Int32), .int (2 : Int32), .int (4 : Int32)]) (rest := [.long ((((((((sp_sm3_01 (Int32.ofNat g0) (Int32.ofNat g1) (Int32.ofNat g2) (Int32.ofNat g0) (Int32.ofNat g1) (Int32.ofNat g2) (Int32.ofNat g3) (Int32.ofNat g4)) + (sp_sm3_02 (Int32.ofNat g0) (Int32.ofNat g1) (Int32.ofNat g2) (Int32.ofNat g0) (Int32.ofNat g1) (Int32.ofNat g2) (Int32.ofNat g3) (Int32.ofNat g4))) + (sp_sm3_03 (Int32.ofNat g0) (Int32.ofNat g1) (Int32.ofNat g2) (Int32.ofNat g0) (Int32.ofNat g1) (Int32.ofNat g2) (Int32.ofNat g3) (Int32.ofNat g4))) + (sp_sm3_04 (Int32.ofNat g0) (Int32.ofNat g1) (Int32.ofNat g2) (Int32.ofNat g0) (Int32.ofNat g1) (Int32.ofNat g2) (Int32.ofNat g3) (Int32.ofNat g4))) + (sp_sm3_12 (Int32.ofNat g0) (Int32.ofNat g1) (Int32.ofNat g2) (Int32.ofNat g0) (Int32.ofNat g1) (Int32.ofNat g2) (Int32.ofNat g3) (Int32.ofNat g4))) + (sp_sm3_13 (Int32.ofNat g0) (Int32.ofNat g1) (Int32.ofNat g2) (Int32.ofNat g0) (Int32.ofNat g1) (Int32.ofNat g2) (Int32.ofNat g3) (Int32.ofNat g4))) + (sp_sm3_14 (Int32.ofNat g0) (Int32.ofNat g1) (Int32.ofNat g2) (Int32.ofNat g0) (Int32.ofNat g1) (Int32.ofNat g2) (Int32.ofNat g3) (Int32.ofNat g4))) + (sp_sm3_23 (Int32.ofNat g0) (Int32.ofNat g1) (Int32.ofNat g2) (Int32.ofNat g0) (Int32.ofNat g1) (Int32.ofNat g2) (Int32.ofNat g3) (Int32.ofNat g4)))]) pd1 rfl rfl rfl (Nat.le_of_eq rfl) (hb hby at_236) (pc' := 239) rfl ?_
    intro T71 X71 e71
    have P71 : HP n0 T71.heap [AC kA7 [.int (Int32.ofNat g0), .int (Int32.ofNat g1), .int (Int32.ofNat g2)], AC kA8 [.int (Int32.ofNat g0), .int (Int32.ofNat g1), .int (Int32.ofNat g2), .int (Int32.ofNat g3), .int (Int32.ofNat g4)]] := by rw [e71]; exact P70
    refine w_ladd X71 hx (hb hby at_239) (pc' := 240) rfl ?_
    refine w_aload X71 hx (hb hby at_240) rfl rfl (pc' := 242) rfl ?_
    refine w_iload X71 hx (hb hby at_242) rfl (pc' := 244) rfl ?_
    refine w_iconst (v := (3 : Int32)) X71 hx (hb hby at_244) rfl (pc' := 245) rfl ?_
    refine w_iconst (v := (4 : Int32)) X71 hx (hb hby at_245) rfl (pc' := 246) rfl ?_
    refine w_callP (W := 2) X71 hx hZ rfl hown hml.symm (wd2 hw) (wd3 hw) (wd4 hw) (wd5 hw) (rm_sm3_34 l Z a0 hw [] n0 (Int32.ofNat g0) (Int32.ofNat g1) (Int32.ofNat g2) (Int32.ofNat g0) (Int32.ofNat g1) (Int32.ofNat g2) (Int32.ofNat g3) (Int32.ofNat g4) kA7 hkA7 kA8 hkA8 _ P71) (by decide) (by decide) (by decide) rfl rfl (by decide) (by decide) (argsL := [.ref (n0 + 1), .int (3 : Int32), .int (3 : Int32), .int (4 : Int32)]) (rest := [.long (((((((((sp_sm3_01 (Int32.ofNat g0) (Int32.ofNat g1) (Int32.ofNat g2) (Int32.ofNat g0) (Int32.ofNat g1) (Int32.ofNat g2) (Int32.ofNat g3) (Int32.ofNat g4)) + (sp_sm3_02 (Int32.ofNat g0) (Int32.ofNat g1) (Int32.ofNat g2) (Int32.ofNat g0) (Int32.ofNat g1) (Int32.ofNat g2) (Int32.ofNat g3) (Int32.ofNat g4))) + (sp_sm3_03 (Int32.ofNat g0) (Int32.ofNat g1) (Int32.ofNat g2) (Int32.ofNat g0) (Int32.ofNat g1) (Int32.ofNat g2) (Int32.ofNat g3) (Int32.ofNat g4))) + (sp_sm3_04 (Int32.ofNat g0) (Int32.ofNat g1) (Int32.ofNat g2) (Int32.ofNat g0) (Int32.ofNat g1) (Int32.ofNat g2) (Int32.ofNat g3) (Int32.ofNat g4))) + (sp_sm3_12 (Int32.ofNat g0) (Int32.ofNat g1) (Int32.ofNat g2) (Int32.ofNat g0) (Int32.ofNat g1) (Int32.ofNat g2) (Int32.ofNat g3) (Int32.ofNat g4))) + (sp_sm3_13 (Int32.ofNat g0) (Int32.ofNat g1) (Int32.ofNat g2) (Int32.ofNat g0) (Int32.ofNat g1) (Int32.ofNat g2) (Int32.ofNat g3) (Int32.ofNat g4))) + (sp_sm3_14 (Int32.ofNat g0) (Int32.ofNat g1) (Int32.ofNat g2) (Int32.ofNat g0) (Int32.ofNat g1) (Int32.ofNat g2) (Int32.ofNat g3) (Int32.ofNat g4))) + (sp_sm3_23 (Int32.ofNat g0) (Int32.ofNat g1) (Int32.ofNat g2) (Int32.ofNat g0) (Int32.ofNat g1) (Int32.ofNat g2) (Int32.ofNat g3) (Int32.ofNat g4))) + (sp_sm3_24 (Int32.ofNat g0) (Int32.ofNat g1) (Int32.ofNat g2) (Int32.ofNat g0) (Int32.ofNat g1) (Int32.ofNat g2) (Int32.ofNat g3) (Int32.ofNat g4)))]) pd1 rfl rfl rfl (Nat.le_of_eq rfl) (hb hby at_246) (pc' := 249) rfl ?_
    intro T72 X72 e72
    have P72 : HP n0 T72.heap [AC kA7 [.int (Int32.ofNat g0), .int (Int32.ofNat g1), .int (Int32.ofNat g2)], AC kA8 [.int (Int32.ofNat g0), .int (Int32.ofNat g1), .int (Int32.ofNat g2), .int (Int32.ofNat g3), .int (Int32.ofNat g4)]] := by rw [e72]; exact P71
    refine w_ladd X72 hx (hb hby at_249) (pc' := 250) rfl ?_
    refine w_lstore (l' := #[.val (.int x0), .val (.int x1), .val (.int x2), .val (.int x3), .val (.int x4), .val (.int x5), .val (.int (3 : Int32)), .val (.ref (n0 + 0)), .val (.ref (n0 + 1)), .val (.long ((((((((((sp_sm3_01 (Int32.ofNat g0) (Int32.ofNat g1) (Int32.ofNat g2) (Int32.ofNat g0) (Int32.ofNat g1) (Int32.ofNat g2) (Int32.ofNat g3) (Int32.ofNat g4)) + (sp_sm3_02 (Int32.ofNat g0) (Int32.ofNat g1) (Int32.ofNat g2) (Int32.ofNat g0) (Int32.ofNat g1) (Int32.ofNat g2) (Int32.ofNat g3) (Int32.ofNat g4))) + (sp_sm3_03 (Int32.ofNat g0) (Int32.ofNat g1) (Int32.ofNat g2) (Int32.ofNat g0) (Int32.ofNat g1) (Int32.ofNat g2) (Int32.ofNat g3) (Int32.ofNat g4))) + (sp_sm3_04 (Int32.ofNat g0) (Int32.ofNat g1) (Int32.ofNat g2) (Int32.ofNat g0) (Int32.ofNat g1) (Int32.ofNat g2) (Int32.ofNat g3) (Int32.ofNat g4))) + (sp_sm3_12 (Int32.ofNat g0) (Int32.ofNat g1) (Int32.ofNat g2) (Int32.ofNat g0) (Int32.ofNat g1) (Int32.ofNat g2) (Int32.ofNat g3) (Int32.ofNat g4))) + (sp_sm3_13 (Int32.ofNat g0) (Int32.ofNat g1) (Int32.ofNat g2) (Int32.ofNat g0) (Int32.ofNat g1) (Int32.ofNat g2) (Int32.ofNat g3) (Int32.ofNat g4))) + (sp_sm3_14 (Int32.ofNat g0) (Int32.ofNat g1) (Int32.ofNat g2) (Int32.ofNat g0) (Int32.ofNat g1) (Int32.ofNat g2) (Int32.ofNat g3) (Int32.ofNat g4))) + (sp_sm3_23 (Int32.ofNat g0) (Int32.ofNat g1) (Int32.ofNat g2) (Int32.ofNat g0) (Int32.ofNat g1) (Int32.ofNat g2) (Int32.ofNat g3) (Int32.ofNat g4))) + (sp_sm3_24 (Int32.ofNat g0) (Int32.ofNat g1) (Int32.ofNat g2) (Int32.ofNat g0) (Int32.ofNat g1) (Int32.ofNat g2) (Int32.ofNat g3) (Int32.ofNat g4))) + (sp_sm3_34 (Int32.ofNat g0) (Int32.ofNat g1) (Int32.ofNat g2) (Int32.ofNat g0) (Int32.ofNat g1) (Int32.ofNat g2) (Int32.ofNat g3) (Int32.ofNat g4)))), .second]) X72 hx (hb hby at_250) rfl (pc' := 252) rfl ?_
    refine w_aload X72 hx (hb hby at_252) rfl rfl (pc' := 254) rfl ?_
    refine own_call (W := 0) X72 hx hZ rfl hown hml.symm (wd6 hw) (wd7 hw) (wd8 hw) (wd9 hw) (rm_pa3 l Z a0 hw [] n0 kA7 kA8 g0 g1 g2 (Int32.ofNat g0) (Int32.ofNat g1) (Int32.ofNat g2) (Int32.ofNat g3) (Int32.ofNat g4) _ P72 hkA7 hkA8 hg0 hg1 hg2) (by decide) (by decide) (by decide) (by decide) (by decide) (argsL := [.ref (n0 + 0)]) (rest := []) pd2 rfl rfl rfl (Nat.le_of_eq rfl) (hb hby at_254) (pc' := 257) rfl ?_
    intro v73 T73 L25 X73 hq
    obtain ⟨rfl, N25⟩ := hq
    replace N25 := Fr.app N24 N25
    refine w_lload X73 hx (hb hby at_257) rfl (pc' := 259) rfl ?_
    refine w_lcmp_ne X73 hx (hb hby at_259) rfl (hb hby at_260) (by decide) (pcY := 267) (by decide) (pc' := 263) rfl (fun h33 => absurd (own_fin3 g0 hg0 g1 hg1 g2 hg2 g3 hg3 g4 hg4) h33) (fun h33 => ?_)
    refine w_iconst (v := (1 : Int32)) X73 hx (hb hby at_263) rfl (pc' := 264) rfl ?_
    refine w_goto X73 hx (hb hby at_264) (by decide) (pc' := 268) (by decide) ?_
    exact w_ret_n (t := .boolean) X73 hx hret hlk (by simp) (hb hby at_268) (z' := (1 : Int32)) rfl (by decide) (by decide) ⟨rfl, N25⟩
  · refine w_eqI (z := (4 : Int32)) g4 ?_
    refine w_istore (l' := #[.val (.int x0), .val (.int x1), .val (.int x2), .val (.int x3), .val (.int x4), .val (.int x5), .val (.int (4 : Int32)), .unset, .unset, .unset, .unset]) X0 hx (hb hby at_7) rfl (pc' := 9) rfl ?_
    refine w_iload X0 hx (hb hby at_9) rfl (pc' := 11) rfl ?_
    refine w_newarr (N := 4) (j := 0) X0 hx hZ P0 (ty := .int) rfl (wd1 hw) (hb hby at_11) (by decide) (by decide) (by decide) (by decide) rfl (pc' := 13) rfl ?_
    intro T74 kA9 X74 hkA9 P74
    replace P74 : HP n0 T74.heap [AC kA9 [.int (0 : Int32), .int (0 : Int32), .int (0 : Int32), .int (0 : Int32)]] := P74
    refine w_astore (l' := #[.val (.int x0), .val (.int x1), .val (.int x2), .val (.int x3), .val (.int x4), .val (.int x5), .val (.int (4 : Int32)), .val (.ref (n0 + 0)), .unset, .unset, .unset]) X74 hx (hb hby at_13) rfl rfl (pc' := 15) rfl ?_
    refine w_iconst (v := (5 : Int32)) X74 hx (hb hby at_15) rfl (pc' := 16) rfl ?_
    refine w_newarr (N := 5) (j := 1) X74 hx hZ P74 (ty := .int) rfl (wd1 hw) (hb hby at_16) (by decide) (by decide) (by decide) (by decide) rfl (pc' := 18) rfl ?_
    intro T75 kA10 X75 hkA10 P75
    replace P75 : HP n0 T75.heap [AC kA9 [.int (0 : Int32), .int (0 : Int32), .int (0 : Int32), .int (0 : Int32)], AC kA10 [.int (0 : Int32), .int (0 : Int32), .int (0 : Int32), .int (0 : Int32), .int (0 : Int32)]] := P75
    refine w_astore (l' := #[.val (.int x0), .val (.int x1), .val (.int x2), .val (.int x3), .val (.int x4), .val (.int x5), .val (.int (4 : Int32)), .val (.ref (n0 + 0)), .val (.ref (n0 + 1)), .unset, .unset]) X75 hx (hb hby at_18) rfl rfl (pc' := 20) rfl ?_
    refine w_iload X75 hx (hb hby at_20) rfl (pc' := 22) rfl ?_
    refine w_if_le X75 hx (hb hby at_22) (by decide) (pcY := 82) (by decide) (pc' := 25) rfl (fun h34 => absurd h34 (by decide)) (fun h34 => ?_)
    refine w_aload X75 hx (hb hby at_25) rfl rfl (pc' := 27) rfl ?_
    refine w_iconst (v := (0 : Int32)) X75 hx (hb hby at_27) rfl (pc' := 28) rfl ?_
    refine w_iloadN X75 hx (hb hby at_28) rfl (pc' := 29) rfl ?_
    refine w_ldc X75 hx (hb hby at_29) hown (mvT hZ (wd0 hw)) (pc' := 31) rfl ?_
    refine w_iand X75 hx (hb hby at_31) (pc' := 32) rfl ?_
    refine w_iload X75 hx (hb hby at_32) rfl (pc' := 34) rfl ?_
    refine w_irem X75 hx (hb hby at_34) (by decide) (pc' := 35) rfl ?_
    obtain ⟨g0, hg0, eg0⟩ := own_rem x1 4 4 (by decide) (by decide)
    refine w_eqI eg0 ?_
    refine w_iastore (i := 1) (jn := 0) X75 hx hZ N0 P75 rfl hkA10 (hb hby at_35) (by decide) (Nat.le_of_ble_eq_true rfl) (pc' := 36) rfl ?_
    intro T76 L26 N26 X76 P76
    replace P76 : HP n0 T76.heap [AC kA9 [.int (0 : Int32), .int (0 : Int32), .int (0 : Int32), .int (0 : Int32)], AC kA10 [.int (Int32.ofNat g0), .int (0 : Int32), .int (0 : Int32), .int (0 : Int32), .int (0 : Int32)]] := P76
    refine w_aload X76 hx (hb hby at_36) rfl rfl (pc' := 38) rfl ?_
    refine w_iconst (v := (1 : Int32)) X76 hx (hb hby at_38) rfl (pc' := 39) rfl ?_
    refine w_iloadN X76 hx (hb hby at_39) rfl (pc' := 40) rfl ?_
    refine w_ldc X76 hx (hb hby at_40) hown (mvT hZ (wd0 hw)) (pc' := 42) rfl ?_
    refine w_iand X76 hx (hb hby at_42) (pc' := 43) rfl ?_
    refine w_iload X76 hx (hb hby at_43) rfl (pc' := 45) rfl ?_
    refine w_irem X76 hx (hb hby at_45) (by decide) (pc' := 46) rfl ?_
    obtain ⟨g1, hg1, eg1⟩ := own_rem x2 4 4 (by decide) (by decide)
    refine w_eqI eg1 ?_
    refine w_iastore (i := 1) (jn := 1) X76 hx hZ N26 P76 rfl hkA10 (hb hby at_46) (by decide) (Nat.le_of_ble_eq_true rfl) (pc' := 47) rfl ?_
    intro T77 L27 N27 X77 P77
    replace P77 : HP n0 T77.heap [AC kA9 [.int (0 : Int32), .int (0 : Int32), .int (0 : Int32), .int (0 : Int32)], AC kA10 [.int (Int32.ofNat g0), .int (Int32.ofNat g1), .int (0 : Int32), .int (0 : Int32), .int (0 : Int32)]] := P77
    refine w_aload X77 hx (hb hby at_47) rfl rfl (pc' := 49) rfl ?_
    refine w_iconst (v := (2 : Int32)) X77 hx (hb hby at_49) rfl (pc' := 50) rfl ?_
    refine w_iloadN X77 hx (hb hby at_50) rfl (pc' := 51) rfl ?_
    refine w_ldc X77 hx (hb hby at_51) hown (mvT hZ (wd0 hw)) (pc' := 53) rfl ?_
    refine w_iand X77 hx (hb hby at_53) (pc' := 54) rfl ?_
    refine w_iload X77 hx (hb hby at_54) rfl (pc' := 56) rfl ?_
    refine w_irem X77 hx (hb hby at_56) (by decide) (pc' := 57) rfl ?_
    obtain ⟨g2, hg2, eg2⟩ := own_rem x3 4 4 (by decide) (by decide)
    refine w_eqI eg2 ?_
    refine w_iastore (i := 1) (jn := 2) X77 hx hZ N27 P77 rfl hkA10 (hb hby at_57) (by decide) (Nat.le_of_ble_eq_true rfl) (pc' := 58) rfl ?_
    intro T78 L28 N28 X78 P78
    replace P78 : HP n0 T78.heap [AC kA9 [.int (0 : Int32), .int (0 : Int32), .int (0 : Int32), .int (0 : Int32)], AC kA10 [.int (Int32.ofNat g0), .int (Int32.ofNat g1), .int (Int32.ofNat g2), .int (0 : Int32), .int (0 : Int32)]] := P78
    refine w_aload X78 hx (hb hby at_58) rfl rfl (pc' := 60) rfl ?_
    refine w_iconst (v := (3 : Int32)) X78 hx (hb hby at_60) rfl (pc' := 61) rfl ?_
    refine w_iload X78 hx (hb hby at_61) rfl (pc' := 63) rfl ?_
    refine w_ldc X78 hx (hb hby at_63) hown (mvT hZ (wd0 hw)) (pc' := 65) rfl ?_
    refine w_iand X78 hx (hb hby at_65) (pc' := 66) rfl ?_
    refine w_iload X78 hx (hb hby at_66) rfl (pc' := 68) rfl ?_
    refine w_irem X78 hx (hb hby at_68) (by decide) (pc' := 69) rfl ?_
    obtain ⟨g3, hg3, eg3⟩ := own_rem x4 4 4 (by decide) (by decide)
    refine w_eqI eg3 ?_
    refine w_iastore (i := 1) (jn := 3) X78 hx hZ N28 P78 rfl hkA10 (hb hby at_69) (by decide) (Nat.le_of_ble_eq_true rfl) (pc' := 70) rfl ?_
    intro T79 L29 N29 X79 P79
    replace P79 : HP n0 T79.heap [AC kA9 [.int (0 : Int32), .int (0 : Int32), .int (0 : Int32), .int (0 : Int32)], AC kA10 [.int (Int32.ofNat g0), .int (Int32.ofNat g1), .int (Int32.ofNat g2), .int (Int32.ofNat g3), .int (0 : Int32)]] := P79
    refine w_aload X79 hx (hb hby at_70) rfl rfl (pc' := 72) rfl ?_
    refine w_iconst (v := (4 : Int32)) X79 hx (hb hby at_72) rfl (pc' := 73) rfl ?_
    refine w_iload X79 hx (hb hby at_73) rfl (pc' := 75) rfl ?_
    refine w_ldc X79 hx (hb hby at_75) hown (mvT hZ (wd0 hw)) (pc' := 77) rfl ?_
    refine w_iand X79 hx (hb hby at_77) (pc' := 78) rfl ?_
    refine w_iload X79 hx (hb hby at_78) rfl (pc' := 80) rfl ?_
    refine w_irem X79 hx (hb hby at_80) (by decide) (pc' := 81) rfl ?_
    obtain ⟨g4, hg4, eg4⟩ := own_rem x5 4 4 (by decide) (by decide)
    refine w_eqI eg4 ?_
    refine w_iastore (i := 1) (jn := 4) X79 hx hZ N29 P79 rfl hkA10 (hb hby at_81) (by decide) (Nat.le_of_ble_eq_true rfl) (pc' := 82) rfl ?_
    intro T80 L30 N30 X80 P80
    replace P80 : HP n0 T80.heap [AC kA9 [.int (0 : Int32), .int (0 : Int32), .int (0 : Int32), .int (0 : Int32)], AC kA10 [.int (Int32.ofNat g0), .int (Int32.ofNat g1), .int (Int32.ofNat g2), .int (Int32.ofNat g3), .int (Int32.ofNat g4)]] := P80
    refine w_iload X80 hx (hb hby at_82) rfl (pc' := 84) rfl ?_
    refine w_if_le X80 hx (hb hby at_84) (by decide) (pcY := 95) (by decide) (pc' := 87) rfl (fun h35 => absurd h35 (by decide)) (fun h35 => ?_)
    refine w_aload X80 hx (hb hby at_87) rfl rfl (pc' := 89) rfl ?_
    refine w_iconst (v := (0 : Int32)) X80 hx (hb hby at_89) rfl (pc' := 90) rfl ?_
    refine w_aload X80 hx (hb hby at_90) rfl rfl (pc' := 92) rfl ?_
    refine w_iconst (v := (0 : Int32)) X80 hx (hb hby at_92) rfl (pc' := 93) rfl ?_
    refine w_iaload (i := 1) (jn := 0) (v := .int (Int32.ofNat g0)) X80 hx hZ P80 rfl hkA10 (hb hby at_93) (by decide) rfl (pc' := 94) rfl ?_
    refine w_iastore (i := 0) (jn := 0) X80 hx hZ N30 P80 rfl hkA9 (hb hby at_94) (by decide) (Nat.le_of_ble_eq_true rfl) (pc' := 95) rfl ?_
    intro T81 L31 N31 X81 P81
    replace P81 : HP n0 T81.heap [AC kA9 [.int (Int32.ofNat g0), .int (0 : Int32), .int (0 : Int32), .int (0 : Int32)], AC kA10 [.int (Int32.ofNat g0), .int (Int32.ofNat g1), .int (Int32.ofNat g2), .int (Int32.ofNat g3), .int (Int32.ofNat g4)]] := P81
    refine w_iload X81 hx (hb hby at_95) rfl (pc' := 97) rfl ?_
    refine w_iconst (v := (1 : Int32)) X81 hx (hb hby at_97) rfl (pc' := 98) rfl ?_
    refine w_icmp_le X81 hx (hb hby at_98) (by decide) (pcY := 109) (by decide) (pc' := 101) rfl (fun h36 => absurd h36 (by decide)) (fun h36 => ?_)
    refine w_aload X81 hx (hb hby at_101) rfl rfl (pc' := 103) rfl ?_
    refine w_iconst (v := (1 : Int32)) X81 hx (hb hby at_103) rfl (pc' := 104) rfl ?_
    refine w_aload X81 hx (hb hby at_104) rfl rfl (pc' := 106) rfl ?_
    refine w_iconst (v := (1 : Int32)) X81 hx (hb hby at_106) rfl (pc' := 107) rfl ?_
    refine w_iaload (i := 1) (jn := 1) (v := .int (Int32.ofNat g1)) X81 hx hZ P81 rfl hkA10 (hb hby at_107) (by decide) rfl (pc' := 108) rfl ?_
    refine w_iastore (i := 0) (jn := 1) X81 hx hZ N31 P81 rfl hkA9 (hb hby at_108) (by decide) (Nat.le_of_ble_eq_true rfl) (pc' := 109) rfl ?_
    intro T82 L32 N32 X82 P82
    replace P82 : HP n0 T82.heap [AC kA9 [.int (Int32.ofNat g0), .int (Int32.ofNat g1), .int (0 : Int32), .int (0 : Int32)], AC kA10 [.int (Int32.ofNat g0), .int (Int32.ofNat g1), .int (Int32.ofNat g2), .int (Int32.ofNat g3), .int (Int32.ofNat g4)]] := P82
    refine w_iload X82 hx (hb hby at_109) rfl (pc' := 111) rfl ?_
    refine w_iconst (v := (2 : Int32)) X82 hx (hb hby at_111) rfl (pc' := 112) rfl ?_
    refine w_icmp_le X82 hx (hb hby at_112) (by decide) (pcY := 123) (by decide) (pc' := 115) rfl (fun h37 => absurd h37 (by decide)) (fun h37 => ?_)
    refine w_aload X82 hx (hb hby at_115) rfl rfl (pc' := 117) rfl ?_
    refine w_iconst (v := (2 : Int32)) X82 hx (hb hby at_117) rfl (pc' := 118) rfl ?_
    refine w_aload X82 hx (hb hby at_118) rfl rfl (pc' := 120) rfl ?_
    refine w_iconst (v := (2 : Int32)) X82 hx (hb hby at_120) rfl (pc' := 121) rfl ?_
    refine w_iaload (i := 1) (jn := 2) (v := .int (Int32.ofNat g2)) X82 hx hZ P82 rfl hkA10 (hb hby at_121) (by decide) rfl (pc' := 122) rfl ?_
    refine w_iastore (i := 0) (jn := 2) X82 hx hZ N32 P82 rfl hkA9 (hb hby at_122) (by decide) (Nat.le_of_ble_eq_true rfl) (pc' := 123) rfl ?_
    intro T83 L33 N33 X83 P83
    replace P83 : HP n0 T83.heap [AC kA9 [.int (Int32.ofNat g0), .int (Int32.ofNat g1), .int (Int32.ofNat g2), .int (0 : Int32)], AC kA10 [.int (Int32.ofNat g0), .int (Int32.ofNat g1), .int (Int32.ofNat g2), .int (Int32.ofNat g3), .int (Int32.ofNat g4)]] := P83
    refine w_iload X83 hx (hb hby at_123) rfl (pc' := 125) rfl ?_
    refine w_iconst (v := (3 : Int32)) X83 hx (hb hby at_125) rfl (pc' := 126) rfl ?_
    refine w_icmp_le X83 hx (hb hby at_126) (by decide) (pcY := 137) (by decide) (pc' := 129) rfl (fun h38 => absurd h38 (by decide)) (fun h38 => ?_)
    refine w_aload X83 hx (hb hby at_129) rfl rfl (pc' := 131) rfl ?_
    refine w_iconst (v := (3 : Int32)) X83 hx (hb hby at_131) rfl (pc' := 132) rfl ?_
    refine w_aload X83 hx (hb hby at_132) rfl rfl (pc' := 134) rfl ?_
    refine w_iconst (v := (3 : Int32)) X83 hx (hb hby at_134) rfl (pc' := 135) rfl ?_
    refine w_iaload (i := 1) (jn := 3) (v := .int (Int32.ofNat g3)) X83 hx hZ P83 rfl hkA10 (hb hby at_135) (by decide) rfl (pc' := 136) rfl ?_
    refine w_iastore (i := 0) (jn := 3) X83 hx hZ N33 P83 rfl hkA9 (hb hby at_136) (by decide) (Nat.le_of_ble_eq_true rfl) (pc' := 137) rfl ?_
    intro T84 L34 N34 X84 P84
    replace P84 : HP n0 T84.heap [AC kA9 [.int (Int32.ofNat g0), .int (Int32.ofNat g1), .int (Int32.ofNat g2), .int (Int32.ofNat g3)], AC kA10 [.int (Int32.ofNat g0), .int (Int32.ofNat g1), .int (Int32.ofNat g2), .int (Int32.ofNat g3), .int (Int32.ofNat g4)]] := P84
    refine w_iload X84 hx (hb hby at_137) rfl (pc' := 139) rfl ?_
    refine w_iconst (v := (4 : Int32)) X84 hx (hb hby at_139) rfl (pc' := 140) rfl ?_
    refine w_icmp_le X84 hx (hb hby at_140) (by decide) (pcY := 151) (by decide) (pc' := 143) rfl (fun h39 => ?_) (fun h39 => absurd h39 (by decide))
    refine w_aload X84 hx (hb hby at_151) rfl rfl (pc' := 153) rfl ?_
    refine w_iload X84 hx (hb hby at_153) rfl (pc' := 155) rfl ?_
    refine w_iconst (v := (0 : Int32)) X84 hx (hb hby at_155) rfl (pc' := 156) rfl ?_
    refine w_iconst (v := (1 : Int32)) X84 hx (hb hby at_156) rfl (pc' := 157) rfl ?_
    refine w_callP (W := 0) X84 hx hZ rfl hown hml.symm (wd2 hw) (wd3 hw) (wd4 hw) (wd5 hw) (rm_sm4_01 l Z a0 hw [] n0 (Int32.ofNat g0) (Int32.ofNat g1) (Int32.ofNat g2) (Int32.ofNat g3) (Int32.ofNat g0) (Int32.ofNat g1) (Int32.ofNat g2) (Int32.ofNat g3) (Int32.ofNat g4) kA9 hkA9 kA10 hkA10 _ P84) (by decide) (by decide) (by decide) rfl rfl (by decide) (by decide) (argsL := [.ref (n0 + 1), .int (4 : Int32), .int (0 : Int32), .int (1 : Int32)]) (rest := []) pd1 rfl rfl rfl (Nat.le_of_eq rfl) (hb hby at_157) (pc' := 160) rfl ?_
    intro T85 X85 e85
    have P85 : HP n0 T85.heap [AC kA9 [.int (Int32.ofNat g0), .int (Int32.ofNat g1), .int (Int32.ofNat g2), .int (Int32.ofNat g3)], AC kA10 [.int (Int32.ofNat g0), .int (Int32.ofNat g1), .int (Int32.ofNat g2), .int (Int32.ofNat g3), .int (Int32.ofNat g4)]] := by rw [e85]; exact P84
    refine w_aload X85 hx (hb hby at_160) rfl rfl (pc' := 162) rfl ?_
    refine w_iload X85 hx (hb hby at_162) rfl (pc' := 164) rfl ?_
    refine w_iconst (v := (0 : Int32)) X85 hx (hb hby at_164) rfl (pc' := 165) rfl ?_
    refine w_iconst (v := (2 : Int32)) X85 hx (hb hby at_165) rfl (pc' := 166) rfl ?_
    refine w_callP (W := 2) X85 hx hZ rfl hown hml.symm (wd2 hw) (wd3 hw) (wd4 hw) (wd5 hw) (rm_sm4_02 l Z a0 hw [] n0 (Int32.ofNat g0) (Int32.ofNat g1) (Int32.ofNat g2) (Int32.ofNat g3) (Int32.ofNat g0) (Int32.ofNat g1) (Int32.ofNat g2) (Int32.ofNat g3) (Int32.ofNat g4) kA9 hkA9 kA10 hkA10 _ P85) (by decide) (by decide) (by decide) rfl rfl (by decide) (by decide) (argsL := [.ref (n0 + 1), .int (4 : Int32), .int (0 : Int32), .int (2 : Int32)]) (rest := [.long (sp_sm4_01 (Int32.ofNat g0) (Int32.ofNat g1) (Int32.ofNat g2) (Int32.ofNat g3) (Int32.ofNat g0) (Int32.ofNat g1) (Int32.ofNat g2) (Int32.ofNat g3) (Int32.ofNat g4))]) pd1 rfl rfl rfl (Nat.le_of_eq rfl) (hb hby at_166) (pc' := 169) rfl ?_
    intro T86 X86 e86
    have P86 : HP n0 T86.heap [AC kA9 [.int (Int32.ofNat g0), .int (Int32.ofNat g1), .int (Int32.ofNat g2), .int (Int32.ofNat g3)], AC kA10 [.int (Int32.ofNat g0), .int (Int32.ofNat g1), .int (Int32.ofNat g2), .int (Int32.ofNat g3), .int (Int32.ofNat g4)]] := by rw [e86]; exact P85
    refine w_ladd X86 hx (hb hby at_169) (pc' := 170) rfl ?_
    refine w_aload X86 hx (hb hby at_170) rfl rfl (pc' := 172) rfl ?_
    refine w_iload X86 hx (hb hby at_172) rfl (pc' := 174) rfl ?_
    refine w_iconst (v := (0 : Int32)) X86 hx (hb hby at_174) rfl (pc' := 175) rfl ?_
    refine w_iconst (v := (3 : Int32)) X86 hx (hb hby at_175) rfl (pc' := 176) rfl ?_
    refine w_callP (W := 2) X86 hx hZ rfl hown hml.symm (wd2 hw) (wd3 hw) (wd4 hw) (wd5 hw) (rm_sm4_03 l Z a0 hw [] n0 (Int32.ofNat g0) (Int32.ofNat g1) (Int32.ofNat g2) (Int32.ofNat g3) (Int32.ofNat g0) (Int32.ofNat g1) (Int32.ofNat g2) (Int32.ofNat g3) (Int32.ofNat g4) kA9 hkA9 kA10 hkA10 _ P86) (by decide) (by decide) (by decide) rfl rfl (by decide) (by decide) (argsL := [.ref (n0 + 1), .int (4 : Int32), .int (0 : Int32), .int (3 : Int32)]) (rest := [.long ((sp_sm4_01 (Int32.ofNat g0) (Int32.ofNat g1) (Int32.ofNat g2) (Int32.ofNat g3) (Int32.ofNat g0) (Int32.ofNat g1) (Int32.ofNat g2) (Int32.ofNat g3) (Int32.ofNat g4)) + (sp_sm4_02 (Int32.ofNat g0) (Int32.ofNat g1) (Int32.ofNat g2) (Int32.ofNat g3) (Int32.ofNat g0) (Int32.ofNat g1) (Int32.ofNat g2) (Int32.ofNat g3) (Int32.ofNat g4)))]) pd1 rfl rfl rfl (Nat.le_of_eq rfl) (hb hby at_176) (pc' := 179) rfl ?_
    intro T87 X87 e87
    have P87 : HP n0 T87.heap [AC kA9 [.int (Int32.ofNat g0), .int (Int32.ofNat g1), .int (Int32.ofNat g2), .int (Int32.ofNat g3)], AC kA10 [.int (Int32.ofNat g0), .int (Int32.ofNat g1), .int (Int32.ofNat g2), .int (Int32.ofNat g3), .int (Int32.ofNat g4)]] := by rw [e87]; exact P86
    refine w_ladd X87 hx (hb hby at_179) (pc' := 180) rfl ?_
    refine w_aload X87 hx (hb hby at_180) rfl rfl (pc' := 182) rfl ?_
    refine w_iload X87 hx (hb hby at_182) rfl (pc' := 184) rfl ?_
    refine w_iconst (v := (0 : Int32)) X87 hx (hb hby at_184) rfl (pc' := 185) rfl ?_
    refine w_iconst (v := (4 : Int32)) X87 hx (hb hby at_185) rfl (pc' := 186) rfl ?_
    refine w_callP (W := 2) X87 hx hZ rfl hown hml.symm (wd2 hw) (wd3 hw) (wd4 hw) (wd5 hw) (rm_sm4_04 l Z a0 hw [] n0 (Int32.ofNat g0) (Int32.ofNat g1) (Int32.ofNat g2) (Int32.ofNat g3) (Int32.ofNat g0) (Int32.ofNat g1) (Int32.ofNat g2) (Int32.ofNat g3) (Int32.ofNat g4) kA9 hkA9 kA10 hkA10 _ P87) (by decide) (by decide) (by decide) rfl rfl (by decide) (by decide) (argsL := [.ref (n0 + 1), .int (4 : Int32), .int (0 : Int32), .int (4 : Int32)]) (rest := [.long (((sp_sm4_01 (Int32.ofNat g0) (Int32.ofNat g1) (Int32.ofNat g2) (Int32.ofNat g3) (Int32.ofNat g0) (Int32.ofNat g1) (Int32.ofNat g2) (Int32.ofNat g3) (Int32.ofNat g4)) + (sp_sm4_02 (Int32.ofNat g0) (Int32.ofNat g1) (Int32.ofNat g2) (Int32.ofNat g3) (Int32.ofNat g0) (Int32.ofNat g1) (Int32.ofNat g2) (Int32.ofNat g3) (Int32.ofNat g4))) + (sp_sm4_03 (Int32.ofNat g0) (Int32.ofNat g1) (Int32.ofNat g2) (Int32.ofNat g3) (Int32.ofNat g0) (Int32.ofNat g1) (Int32.ofNat g2) (Int32.ofNat g3) (Int32.ofNat g4)))]) pd1 rfl rfl rfl (Nat.le_of_eq rfl) (hb hby at_186) (pc' := 189) rfl ?_
    intro T88 X88 e88
    have P88 : HP n0 T88.heap [AC kA9 [.int (Int32.ofNat g0), .int (Int32.ofNat g1), .int (Int32.ofNat g2), .int (Int32.ofNat g3)], AC kA10 [.int (Int32.ofNat g0), .int (Int32.ofNat g1), .int (Int32.ofNat g2), .int (Int32.ofNat g3), .int (Int32.ofNat g4)]] := by rw [e88]; exact P87
    refine w_ladd X88 hx (hb hby at_189) (pc' := 190) rfl ?_
    refine w_aload X88 hx (hb hby at_190) rfl rfl (pc' := 192) rfl ?_
    refine w_iload X88 hx (hb hby at_192) rfl (pc' := 194) rfl ?_
    refine w_iconst (v := (1 : Int32)) X88 hx (hb hby at_194) rfl (pc' := 195) rfl ?_
    refine w_iconst (v := (2 : Int32)) X88 hx (hb hby at_195) rfl (pc' := 196) rfl ?_
    refine w_callP (W := 2) X88 hx hZ rfl hown hml.symm (wd2 hw) (wd3 hw) (wd4 hw) (wd5 hw) (rm_sm4_12 l Z a0 hw [] n0 (Int32.ofNat g0) (Int32.ofNat g1) (Int32.ofNat g2) (Int32.ofNat g3) (Int32.ofNat g0) (Int32.ofNat g1) (Int32.ofNat g2) (Int32.ofNat g3) (Int32.ofNat g4) kA9 hkA9 kA10 hkA10 _ P88) (by decide) (by decide) (by decide) rfl rfl (by decide) (by decide) (argsL := [.ref (n0 + 1), .int (4 : Int32), .int (1 : Int32), .int (2 : Int32)]) (rest := [.long ((((sp_sm4_01 (Int32.ofNat g0) (Int32.ofNat g1) (Int32.ofNat g2) (Int32.ofNat g3) (Int32.ofNat g0) (Int32.ofNat g1) (Int32.ofNat g2) (Int32.ofNat g3) (Int32.ofNat g4)) + (sp_sm4_02 (Int32.ofNat g0) (Int32.ofNat g1) (Int32.ofNat g2) (Int32.ofNat g3) (Int32.ofNat g0) (Int32.ofNat g1) (Int32.ofNat g2) (Int32.ofNat g3) (Int32.ofNat g4))) + (sp_sm4_03 (Int32.ofNat g0) (Int32.ofNat g1) (Int32.ofNat g2) (Int32.ofNat g3) (Int32.ofNat g0) (Int32.ofNat g1) (Int32.ofNat g2) (Int32.ofNat g3) (Int32.ofNat g4))) + (sp_sm4_04 (Int32.ofNat g0) (Int32.ofNat g1) (Int32.ofNat g2) (Int32.ofNat g3) (Int32.ofNat g0) (Int32.ofNat g1) (Int32.ofNat g2) (Int32.ofNat g3) (Int32.ofNat g4)))]) pd1 rfl rfl rfl (Nat.le_of_eq rfl) (hb hby at_196) (pc' := 199) rfl ?_
    intro T89 X89 e89
    have P89 : HP n0 T89.heap [AC kA9 [.int (Int32.ofNat g0), .int (Int32.ofNat g1), .int (Int32.ofNat g2), .int (Int32.ofNat g3)], AC kA10 [.int (Int32.ofNat g0), .int (Int32.ofNat g1), .int (Int32.ofNat g2), .int (Int32.ofNat g3), .int (Int32.ofNat g4)]] := by rw [e89]; exact P88
    refine w_ladd X89 hx (hb hby at_199) (pc' := 200) rfl ?_
    refine w_aload X89 hx (hb hby at_200) rfl rfl (pc' := 202) rfl ?_
    refine w_iload X89 hx (hb hby at_202) rfl (pc' := 204) rfl ?_
    refine w_iconst (v := (1 : Int32)) X89 hx (hb hby at_204) rfl (pc' := 205) rfl ?_
    refine w_iconst (v := (3 : Int32)) X89 hx (hb hby at_205) rfl (pc' := 206) rfl ?_
    refine w_callP (W := 2) X89 hx hZ rfl hown hml.symm (wd2 hw) (wd3 hw) (wd4 hw) (wd5 hw) (rm_sm4_13 l Z a0 hw [] n0 (Int32.ofNat g0) (Int32.ofNat g1) (Int32.ofNat g2) (Int32.ofNat g3) (Int32.ofNat g0) (Int32.ofNat g1) (Int32.ofNat g2) (Int32.ofNat g3) (Int32.ofNat g4) kA9 hkA9 kA10 hkA10 _ P89) (by decide) (by decide) (by decide) rfl rfl (by decide) (by decide) (argsL := [.ref (n0 + 1), .int (4 : Int32), .int (1 : Int32), .int (3 : Int32)]) (rest := [.long (((((sp_sm4_01 (Int32.ofNat g0) (Int32.ofNat g1) (Int32.ofNat g2) (Int32.ofNat g3) (Int32.ofNat g0) (Int32.ofNat g1) (Int32.ofNat g2) (Int32.ofNat g3) (Int32.ofNat g4)) + (sp_sm4_02 (Int32.ofNat g0) (Int32.ofNat g1) (Int32.ofNat g2) (Int32.ofNat g3) (Int32.ofNat g0) (Int32.ofNat g1) (Int32.ofNat g2) (Int32.ofNat g3) (Int32.ofNat g4))) + (sp_sm4_03 (Int32.ofNat g0) (Int32.ofNat g1) (Int32.ofNat g2) (Int32.ofNat g3) (Int32.ofNat g0) (Int32.ofNat g1) (Int32.ofNat g2) (Int32.ofNat g3) (Int32.ofNat g4))) + (sp_sm4_04 (Int32.ofNat g0) (Int32.ofNat g1) (Int32.ofNat g2) (Int32.ofNat g3) (Int32.ofNat g0) (Int32.ofNat g1) (Int32.ofNat g2) (Int32.ofNat g3) (Int32.ofNat g4))) + (sp_sm4_12 (Int32.ofNat g0) (Int32.ofNat g1) (Int32.ofNat g2) (Int32.ofNat g3) (Int32.ofNat g0) (Int32.ofNat g1) (Int32.ofNat g2) (Int32.ofNat g3) (Int32.ofNat g4)))]) pd1 rfl rfl rfl (Nat.le_of_eq rfl) (hb hby at_206) (pc' := 209) rfl ?_
    intro T90 X90 e90
    have P90 : HP n0 T90.heap [AC kA9 [.int (Int32.ofNat g0), .int (Int32.ofNat g1), .int (Int32.ofNat g2), .int (Int32.ofNat g3)], AC kA10 [.int (Int32.ofNat g0), .int (Int32.ofNat g1), .int (Int32.ofNat g2), .int (Int32.ofNat g3), .int (Int32.ofNat g4)]] := by rw [e90]; exact P89
    refine w_ladd X90 hx (hb hby at_209) (pc' := 210) rfl ?_
    refine w_aload X90 hx (hb hby at_210) rfl rfl (pc' := 212) rfl ?_
    refine w_iload X90 hx (hb hby at_212) rfl (pc' := 214) rfl ?_
    refine w_iconst (v := (1 : Int32)) X90 hx (hb hby at_214) rfl (pc' := 215) rfl ?_
    refine w_iconst (v := (4 : Int32)) X90 hx (hb hby at_215) rfl (pc' := 216) rfl ?_
    refine w_callP (W := 2) X90 hx hZ rfl hown hml.symm (wd2 hw) (wd3 hw) (wd4 hw) (wd5 hw) (rm_sm4_14 l Z a0 hw [] n0 (Int32.ofNat g0) (Int32.ofNat g1) (Int32.ofNat g2) (Int32.ofNat g3) (Int32.ofNat g0) (Int32.ofNat g1) (Int32.ofNat g2) (Int32.ofNat g3) (Int32.ofNat g4) kA9 hkA9 kA10 hkA10 _ P90) (by decide) (by decide) (by decide) rfl rfl (by decide) (by decide) (argsL := [.ref (n0 + 1), .int (4 : Int32), .int (1 : Int32), .int (4 : Int32)]) (rest := [.long ((((((sp_sm4_01 (Int32.ofNat g0) (Int32.ofNat g1) (Int32.ofNat g2) (Int32.ofNat g3) (Int32.ofNat g0) (Int32.ofNat g1) (Int32.ofNat g2) (Int32.ofNat g3) (Int32.ofNat g4)) + (sp_sm4_02 (Int32.ofNat g0) (Int32.ofNat g1) (Int32.ofNat g2) (Int32.ofNat g3) (Int32.ofNat g0) (Int32.ofNat g1) (Int32.ofNat g2) (Int32.ofNat g3) (Int32.ofNat g4))) + (sp_sm4_03 (Int32.ofNat g0) (Int32.ofNat g1) (Int32.ofNat g2) (Int32.ofNat g3) (Int32.ofNat g0) (Int32.ofNat g1) (Int32.ofNat g2) (Int32.ofNat g3) (Int32.ofNat g4))) + (sp_sm4_04 (Int32.ofNat g0) (Int32.ofNat g1) (Int32.ofNat g2) (Int32.ofNat g3) (Int32.ofNat g0) (Int32.ofNat g1) (Int32.ofNat g2) (Int32.ofNat g3) (Int32.ofNat g4))) + (sp_sm4_12 (Int32.ofNat g0) (Int32.ofNat g1) (Int32.ofNat g2) (Int32.ofNat g3) (Int32.ofNat g0) (Int32.ofNat g1) (Int32.ofNat g2) (Int32.ofNat g3) (Int32.ofNat g4))) + (sp_sm4_13 (Int32.ofNat g0) (Int32.ofNat g1) (Int32.ofNat g2) (Int32.ofNat g3) (Int32.ofNat g0) (Int32.ofNat g1) (Int32.ofNat g2) (Int32.ofNat g3) (Int32.ofNat g4)))]) pd1 rfl rfl rfl (Nat.le_of_eq rfl) (hb hby at_216) (pc' := 219) rfl ?_
    intro T91 X91 e91
    have P91 : HP n0 T91.heap [AC kA9 [.int (Int32.ofNat g0), .int (Int32.ofNat g1), .int (Int32.ofNat g2), .int (Int32.ofNat g3)], AC kA10 [.int (Int32.ofNat g0), .int (Int32.ofNat g1), .int (Int32.ofNat g2), .int (Int32.ofNat g3), .int (Int32.ofNat g4)]] := by rw [e91]; exact P90
    refine w_ladd X91 hx (hb hby at_219) (pc' := 220) rfl ?_
    refine w_aload X91 hx (hb hby at_220) rfl rfl (pc' := 222) rfl ?_
    refine w_iload X91 hx (hb hby at_222) rfl (pc' := 224) rfl ?_
    refine w_iconst (v := (2 : Int32)) X91 hx (hb hby at_224) rfl (pc' := 225) rfl ?_
    refine w_iconst (v := (3 : Int32)) X91 hx (hb hby at_225) rfl (pc' := 226) rfl ?_
    refine w_callP (W := 2) X91 hx hZ rfl hown hml.symm (wd2 hw) (wd3 hw) (wd4 hw) (wd5 hw) (rm_sm4_23 l Z a0 hw [] n0 (Int32.ofNat g0) (Int32.ofNat g1) (Int32.ofNat g2) (Int32.ofNat g3) (Int32.ofNat g0) (Int32.ofNat g1) (Int32.ofNat g2) (Int32.ofNat g3) (Int32.ofNat g4) kA9 hkA9 kA10 hkA10 _ P91) (by decide) (by decide) (by decide) rfl rfl (by decide) (by decide) (argsL := [.ref (n0 + 1), .int (4 : Int32), .int (2 : Int32), .int (3 : Int32)]) (rest := [.long (((((((sp_sm4_01 (Int32.ofNat g0) (Int32.ofNat g1) (Int32.ofNat g2) (Int32.ofNat g3) (Int32.ofNat g0) (Int32.ofNat g1) (Int32.ofNat g2) (Int32.ofNat g3) (Int32.ofNat g4)) + (sp_sm4_02 (Int32.ofNat g0) (Int32.ofNat g1) (Int32.ofNat g2) (Int32.ofNat g3) (Int32.ofNat g0) (Int32.ofNat g1) (Int32.ofNat g2) (Int32.ofNat g3) (Int32.ofNat g4))) + (sp_sm4_03 (Int32.ofNat g0) (Int32.ofNat g1) (Int32.ofNat g2) (Int32.ofNat g3) (Int32.ofNat g0) (Int32.ofNat g1) (Int32.ofNat g2) (Int32.ofNat g3) (Int32.ofNat g4))) + (sp_sm4_04 (Int32.ofNat g0) (Int32.ofNat g1) (Int32.ofNat g2) (Int32.ofNat g3) (Int32.ofNat g0) (Int32.ofNat g1) (Int32.ofNat g2) (Int32.ofNat g3) (Int32.ofNat g4))) + (sp_sm4_12 (Int32.ofNat g0) (Int32.ofNat g1) (Int32.ofNat g2) (Int32.ofNat g3) (Int32.ofNat g0) (Int32.ofNat g1) (Int32.ofNat g2) (Int32.ofNat g3) (Int32.ofNat g4))) + (sp_sm4_13 (Int32.ofNat g0) (Int32.ofNat g1) (Int32.ofNat g2) (Int32.ofNat g3) (Int32.ofNat g0) (Int32.ofNat g1) (Int32.ofNat g2) (Int32.ofNat g3) (Int32.ofNat g4))) + (sp_sm4_14 (Int32.ofNat g0) (Int32.ofNat g1) (Int32.ofNat g2) (Int32.ofNat g3) (Int32.ofNat g0) (Int32.ofNat g1) (Int32.ofNat g2) (Int32.ofNat g3) (Int32.ofNat g4)))]) pd1 rfl rfl rfl (Nat.le_of_eq rfl) (hb hby at_226) (pc' := 229) rfl ?_
    intro T92 X92 e92
    have P92 : HP n0 T92.heap [AC kA9 [.int (Int32.ofNat g0), .int (Int32.ofNat g1), .int (Int32.ofNat g2), .int (Int32.ofNat g3)], AC kA10 [.int (Int32.ofNat g0), .int (Int32.ofNat g1), .int (Int32.ofNat g2), .int (Int32.ofNat g3), .int (Int32.ofNat g4)]] := by rw [e92]; exact P91
    refine w_ladd X92 hx (hb hby at_229) (pc' := 230) rfl ?_
    refine w_aload X92 hx (hb hby at_230) rfl rfl (pc' := 232) rfl ?_
    refine w_iload X92 hx (hb hby at_232) rfl (pc' := 234) rfl ?_
    refine w_iconst (v := (2 : Int32)) X92 hx (hb hby at_234) rfl (pc' := 235) rfl ?_
    refine w_iconst (v := (4 : Int32)) X92 hx (hb hby at_235) rfl (pc' := 236) rfl ?_
    refine w_callP (W := 2) X92 hx hZ rfl hown hml.symm (wd2 hw) (wd3 hw) (wd4 hw) (wd5 hw) (rm_sm4_24 l Z a0 hw [] n0 (Int32.ofNat g0) (Int32.ofNat g1) (Int32.ofNat g2) (Int32.ofNat g3) (Int32.ofNat g0) (Int32.ofNat g1) (Int32.ofNat g2) (Int32.ofNat g3) (Int32.ofNat g4) kA9 hkA9 kA10 hkA10 _ P92) (by decide) (by decide) (by decide) rfl rfl (by decide) (by decide) (argsL := [.ref (n0 + 1), .int (4 : Int32), .int (2 : Int32), .int (4 : Int32)]) (rest := [.long ((((((((sp_sm4_01 (Int32.ofNat g0) (Int32.ofNat g1) (Int32.ofNat g2) (Int32.ofNat g3) (Int32.ofNat g0) (Int32.ofNat g1) (Int32.ofNat g2) (Int32.ofNat g3) (Int32.ofNat g4)) + (sp_sm4_02 (Int32.ofNat g0) (Int32.ofNat g1) (Int32.ofNat g2) (Int32.ofNat g3) (Int32.ofNat g0) (Int32.ofNat g1) (Int32.ofNat g2) (Int32.ofNat g3) (Int32.ofNat g4))) + (sp_sm4_03 (Int32.ofNat g0) (Int32.ofNat g1) (Int32.ofNat g2) (Int32.ofNat g3) (Int32.ofNat g0) (Int32.ofNat g1) (Int32.ofNat g2) (Int32.ofNat g3) (Int32.ofNat g4))) + (sp_sm4_04 (Int32.ofNat g0) (Int32.ofNat g1) (Int32.ofNat g2) (Int32.ofNat g3) (Int32.ofNat g0) (Int32.ofNat g1) (Int32.ofNat g2) (Int32.ofNat g3) (Int32.ofNat g4))) + (sp_sm4_12 (Int32.ofNat g0) (Int32.ofNat g1) (Int32.ofNat g2) (Int32.ofNat g3) (Int32.ofNat g0) (Int32.ofNat g1) (Int32.ofNat g2) (Int32.ofNat g3) (Int32.ofNat g4))) + (sp_sm4_13 (Int32.ofNat g0) (Int32.ofNat g1) (Int32.ofNat g2) (Int32.ofNat g3) (Int32.ofNat g0) (Int32.ofNat g1) (Int32.ofNat g2) (Int32.ofNat g3) (Int32.ofNat g4))) + (sp_sm4_14 (Int32.ofNat g0) (Int32.ofNat g1) (Int32.ofNat g2) (Int32.ofNat g3) (Int32.ofNat g0) (Int32.ofNat g1) (Int32.ofNat g2) (Int32.ofNat g3) (Int32.ofNat g4))) + (sp_sm4_23 (Int32.ofNat g0) (Int32.ofNat g1) (Int32.ofNat g2) (Int32.ofNat g3) (Int32.ofNat g0) (Int32.ofNat g1) (Int32.ofNat g2) (Int32.ofNat g3) (Int32.ofNat g4)))]) pd1 rfl rfl rfl (Nat.le_of_eq rfl) (hb hby at_236) (pc' := 239) rfl ?_
    intro T93 X93 e93
    have P93 : HP n0 T93.heap [AC kA9 [.int (Int32.ofNat g0), .int (Int32.ofNat g1), .int (Int32.ofNat g2), .int (Int32.ofNat g3)], AC kA10 [.int (Int32.ofNat g0), .int (Int32.ofNat g1), .int (Int32.ofNat g2), .int (Int32.ofNat g3), .int (Int32.ofNat g4)]] := by rw [e93]; exact P92
    refine w_ladd X93 hx (hb hby at_239) (pc' := 240) rfl ?_
    refine w_aload X93 hx (hb hby at_240) rfl rfl (pc' := 242) rfl ?_
    refine w_iload X93 hx (hb hby at_242) rfl (pc' := 244) rfl ?_
    refine w_iconst (v := (3 : Int32)) X93 hx (hb hby at_244) rfl (pc' := 245) rfl ?_
    refine w_iconst (v := (4 : Int32)) X93 hx (hb hby at_245) rfl (pc' := 246) rfl ?_
    refine w_callP (W := 2) X93 hx hZ rfl hown hml.symm (wd2 hw) (wd3 hw) (wd4 hw) (wd5 hw) (rm_sm4_34 l Z a0 hw [] n0 (Int32.ofNat g0) (Int32.ofNat g1) (Int32.ofNat g2) (Int32.ofNat g3) (Int32.ofNat g0) (Int32.ofNat g1) (Int32.ofNat g2) (Int32.ofNat g3) (Int32.ofNat g4) kA9 hkA9 kA10 hkA10 _ P93) (by decide) (by decide) (by decide) rfl rfl (by decide) (by decide) (argsL := [.ref (n0 + 1), .int (4 : Int32), .int (3 : Int32), .int (4 : Int32)]) (rest := [.long (((((((((sp_sm4_01 (Int32.ofNat g0) (Int32.ofNat g1) (Int32.ofNat g2) (Int32.ofNat g3) (Int32.ofNat g0) (Int32.ofNat g1) (Int32.ofNat g2) (Int32.ofNat g3) (Int32.ofNat g4)) + (sp_sm4_02 (Int32.ofNat g0) (Int32.ofNat g1) (Int32.ofNat g2) (Int32.ofNat g3) (Int32.ofNat g0) (Int32.ofNat g1) (Int32.ofNat g2) (Int32.ofNat g3) (Int32.ofNat g4))) + (sp_sm4_03 (Int32.ofNat g0) (Int32.ofNat g1) (Int32.ofNat g2) (Int32.ofNat g3) (Int32.ofNat g0) (Int32.ofNat g1) (Int32.ofNat g2) (Int32.ofNat g3) (Int32.ofNat g4))) + (sp_sm4_04 (Int32.ofNat g0) (Int32.ofNat g1) (Int32.ofNat g2) (Int32.ofNat g3) (Int32.ofNat g0) (Int32.ofNat g1) (Int32.ofNat g2) (Int32.ofNat g3) (Int32.ofNat g4))) + (sp_sm4_12 (Int32.ofNat g0) (Int32.ofNat g1) (Int32.ofNat g2) (Int32.ofNat g3) (Int32.ofNat g0) (Int32.ofNat g1) (Int32.ofNat g2) (Int32.ofNat g3) (Int32.ofNat g4))) + (sp_sm4_13 (Int32.ofNat g0) (Int32.ofNat g1) (Int32.ofNat g2) (Int32.ofNat g3) (Int32.ofNat g0) (Int32.ofNat g1) (Int32.ofNat g2) (Int32.ofNat g3) (Int32.ofNat g4))) + (sp_sm4_14 (Int32.ofNat g0) (Int32.ofNat g1) (Int32.ofNat g2) (Int32.ofNat g3) (Int32.ofNat g0) (Int32.ofNat g1) (Int32.ofNat g2) (Int32.ofNat g3) (Int32.ofNat g4))) + (sp_sm4_23 (Int32.ofNat g0) (Int32.ofNat g1) (Int32.ofNat g2) (Int32.ofNat g3) (Int32.ofNat g0) (Int32.ofNat g1) (Int32.ofNat g2) (Int32.ofNat g3) (Int32.ofNat g4))) + (sp_sm4_24 (Int32.ofNat g0) (Int32.ofNat g1) (Int32.ofNat g2) (Int32.ofNat g3) (Int32.ofNat g0) (Int32.ofNat g1) (Int32.ofNat g2) (Int32.ofNat g3) (Int32.ofNat g4)))]) pd1 rfl rfl rfl (Nat.le_of_eq rfl) (hb hby at_246) (pc' := 249) rfl ?_
    intro T94 X94 e94
    have P94 : HP n0 T94.heap [AC kA9 [.int (Int32.ofNat g0), .int (Int32.ofNat g1), .int (Int32.ofNat g2), .int (Int32.ofNat g3)], AC kA10 [.int (Int32.ofNat g0), .int (Int32.ofNat g1), .int (Int32.ofNat g2), .int (Int32.ofNat g3), .int (Int32.ofNat g4)]] := by rw [e94]; exact P93
    refine w_ladd X94 hx (hb hby at_249) (pc' := 250) rfl ?_
    refine w_lstore (l' := #[.val (.int x0), .val (.int x1), .val (.int x2), .val (.int x3), .val (.int x4), .val (.int x5), .val (.int (4 : Int32)), .val (.ref (n0 + 0)), .val (.ref (n0 + 1)), .val (.long ((((((((((sp_sm4_01 (Int32.ofNat g0) (Int32.ofNat g1) (Int32.ofNat g2) (Int32.ofNat g3) (Int32.ofNat g0) (Int32.ofNat g1) (Int32.ofNat g2) (Int32.ofNat g3) (Int32.ofNat g4)) + (sp_sm4_02 (Int32.ofNat g0) (Int32.ofNat g1) (Int32.ofNat g2) (Int32.ofNat g3) (Int32.ofNat g0) (Int32.ofNat g1) (Int32.ofNat g2) (Int32.ofNat g3) (Int32.ofNat g4))) + (sp_sm4_03 (Int32.ofNat g0) (Int32.ofNat g1) (Int32.ofNat g2) (Int32.ofNat g3) (Int32.ofNat g0) (Int32.ofNat g1) (Int32.ofNat g2) (Int32.ofNat g3) (Int32.ofNat g4))) + (sp_sm4_04 (Int32.ofNat g0) (Int32.ofNat g1) (Int32.ofNat g2) (Int32.ofNat g3) (Int32.ofNat g0) (Int32.ofNat g1) (Int32.ofNat g2) (Int32.ofNat g3) (Int32.ofNat g4))) + (sp_sm4_12 (Int32.ofNat g0) (Int32.ofNat g1) (Int32.ofNat g2) (Int32.ofNat g3) (Int32.ofNat g0) (Int32.ofNat g1) (Int32.ofNat g2) (Int32.ofNat g3) (Int32.ofNat g4))) + (sp_sm4_13 (Int32.ofNat g0) (Int32.ofNat g1) (Int32.ofNat g2) (Int32.ofNat g3) (Int32.ofNat g0) (Int32.ofNat g1) (Int32.ofNat g2) (Int32.ofNat g3) (Int32.ofNat g4))) + (sp_sm4_14 (Int32.ofNat g0) (Int32.ofNat g1) (Int32.ofNat g2) (Int32.ofNat g3) (Int32.ofNat g0) (Int32.ofNat g1) (Int32.ofNat g2) (Int32.ofNat g3) (Int32.ofNat g4))) + (sp_sm4_23 (Int32.ofNat g0) (Int32.ofNat g1) (Int32.ofNat g2) (Int32.ofNat g3) (Int32.ofNat g0) (Int32.ofNat g1) (Int32.ofNat g2) (Int32.ofNat g3) (Int32.ofNat g4))) + (sp_sm4_24 (Int32.ofNat g0) (Int32.ofNat g1) (Int32.ofNat g2) (Int32.ofNat g3) (Int32.ofNat g0) (Int32.ofNat g1) (Int32.ofNat g2) (Int32.ofNat g3) (Int32.ofNat g4))) + (sp_sm4_34 (Int32.ofNat g0) (Int32.ofNat g1) (Int32.ofNat g2) (Int32.ofNat g3) (Int32.ofNat g0) (Int32.ofNat g1) (Int32.ofNat g2) (Int32.ofNat g3) (Int32.ofNat g4)))), .second]) X94 hx (hb hby at_250) rfl (pc' := 252) rfl ?_
    refine w_aload X94 hx (hb hby at_252) rfl rfl (pc' := 254) rfl ?_
    refine own_call (W := 0) X94 hx hZ rfl hown hml.symm (wd6 hw) (wd7 hw) (wd8 hw) (wd9 hw) (rm_pa4 l Z a0 hw [] n0 kA9 kA10 g0 g1 g2 g3 (Int32.ofNat g0) (Int32.ofNat g1) (Int32.ofNat g2) (Int32.ofNat g3) (Int32.ofNat g4) _ P94 hkA9 hkA10 hg0 hg1 hg2 hg3) (by decide) (by decide) (by decide) (by decide) (by decide) (argsL := [.ref (n0 + 0)]) (rest := []) pd2 rfl rfl rfl (Nat.le_of_eq rfl) (hb hby at_254) (pc' := 257) rfl ?_
    intro v95 T95 L35 X95 hq
    obtain ⟨rfl, N35⟩ := hq
    replace N35 := Fr.app N34 N35
    refine w_lload X95 hx (hb hby at_257) rfl (pc' := 259) rfl ?_
    refine w_lcmp_ne X95 hx (hb hby at_259) rfl (hb hby at_260) (by decide) (pcY := 267) (by decide) (pc' := 263) rfl (fun h40 => absurd (own_fin4 g0 hg0 g1 hg1 g2 hg2 g3 hg3 g4 hg4) h40) (fun h40 => ?_)
    refine w_iconst (v := (1 : Int32)) X95 hx (hb hby at_263) rfl (pc' := 264) rfl ?_
    refine w_goto X95 hx (hb hby at_264) (by decide) (pc' := 268) (by decide) ?_
    exact w_ret_n (t := .boolean) X95 hx hret hlk (by simp) (hb hby at_268) (z' := (1 : Int32)) rfl (by decide) (by decide) ⟨rfl, N35⟩
  · refine w_eqI (z := (5 : Int32)) g5 ?_
    refine w_istore (l' := #[.val (.int x0), .val (.int x1), .val (.int x2), .val (.int x3), .val (.int x4), .val (.int x5), .val (.int (5 : Int32)), .unset, .unset, .unset, .unset]) X0 hx (hb hby at_7) rfl (pc' := 9) rfl ?_
    refine w_iload X0 hx (hb hby at_9) rfl (pc' := 11) rfl ?_
    refine w_newarr (N := 5) (j := 0) X0 hx hZ P0 (ty := .int) rfl (wd1 hw) (hb hby at_11) (by decide) (by decide) (by decide) (by decide) rfl (pc' := 13) rfl ?_
    intro T96 kA11 X96 hkA11 P96
    replace P96 : HP n0 T96.heap [AC kA11 [.int (0 : Int32), .int (0 : Int32), .int (0 : Int32), .int (0 : Int32), .int (0 : Int32)]] := P96
    refine w_astore (l' := #[.val (.int x0), .val (.int x1), .val (.int x2), .val (.int x3), .val (.int x4), .val (.int x5), .val (.int (5 : Int32)), .val (.ref (n0 + 0)), .unset, .unset, .unset]) X96 hx (hb hby at_13) rfl rfl (pc' := 15) rfl ?_
    refine w_iconst (v := (5 : Int32)) X96 hx (hb hby at_15) rfl (pc' := 16) rfl ?_
    refine w_newarr (N := 5) (j := 1) X96 hx hZ P96 (ty := .int) rfl (wd1 hw) (hb hby at_16) (by decide) (by decide) (by decide) (by decide) rfl (pc' := 18) rfl ?_
    intro T97 kA12 X97 hkA12 P97
    replace P97 : HP n0 T97.heap [AC kA11 [.int (0 : Int32), .int (0 : Int32), .int (0 : Int32), .int (0 : Int32), .int (0 : Int32)], AC kA12 [.int (0 : Int32), .int (0 : Int32), .int (0 : Int32), .int (0 : Int32), .int (0 : Int32)]] := P97
    refine w_astore (l' := #[.val (.int x0), .val (.int x1), .val (.int x2), .val (.int x3), .val (.int x4), .val (.int x5), .val (.int (5 : Int32)), .val (.ref (n0 + 0)), .val (.ref (n0 + 1)), .unset, .unset]) X97 hx (hb hby at_18) rfl rfl (pc' := 20) rfl ?_
    refine w_iload X97 hx (hb hby at_20) rfl (pc' := 22) rfl ?_
    refine w_if_le X97 hx (hb hby at_22) (by decide) (pcY := 82) (by decide) (pc' := 25) rfl (fun h41 => absurd h41 (by decide)) (fun h41 => ?_)
    refine w_aload X97 hx (hb hby at_25) rfl rfl (pc' := 27) rfl ?_
    refine w_iconst (v := (0 : Int32)) X97 hx (hb hby at_27) rfl (pc' := 28) rfl ?_
    refine w_iloadN X97 hx (hb hby at_28) rfl (pc' := 29) rfl ?_
    refine w_ldc X97 hx (hb hby at_29) hown (mvT hZ (wd0 hw)) (pc' := 31) rfl ?_
    refine w_iand X97 hx (hb hby at_31) (pc' := 32) rfl ?_
    refine w_iload X97 hx (hb hby at_32) rfl (pc' := 34) rfl ?_
    refine w_irem X97 hx (hb hby at_34) (by decide) (pc' := 35) rfl ?_
    obtain ⟨g0, hg0, eg0⟩ := own_rem x1 5 5 (by decide) (by decide)
    refine w_eqI eg0 ?_
    refine w_iastore (i := 1) (jn := 0) X97 hx hZ N0 P97 rfl hkA12 (hb hby at_35) (by decide) (Nat.le_of_ble_eq_true rfl) (pc' := 36) rfl ?_
    intro T98 L36 N36 X98 P98
    replace P98 : HP n0 T98.heap [AC kA11 [.int (0 : Int32), .int (0 : Int32), .int (0 : Int32), .int (0 : Int32), .int (0 : Int32)], AC kA12 [.int (Int32.ofNat g0), .int (0 : Int32), .int (0 : Int32), .int (0 : Int32), .int (0 : Int32)]] := P98
    refine w_aload X98 hx (hb hby at_36) rfl rfl (pc' := 38) rfl ?_
    refine w_iconst (v := (1 : Int32)) X98 hx (hb hby at_38) rfl (pc' := 39) rfl ?_
    refine w_iloadN X98 hx (hb hby at_39) rfl (pc' := 40) rfl ?_
    refine w_ldc X98 hx (hb hby at_40) hown (mvT hZ (wd0 hw)) (pc' := 42) rfl ?_
    refine w_iand X98 hx (hb hby at_42) (pc' := 43) rfl ?_
    refine w_iload X98 hx (hb hby at_43) rfl (pc' := 45) rfl ?_
    refine w_irem X98 hx (hb hby at_45) (by decide) (pc' := 46) rfl ?_
    obtain ⟨g1, hg1, eg1⟩ := own_rem x2 5 5 (by decide) (by decide)
    refine w_eqI eg1 ?_
    refine w_iastore (i := 1) (jn := 1) X98 hx hZ N36 P98 rfl hkA12 (hb hby at_46) (by decide) (Nat.le_of_ble_eq_true rfl) (pc' := 47) rfl ?_
    intro T99 L37 N37 X99 P99
    replace P99 : HP n0 T99.heap [AC kA11 [.int (0 : Int32), .int (0 : Int32), .int (0 : Int32), .int (0 : Int32), .int (0 : Int32)], AC kA12 [.int (Int32.ofNat g0), .int (Int32.ofNat g1), .int (0 : Int32), .int (0 : Int32), .int (0 : Int32)]] := P99
    refine w_aload X99 hx (hb hby at_47) rfl rfl (pc' := 49) rfl ?_
    refine w_iconst (v := (2 : Int32)) X99 hx (hb hby at_49) rfl (pc' := 50) rfl ?_
    refine w_iloadN X99 hx (hb hby at_50) rfl (pc' := 51) rfl ?_
    refine w_ldc X99 hx (hb hby at_51) hown (mvT hZ (wd0 hw)) (pc' := 53) rfl ?_
    refine w_iand X99 hx (hb hby at_53) (pc' := 54) rfl ?_
    refine w_iload X99 hx (hb hby at_54) rfl (pc' := 56) rfl ?_
    refine w_irem X99 hx (hb hby at_56) (by decide) (pc' := 57) rfl ?_
    obtain ⟨g2, hg2, eg2⟩ := own_rem x3 5 5 (by decide) (by decide)
    refine w_eqI eg2 ?_
    refine w_iastore (i := 1) (jn := 2) X99 hx hZ N37 P99 rfl hkA12 (hb hby at_57) (by decide) (Nat.le_of_ble_eq_true rfl) (pc' := 58) rfl ?_
    intro T100 L38 N38 X100 P100
    replace P100 : HP n0 T100.heap [AC kA11 [.int (0 : Int32), .int (0 : Int32), .int (0 : Int32), .int (0 : Int32), .int (0 : Int32)], AC kA12 [.int (Int32.ofNat g0), .int (Int32.ofNat g1), .int (Int32.ofNat g2), .int (0 : Int32), .int (0 : Int32)]] := P100
    refine w_aload X100 hx (hb hby at_58) rfl rfl (pc' := 60) rfl ?_
    refine w_iconst (v := (3 : Int32)) X100 hx (hb hby at_60) rfl (pc' := 61) rfl ?_
    refine w_iload X100 hx (hb hby at_61) rfl (pc' := 63) rfl ?_
    refine w_ldc X100 hx (hb hby at_63) hown (mvT hZ (wd0 hw)) (pc' := 65) rfl ?_
    refine w_iand X100 hx (hb hby at_65) (pc' := 66) rfl ?_
    refine w_iload X100 hx (hb hby at_66) rfl (pc' := 68) rfl ?_
    refine w_irem X100 hx (hb hby at_68) (by decide) (pc' := 69) rfl ?_
    obtain ⟨g3, hg3, eg3⟩ := own_rem x4 5 5 (by decide) (by decide)
    refine w_eqI eg3 ?_
    refine w_iastore (i := 1) (jn := 3) X100 hx hZ N38 P100 rfl hkA12 (hb hby at_69) (by decide) (Nat.le_of_ble_eq_true rfl) (pc' := 70) rfl ?_
    intro T101 L39 N39 X101 P101
    replace P101 : HP n0 T101.heap [AC kA11 [.int (0 : Int32), .int (0 : Int32), .int (0 : Int32), .int (0 : Int32), .int (0 : Int32)], AC kA12 [.int (Int32.ofNat g0), .int (Int32.ofNat g1), .int (Int32.ofNat g2), .int (Int32.ofNat g3), .int (0 : Int32)]] := P101
    refine w_aload X101 hx (hb hby at_70) rfl rfl (pc' := 72) rfl ?_
    refine w_iconst (v := (4 : Int32)) X101 hx (hb hby at_72) rfl (pc' := 73) rfl ?_
    refine w_iload X101 hx (hb hby at_73) rfl (pc' := 75) rfl ?_
    refine w_ldc X101 hx (hb hby at_75) hown (mvT hZ (wd0 hw)) (pc' := 77) rfl ?_
    refine w_iand X101 hx (hb hby at_77) (pc' := 78) rfl ?_
    refine w_iload X101 hx (hb hby at_78) rfl (pc' := 80) rfl ?_
    refine w_irem X101 hx (hb hby at_80) (by decide) (pc' := 81) rfl ?_
    obtain ⟨g4, hg4, eg4⟩ := own_rem x5 5 5 (by decide) (by decide)
    refine w_eqI eg4 ?_
    refine w_iastore (i := 1) (jn := 4) X101 hx hZ N39 P101 rfl hkA12 (hb hby at_81) (by decide) (Nat.le_of_ble_eq_true rfl) (pc' := 82) rfl ?_
    intro T102 L40 N40 X102 P102
    replace P102 : HP n0 T102.heap [AC kA11 [.int (0 : Int32), .int (0 : Int32), .int (0 : Int32), .int (0 : Int32), .int (0 : Int32)], AC kA12 [.int (Int32.ofNat g0), .int (Int32.ofNat g1), .int (Int32.ofNat g2), .int (Int32.ofNat g3), .int (Int32.ofNat g4)]] := P102
    refine w_iload X102 hx (hb hby at_82) rfl (pc' := 84) rfl ?_
    refine w_if_le X102 hx (hb hby at_84) (by decide) (pcY := 95) (by decide) (pc' := 87) rfl (fun h42 => absurd h42 (by decide)) (fun h42 => ?_)
    refine w_aload X102 hx (hb hby at_87) rfl rfl (pc' := 89) rfl ?_
    refine w_iconst (v := (0 : Int32)) X102 hx (hb hby at_89) rfl (pc' := 90) rfl ?_
    refine w_aload X102 hx (hb hby at_90) rfl rfl (pc' := 92) rfl ?_
    refine w_iconst (v := (0 : Int32)) X102 hx (hb hby at_92) rfl (pc' := 93) rfl ?_
    refine w_iaload (i := 1) (jn := 0) (v := .int (Int32.ofNat g0)) X102 hx hZ P102 rfl hkA12 (hb hby at_93) (by decide) rfl (pc' := 94) rfl ?_
    refine w_iastore (i := 0) (jn := 0) X102 hx hZ N40 P102 rfl hkA11 (hb hby at_94) (by decide) (Nat.le_of_ble_eq_true rfl) (pc' := 95) rfl ?_
    intro T103 L41 N41 X103 P103
    replace P103 : HP n0 T103.heap [AC kA11 [.int (Int32.ofNat g0), .int (0 : Int32), .int (0 : Int32), .int (0 : Int32), .int (0 : Int32)], AC kA12 [.int (Int32.ofNat g0), .int (Int32.ofNat g1), .int (Int32.ofNat g2), .int (Int32.ofNat g3), .int (Int32.ofNat g4)]] := P103
    refine w_iload X103 hx (hb hby at_95) rfl (pc' := 97) rfl ?_
    refine w_iconst (v := (1 : Int32)) X103 hx (hb hby at_97) rfl (pc' := 98) rfl ?_
    refine w_icmp_le X103 hx (hb hby at_98) (by decide) (pcY := 109) (by decide) (pc' := 101) rfl (fun h43 => absurd h43 (by decide)) (fun h43 => ?_)
    refine w_aload X103 hx (hb hby at_101) rfl rfl (pc' := 103) rfl ?_
    refine w_iconst (v := (1 : Int32)) X103 hx (hb hby at_103) rfl (pc' := 104) rfl ?_
    refine w_aload X103 hx (hb hby at_104) rfl rfl (pc' := 106) rfl ?_
    refine w_iconst (v := (1 : Int32)) X103 hx (hb hby at_106) rfl (pc' := 107) rfl ?_
    refine w_iaload (i := 1) (jn := 1) (v := .int (Int32.ofNat g1)) X103 hx hZ P103 rfl hkA12 (hb hby at_107) (by decide) rfl (pc' := 108) rfl ?_
    refine w_iastore (i := 0) (jn := 1) X103 hx hZ N41 P103 rfl hkA11 (hb hby at_108) (by decide) (Nat.le_of_ble_eq_true rfl) (pc' := 109) rfl ?_
    intro T104 L42 N42 X104 P104
    replace P104 : HP n0 T104.heap [AC kA11 [.int (Int32.ofNat g0), .int (Int32.ofNat g1), .int (0 : Int32), .int (0 : Int32), .int (0 : Int32)], AC kA12 [.int (Int32.ofNat g0), .int (Int32.ofNat g1), .int (Int32.ofNat g2), .int (Int32.ofNat g3), .int (Int32.ofNat g4)]] := P104
    refine w_iload X104 hx (hb hby at_109) rfl (pc' := 111) rfl ?_
    refine w_iconst (v := (2 : Int32)) X104 hx (hb hby at_111) rfl (pc' := 112) rfl ?_
    refine w_icmp_le X104 hx (hb hby at_112) (by decide) (pcY := 123) (by decide) (pc' := 115) rfl (fun h44 => absurd h44 (by decide)) (fun h44 => ?_)
    refine w_aload X104 hx (hb hby at_115) rfl rfl (pc' := 117) rfl ?_
    refine w_iconst (v := (2 : Int32)) X104 hx (hb hby at_117) rfl (pc' := 118) rfl ?_
    refine w_aload X104 hx (hb hby at_118) rfl rfl (pc' := 120) rfl ?_
    refine w_iconst (v := (2 : Int32)) X104 hx (hb hby at_120) rfl (pc' := 121) rfl ?_
    refine w_iaload (i := 1) (jn := 2) (v := .int (Int32.ofNat g2)) X104 hx hZ P104 rfl hkA12 (hb hby at_121) (by decide) rfl (pc' := 122) rfl ?_
    refine w_iastore (i := 0) (jn := 2) X104 hx hZ N42 P104 rfl hkA11 (hb hby at_122) (by decide) (Nat.le_of_ble_eq_true rfl) (pc' := 123) rfl ?_
    intro T105 L43 N43 X105 P105
    replace P105 : HP n0 T105.heap [AC kA11 [.int (Int32.ofNat g0), .int (Int32.ofNat g1), .int (Int32.ofNat g2), .int (0 : Int32), .int (0 : Int32)], AC kA12 [.int (Int32.ofNat g0), .int (Int32.ofNat g1), .int (Int32.ofNat g2), .int (Int32.ofNat g3), .int (Int32.ofNat g4)]] := P105
    refine w_iload X105 hx (hb hby at_123) rfl (pc' := 125) rfl ?_
    refine w_iconst (v := (3 : Int32)) X105 hx (hb hby at_125) rfl (pc' := 126) rfl ?_
    refine w_icmp_le X105 hx (hb hby at_126) (by decide) (pcY := 137) (by decide) (pc' := 129) rfl (fun h45 => absurd h45 (by decide)) (fun h45 => ?_)
    refine w_aload X105 hx (hb hby at_129) rfl rfl (pc' := 131) rfl ?_
    refine w_iconst (v := (3 : Int32)) X105 hx (hb hby at_131) rfl (pc' := 132) rfl ?_
    refine w_aload X105 hx (hb hby at_132) rfl rfl (pc' := 134) rfl ?_
    refine w_iconst (v := (3 : Int32)) X105 hx (hb hby at_134) rfl (pc' := 135) rfl ?_
    refine w_iaload (i := 1) (jn := 3) (v := .int (Int32.ofNat g3)) X105 hx hZ P105 rfl hkA12 (hb hby at_135) (by decide) rfl (pc' := 136) rfl ?_
    refine w_iastore (i := 0) (jn := 3) X105 hx hZ N43 P105 rfl hkA11 (hb hby at_136) (by decide) (Nat.le_of_ble_eq_true rfl) (pc' := 137) rfl ?_
    intro T106 L44 N44 X106 P106
    replace P106 : HP n0 T106.heap [AC kA11 [.int (Int32.ofNat g0), .int (Int32.ofNat g1), .int (Int32.ofNat g2), .int (Int32.ofNat g3), .int (0 : Int32)], AC kA12 [.int (Int32.ofNat g0), .int (Int32.ofNat g1), .int (Int32.ofNat g2), .int (Int32.ofNat g3), .int (Int32.ofNat g4)]] := P106
    refine w_iload X106 hx (hb hby at_137) rfl (pc' := 139) rfl ?_
    refine w_iconst (v := (4 : Int32)) X106 hx (hb hby at_139) rfl (pc' := 140) rfl ?_
    refine w_icmp_le X106 hx (hb hby at_140) (by decide) (pcY := 151) (by decide) (pc' := 143) rfl (fun h46 => absurd h46 (by decide)) (fun h46 => ?_)
    refine w_aload X106 hx (hb hby at_143) rfl rfl (pc' := 145) rfl ?_
    refine w_iconst (v := (4 : Int32)) X106 hx (hb hby at_145) rfl (pc' := 146) rfl ?_
    refine w_aload X106 hx (hb hby at_146) rfl rfl (pc' := 148) rfl ?_
    refine w_iconst (v := (4 : Int32)) X106 hx (hb hby at_148) rfl (pc' := 149) rfl ?_
    refine w_iaload (i := 1) (jn := 4) (v := .int (Int32.ofNat g4)) X106 hx hZ P106 rfl hkA12 (hb hby at_149) (by decide) rfl (pc' := 150) rfl ?_
    refine w_iastore (i := 0) (jn := 4) X106 hx hZ N44 P106 rfl hkA11 (hb hby at_150) (by decide) (Nat.le_of_ble_eq_true rfl) (pc' := 151) rfl ?_
    intro T107 L45 N45 X107 P107
    replace P107 : HP n0 T107.heap [AC kA11 [.int (Int32.ofNat g0), .int (Int32.ofNat g1), .int (Int32.ofNat g2), .int (Int32.ofNat g3), .int (Int32.ofNat g4)], AC kA12 [.int (Int32.ofNat g0), .int (Int32.ofNat g1), .int (Int32.ofNat g2), .int (Int32.ofNat g3), .int (Int32.ofNat g4)]] := P107
    refine w_aload X107 hx (hb hby at_151) rfl rfl (pc' := 153) rfl ?_
    refine w_iload X107 hx (hb hby at_153) rfl (pc' := 155) rfl ?_
    refine w_iconst (v := (0 : Int32)) X107 hx (hb hby at_155) rfl (pc' := 156) rfl ?_
    refine w_iconst (v := (1 : Int32)) X107 hx (hb hby at_156) rfl (pc' := 157) rfl ?_
    refine w_callP (W := 0) X107 hx hZ rfl hown hml.symm (wd2 hw) (wd3 hw) (wd4 hw) (wd5 hw) (rm_sm5_01 l Z a0 hw [] n0 (Int32.ofNat g0) (Int32.ofNat g1) (Int32.ofNat g2) (Int32.ofNat g3) (Int32.ofNat g4) (Int32.ofNat g0) (Int32.ofNat g1) (Int32.ofNat g2) (Int32.ofNat g3) (Int32.ofNat g4) kA11 hkA11 kA12 hkA12 _ P107) (by decide) (by decide) (by decide) rfl rfl (by decide) (by decide) (argsL := [.ref (n0 + 1), .int (5 : Int32), .int (0 : Int32), .int (1 : Int32)]) (rest := []) pd1 rfl rfl rfl (Nat.le_of_eq rfl) (hb hby at_157) (pc' := 160) rfl ?_
    intro T108 X108 e108
    have P108 : HP n0 T108.heap [AC kA11 [.int (Int32.ofNat g0), .int (Int32.ofNat g1), .int (Int32.ofNat g2), .int (Int32.ofNat g3), .int (Int32.ofNat g4)], AC kA12 [.int (Int32.ofNat g0), .int (Int32.ofNat g1), .int (Int32.ofNat g2), .int (Int32.ofNat g3), .int (Int32.ofNat g4)]] := by rw [e108]; exact P107
    refine w_aload X108 hx (hb hby at_160) rfl rfl (pc' := 162) rfl ?_
    refine w_iload X108 hx (hb hby at_162) rfl (pc' := 164) rfl ?_
    refine w_iconst (v := (0 : Int32)) X108 hx (hb hby at_164) rfl (pc' := 165) rfl ?_
    refine w_iconst (v := (2 : Int32)) X108 hx (hb hby at_165) rfl (pc' := 166) rfl ?_
    refine w_callP (W := 2) X108 hx hZ rfl hown hml.symm (wd2 hw) (wd3 hw) (wd4 hw) (wd5 hw) (rm_sm5_02 l Z a0 hw [] n0 (Int32.ofNat g0) (Int32.ofNat g1) (Int32.ofNat g2) (Int32.ofNat g3) (Int32.ofNat g4) (Int32.ofNat g0) (Int32.ofNat g1) (Int32.ofNat g2) (Int32.ofNat g3) (Int32.ofNat g4) kA11 hkA11 kA12 hkA12 _ P108) (by decide) (by decide) (by decide) rfl rfl (by decide) (by decide) (argsL := [.ref (n0 + 1), .int (5 : Int32), .int (0 : Int32), .int (2 : Int32)]) (rest := [.long (sp_sm5_01 (Int32.ofNat g0) (Int32.ofNat g1) (Int32.ofNat g2) (Int32.ofNat g3) (Int32.ofNat g4) (Int32.ofNat g0) (Int32.ofNat g1) (Int32.ofNat g2) (Int32.ofNat g3) (Int32.ofNat g4))]) pd1 rfl rfl rfl (Nat.le_of_eq rfl) (hb hby at_166) (pc' := 169) rfl ?_
    intro T109 X109 e109
    have P109 : HP n0 T109.heap [AC kA11 [.int (Int32.ofNat g0), .int (Int32.ofNat g1), .int (Int32.ofNat g2), .int (Int32.ofNat g3), .int (Int32.ofNat g4)], AC kA12 [.int (Int32.ofNat g0), .int (Int32.ofNat g1), .int (Int32.ofNat g2), .int (Int32.ofNat g3), .int (Int32.ofNat g4)]] := by rw [e109]; exact P108
    refine w_ladd X109 hx (hb hby at_169) (pc' := 170) rfl ?_
    refine w_aload X109 hx (hb hby at_170) rfl rfl (pc' := 172) rfl ?_
    refine w_iload X109 hx (hb hby at_172) rfl (pc' := 174) rfl ?_
    refine w_iconst (v := (0 : Int32)) X109 hx (hb hby at_174) rfl (pc' := 175) rfl ?_
    refine w_iconst (v := (3 : Int32)) X109 hx (hb hby at_175) rfl (pc' := 176) rfl ?_
    refine w_callP (W := 2) X109 hx hZ rfl hown hml.symm (wd2 hw) (wd3 hw) (wd4 hw) (wd5 hw) (rm_sm5_03 l Z a0 hw [] n0 (Int32.ofNat g0) (Int32.ofNat g1) (Int32.ofNat g2) (Int32.ofNat g3) (Int32.ofNat g4) (Int32.ofNat g0) (Int32.ofNat g1) (Int32.ofNat g2) (Int32.ofNat g3) (Int32.ofNat g4) kA11 hkA11 kA12 hkA12 _ P109) (by decide) (by decide) (by decide) rfl rfl (by decide) (by decide) (argsL := [.ref (n0 + 1), .int (5 : Int32), .int (0 : Int32), .int (3 : Int32)]) (rest := [.long ((sp_sm5_01 (Int32.ofNat g0) (Int32.ofNat g1) (Int32.ofNat g2) (Int32.ofNat g3) (Int32.ofNat g4) (Int32.ofNat g0) (Int32.ofNat g1) (Int32.ofNat g2) (Int32.ofNat g3) (Int32.ofNat g4)) + (sp_sm5_02 (Int32.ofNat g0) (Int32.ofNat g1) (Int32.ofNat g2) (Int32.ofNat g3) (Int32.ofNat g4) (Int32.ofNat g0) (Int32.ofNat g1) (Int32.ofNat g2) (Int32.ofNat g3) (Int32.ofNat g4)))]) pd1 rfl rfl rfl (Nat.le_of_eq rfl) (hb hby at_176) (pc' := 179) rfl ?_
    intro T110 X110 e110
    have P110 : HP n0 T110.heap [AC kA11 [.int (Int32.ofNat g0), .int (Int32.ofNat g1), .int (Int32.ofNat g2), .int (Int32.ofNat g3), .int (Int32.ofNat g4)], AC kA12 [.int (Int32.ofNat g0), .int (Int32.ofNat g1), .int (Int32.ofNat g2), .int (Int32.ofNat g3), .int (Int32.ofNat g4)]] := by rw [e110]; exact P109
    refine w_ladd X110 hx (hb hby at_179) (pc' := 180) rfl ?_
    refine w_aload X110 hx (hb hby at_180) rfl rfl (pc' := 182) rfl ?_
    refine w_iload X110 hx (hb hby at_182) rfl (pc' := 184) rfl ?_
    refine w_iconst (v := (0 : Int32)) X110 hx (hb hby at_184) rfl (pc' := 185) rfl ?_
    refine w_iconst (v := (4 : Int32)) X110 hx (hb hby at_185) rfl (pc' := 186) rfl ?_
    refine w_callP (W := 2) X110 hx hZ rfl hown hml.symm (wd2 hw) (wd3 hw) (wd4 hw) (wd5 hw) (rm_sm5_04 l Z a0 hw [] n0 (Int32.ofNat g0) (Int32.ofNat g1) (Int32.ofNat g2) (Int32.ofNat g3) (Int32.ofNat g4) (Int32.ofNat g0) (Int32.ofNat g1) (Int32.ofNat g2) (Int32.ofNat g3) (Int32.ofNat g4) kA11 hkA11 kA12 hkA12 _ P110) (by decide) (by decide) (by decide) rfl rfl (by decide) (by decide) (argsL := [.ref (n0 + 1), .int (5 : Int32), .int (0 : Int32), .int (4 : Int32)]) (rest := [.long (((sp_sm5_01 (Int32.ofNat g0) (Int32.ofNat g1) (Int32.ofNat g2) (Int32.ofNat g3) (Int32.ofNat g4) (Int32.ofNat g0) (Int32.ofNat g1) (Int32.ofNat g2) (Int32.ofNat g3) (Int32.ofNat g4)) + (sp_sm5_02 (Int32.ofNat g0) (Int32.ofNat g1) (Int32.ofNat g2) (Int32.ofNat g3) (Int32.ofNat g4) (Int32.ofNat g0) (Int32.ofNat g1) (Int32.ofNat g2) (Int32.ofNat g3) (Int32.ofNat g4))) + (sp_sm5_03 (Int32.ofNat g0) (Int32.ofNat g1) (Int32.ofNat g2) (Int32.ofNat g3) (Int32.ofNat g4) (Int32.ofNat g0) (Int32.ofNat g1) (Int32.ofNat g2) (Int32.ofNat g3) (Int32.ofNat g4)))]) pd1 rfl rfl rfl (Nat.le_of_eq rfl) (hb hby at_186) (pc' := 189) rfl ?_
    intro T111 X111 e111
    have P111 : HP n0 T111.heap [AC kA11 [.int (Int32.ofNat g0), .int (Int32.ofNat g1), .int (Int32.ofNat g2), .int (Int32.ofNat g3), .int (Int32.ofNat g4)], AC kA12 [.int (Int32.ofNat g0), .int (Int32.ofNat g1), .int (Int32.ofNat g2), .int (Int32.ofNat g3), .int (Int32.ofNat g4)]] := by rw [e111]; exact P110
    refine w_ladd X111 hx (hb hby at_189) (pc' := 190) rfl ?_
    refine w_aload X111 hx (hb hby at_190) rfl rfl (pc' := 192) rfl ?_
    refine w_iload X111 hx (hb hby at_192) rfl (pc' := 194) rfl ?_
    refine w_iconst (v := (1 : Int32)) X111 hx (hb hby at_194) rfl (pc' := 195) rfl ?_
    refine w_iconst (v := (2 : Int32)) X111 hx (hb hby at_195) rfl (pc' := 196) rfl ?_
    refine w_callP (W := 2) X111 hx hZ rfl hown hml.symm (wd2 hw) (wd3 hw) (wd4 hw) (wd5 hw) (rm_sm5_12 l Z a0 hw [] n0 (Int32.ofNat g0) (Int32.ofNat g1) (Int32.ofNat g2) (Int32.ofNat g3) (Int32.ofNat g4) (Int32.ofNat g0) (Int32.ofNat g1) (Int32.ofNat g2) (Int32.ofNat g3) (Int32.ofNat g4) kA11 hkA11 kA12 hkA12 _ P111) (by decide) (by decide) (by decide) rfl rfl (by decide) (by decide) (argsL := [.ref (n0 + 1), .int (5 : Int32), .int (1 : Int32), .int (2 : Int32)]) (rest := [.long ((((sp_sm5_01 (Int32.ofNat g0) (Int32.ofNat g1) (Int32.ofNat g2) (Int32.ofNat g3) (Int32.ofNat g4) (Int32.ofNat g0) (Int32.ofNat g1) (Int32.ofNat g2) (Int32.ofNat g3) (Int32.ofNat g4)) + (sp_sm5_02 (Int32.ofNat g0) (Int32.ofNat g1) (Int32.ofNat g2) (Int32.ofNat g3) (Int32.ofNat g4) (Int32.ofNat g0) (Int32.ofNat g1) (Int32.ofNat g2) (Int32.ofNat g3) (Int32.ofNat g4))) + (sp_sm5_03 (Int32.ofNat g0) (Int32.ofNat g1) (Int32.ofNat g2) (Int32.ofNat g3) (Int32.ofNat g4) (Int32.ofNat g0) (Int32.ofNat g1) (Int32.ofNat g2) (Int32.ofNat g3) (Int32.ofNat g4))) + (sp_sm5_04 (Int32.ofNat g0) (Int32.ofNat g1) (Int32.ofNat g2) (Int32.ofNat g3) (Int32.ofNat g4) (Int32.ofNat g0) (Int32.ofNat g1) (Int32.ofNat g2) (Int32.ofNat g3) (Int32.ofNat g4)))]) pd1 rfl rfl rfl (Nat.le_of_eq rfl) (hb hby at_196) (pc' := 199) rfl ?_
    intro T112 X112 e112
    have P112 : HP n0 T112.heap [AC kA11 [.int (Int32.ofNat g0), .int (Int32.ofNat g1), .int (Int32.ofNat g2), .int (Int32.ofNat g3), .int (Int32.ofNat g4)], AC kA12 [.int (Int32.ofNat g0), .int (Int32.ofNat g1), .int (Int32.ofNat g2), .int (Int32.ofNat g3), .int (Int32.ofNat g4)]] := by rw [e112]; exact P111
    refine w_ladd X112 hx (hb hby at_199) (pc' := 200) rfl ?_
    refine w_aload X112 hx (hb hby at_200) rfl rfl (pc' := 202) rfl ?_
    refine w_iload X112 hx (hb hby at_202) rfl (pc' := 204) rfl ?_
    refine w_iconst (v := (1 : Int32)) X112 hx (hb hby at_204) rfl (pc' := 205) rfl ?_
    refine w_iconst (v := (3 : Int32)) X112 hx (hb hby at_205) rfl (pc' := 206) rfl ?_
    refine w_callP (W := 2) X112 hx hZ rfl hown hml.symm (wd2 hw) (wd3 hw) (wd4 hw) (wd5 hw) (rm_sm5_13 l Z a0 hw [] n0 (Int32.ofNat g0) (Int32.ofNat g1) (Int32.ofNat g2) (Int32.ofNat g3) (Int32.ofNat g4) (Int32.ofNat g0) (Int32.ofNat g1) (Int32.ofNat g2) (Int32.ofNat g3) (Int32.ofNat g4) kA11 hkA11 kA12 hkA12 _ P112) (by decide) (by decide) (by decide) rfl rfl (by decide) (by decide) (argsL := [.ref (n0 + 1), .int (5 : Int32), .int (1 : Int32), .int (3 : Int32)]) (rest := [.long (((((sp_sm5_01 (Int32.ofNat g0) (Int32.ofNat g1) (Int32.ofNat g2) (Int32.ofNat g3) (Int32.ofNat g4) (Int32.ofNat g0) (Int32.ofNat g1) (Int32.ofNat g2) (Int32.ofNat g3) (Int32.ofNat g4)) + (sp_sm5_02 (Int32.ofNat g0) (Int32.ofNat g1) (Int32.ofNat g2) (Int32.ofNat g3) (Int32.ofNat g4) (Int32.ofNat g0) (Int32.ofNat g1) (Int32.ofNat g2) (Int32.ofNat g3) (Int32.ofNat g4))) + (sp_sm5_03 (Int32.ofNat g0) (Int32.ofNat g1) (Int32.ofNat g2) (Int32.ofNat g3) (Int32.ofNat g4) (Int32.ofNat g0) (Int32.ofNat g1) (Int32.ofNat g2) (Int32.ofNat g3) (Int32.ofNat g4))) + (sp_sm5_04 (Int32.ofNat g0) (Int32.ofNat g1) (Int32.ofNat g2) (Int32.ofNat g3) (Int32.ofNat g4) (Int32.ofNat g0) (Int32.ofNat g1) (Int32.ofNat g2) (Int32.ofNat g3) (Int32.ofNat g4))) + (sp_sm5_12 (Int32.ofNat g0) (Int32.ofNat g1) (Int32.ofNat g2) (Int32.ofNat g3) (Int32.ofNat g4) (Int32.ofNat g0) (Int32.ofNat g1) (Int32.ofNat g2) (Int32.ofNat g3) (Int32.ofNat g4)))]) pd1 rfl rfl rfl (Nat.le_of_eq rfl) (hb hby at_206) (pc' := 209) rfl ?_
    intro T113 X113 e113
    have P113 : HP n0 T113.heap [AC kA11 [.int (Int32.ofNat g0), .int (Int32.ofNat g1), .int (Int32.ofNat g2), .int (Int32.ofNat g3), .int (Int32.ofNat g4)], AC kA12 [.int (Int32.ofNat g0), .int (Int32.ofNat g1), .int (Int32.ofNat g2), .int (Int32.ofNat g3), .int (Int32.ofNat g4)]] := by rw [e113]; exact P112
    refine w_ladd X113 hx (hb hby at_209) (pc' := 210) rfl ?_
    refine w_aload X113 hx (hb hby at_210) rfl rfl (pc' := 212) rfl ?_
    refine w_iload X113 hx (hb hby at_212) rfl (pc' := 214) rfl ?_
    refine w_iconst (v := (1 : Int32)) X113 hx (hb hby at_214) rfl (pc' := 215) rfl ?_
    refine w_iconst (v := (4 : Int32)) X113 hx (hb hby at_215) rfl (pc' := 216) rfl ?_
    refine w_callP (W := 2) X113 hx hZ rfl hown hml.symm (wd2 hw) (wd3 hw) (wd4 hw) (wd5 hw) (rm_sm5_14 l Z a0 hw [] n0 (Int32.ofNat g0) (Int32.ofNat g1) (Int32.ofNat g2) (Int32.ofNat g3) (Int32.ofNat g4) (Int32.ofNat g0) (Int32.ofNat g1) (Int32.ofNat g2) (Int32.ofNat g3) (Int32.ofNat g4) kA11 hkA11 kA12 hkA12 _ P113) (by decide) (by decide) (by decide) rfl rfl (by decide) (by decide) (argsL := [.ref (n0 + 1), .int (5 : Int32), .int (1 : Int32), .int (4 : Int32)]) (rest := [.long ((((((sp_sm5_01 (Int32.ofNat g0) (Int32.ofNat g1) (Int32.ofNat g2) (Int32.ofNat g3) (Int32.ofNat g4) (Int32.ofNat g0) (Int32.ofNat g1) (Int32.ofNat g2) (Int32.ofNat g3) (Int32.ofNat g4)) + (sp_sm5_02 (Int32.ofNat g0) (Int32.ofNat g1) (Int32.ofNat g2) (Int32.ofNat g3) (Int32.ofNat g4) (Int32.ofNat g0) (Int32.ofNat g1) (Int32.ofNat g2) (Int32.ofNat g3) (Int32.ofNat g4))) + (sp_sm5_03 (Int32.ofNat g0) (Int32.ofNat g1) (Int32.ofNat g2) (Int32.ofNat g3) (Int32.ofNat g4) (Int32.ofNat g0) (Int32.ofNat g1) (Int32.ofNat g2) (Int32.ofNat g3) (Int32.ofNat g4))) + (sp_sm5_04 (Int32.ofNat g0) (Int32.ofNat g1) (Int32.ofNat g2) (Int32.ofNat g3) (Int32.ofNat g4) (Int32.ofNat g0) (Int32.ofNat g1) (Int32.ofNat g2) (Int32.ofNat g3) (Int32.ofNat g4))) + (sp_sm5_12 (Int32.ofNat g0) (Int32.ofNat g1) (Int32.ofNat g2) (Int32.ofNat g3) (Int32.ofNat g4) (Int32.ofNat g0) (Int32.ofNat g1) (Int32.ofNat g2) (Int32.ofNat g3) (Int32.ofNat g4))) + (sp_sm5_13 (Int32.ofNat g0) (Int32.ofNat g1) (Int32.ofNat g2) (Int32.ofNat g3) (Int32.ofNat g4) (Int32.ofNat g0) (Int32.ofNat g1) (Int32.ofNat g2) (Int32.ofNat g3) (Int32.ofNat g4)))]) pd1 rfl rfl rfl (Nat.le_of_eq rfl) (hb hby at_216) (pc' := 219) rfl ?_
    intro T114 X114 e114
    have P114 : HP n0 T114.heap [AC kA11 [.int (Int32.ofNat g0), .int (Int32.ofNat g1), .int (Int32.ofNat g2), .int (Int32.ofNat g3), .int (Int32.ofNat g4)], AC kA12 [.int (Int32.ofNat g0), .int (Int32.ofNat g1), .int (Int32.ofNat g2), .int (Int32.ofNat g3), .int (Int32.ofNat g4)]] := by rw [e114]; exact P113
    refine w_ladd X114 hx (hb hby at_219) (pc' := 220) rfl ?_
    refine w_aload X114 hx (hb hby at_220) rfl rfl (pc' := 222) rfl ?_
    refine w_iload X114 hx (hb hby at_222) rfl (pc' := 224) rfl ?_
    refine w_iconst (v := (2 : Int32)) X114 hx (hb hby at_224) rfl (pc' := 225) rfl ?_
    refine w_iconst (v := (3 : Int32)) X114 hx (hb hby at_225) rfl (pc' := 226) rfl ?_
    refine w_callP (W := 2) X114 hx hZ rfl hown hml.symm (wd2 hw) (wd3 hw) (wd4 hw) (wd5 hw) (rm_sm5_23 l Z a0 hw [] n0 (Int32.ofNat g0) (Int32.ofNat g1) (Int32.ofNat g2) (Int32.ofNat g3) (Int32.ofNat g4) (Int32.ofNat g0) (Int32.ofNat g1) (Int32.ofNat g2) (Int32.ofNat g3) (Int32.ofNat g4) kA11 hkA11 kA12 hkA12 _ P114) (by decide) (by decide) (by decide) rfl rfl (by decide) (by decide) (argsL := [.ref (n0 + 1), .int (5 : Int32), .int (2 : Int32), .int (3 : Int32)]) (rest := [.long (((((((sp_sm5_01 (Int32.ofNat g0) (Int32.ofNat g1) (Int32.ofNat g2) (Int32.ofNat g3) (Int32.ofNat g4) (Int32.ofNat g0) (Int32.ofNat g1) (Int32.ofNat g2) (Int32.ofNat g3) (Int32.ofNat g4)) + (sp_sm5_02 (Int32.ofNat g0) (Int32.ofNat g1) (Int32.ofNat g2) (Int32.ofNat g3) (Int32.ofNat g4) (Int32.ofNat g0) (Int32.ofNat g1) (Int32.ofNat g2) (Int32.ofNat g3) (Int32.ofNat g4))) + (sp_sm5_03 (Int32.ofNat g0) (Int32.ofNat g1) (Int32.ofNat g2) (Int32.ofNat g3) (Int32.ofNat g4) (Int32.ofNat g0) (Int32.ofNat g1) (Int32.ofNat g2) (Int32.ofNat g3) (Int32.ofNat g4))) + (sp_sm5_04 (Int32.ofNat g0) (Int32.ofNat g1) (Int32.ofNat g2) (Int32.ofNat g3) (Int32.ofNat g4) (Int32.ofNat g0) (Int32.ofNat g1) (Int32.ofNat g2) (Int32.ofNat g3) (Int32.ofNat g4))) + (sp_sm5_12 (Int32.ofNat g0) (Int32.ofNat g1) (Int32.ofNat g2) (Int32.ofNat g3) (Int32.ofNat g4) (Int32.ofNat g0) (Int32.ofNat g1) (Int32.ofNat g2) (Int32.ofNat g3) (Int32.ofNat g4))) + (sp_sm5_13 (Int32.ofNat g0) (Int32.ofNat g1) (Int32.ofNat g2) (Int32.ofNat g3) (Int32.ofNat g4) (Int32.ofNat g0) (Int32.ofNat g1) (Int32.ofNat g2) (Int32.ofNat g3) (Int32.ofNat g4))) + (sp_sm5_14 (Int32.ofNat g0) (Int32.ofNat g1) (Int32.ofNat g2) (Int32.ofNat g3) (Int32.ofNat g4) (Int32.ofNat g0) (Int32.ofNat g1) (Int32.ofNat g2) (Int32.ofNat g3) (Int32.ofNat g4)))]) pd1 rfl rfl rfl (Nat.le_of_eq rfl) (hb hby at_226) (pc' := 229) rfl ?_
    intro T115 X115 e115
    have P115 : HP n0 T115.heap [AC kA11 [.int (Int32.ofNat g0), .int (Int32.ofNat g1), .int (Int32.ofNat g2), .int (Int32.ofNat g3), .int (Int32.ofNat g4)], AC kA12 [.int (Int32.ofNat g0), .int (Int32.ofNat g1), .int (Int32.ofNat g2), .int (Int32.ofNat g3), .int (Int32.ofNat g4)]] := by rw [e115]; exact P114
    refine w_ladd X115 hx (hb hby at_229) (pc' := 230) rfl ?_
    refine w_aload X115 hx (hb hby at_230) rfl rfl (pc' := 232) rfl ?_
    refine w_iload X115 hx (hb hby at_232) rfl (pc' := 234) rfl ?_
    refine w_iconst (v := (2 : Int32)) X115 hx (hb hby at_234) rfl (pc' := 235) rfl ?_
    refine w_iconst (v := (4 : Int32)) X115 hx (hb hby at_235) rfl (pc' := 236) rfl ?_
    refine w_callP (W := 2) X115 hx hZ rfl hown hml.symm (wd2 hw) (wd3 hw) (wd4 hw) (wd5 hw) (rm_sm5_24 l Z a0 hw [] n0 (Int32.ofNat g0) (Int32.ofNat g1) (Int32.ofNat g2) (Int32.ofNat g3) (Int32.ofNat g4) (Int32.ofNat g0) (Int32.ofNat g1) (Int32.ofNat g2) (Int32.ofNat g3) (Int32.ofNat g4) kA11 hkA11 kA12 hkA12 _ P115) (by decide) (by decide) (by decide) rfl rfl (by decide) (by decide) (argsL := [.ref (n0 + 1), .int (5 : Int32), .int (2 : Int32), .int (4 : Int32)]) (rest := [.long ((((((((sp_sm5_01 (Int32.ofNat g0) (Int32.ofNat g1) (Int32.ofNat g2) (Int32.ofNat g3) (Int32.ofNat g4) (Int32.ofNat g0) (Int32.ofNat g1) (Int32.ofNat g2) (Int32.ofNat g3) (Int32.ofNat g4)) + (sp_sm5_02 (Int32.ofNat g0) (Int32.ofNat g1) (Int32.ofNat g2) (Int32.ofNat g3) (Int32.ofNat g4) (Int32.ofNat g0) (Int32.ofNat g1) (Int32.ofNat g2) (Int32.ofNat g3) (Int32.ofNat g4))) + (sp_sm5_03 (Int32.ofNat g0) (Int32.ofNat g1) (Int32.ofNat g2) (Int32.ofNat g3) (Int32.ofNat g4) (Int32.ofNat g0) (Int32.ofNat g1) (Int32.ofNat g2) (Int32.ofNat g3) (Int32.ofNat g4))) + (sp_sm5_04 (Int32.ofNat g0) (Int32.ofNat g1) (Int32.ofNat g2) (Int32.ofNat g3) (Int32.ofNat g4) (Int32.ofNat g0) (Int32.ofNat g1) (Int32.ofNat g2) (Int32.ofNat g3) (Int32.ofNat g4))) + (sp_sm5_12 (Int32.ofNat g0) (Int32.ofNat g1) (Int32.ofNat g2) (Int32.ofNat g3) (Int32.ofNat g4) (Int32.ofNat g0) (Int32.ofNat g1) (Int32.ofNat g2) (Int32.ofNat g3) (Int32.ofNat g4))) + (sp_sm5_13 (Int32.ofNat g0) (Int32.ofNat g1) (Int32.ofNat g2) (Int32.ofNat g3) (Int32.ofNat g4) (Int32.ofNat g0) (Int32.ofNat g1) (Int32.ofNat g2) (Int32.ofNat g3) (Int32.ofNat g4))) + (sp_sm5_14 (Int32.ofNat g0) (Int32.ofNat g1) (Int32.ofNat g2) (Int32.ofNat g3) (Int32.ofNat g4) (Int32.ofNat g0) (Int32.ofNat g1) (Int32.ofNat g2) (Int32.ofNat g3) (Int32.ofNat g4))) + (sp_sm5_23 (Int32.ofNat g0) (Int32.ofNat g1) (Int32.ofNat g2) (Int32.ofNat g3) (Int32.ofNat g4) (Int32.ofNat g0) (Int32.ofNat g1) (Int32.ofNat g2) (Int32.ofNat g3) (Int32.ofNat g4)))]) pd1 rfl rfl rfl (Nat.le_of_eq rfl) (hb hby at_236) (pc' := 239) rfl ?_
    intro T116 X116 e116
    have P116 : HP n0 T116.heap [AC kA11 [.int (Int32.ofNat g0), .int (Int32.ofNat g1), .int (Int32.ofNat g2), .int (Int32.ofNat g3), .int (Int32.ofNat g4)], AC kA12 [.int (Int32.ofNat g0), .int (Int32.ofNat g1), .int (Int32.ofNat g2), .int (Int32.ofNat g3), .int (Int32.ofNat g4)]] := by rw [e116]; exact P115
    refine w_ladd X116 hx (hb hby at_239) (pc' := 240) rfl ?_
    refine w_aload X116 hx (hb hby at_240) rfl rfl (pc' := 242) rfl ?_
    refine w_iload X116 hx (hb hby at_242) rfl (pc' := 244) rfl ?_
    refine w_iconst (v := (3 : Int32)) X116 hx (hb hby at_244) rfl (pc' := 245) rfl ?_
    refine w_iconst (v := (4 : Int32)) X116 hx (hb hby at_245) rfl (pc' := 246) rfl ?_
    refine w_callP (W := 2) X116 hx hZ rfl hown hml.symm (wd2 hw) (wd3 hw) (wd4 hw) (wd5 hw) (rm_sm5_34 l Z a0 hw [] n0 (Int32.ofNat g0) (Int32.ofNat g1) (Int32.ofNat g2) (Int32.ofNat g3) (Int32.ofNat g4) (Int32.ofNat g0) (Int32.ofNat g1) (Int32.ofNat g2) (Int32.ofNat g3) (Int32.ofNat g4) kA11 hkA11 kA12 hkA12 _ P116) (by decide) (by decide) (by decide) rfl rfl (by decide) (by decide) (argsL := [.ref (n0 + 1), .int (5 : Int32), .int (3 : Int32), .int (4 : Int32)]) (rest := [.long (((((((((sp_sm5_01 (Int32.ofNat g0) (Int32.ofNat g1) (Int32.ofNat g2) (Int32.ofNat g3) (Int32.ofNat g4) (Int32.ofNat g0) (Int32.ofNat g1) (Int32.ofNat g2) (Int32.ofNat g3) (Int32.ofNat g4)) + (sp_sm5_02 (Int32.ofNat g0) (Int32.ofNat g1) (Int32.ofNat g2) (Int32.ofNat g3) (Int32.ofNat g4) (Int32.ofNat g0) (Int32.ofNat g1) (Int32.ofNat g2) (Int32.ofNat g3) (Int32.ofNat g4))) + (sp_sm5_03 (Int32.ofNat g0) (Int32.ofNat g1) (Int32.ofNat g2) (Int32.ofNat g3) (Int32.ofNat g4) (Int32.ofNat g0) (Int32.ofNat g1) (Int32.ofNat g2) (Int32.ofNat g3) (Int32.ofNat g4))) + (sp_sm5_04 (Int32.ofNat g0) (Int32.ofNat g1) (Int32.ofNat g2) (Int32.ofNat g3) (Int32.ofNat g4) (Int32.ofNat g0) (Int32.ofNat g1) (Int32.ofNat g2) (Int32.ofNat g3) (Int32.ofNat g4))) + (sp_sm5_12 (Int32.ofNat g0) (Int32.ofNat g1) (Int32.ofNat g2) (Int32.ofNat g3) (Int32.ofNat g4) (Int32.ofNat g0) (Int32.ofNat g1) (Int32.ofNat g2) (Int32.ofNat g3) (Int32.ofNat g4))) + (sp_sm5_13 (Int32.ofNat g0) (Int32.ofNat g1) (Int32.ofNat g2) (Int32.ofNat g3) (Int32.ofNat g4) (Int32.ofNat g0) (Int32.ofNat g1) (Int32.ofNat g2) (Int32.ofNat g3) (Int32.ofNat g4))) + (sp_sm5_14 (Int32.ofNat g0) (Int32.ofNat g1) (Int32.ofNat g2) (Int32.ofNat g3) (Int32.ofNat g4) (Int32.ofNat g0) (Int32.ofNat g1) (Int32.ofNat g2) (Int32.ofNat g3) (Int32.ofNat g4))) + (sp_sm5_23 (Int32.ofNat g0) (Int32.ofNat g1) (Int32.ofNat g2) (Int32.ofNat g3) (Int32.ofNat g4) (Int32.ofNat g0) (Int32.ofNat g1) (Int32.ofNat g2) (Int32.ofNat g3) (Int32.ofNat g4))) + (sp_sm5_24 (Int32.ofNat g0) (Int32.ofNat g1) (Int32.ofNat g2) (Int32.ofNat g3) (Int32.ofNat g4) (Int32.ofNat g0) (Int32.ofNat g1) (Int32.ofNat g2) (Int32.ofNat g3) (Int32.ofNat g4)))]) pd1 rfl rfl rfl (Nat.le_of_eq rfl) (hb hby at_246) (pc' := 249) rfl ?_
    intro T117 X117 e117
    have P117 : HP n0 T117.heap [AC kA11 [.int (Int32.ofNat g0), .int (Int32.ofNat g1), .int (Int32.ofNat g2), .int (Int32.ofNat g3), .int (Int32.ofNat g4)], AC kA12 [.int (Int32.ofNat g0), .int (Int32.ofNat g1), .int (Int32.ofNat g2), .int (Int32.ofNat g3), .int (Int32.ofNat g4)]] := by rw [e117]; exact P116
    refine w_ladd X117 hx (hb hby at_249) (pc' := 250) rfl ?_
    refine w_lstore (l' := #[.val (.int x0), .val (.int x1), .val (.int x2), .val (.int x3), .val (.int x4), .val (.int x5), .val (.int (5 : Int32)), .val (.ref (n0 + 0)), .val (.ref (n0 + 1)), .val (.long ((((((((((sp_sm5_01 (Int32.ofNat g0) (Int32.ofNat g1) (Int32.ofNat g2) (Int32.ofNat g3) (Int32.ofNat g4) (Int32.ofNat g0) (Int32.ofNat g1) (Int32.ofNat g2) (Int32.ofNat g3) (Int32.ofNat g4)) + (sp_sm5_02 (Int32.ofNat g0) (Int32.ofNat g1) (Int32.ofNat g2) (Int32.ofNat g3) (Int32.ofNat g4) (Int32.ofNat g0) (Int32.ofNat g1) (Int32.ofNat g2) (Int32.ofNat g3) (Int32.ofNat g4))) + (sp_sm5_03 (Int32.ofNat g0) (Int32.ofNat g1) (Int32.ofNat g2) (Int32.ofNat g3) (Int32.ofNat g4) (Int32.ofNat g0) (Int32.ofNat g1) (Int32.ofNat g2) (Int32.ofNat g3) (Int32.ofNat g4))) + (sp_sm5_04 (Int32.ofNat g0) (Int32.ofNat g1) (Int32.ofNat g2) (Int32.ofNat g3) (Int32.ofNat g4) (Int32.ofNat g0) (Int32.ofNat g1) (Int32.ofNat g2) (Int32.ofNat g3) (Int32.ofNat g4))) + (sp_sm5_12 (Int32.ofNat g0) (Int32.ofNat g1) (Int32.ofNat g2) (Int32.ofNat g3) (Int32.ofNat g4) (Int32.ofNat g0) (Int32.ofNat g1) (Int32.ofNat g2) (Int32.ofNat g3) (Int32.ofNat g4))) + (sp_sm5_13 (Int32.ofNat g0) (Int32.ofNat g1) (Int32.ofNat g2) (Int32.ofNat g3) (Int32.ofNat g4) (Int32.ofNat g0) (Int32.ofNat g1) (Int32.ofNat g2) (Int32.ofNat g3) (Int32.ofNat g4))) + (sp_sm5_14 (Int32.ofNat g0) (Int32.ofNat g1) (Int32.ofNat g2) (Int32.ofNat g3) (Int32.ofNat g4) (Int32.ofNat g0) (Int32.ofNat g1) (Int32.ofNat g2) (Int32.ofNat g3) (Int32.ofNat g4))) + (sp_sm5_23 (Int32.ofNat g0) (Int32.ofNat g1) (Int32.ofNat g2) (Int32.ofNat g3) (Int32.ofNat g4) (Int32.ofNat g0) (Int32.ofNat g1) (Int32.ofNat g2) (Int32.ofNat g3) (Int32.ofNat g4))) + (sp_sm5_24 (Int32.ofNat g0) (Int32.ofNat g1) (Int32.ofNat g2) (Int32.ofNat g3) (Int32.ofNat g4) (Int32.ofNat g0) (Int32.ofNat g1) (Int32.ofNat g2) (Int32.ofNat g3) (Int32.ofNat g4))) + (sp_sm5_34 (Int32.ofNat g0) (Int32.ofNat g1) (Int32.ofNat g2) (Int32.ofNat g3) (Int32.ofNat g4) (Int32.ofNat g0) (Int32.ofNat g1) (Int32.ofNat g2) (Int32.ofNat g3) (Int32.ofNat g4)))), .second]) X117 hx (hb hby at_250) rfl (pc' := 252) rfl ?_
    refine w_aload X117 hx (hb hby at_252) rfl rfl (pc' := 254) rfl ?_
    refine own_call (W := 0) X117 hx hZ rfl hown hml.symm (wd6 hw) (wd7 hw) (wd8 hw) (wd9 hw) (rm_pa5 l Z a0 hw [] n0 kA11 kA12 g0 g1 g2 g3 g4 (Int32.ofNat g0) (Int32.ofNat g1) (Int32.ofNat g2) (Int32.ofNat g3) (Int32.ofNat g4) _ P117 hkA11 hkA12 hg0 hg1 hg2 hg3 hg4) (by decide) (by decide) (by decide) (by decide) (by decide) (argsL := [.ref (n0 + 0)]) (rest := []) pd2 rfl rfl rfl (Nat.le_of_eq rfl) (hb hby at_254) (pc' := 257) rfl ?_
    intro v118 T118 L46 X118 hq
    obtain ⟨rfl, N46⟩ := hq
    replace N46 := Fr.app N45 N46
    refine w_lload X118 hx (hb hby at_257) rfl (pc' := 259) rfl ?_
    refine w_lcmp_ne X118 hx (hb hby at_259) rfl (hb hby at_260) (by decide) (pcY := 267) (by decide) (pc' := 263) rfl (fun h47 => absurd (own_fin5 g0 hg0 g1 hg1 g2 hg2 g3 hg3 g4 hg4) h47) (fun h47 => ?_)
    refine w_iconst (v := (1 : Int32)) X118 hx (hb hby at_263) rfl (pc' := 264) rfl ?_
    refine w_goto X118 hx (hb hby at_264) (by decide) (pc' := 268) (by decide) ?_
    exact w_ret_n (t := .boolean) X118 hx hret hlk (by simp) (hb hby at_268) (z' := (1 : Int32)) rfl (by decide) (by decide) ⟨rfl, N46⟩
set_option maxRecDepth 65536 in
set_option maxHeartbeats 40000000 in
theorem comes_1 {Post : Tables → Env → Array Value → State → Outcome → State → Prop} (hpost : ∀ tb e args s v u, (limb_1_1.after args s (.returned v) u = true ∧ limb_1_2.after args s (.returned v) u = true ∧ True) → FrameEnd s (.returned v) u (Jvm.fieldLocs frame_1_writes args s ++ Jvm.arrayLocs frame_1_arrays args s ++ Jvm.staticLocs frame_1_statics s) 16 128 → Post tb e args s (.returned v) u) :
    ArmFor flags0 classFile x code maxLocals ret World_1 tables_1 room_1 Calls_1 rest_1 Pre_1 Post := by
  intro l hfl _ _ p e ha hc hk s m args below hf hA hF happ hP
  obtain ⟨hcalls, hrest, hpre⟩ := hP
  obtain ⟨-, -, -, hnamed, -, -, -, hat⟩ := (Spec.applies_iff hf).mp happ
  obtain ⟨hg, hn⟩ := and_e (Cond.before_iff.mp (show (Jvm.Cond.and given_1 narrow_1).before args s = true from hpre))
  obtain ⟨g0, k0⟩ := and_e hg
  obtain ⟨q0, k1⟩ := and_e k0
  obtain ⟨q1, k2⟩ := and_e k1
  obtain ⟨q2, k3⟩ := and_e k2
  obtain ⟨q3, k4⟩ := and_e k3
  obtain ⟨q4, k5⟩ := and_e k4
  have q5 := k5
  obtain ⟨w0, w1, w2, w3, w4, w5, rfl⟩ : ∃ w0 w1 w2 w3 w4 w5 : Value, args = #[w0, w1, w2, w3, w4, w5] := by
    have hs : args.size = 6 := by simpa [Cond.value, given_1] using g0
    obtain ⟨L⟩ := args
    match L, hs with
    | [w0, w1, w2, w3, w4, w5], _ => exact ⟨w0, w1, w2, w3, w4, w5, rfl⟩
  have hw := fun d (hd : d ∈ tables_1) => atoms_spec (ws := Jvm.Cond.code x code maxLocals ret :: tables_1) hat d (List.mem_cons_of_mem _ hd)
  obtain ⟨i0, ei0⟩ := is_v q0
  obtain rfl : w0 = (.int i0) := Option.some.inj ei0
  obtain ⟨i1, ei1⟩ := is_v q1
  obtain rfl : w1 = (.int i1) := Option.some.inj ei1
  obtain ⟨i2, ei2⟩ := is_v q2
  obtain rfl : w2 = (.int i2) := Option.some.inj ei2
  obtain ⟨i3, ei3⟩ := is_v q3
  obtain rfl : w3 = (.int i3) := Option.some.inj ei3
  obtain ⟨i4, ei4⟩ := is_v q4
  obtain rfl : w4 = (.int i4) := Option.some.inj ei4
  obtain ⟨i5, ei5⟩ := is_v q5
  obtain rfl : w5 = (.int i5) := Option.some.inj ei5
  obtain ⟨n, o, h1, h2, h3, _, L, rfl, ⟨rfl, N⟩, hq⟩ := rm0 l s _ hw tables_1 i0 i1 i2 i3 i4 i5 s.heap s.heap.size rfl p e ha hc hk s m _ below hf ((Spec.applies_iff_loose hf).mp happ).1 ⟨rfl, State.Warmed39.refl s, rfl⟩ trivial
  refine ⟨n, _, h1, h2, h3, hpost _ _ _ _ _ _ ⟨Cond.after_iff.mpr rfl, Cond.after_iff.mpr (eq_i res_at (Term.int_eval (1)) rfl), trivial⟩ ⟨hq.1, hq.2.1, (hq.2.2.sift fun y hy => Or.inr (N y hy)).mono (by decide) (by decide)⟩⟩
theorem main_1_1 : Claimed_1_1 := comes_1 fun _ _ _ _ _ _ h hF => ⟨h.1, hF⟩
theorem main_1_2 : Claimed_1_2 := comes_1 fun _ _ _ _ _ _ h hF => ⟨h.2.1, hF⟩
end Jvm.Pilot.@@N@@
namespace Jvm.Pilot.@@N@@
open Jvm Jvm.ClassFile Sem Op Lib Jvm.Free Jvm.Stand Jvm.Pilot.@@N@@.Jvm.D
/-! MADE BY PROGRAM (witnessworld.py) out of the Statement's table words and the real class files: 9 classes; the members and pool entries that the words name. The judged class is class 1, her method 1. -/
namespace start1
open Jvm.ClassFile
def u (s : String) : CpInfo := .utf8 (stringToUtf16 s)
/-- a pool by its gaps: so many unusable entries, then the entry; so many at the end -/
def gap : Nat → List CpInfo → List CpInfo
  | 0, r => r
  | n + 1, r => .unusable :: gap n r
def poolList (es : List (Nat × CpInfo)) (last : Nat) : List CpInfo := es.foldr (fun e r => gap e.1 (e.2 :: r)) (gap last [])
def pool (es : List (Nat × CpInfo)) (last : Nat) : Array CpInfo := ⟨poolList es last⟩
def fileOf (pool : Array CpInfo) (this : Nat) (attrs : Array Attribute := #[]) (ms : Array MethodInfo := #[]) (fl : Nat := 33) (sup : Nat := 0) (ifs : Array Nat := #[]) (fds : Array FieldInfo := #[]) : ClassFile where
  minorVersion := 0
  majorVersion := 65
  constantPool := pool
  accessFlags := fl
  thisClass := this
  superClass := sup
  interfaces := ifs
  fields := fds
  methods := ms
  attributes := attrs
def plain (name : String) (sup : Option ClassId) : Class where
  name := name
  kind := .ordinary
  loader := none
  accessFlags := 33
  super := sup
  interfaces := #[]
  cf := none
  fields := #[]
  methods := #[]
  instanceTypes := #[]
  staticTypes := #[]
  resolved := #[]
  callSites := []
  init := .initialized
  statics := none
  mirror := none

def pool0 : Array CpInfo := pool [(5, u "<init>"), (0, u "()V"), (1, .class_ 10), (1, u "java/lang/Object")] 113

def k0m0 : Method := { name := "<init>", desc := "()V", sig := { parameters := [], returnType := none }, accessFlags := 1, code := none }
/-- java/lang/Object -/
def k0 : Class := { plain "java/lang/Object" none with
  accessFlags := 33
  interfaces := #[]
  cf := some (fileOf pool0 8 #[] #[{ accessFlags := 1, nameIndex := 5, descriptorIndex := 6, attributes := #[] }] 33 0 #[] #[])
  fields := #[]
  methods := #[k0m0]
  instanceTypes := #[]
  staticTypes := #[]
  resolved := Array.replicate 124 none
  statics := none }

def pool1 : Array CpInfo := pool [(2, .class_ 4), (1, u "java/lang/Object"), (0, u "<init>"), (0, u "()V"), (0, .integer 2147483647), (0, .methodref 9 10), (0, .class_ 11), (0, .nameAndType 12 13), (0, u "com/example/protomata/protomata/PartitionPairsAlikePinLaw"), (0, u "same"), (0, u "([IIII)J"), (0, .methodref 15 16), (0, .class_ 17), (0, .nameAndType 18 19), (0, u "com/example/protomata/protomata/Partition"), (0, u "pairsAlike"), (0, u "([I)J"), (2, u "law"), (0, u "(IIIIII)Z")] 5

def k1m0 : Method := { name := "<init>", desc := "()V", sig := { parameters := [], returnType := none }, accessFlags := 1, code := none }
def k1c1 : Code := { maxStack := 6, maxLocals := 11, code := code, exceptionTable := #[], attributes := #[] }
def k1m1 : Method := { name := "law", desc := "(IIIIII)Z", sig := { parameters := [.int, .int, .int, .int, .int, .int], returnType := some .boolean }, accessFlags := 9, code := some k1c1 }
def k1c2 : Code := { maxStack := 3, maxLocals := 4, code := method_3_code, exceptionTable := #[], attributes := #[] }
def k1m2 : Method := { name := "same", desc := "([IIII)J", sig := { parameters := [(.array .int), .int, .int, .int], returnType := some .long }, accessFlags := 10, code := some k1c2 }
/-- com/example/protomata/protomata/PartitionPairsAlikePinLaw -/
def k1 : Class := { plain "com/example/protomata/protomata/PartitionPairsAlikePinLaw" (some 0) with
  accessFlags := 49
  interfaces := #[]
  cf := some (fileOf pool1 9 #[] #[{ accessFlags := 1, nameIndex := 5, descriptorIndex := 6, attributes := #[] }, { accessFlags := 9, nameIndex := 22, descriptorIndex := 23, attributes := #[] }, { accessFlags := 10, nameIndex := 12, descriptorIndex := 13, attributes := #[] }] 49 2 #[] #[])
  fields := #[]
  methods := #[k1m0, k1m1, k1m2]
  instanceTypes := #[]
  staticTypes := #[]
  resolved := Array.replicate 29 none
  statics := none }

def pool2 : Array CpInfo := pool [(2, .class_ 4), (1, u "java/lang/Object"), (0, u "<init>"), (0, u "()V"), (1, .class_ 10), (1, u "com/example/protomata/protomata/Partition"), (0, u "cells"), (0, u "[I"), (2, u "stamps"), (2, u "sizes"), (2, u "answerCount"), (0, u "I"), (8, u "stamp"), (11, u "groupCount"), (2, u "squares"), (0, u "J"), (0, .long 2), (25, u "pairsAlike"), (0, u "([I)J")] 2

def k2m0 : Method := { name := "<init>", desc := "()V", sig := { parameters := [], returnType := none }, accessFlags := 0, code := none }
def k2c1 : Code := { maxStack := 6, maxLocals := 8, code := prog_101_method_9_code, exceptionTable := #[], attributes := #[] }
def k2m1 : Method := { name := "pairsAlike", desc := "([I)J", sig := { parameters := [(.array .int)], returnType := some .long }, accessFlags := 8, code := some k2c1 }
/-- com/example/protomata/protomata/Partition -/
def k2 : Class := { plain "com/example/protomata/protomata/Partition" (some 0) with
  accessFlags := 48
  interfaces := #[]
  cf := some (fileOf pool2 8 #[] #[{ accessFlags := 0, nameIndex := 5, descriptorIndex := 6, attributes := #[] }, { accessFlags := 8, nameIndex := 74, descriptorIndex := 75, attributes := #[] }] 48 2 #[] #[{ accessFlags := 2, nameIndex := 21, descriptorIndex := 22, attributes := #[] }, { accessFlags := 2, nameIndex := 11, descriptorIndex := 12, attributes := #[] }, { accessFlags := 2, nameIndex := 15, descriptorIndex := 12, attributes := #[] }, { accessFlags := 2, nameIndex := 31, descriptorIndex := 22, attributes := #[] }, { accessFlags := 2, nameIndex := 18, descriptorIndex := 12, attributes := #[] }, { accessFlags := 2, nameIndex := 43, descriptorIndex := 22, attributes := #[] }, { accessFlags := 2, nameIndex := 46, descriptorIndex := 47, attributes := #[] }])
  fields := #[{ name := "answerCount", type := .int, accessFlags := 2, slot := 0, constantValue := 0 }, { name := "cells", type := (.array .int), accessFlags := 2, slot := 1, constantValue := 0 }, { name := "stamps", type := (.array .int), accessFlags := 2, slot := 2, constantValue := 0 }, { name := "stamp", type := .int, accessFlags := 2, slot := 3, constantValue := 0 }, { name := "sizes", type := (.array .int), accessFlags := 2, slot := 4, constantValue := 0 }, { name := "groupCount", type := .int, accessFlags := 2, slot := 5, constantValue := 0 }, { name := "squares", type := .long, accessFlags := 2, slot := 6, constantValue := 0 }]
  methods := #[k2m0, k2m1]
  instanceTypes := #[.int, (.array .int), (.array .int), .int, (.array .int), .int, .long]
  staticTypes := #[]
  resolved := Array.replicate 78 none
  statics := none }

def pool3 : Array CpInfo := pool [(1, u "java/lang/Cloneable"), (0, .class_ 1), (0, u "java/lang/Object"), (0, .class_ 3)] 3

/-- java/lang/Cloneable -/
def k3 : Class := { plain "java/lang/Cloneable" (some 0) with
  accessFlags := 1537
  interfaces := #[]
  cf := some (fileOf pool3 2 #[] #[] 1537 4 #[] #[])
  fields := #[]
  methods := #[]
  instanceTypes := #[]
  staticTypes := #[]
  resolved := Array.replicate 8 none
  statics := none }

def pool4 : Array CpInfo := pool [(1, u "java/io/Serializable"), (0, .class_ 1), (0, u "java/lang/Object"), (0, .class_ 3)] 3

/-- java/io/Serializable -/
def k4 : Class := { plain "java/io/Serializable" (some 0) with
  accessFlags := 1537
  interfaces := #[]
  cf := some (fileOf pool4 2 #[] #[] 1537 4 #[] #[])
  fields := #[]
  methods := #[]
  instanceTypes := #[]
  staticTypes := #[]
  resolved := Array.replicate 8 none
  statics := none }

/-- the primitive byte -/
def k5 : Class := { plain "byte" none with kind := .primitive 'B', accessFlags := 0x411 }
/-- [B -/
def k6 : Class := { plain "[B" (some 0) with kind := .array 5 .byte, interfaces := #[3, 4], accessFlags := 1041 }

/-- the primitive int -/
def k7 : Class := { plain "int" none with kind := .primitive 'I', accessFlags := 0x411 }
/-- [I -/
def k8 : Class := { plain "[I" (some 0) with kind := .array 7 .int, interfaces := #[3, 4], accessFlags := 1041 }

def heap : Heap := #[]
def classes : Array Class := #[k0, k1, k2, k3, k4, k5, k6, k7, k8]
def interned : List (Array UInt16 × Addr) := []
def slotsUsed : Nat := 0
def theMethod : MethodId := ⟨1, 1⟩
def args0 : Array Value := #[.int 5, .int 7, .int 3, .int 2, .int 6, .int 8]
def aboutOver (below : List Frame) : State where
  vm := { classes := classes, interned := interned.toArray }
  heap := heap
  slotsUsed := slotsUsed
  threads := #[{ frames := .invoking theMethod args0 :: below }]
def below0 : List Frame := [.native { method := ⟨0, 0⟩, args := #[] }]
def about1 : State := aboutOver below0
def p0 : Program := .bare "" "" ""
def e0 : Env := launch0.env 0 0 0
theorem w_frames : about1.frames = Frame.invoking theMethod args0 :: below0 := rfl
set_option maxRecDepth 65536 in
theorem w_args : argsFit about1.vm theMethod args0 = true := by decide +kernel
set_option maxRecDepth 65536 in
theorem w_heap : heapFits about1 = true := by decide +kernel
set_option maxRecDepth 65536 in
theorem w_runnable : about1.curStatus? = some .runnable := by decide +kernel
set_option maxRecDepth 65536 in
theorem w_alone : about1.alone = true := by decide +kernel
set_option maxRecDepth 65536 in
theorem w_named : about1.methodNamed? x = some theMethod := by decide +kernel
set_option maxRecDepth 65536 in
theorem w_hears : about1.hears theMethod below0 = true := by decide +kernel
set_option maxRecDepth 65536 in
theorem w_ripe : about1.ripe theMethod args0 below0 = true := by decide +kernel
theorem w_running : about1.status = .running := rfl
set_option maxRecDepth 65536 in
theorem w_room : about1.hasRoom e0.platform room_1 = true :=
  launch0.hasRoom_least _ room_1 (by decide +kernel) (by decide +kernel) (by decide +kernel) (by decide +kernel) (by decide +kernel) (by decide +kernel)
theorem allAtoms_all (ts : List Jvm.Cond) (a : Array Jvm.Value) (st : Jvm.State) : (allAtoms ts).before a st = ts.all (fun c => c.before a st) := by
  induction ts with
  | nil => rfl
  | cons c t ih =>
    show (Jvm.Cond.and c (allAtoms t)).before a st = _
    rw [Jvm.Cond.before_and, ih, List.all_cons]
def words1 : List Jvm.Cond := Jvm.Cond.code x code maxLocals ret :: tables_1
/-- a 'code' word, met by the world's own term for the bytes: nothing is compared byte by byte -/
theorem code_word {y : MethodName} {bytes : ByteArray} {mx : Nat} {rt : Option FieldType} {a : Array Value} {s : State} {m : MethodId} {meth : Method} {c : Code} (h1 : s.methodNamed? y = some m) (h2 : s.vm.method? m = some meth) (h3 : meth.code = some c) (h4 : c.code = bytes)
    (h5 : (c.maxLocals == mx && c.exceptionTable.isEmpty && decide (c.maxStack ≤ mostOperands) && decide (meth.sig.returnType = rt) && !meth.locks && decide (parseMethodDescriptor y.desc = some meth.sig)) = true) : (Jvm.Cond.code y bytes mx rt).before a s = true := by
  simp only [Bool.and_eq_true, beq_iff_eq, Bool.not_eq_true', decide_eq_true_eq] at h5
  obtain ⟨⟨⟨⟨⟨g1, g2⟩, g3⟩, g4⟩, g5⟩, g6⟩ := h5
  simp [Cond.before, Cond.holds, Cond.value, h1, h2, h3, h4, g1, g2, g3, g4, g5, g6]
def isCode : Jvm.Cond → Bool
  | .code _ _ _ _ => true
  | _ => false
theorem all_split {L : List Jvm.Cond} {P : Jvm.Cond → Bool} (h1 : L.all (fun c => isCode c || P c) = true) (h2 : ∀ c ∈ L.filter isCode, P c = true) : L.all P = true := by
  refine List.all_eq_true.mpr fun c hc => ?_
  have h := List.all_eq_true.mp h1 c hc
  rcases Bool.eq_false_or_eq_true (isCode c) with hi | hi
  · exact h2 c (List.mem_filter.mpr ⟨hc, hi⟩)
  · simpa [hi] using h
set_option maxRecDepth 65536 in
theorem w_c0 : (Jvm.Cond.code x code maxLocals ret).before args0 about1 = true := code_word (m := ⟨1, 1⟩) (meth := k1m1) (c := k1c1) (by decide +kernel) rfl rfl rfl (by decide +kernel)
set_option maxRecDepth 65536 in
theorem w_c1 : (Jvm.Cond.code ({ cls := "com/example/protomata/protomata/PartitionPairsAlikePinLaw", name := "same", desc := "([IIII)J" } : Jvm.MethodName) method_3_code (4 : Nat) (Option.some Jvm.ClassFile.FieldType.long)).before args0 about1 = true := code_word (m := ⟨1, 2⟩) (meth := k1m2) (c := k1c2) (by decide +kernel) rfl rfl rfl (by decide +kernel)
set_option maxRecDepth 65536 in
theorem w_c2 : (Jvm.Cond.code ({ cls := "com/example/protomata/protomata/Partition", name := "pairsAlike", desc := "([I)J" } : Jvm.MethodName) prog_101_method_9_code (8 : Nat) (Option.some Jvm.ClassFile.FieldType.long)).before args0 about1 = true := code_word (m := ⟨2, 1⟩) (meth := k2m1) (c := k2c1) (by decide +kernel) rfl rfl rfl (by decide +kernel)
def codes1 : List Jvm.Cond := [Jvm.Cond.code x code maxLocals ret, Jvm.Cond.code ({ cls := "com/example/protomata/protomata/PartitionPairsAlikePinLaw", name := "same", desc := "([IIII)J" } : Jvm.MethodName) method_3_code (4 : Nat) (Option.some Jvm.ClassFile.FieldType.long), Jvm.Cond.code ({ cls := "com/example/protomata/protomata/Partition", name := "pairsAlike", desc := "([I)J" } : Jvm.MethodName) prog_101_method_9_code (8 : Nat) (Option.some Jvm.ClassFile.FieldType.long)]
set_option maxRecDepth 65536 in
theorem codes_eq : words1.filter isCode = codes1 := rfl
theorem w_codes : ∀ c ∈ words1.filter isCode, c.before args0 about1 = true := by
  rw [codes_eq]
  intro c hc
  simp only [codes1, List.mem_cons, List.not_mem_nil, or_false] at hc
  rcases hc with rfl | rfl | rfl
  · exact w_c0
  · exact w_c1
  · exact w_c2
set_option maxRecDepth 65536 in
theorem w_t1 : words1.all (fun c => isCode c || c.before args0 about1) = true := by decide +kernel
theorem w_tables : (allAtoms (Jvm.Cond.code x code maxLocals ret :: tables_1)).before args0 about1 = true := by
  rw [allAtoms_all]
  show words1.all (fun c => c.before args0 about1) = true
  refine all_split ?_ w_codes
  rw [w_t1]
set_option maxRecDepth 65536 in
theorem w_case : (Jvm.Cond.and given_1 narrow_1).before args0 about1 = true := by decide +kernel
theorem w_applies : (headSpec (Jvm.Cond.code x code maxLocals ret :: tables_1) room_1).applies x e0.platform about1 = true :=
  (Spec.applies_iff w_frames).mpr ⟨w_running, w_runnable, w_alone, w_named, w_hears, w_ripe, w_room, w_tables⟩
theorem atStart : AtStart classFile x code maxLocals ret World_1 tables_1 room_1 Calls_1 rest_1 Pre_1 launch0 p0 e0 about1 theMethod args0 below0 :=
  ⟨lists_1, trivial, launch0.admits_env _ _ _, launch0.least_env, fairChoices_fair.cas, fairChoices_fair.clock, w_frames, w_args, w_heap, w_applies, trivial, trivial, w_case⟩
end start1
theorem witness_1 : WitnessClaimed_1 := ⟨start1.p0, start1.e0, start1.about1, start1.theMethod, start1.args0, start1.below0, start1.atStart⟩
end Jvm.Pilot.@@N@@
