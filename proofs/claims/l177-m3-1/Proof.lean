import JvmDerived
import JvmDerived.Pilot.@@N@@Statement
import JvmDerived.Pilot.@@N@@Code
set_option linter.unusedVariables false
set_option linter.unusedSimpArgs false
namespace Jvm.RoadKit
open Sem ClassFile Op Lib Jvm.Stand Jvm.Free Jvm.LawKit
section New
variable {p : Program} {l : Launch} {e : Env} {R : Room} {s : State} {m : MethodId} {args : Array Value} {below : List Frame} {meth : Method} {c : Code} {T : State} {locs : List Loc} {cells slots : Nat}
theorem retI (X : Stand p l e R s m args below meth c T locs cells slots) (hx : p.tables.exec = Jvm.exec) {pc : Nat} {Ls : Array Slot} {z : Int32} {rest : List Value} (hret : meth.sig.returnType = some .int) (hd : decode c.code pc = .ok (.ireturn, 1)) {fs : List Frame}
    (hl : ∀ (f : JFrame) (acts : List Action), f.method = m → f.locked = none → f.entered = [] → (doReturn e (T.setTop f) acts (some (.int z))).1 = T.setFrames fs) : Steps p.tables e below (T.setTop (mkF m pc Ls (.int z :: rest))) (T.setFrames fs) := by
  have hm' : T.vm.method? m = some meth := X.method'
  have hn : narrow .int (.int z) = .int z := rfl
  show Steps p.tables e below (T.setTop { method := m, pc := pc, locals := Ls, stack := _ :: rest, locked := none }) _
  jvm_step X.here [X.here.top, hx, hd, hm', hret, hn]
  first | (intro acts; rw [hl _ acts rfl rfl rfl]) | rw [hl _ _ rfl rfl rfl]
  exact Steps.refl _
end New
end Jvm.RoadKit
namespace Jvm.Pilot.@@N@@
open Jvm Jvm.ClassFile Sem Op Lib Jvm.Free Jvm.Stand Jvm.LawKit Jvm.RoadKit Bundle Jvm.Pilot.@@N@@.Jvm.D
def Wp (p : Program) (e : Env) (s : State) (below : List Frame) (C S : Nat) (Q : Option Value → Heap → List Loc → Prop) (T : State) (g : JFrame) : Prop :=
  ∃ s₂ o, Steps p.tables e below (T.setTop g) s₂ ∧ s₂.status = .running ∧ Ended s₂ below o ∧ ∃ v L, o = .returned v ∧ Q v s₂.heap L ∧ FrameEnd s o s₂ L C S
section OwnW
variable {p : Program} {l : Launch} {e : Env} {R : Room} {s : State} {m : MethodId} {args : Array Value} {below : List Frame} {meth : Method} {c : Code} {T : State} {locs : List Loc} {cells slots : Nat} {C S : Nat} {Q : Option Value → Heap → List Loc → Prop} {pc pc' : Nat} {Ls : Array Slot} {st : List Value}
theorem Wp.via {T' : State} {g g' : JFrame} (st : ∀ t, Steps p.tables e below (T'.setTop g') t → Steps p.tables e below (T.setTop g) t) (k : Wp p e s below C S Q T' g') : Wp p e s below C S Q T g := by
  obtain ⟨s₂, o, h1, h2⟩ := k
  exact ⟨s₂, o, st _ h1, h2⟩
theorem w_iload (X : Stand p l e R s m args below meth c T locs cells slots) (hx : p.tables.exec = Jvm.exec) {k : Nat} {v : Int32} (hd : decode c.code pc = .ok (.iload k, 2)) (hl : Ls[k]? = some (.val (.int v))) (hp : pc + 2 = pc') (k : Wp p e s below C S Q T (mkF m pc' Ls (Value.int v :: st))) : Wp p e s below C S Q T (mkF m pc Ls (st)) := by
  subst hp
  exact Wp.via (fun _ h => XS.iload X.here hx rfl hd hl h) k
theorem w_iloadN (X : Stand p l e R s m args below meth c T locs cells slots) (hx : p.tables.exec = Jvm.exec) {k : Fin 4} {v : Int32} (hd : decode c.code pc = .ok (.iload_n k, 1)) (hl : Ls[k.val]? = some (.val (.int v))) (hp : pc + 1 = pc') (k : Wp p e s below C S Q T (mkF m pc' Ls (Value.int v :: st))) : Wp p e s below C S Q T (mkF m pc Ls (st)) := by
  subst hp
  exact Wp.via (fun _ h => XS.iloadN X.here hx rfl hd hl h) k
theorem w_lload (X : Stand p l e R s m args below meth c T locs cells slots) (hx : p.tables.exec = Jvm.exec) {k : Nat} {v : Int64} (hd : decode c.code pc = .ok (.lload k, 2)) (hl : Ls[k]? = some (.val (.long v))) (hp : pc + 2 = pc') (k : Wp p e s below C S Q T (mkF m pc' Ls (Value.long v :: st))) : Wp p e s below C S Q T (mkF m pc Ls (st)) := by
  subst hp
  exact Wp.via (fun _ h => XT.lload X.here hx rfl hd hl h) k
theorem w_lloadN (X : Stand p l e R s m args below meth c T locs cells slots) (hx : p.tables.exec = Jvm.exec) {k : Fin 4} {v : Int64} (hd : decode c.code pc = .ok (.lload_n k, 1)) (hl : Ls[k.val]? = some (.val (.long v))) (hp : pc + 1 = pc') (k : Wp p e s below C S Q T (mkF m pc' Ls (Value.long v :: st))) : Wp p e s below C S Q T (mkF m pc Ls (st)) := by
  subst hp
  exact Wp.via (fun _ h => XT.lloadN X.here hx rfl hd hl h) k
theorem w_aload (X : Stand p l e R s m args below meth c T locs cells slots) (hx : p.tables.exec = Jvm.exec) {k : Nat} {v : Value} (hd : decode c.code pc = .ok (.aload k, 2)) (hl : Ls[k]? = some (.val v)) (hv : v.isRef = true) (hp : pc + 2 = pc') (k : Wp p e s below C S Q T (mkF m pc' Ls (v :: st))) : Wp p e s below C S Q T (mkF m pc Ls (st)) := by
  subst hp
  exact Wp.via (fun _ h => XS.aload X.here hx rfl hd hl hv h) k
theorem w_aloadN (X : Stand p l e R s m args below meth c T locs cells slots) (hx : p.tables.exec = Jvm.exec) {k : Fin 4} {v : Value} (hd : decode c.code pc = .ok (.aload_n k, 1)) (hl : Ls[k.val]? = some (.val v)) (hv : v.isRef = true) (hp : pc + 1 = pc') (k : Wp p e s below C S Q T (mkF m pc' Ls (v :: st))) : Wp p e s below C S Q T (mkF m pc Ls (st)) := by
  subst hp
  exact Wp.via (fun _ h => XS.aloadN X.here hx rfl hd hl hv h) k
theorem w_istore (X : Stand p l e R s m args below meth c T locs cells slots) (hx : p.tables.exec = Jvm.exec) {k : Nat} {v : Int32} {l' : Array Slot} (hd : decode c.code pc = .ok (.istore k, 2)) (hl : storeLocals Ls k (Value.int v) = some l') (hp : pc + 2 = pc') (k : Wp p e s below C S Q T (mkF m pc' l' (st))) : Wp p e s below C S Q T (mkF m pc Ls (Value.int v :: st)) := by
  subst hp
  exact Wp.via (fun _ h => XS.istore X.here hx rfl hd rfl hl h) k
theorem w_istoreN (X : Stand p l e R s m args below meth c T locs cells slots) (hx : p.tables.exec = Jvm.exec) {k : Fin 4} {v : Int32} {l' : Array Slot} (hd : decode c.code pc = .ok (.istore_n k, 1)) (hl : storeLocals Ls k.val (Value.int v) = some l') (hp : pc + 1 = pc') (k : Wp p e s below C S Q T (mkF m pc' l' (st))) : Wp p e s below C S Q T (mkF m pc Ls (Value.int v :: st)) := by
  subst hp
  exact Wp.via (fun _ h => XS.istoreN X.here hx rfl hd rfl hl h) k
theorem w_lstore (X : Stand p l e R s m args below meth c T locs cells slots) (hx : p.tables.exec = Jvm.exec) {k : Nat} {v : Int64} {l' : Array Slot} (hd : decode c.code pc = .ok (.lstore k, 2)) (hl : storeLocals Ls k (Value.long v) = some l') (hp : pc + 2 = pc') (k : Wp p e s below C S Q T (mkF m pc' l' (st))) : Wp p e s below C S Q T (mkF m pc Ls (Value.long v :: st)) := by
  subst hp
  exact Wp.via (fun _ h => XT.lstore X.here hx rfl hd rfl hl h) k
theorem w_lstoreN (X : Stand p l e R s m args below meth c T locs cells slots) (hx : p.tables.exec = Jvm.exec) {k : Fin 4} {v : Int64} {l' : Array Slot} (hd : decode c.code pc = .ok (.lstore_n k, 1)) (hl : storeLocals Ls k.val (Value.long v) = some l') (hp : pc + 1 = pc') (k : Wp p e s below C S Q T (mkF m pc' l' (st))) : Wp p e s below C S Q T (mkF m pc Ls (Value.long v :: st)) := by
  subst hp
  exact Wp.via (fun _ h => XT.lstoreN X.here hx rfl hd rfl hl h) k
theorem w_astore (X : Stand p l e R s m args below meth c T locs cells slots) (hx : p.tables.exec = Jvm.exec) {k : Nat} {v : Value} {l' : Array Slot} (hd : decode c.code pc = .ok (.astore k, 2)) (hv : v.isRef = true) (hl : storeLocals Ls k v = some l') (hp : pc + 2 = pc') (k : Wp p e s below C S Q T (mkF m pc' l' (st))) : Wp p e s below C S Q T (mkF m pc Ls (v :: st)) := by
  subst hp
  exact Wp.via (fun _ h => XS.astore X.here hx rfl hd rfl hv hl h) k
theorem w_astoreN (X : Stand p l e R s m args below meth c T locs cells slots) (hx : p.tables.exec = Jvm.exec) {k : Fin 4} {v : Value} {l' : Array Slot} (hd : decode c.code pc = .ok (.astore_n k, 1)) (hv : v.isRef = true) (hl : storeLocals Ls k.val v = some l') (hp : pc + 1 = pc') (k : Wp p e s below C S Q T (mkF m pc' l' (st))) : Wp p e s below C S Q T (mkF m pc Ls (v :: st)) := by
  subst hp
  exact Wp.via (fun _ h => XS.astoreN X.here hx rfl hd rfl hv hl h) k
theorem w_iconst (X : Stand p l e R s m args below meth c T locs cells slots) (hx : p.tables.exec = Jvm.exec) {i : Int} {v : Int32} (hd : decode c.code pc = .ok (.iconst i, 1)) (hv : Int32.ofInt i = v) (hp : pc + 1 = pc') (k : Wp p e s below C S Q T (mkF m pc' Ls (Value.int v :: st))) : Wp p e s below C S Q T (mkF m pc Ls (st)) := by
  subst hp hv
  exact Wp.via (fun _ h => XS.iconst X.here hx rfl hd h) k
theorem w_bipush (X : Stand p l e R s m args below meth c T locs cells slots) (hx : p.tables.exec = Jvm.exec) {i : Int} {v : Int32} (hd : decode c.code pc = .ok (.bipush i, 2)) (hv : (Int8.ofInt i).toInt32 = v) (hp : pc + 2 = pc') (k : Wp p e s below C S Q T (mkF m pc' Ls (Value.int v :: st))) : Wp p e s below C S Q T (mkF m pc Ls (st)) := by
  subst hp hv
  exact Wp.via (fun _ h => XS.bipush X.here hx rfl hd h) k
theorem w_sipush (X : Stand p l e R s m args below meth c T locs cells slots) (hx : p.tables.exec = Jvm.exec) {i : Int} {v : Int32} (hd : decode c.code pc = .ok (.sipush i, 3)) (hv : (Int16.ofInt i).toInt32 = v) (hp : pc + 3 = pc') (k : Wp p e s below C S Q T (mkF m pc' Ls (Value.int v :: st))) : Wp p e s below C S Q T (mkF m pc Ls (st)) := by
  subst hp hv
  exact Wp.via (fun _ h => XS.sipush X.here hx rfl hd h) k
theorem w_lconst (X : Stand p l e R s m args below meth c T locs cells slots) (hx : p.tables.exec = Jvm.exec) {k : Fin 2} {v : Int64} (hd : decode c.code pc = .ok (.lconst k, 1)) (hv : Int64.ofNat k = v) (hp : pc + 1 = pc') (k : Wp p e s below C S Q T (mkF m pc' Ls (Value.long v :: st))) : Wp p e s below C S Q T (mkF m pc Ls (st)) := by
  subst hp hv
  exact Wp.via (fun _ h => XT.lconst X.here hx rfl hd h) k
theorem w_aconst (X : Stand p l e R s m args below meth c T locs cells slots) (hx : p.tables.exec = Jvm.exec)  (hd : decode c.code pc = .ok (.aconst_null, 1))  (hp : pc + 1 = pc') (k : Wp p e s below C S Q T (mkF m pc' Ls (Value.null :: st))) : Wp p e s below C S Q T (mkF m pc Ls (st)) := by
  subst hp
  exact Wp.via (fun _ h => XS.aconstNull X.here hx rfl hd h) k
theorem w_ldc (X : Stand p l e R s m args below meth c T locs cells slots) (hx : p.tables.exec = Jvm.exec) {i : Nat} {v : Int32} {own : String} (hd : decode c.code pc = .ok (.ldc i, 2)) (hown : s.vm.findClass own = some m.cls) (hc : (Jvm.Cond.constant own i v).before args s = true) (hp : pc + 2 = pc') (k : Wp p e s below C S Q T (mkF m pc' Ls (Value.int v :: st))) : Wp p e s below C S Q T (mkF m pc Ls (st)) := by
  subst hp
  exact Wp.via (fun _ h => X.ldcInt hx hown hc (g := mkF m pc Ls st) rfl hd _ h) k
theorem w_ldc2 (X : Stand p l e R s m args below meth c T locs cells slots) (hx : p.tables.exec = Jvm.exec) {i : Nat} {v : Int64} {own : String} (hd : decode c.code pc = .ok (.ldc2_w i, 3)) (hown : s.vm.findClass own = some m.cls) (hc : (Jvm.Cond.constantLong own i v).before args s = true) (hp : pc + 3 = pc') (k : Wp p e s below C S Q T (mkF m pc' Ls (Value.long v :: st))) : Wp p e s below C S Q T (mkF m pc Ls (st)) := by
  subst hp
  exact Wp.via (fun _ h => X.ldc2Long hx hown hc (g := mkF m pc Ls st) rfl hd _ h) k
theorem w_iadd (X : Stand p l e R s m args below meth c T locs cells slots) (hx : p.tables.exec = Jvm.exec) {x y : Int32} (hd : decode c.code pc = .ok (.iadd, 1))  (hp : pc + 1 = pc') (k : Wp p e s below C S Q T (mkF m pc' Ls (Value.int (x + y) :: st))) : Wp p e s below C S Q T (mkF m pc Ls (Value.int y :: Value.int x :: st)) := by
  subst hp
  exact Wp.via (fun _ h => XS.iadd X.here hx rfl hd rfl h) k
theorem w_isub (X : Stand p l e R s m args below meth c T locs cells slots) (hx : p.tables.exec = Jvm.exec) {x y : Int32} (hd : decode c.code pc = .ok (.isub, 1))  (hp : pc + 1 = pc') (k : Wp p e s below C S Q T (mkF m pc' Ls (Value.int (x - y) :: st))) : Wp p e s below C S Q T (mkF m pc Ls (Value.int y :: Value.int x :: st)) := by
  subst hp
  exact Wp.via (fun _ h => XS.isub X.here hx rfl hd rfl h) k
theorem w_iand (X : Stand p l e R s m args below meth c T locs cells slots) (hx : p.tables.exec = Jvm.exec) {x y : Int32} (hd : decode c.code pc = .ok (.iand, 1))  (hp : pc + 1 = pc') (k : Wp p e s below C S Q T (mkF m pc' Ls (Value.int (x &&& y) :: st))) : Wp p e s below C S Q T (mkF m pc Ls (Value.int y :: Value.int x :: st)) := by
  subst hp
  exact Wp.via (fun _ h => XS.iand X.here hx rfl hd rfl h) k
theorem w_imul (X : Stand p l e R s m args below meth c T locs cells slots) (hx : p.tables.exec = Jvm.exec) {x y : Int32} (hd : decode c.code pc = .ok (.imul, 1))  (hp : pc + 1 = pc') (k : Wp p e s below C S Q T (mkF m pc' Ls (Value.int (x * y) :: st))) : Wp p e s below C S Q T (mkF m pc Ls (Value.int y :: Value.int x :: st)) := by
  subst hp
  exact Wp.via (fun _ h => XS.imul X.here hx rfl hd rfl h) k
theorem w_ixor (X : Stand p l e R s m args below meth c T locs cells slots) (hx : p.tables.exec = Jvm.exec) {x y : Int32} (hd : decode c.code pc = .ok (.ixor, 1))  (hp : pc + 1 = pc') (k : Wp p e s below C S Q T (mkF m pc' Ls (Value.int (x ^^^ y) :: st))) : Wp p e s below C S Q T (mkF m pc Ls (Value.int y :: Value.int x :: st)) := by
  subst hp
  exact Wp.via (fun _ h => XT.ixor X.here hx rfl hd rfl h) k
theorem w_ior (X : Stand p l e R s m args below meth c T locs cells slots) (hx : p.tables.exec = Jvm.exec) {x y : Int32} (hd : decode c.code pc = .ok (.ior, 1))  (hp : pc + 1 = pc') (k : Wp p e s below C S Q T (mkF m pc' Ls (Value.int (x ||| y) :: st))) : Wp p e s below C S Q T (mkF m pc Ls (Value.int y :: Value.int x :: st)) := by
  subst hp
  exact Wp.via (fun _ h => XT.ior X.here hx rfl hd rfl h) k
theorem w_ishl (X : Stand p l e R s m args below meth c T locs cells slots) (hx : p.tables.exec = Jvm.exec) {x y : Int32} (hd : decode c.code pc = .ok (.ishl, 1))  (hp : pc + 1 = pc') (k : Wp p e s below C S Q T (mkF m pc' Ls (Value.int (x <<< (y &&& 31)) :: st))) : Wp p e s below C S Q T (mkF m pc Ls (Value.int y :: Value.int x :: st)) := by
  subst hp
  exact Wp.via (fun _ h => XT.ishl X.here hx rfl hd rfl h) k
theorem w_ishr (X : Stand p l e R s m args below meth c T locs cells slots) (hx : p.tables.exec = Jvm.exec) {x y : Int32} (hd : decode c.code pc = .ok (.ishr, 1))  (hp : pc + 1 = pc') (k : Wp p e s below C S Q T (mkF m pc' Ls (Value.int (x >>> (y &&& 31)) :: st))) : Wp p e s below C S Q T (mkF m pc Ls (Value.int y :: Value.int x :: st)) := by
  subst hp
  exact Wp.via (fun _ h => XT.ishr X.here hx rfl hd rfl h) k
theorem w_iushr (X : Stand p l e R s m args below meth c T locs cells slots) (hx : p.tables.exec = Jvm.exec) {x y : Int32} (hd : decode c.code pc = .ok (.iushr, 1))  (hp : pc + 1 = pc') (k : Wp p e s below C S Q T (mkF m pc' Ls (Value.int (XT.ushr x y) :: st))) : Wp p e s below C S Q T (mkF m pc Ls (Value.int y :: Value.int x :: st)) := by
  subst hp
  exact Wp.via (fun _ h => XT.iushr X.here hx rfl hd rfl h) k
theorem w_idiv (X : Stand p l e R s m args below meth c T locs cells slots) (hx : p.tables.exec = Jvm.exec) {x y : Int32} (hd : decode c.code pc = .ok (.idiv, 1)) (hy : y ≠ 0) (hp : pc + 1 = pc') (k : Wp p e s below C S Q T (mkF m pc' Ls (Value.int (x / y) :: st))) : Wp p e s below C S Q T (mkF m pc Ls (Value.int y :: Value.int x :: st)) := by
  subst hp
  exact Wp.via (fun _ h => XS.idiv X.here hx rfl hd rfl hy h) k
theorem w_irem (X : Stand p l e R s m args below meth c T locs cells slots) (hx : p.tables.exec = Jvm.exec) {x y : Int32} (hd : decode c.code pc = .ok (.irem, 1)) (hy : y ≠ 0) (hp : pc + 1 = pc') (k : Wp p e s below C S Q T (mkF m pc' Ls (Value.int (x % y) :: st))) : Wp p e s below C S Q T (mkF m pc Ls (Value.int y :: Value.int x :: st)) := by
  subst hp
  exact Wp.via (fun _ h => iremM X hx rfl hd rfl hy h) k
theorem w_ladd (X : Stand p l e R s m args below meth c T locs cells slots) (hx : p.tables.exec = Jvm.exec) {x y : Int64} (hd : decode c.code pc = .ok (.ladd, 1))  (hp : pc + 1 = pc') (k : Wp p e s below C S Q T (mkF m pc' Ls (Value.long (x + y) :: st))) : Wp p e s below C S Q T (mkF m pc Ls (Value.long y :: Value.long x :: st)) := by
  subst hp
  exact Wp.via (fun _ h => XT.ladd X.here hx rfl hd rfl h) k
theorem w_lsub (X : Stand p l e R s m args below meth c T locs cells slots) (hx : p.tables.exec = Jvm.exec) {x y : Int64} (hd : decode c.code pc = .ok (.lsub, 1))  (hp : pc + 1 = pc') (k : Wp p e s below C S Q T (mkF m pc' Ls (Value.long (x - y) :: st))) : Wp p e s below C S Q T (mkF m pc Ls (Value.long y :: Value.long x :: st)) := by
  subst hp
  exact Wp.via (fun _ h => XT.lsub X.here hx rfl hd rfl h) k
theorem w_lmul (X : Stand p l e R s m args below meth c T locs cells slots) (hx : p.tables.exec = Jvm.exec) {x y : Int64} (hd : decode c.code pc = .ok (.lmul, 1))  (hp : pc + 1 = pc') (k : Wp p e s below C S Q T (mkF m pc' Ls (Value.long (x * y) :: st))) : Wp p e s below C S Q T (mkF m pc Ls (Value.long y :: Value.long x :: st)) := by
  subst hp
  exact Wp.via (fun _ h => XT.lmul X.here hx rfl hd rfl h) k
theorem w_land (X : Stand p l e R s m args below meth c T locs cells slots) (hx : p.tables.exec = Jvm.exec) {x y : Int64} (hd : decode c.code pc = .ok (.land, 1))  (hp : pc + 1 = pc') (k : Wp p e s below C S Q T (mkF m pc' Ls (Value.long (x &&& y) :: st))) : Wp p e s below C S Q T (mkF m pc Ls (Value.long y :: Value.long x :: st)) := by
  subst hp
  exact Wp.via (fun _ h => XT.land X.here hx rfl hd rfl h) k
theorem w_lor (X : Stand p l e R s m args below meth c T locs cells slots) (hx : p.tables.exec = Jvm.exec) {x y : Int64} (hd : decode c.code pc = .ok (.lor, 1))  (hp : pc + 1 = pc') (k : Wp p e s below C S Q T (mkF m pc' Ls (Value.long (x ||| y) :: st))) : Wp p e s below C S Q T (mkF m pc Ls (Value.long y :: Value.long x :: st)) := by
  subst hp
  exact Wp.via (fun _ h => XT.lor X.here hx rfl hd rfl h) k
theorem w_lxor (X : Stand p l e R s m args below meth c T locs cells slots) (hx : p.tables.exec = Jvm.exec) {x y : Int64} (hd : decode c.code pc = .ok (.lxor, 1))  (hp : pc + 1 = pc') (k : Wp p e s below C S Q T (mkF m pc' Ls (Value.long (x ^^^ y) :: st))) : Wp p e s below C S Q T (mkF m pc Ls (Value.long y :: Value.long x :: st)) := by
  subst hp
  exact Wp.via (fun _ h => XT.lxor X.here hx rfl hd rfl h) k
theorem w_ldiv (X : Stand p l e R s m args below meth c T locs cells slots) (hx : p.tables.exec = Jvm.exec) {x y : Int64} (hd : decode c.code pc = .ok (.ldiv, 1)) (hy : y ≠ 0) (hp : pc + 1 = pc') (k : Wp p e s below C S Q T (mkF m pc' Ls (Value.long (x / y) :: st))) : Wp p e s below C S Q T (mkF m pc Ls (Value.long y :: Value.long x :: st)) := by
  subst hp
  exact Wp.via (fun _ h => XT.ldiv X.here hx rfl hd rfl hy h) k
theorem w_lrem (X : Stand p l e R s m args below meth c T locs cells slots) (hx : p.tables.exec = Jvm.exec) {x y : Int64} (hd : decode c.code pc = .ok (.lrem, 1)) (hy : y ≠ 0) (hp : pc + 1 = pc') (k : Wp p e s below C S Q T (mkF m pc' Ls (Value.long (x % y) :: st))) : Wp p e s below C S Q T (mkF m pc Ls (Value.long y :: Value.long x :: st)) := by
  subst hp
  exact Wp.via (fun _ h => XT.lrem X.here hx rfl hd rfl hy (by rw [lrem_mod]; exact h)) k
theorem w_lshl (X : Stand p l e R s m args below meth c T locs cells slots) (hx : p.tables.exec = Jvm.exec) {x : Int64} {y : Int32} (hd : decode c.code pc = .ok (.lshl, 1))  (hp : pc + 1 = pc') (k : Wp p e s below C S Q T (mkF m pc' Ls (Value.long (x <<< (y.toInt64 &&& 63)) :: st))) : Wp p e s below C S Q T (mkF m pc Ls (Value.int y :: Value.long x :: st)) := by
  subst hp
  exact Wp.via (fun _ h => XT.lshl X.here hx rfl hd rfl h) k
theorem w_lshr (X : Stand p l e R s m args below meth c T locs cells slots) (hx : p.tables.exec = Jvm.exec) {x : Int64} {y : Int32} (hd : decode c.code pc = .ok (.lshr, 1))  (hp : pc + 1 = pc') (k : Wp p e s below C S Q T (mkF m pc' Ls (Value.long (x >>> (y.toInt64 &&& 63)) :: st))) : Wp p e s below C S Q T (mkF m pc Ls (Value.int y :: Value.long x :: st)) := by
  subst hp
  exact Wp.via (fun _ h => XT.lshr X.here hx rfl hd rfl h) k
theorem w_lushr (X : Stand p l e R s m args below meth c T locs cells slots) (hx : p.tables.exec = Jvm.exec) {x : Int64} {y : Int32} (hd : decode c.code pc = .ok (.lushr, 1))  (hp : pc + 1 = pc') (k : Wp p e s below C S Q T (mkF m pc' Ls (Value.long (XT.ushrL x y) :: st))) : Wp p e s below C S Q T (mkF m pc Ls (Value.int y :: Value.long x :: st)) := by
  subst hp
  exact Wp.via (fun _ h => XT.lushr X.here hx rfl hd rfl h) k
theorem w_lcmp (X : Stand p l e R s m args below meth c T locs cells slots) (hx : p.tables.exec = Jvm.exec) {x y : Int64} (hd : decode c.code pc = .ok (.lcmp, 1))  (hp : pc + 1 = pc') (k : Wp p e s below C S Q T (mkF m pc' Ls (Value.int (XT.cmpL x y) :: st))) : Wp p e s below C S Q T (mkF m pc Ls (Value.long y :: Value.long x :: st)) := by
  subst hp
  exact Wp.via (fun _ h => XT.lcmp X.here hx rfl hd rfl h) k
theorem w_ineg (X : Stand p l e R s m args below meth c T locs cells slots) (hx : p.tables.exec = Jvm.exec) {x : Int32} (hd : decode c.code pc = .ok (.ineg, 1))  (hp : pc + 1 = pc') (k : Wp p e s below C S Q T (mkF m pc' Ls (Value.int (-x) :: st))) : Wp p e s below C S Q T (mkF m pc Ls (Value.int x :: st)) := by
  subst hp
  exact Wp.via (fun _ h => XS.ineg X.here hx rfl hd rfl h) k
theorem w_lneg (X : Stand p l e R s m args below meth c T locs cells slots) (hx : p.tables.exec = Jvm.exec) {x : Int64} (hd : decode c.code pc = .ok (.lneg, 1))  (hp : pc + 1 = pc') (k : Wp p e s below C S Q T (mkF m pc' Ls (Value.long (-x) :: st))) : Wp p e s below C S Q T (mkF m pc Ls (Value.long x :: st)) := by
  subst hp
  exact Wp.via (fun _ h => XT.lneg X.here hx rfl hd rfl h) k
theorem w_i2l (X : Stand p l e R s m args below meth c T locs cells slots) (hx : p.tables.exec = Jvm.exec) {x : Int32} (hd : decode c.code pc = .ok (.i2l, 1))  (hp : pc + 1 = pc') (k : Wp p e s below C S Q T (mkF m pc' Ls (Value.long x.toInt64 :: st))) : Wp p e s below C S Q T (mkF m pc Ls (Value.int x :: st)) := by
  subst hp
  exact Wp.via (fun _ h => XT.i2l X.here hx rfl hd rfl h) k
theorem w_l2i (X : Stand p l e R s m args below meth c T locs cells slots) (hx : p.tables.exec = Jvm.exec) {x : Int64} (hd : decode c.code pc = .ok (.l2i, 1))  (hp : pc + 1 = pc') (k : Wp p e s below C S Q T (mkF m pc' Ls (Value.int x.toInt32 :: st))) : Wp p e s below C S Q T (mkF m pc Ls (Value.long x :: st)) := by
  subst hp
  exact Wp.via (fun _ h => XT.l2i X.here hx rfl hd rfl h) k
theorem w_i2b (X : Stand p l e R s m args below meth c T locs cells slots) (hx : p.tables.exec = Jvm.exec) {x : Int32} (hd : decode c.code pc = .ok (.i2b, 1))  (hp : pc + 1 = pc') (k : Wp p e s below C S Q T (mkF m pc' Ls (Value.int x.toInt8.toInt32 :: st))) : Wp p e s below C S Q T (mkF m pc Ls (Value.int x :: st)) := by
  subst hp
  exact Wp.via (fun _ h => XT.i2b X.here hx rfl hd rfl h) k
theorem w_i2c (X : Stand p l e R s m args below meth c T locs cells slots) (hx : p.tables.exec = Jvm.exec) {x : Int32} (hd : decode c.code pc = .ok (.i2c, 1))  (hp : pc + 1 = pc') (k : Wp p e s below C S Q T (mkF m pc' Ls (Value.int x.toUInt32.toUInt16.toUInt32.toInt32 :: st))) : Wp p e s below C S Q T (mkF m pc Ls (Value.int x :: st)) := by
  subst hp
  exact Wp.via (fun _ h => XT.i2c X.here hx rfl hd rfl h) k
theorem w_iinc (X : Stand p l e R s m args below meth c T locs cells slots) (hx : p.tables.exec = Jvm.exec) {k : Nat} {cst : Int} {v : Int32} {l' : Array Slot} (hd : decode c.code pc = .ok (.iinc k cst, 3)) (hl : Ls[k]? = some (.val (.int v))) (hl' : storeLocals Ls k (.int (v + Int32.ofInt cst)) = some l') (hp : pc + 3 = pc') (k : Wp p e s below C S Q T (mkF m pc' l' (st))) : Wp p e s below C S Q T (mkF m pc Ls (st)) := by
  subst hp
  exact Wp.via (fun _ h => XS.iinc X.here hx rfl hd hl hl' h) k
theorem w_dup (X : Stand p l e R s m args below meth c T locs cells slots) (hx : p.tables.exec = Jvm.exec) {x : Value} (hd : decode c.code pc = .ok (.dup, 1)) (hc : x.category = 1) (hp : pc + 1 = pc') (k : Wp p e s below C S Q T (mkF m pc' Ls (x :: x :: st))) : Wp p e s below C S Q T (mkF m pc Ls (x :: st)) := by
  subst hp
  exact Wp.via (fun _ h => XS.dup X.here hx rfl hd rfl hc h) k
theorem w_dup2 (X : Stand p l e R s m args below meth c T locs cells slots) (hx : p.tables.exec = Jvm.exec) {x y : Value} (hd : decode c.code pc = .ok (.dup2, 1)) (hc : x.category = 1) (hc' : y.category = 1) (hp : pc + 1 = pc') (k : Wp p e s below C S Q T (mkF m pc' Ls (x :: y :: x :: y :: st))) : Wp p e s below C S Q T (mkF m pc Ls (x :: y :: st)) := by
  subst hp
  exact Wp.via (fun _ h => XT.dup2 X.here hx rfl hd rfl hc hc' h) k
theorem w_dup2L (X : Stand p l e R s m args below meth c T locs cells slots) (hx : p.tables.exec = Jvm.exec) {x : Int64} (hd : decode c.code pc = .ok (.dup2, 1))  (hp : pc + 1 = pc') (k : Wp p e s below C S Q T (mkF m pc' Ls (Value.long x :: Value.long x :: st))) : Wp p e s below C S Q T (mkF m pc Ls (Value.long x :: st)) := by
  subst hp
  exact Wp.via (fun _ h => XT.dup2L X.here hx rfl hd rfl h) k
theorem w_dupX1 (X : Stand p l e R s m args below meth c T locs cells slots) (hx : p.tables.exec = Jvm.exec) {x y : Value} (hd : decode c.code pc = .ok (.dup_x1, 1)) (hc : x.category = 1) (hc' : y.category = 1) (hp : pc + 1 = pc') (k : Wp p e s below C S Q T (mkF m pc' Ls (x :: y :: x :: st))) : Wp p e s below C S Q T (mkF m pc Ls (x :: y :: st)) := by
  subst hp
  exact Wp.via (fun _ h => XT.dupX1 X.here hx rfl hd rfl hc hc' h) k
theorem w_pop (X : Stand p l e R s m args below meth c T locs cells slots) (hx : p.tables.exec = Jvm.exec) {x : Value} (hd : decode c.code pc = .ok (.pop, 1)) (hc : x.category = 1) (hp : pc + 1 = pc') (k : Wp p e s below C S Q T (mkF m pc' Ls (st))) : Wp p e s below C S Q T (mkF m pc Ls (x :: st)) := by
  subst hp
  exact Wp.via (fun _ h => XT.pop X.here hx rfl hd rfl hc h) k
theorem w_goto (X : Stand p l e R s m args below meth c T locs cells slots) (hx : p.tables.exec = Jvm.exec) {o : Int} (hd : decode c.code pc = .ok (.goto o, 3)) (ho : 0 ≤ (pc : Int) + o) (hp : ((pc : Int) + o).toNat = pc') (k : Wp p e s below C S Q T (mkF m pc' Ls st)) : Wp p e s below C S Q T (mkF m pc Ls st) :=
  Wp.via (fun _ h => XS.goto X.here hx rfl (pc0 := pc) (pc' := pc') rfl hd ho hp h) k
theorem w_icmp_eq (X : Stand p l e R s m args below meth c T locs cells slots) (hx : p.tables.exec = Jvm.exec) {o : Int} {pcY : Nat} {x y : Int32} (hd : decode c.code pc = .ok (.if_icmp .eq o, 3)) (ho : 0 ≤ (pc : Int) + o) (hy : ((pc : Int) + o).toNat = pcY) (hp : pc + 3 = pc') (kY : x = y → Wp p e s below C S Q T (mkF m pcY Ls st)) (kN : ¬ x = y → Wp p e s below C S Q T (mkF m pc' Ls st)) : Wp p e s below C S Q T (mkF m pc Ls (Value.int y :: Value.int x :: st)) := by
  by_cases q : x = y
  · exact Wp.via (fun _ h => XS.icmpYes X.here hx rfl (pc0 := pc) (pc' := pcY) rfl hd rfl (teq q).1 ho hy h) (kY q)
  · exact Wp.via (fun _ h => XS.icmpNo X.here hx rfl hd rfl (feq (by simpa using q)).1 h) (by subst hp; exact kN (by simpa using q))
theorem w_if_eq (X : Stand p l e R s m args below meth c T locs cells slots) (hx : p.tables.exec = Jvm.exec) {o : Int} {pcY : Nat} {x : Int32} (hd : decode c.code pc = .ok (.ifCond .eq o, 3)) (ho : 0 ≤ (pc : Int) + o) (hy : ((pc : Int) + o).toNat = pcY) (hp : pc + 3 = pc') (kY : x = 0 → Wp p e s below C S Q T (mkF m pcY Ls st)) (kN : ¬ x = 0 → Wp p e s below C S Q T (mkF m pc' Ls st)) : Wp p e s below C S Q T (mkF m pc Ls (Value.int x :: st)) := by
  by_cases q : x = 0
  · exact Wp.via (fun _ h => XS.ifYes X.here hx rfl (pc0 := pc) (pc' := pcY) rfl hd rfl ((if0 _ _).trans (teq q).1) ho hy h) (kY q)
  · exact Wp.via (fun _ h => XS.ifNo X.here hx rfl hd rfl ((if0 _ _).trans (feq (by simpa using q)).1) h) (by subst hp; exact kN (by simpa using q))
theorem w_icmp_ne (X : Stand p l e R s m args below meth c T locs cells slots) (hx : p.tables.exec = Jvm.exec) {o : Int} {pcY : Nat} {x y : Int32} (hd : decode c.code pc = .ok (.if_icmp .ne o, 3)) (ho : 0 ≤ (pc : Int) + o) (hy : ((pc : Int) + o).toNat = pcY) (hp : pc + 3 = pc') (kY : ¬ x = y → Wp p e s below C S Q T (mkF m pcY Ls st)) (kN : x = y → Wp p e s below C S Q T (mkF m pc' Ls st)) : Wp p e s below C S Q T (mkF m pc Ls (Value.int y :: Value.int x :: st)) := by
  by_cases q : ¬ x = y
  · exact Wp.via (fun _ h => XS.icmpYes X.here hx rfl (pc0 := pc) (pc' := pcY) rfl hd rfl (feq q).2 ho hy h) (kY q)
  · exact Wp.via (fun _ h => XS.icmpNo X.here hx rfl hd rfl (teq (by simpa using q)).2 h) (by subst hp; exact kN (by simpa using q))
theorem w_if_ne (X : Stand p l e R s m args below meth c T locs cells slots) (hx : p.tables.exec = Jvm.exec) {o : Int} {pcY : Nat} {x : Int32} (hd : decode c.code pc = .ok (.ifCond .ne o, 3)) (ho : 0 ≤ (pc : Int) + o) (hy : ((pc : Int) + o).toNat = pcY) (hp : pc + 3 = pc') (kY : ¬ x = 0 → Wp p e s below C S Q T (mkF m pcY Ls st)) (kN : x = 0 → Wp p e s below C S Q T (mkF m pc' Ls st)) : Wp p e s below C S Q T (mkF m pc Ls (Value.int x :: st)) := by
  by_cases q : ¬ x = 0
  · exact Wp.via (fun _ h => XS.ifYes X.here hx rfl (pc0 := pc) (pc' := pcY) rfl hd rfl ((if0 _ _).trans (feq q).2) ho hy h) (kY q)
  · exact Wp.via (fun _ h => XS.ifNo X.here hx rfl hd rfl ((if0 _ _).trans (teq (by simpa using q)).2) h) (by subst hp; exact kN (by simpa using q))
theorem w_icmp_lt (X : Stand p l e R s m args below meth c T locs cells slots) (hx : p.tables.exec = Jvm.exec) {o : Int} {pcY : Nat} {x y : Int32} (hd : decode c.code pc = .ok (.if_icmp .lt o, 3)) (ho : 0 ≤ (pc : Int) + o) (hy : ((pc : Int) + o).toNat = pcY) (hp : pc + 3 = pc') (kY : x < y → Wp p e s below C S Q T (mkF m pcY Ls st)) (kN : ¬ x < y → Wp p e s below C S Q T (mkF m pc' Ls st)) : Wp p e s below C S Q T (mkF m pc Ls (Value.int y :: Value.int x :: st)) := by
  by_cases q : x < y
  · exact Wp.via (fun _ h => XS.icmpYes X.here hx rfl (pc0 := pc) (pc' := pcY) rfl hd rfl (tlt q).1 ho hy h) (kY q)
  · exact Wp.via (fun _ h => XS.icmpNo X.here hx rfl hd rfl (flt (by simpa using q)).1 h) (by subst hp; exact kN (by simpa using q))
theorem w_if_lt (X : Stand p l e R s m args below meth c T locs cells slots) (hx : p.tables.exec = Jvm.exec) {o : Int} {pcY : Nat} {x : Int32} (hd : decode c.code pc = .ok (.ifCond .lt o, 3)) (ho : 0 ≤ (pc : Int) + o) (hy : ((pc : Int) + o).toNat = pcY) (hp : pc + 3 = pc') (kY : x < 0 → Wp p e s below C S Q T (mkF m pcY Ls st)) (kN : ¬ x < 0 → Wp p e s below C S Q T (mkF m pc' Ls st)) : Wp p e s below C S Q T (mkF m pc Ls (Value.int x :: st)) := by
  by_cases q : x < 0
  · exact Wp.via (fun _ h => XS.ifYes X.here hx rfl (pc0 := pc) (pc' := pcY) rfl hd rfl ((if0 _ _).trans (tlt q).1) ho hy h) (kY q)
  · exact Wp.via (fun _ h => XS.ifNo X.here hx rfl hd rfl ((if0 _ _).trans (flt (by simpa using q)).1) h) (by subst hp; exact kN (by simpa using q))
theorem w_icmp_ge (X : Stand p l e R s m args below meth c T locs cells slots) (hx : p.tables.exec = Jvm.exec) {o : Int} {pcY : Nat} {x y : Int32} (hd : decode c.code pc = .ok (.if_icmp .ge o, 3)) (ho : 0 ≤ (pc : Int) + o) (hy : ((pc : Int) + o).toNat = pcY) (hp : pc + 3 = pc') (kY : ¬ x < y → Wp p e s below C S Q T (mkF m pcY Ls st)) (kN : x < y → Wp p e s below C S Q T (mkF m pc' Ls st)) : Wp p e s below C S Q T (mkF m pc Ls (Value.int y :: Value.int x :: st)) := by
  by_cases q : ¬ x < y
  · exact Wp.via (fun _ h => XS.icmpYes X.here hx rfl (pc0 := pc) (pc' := pcY) rfl hd rfl (flt q).2.1 ho hy h) (kY q)
  · exact Wp.via (fun _ h => XS.icmpNo X.here hx rfl hd rfl (tlt (by simpa using q)).2.1 h) (by subst hp; exact kN (by simpa using q))
theorem w_if_ge (X : Stand p l e R s m args below meth c T locs cells slots) (hx : p.tables.exec = Jvm.exec) {o : Int} {pcY : Nat} {x : Int32} (hd : decode c.code pc = .ok (.ifCond .ge o, 3)) (ho : 0 ≤ (pc : Int) + o) (hy : ((pc : Int) + o).toNat = pcY) (hp : pc + 3 = pc') (kY : ¬ x < 0 → Wp p e s below C S Q T (mkF m pcY Ls st)) (kN : x < 0 → Wp p e s below C S Q T (mkF m pc' Ls st)) : Wp p e s below C S Q T (mkF m pc Ls (Value.int x :: st)) := by
  by_cases q : ¬ x < 0
  · exact Wp.via (fun _ h => XS.ifYes X.here hx rfl (pc0 := pc) (pc' := pcY) rfl hd rfl ((if0 _ _).trans (flt q).2.1) ho hy h) (kY q)
  · exact Wp.via (fun _ h => XS.ifNo X.here hx rfl hd rfl ((if0 _ _).trans (tlt (by simpa using q)).2.1) h) (by subst hp; exact kN (by simpa using q))
theorem w_icmp_gt (X : Stand p l e R s m args below meth c T locs cells slots) (hx : p.tables.exec = Jvm.exec) {o : Int} {pcY : Nat} {x y : Int32} (hd : decode c.code pc = .ok (.if_icmp .gt o, 3)) (ho : 0 ≤ (pc : Int) + o) (hy : ((pc : Int) + o).toNat = pcY) (hp : pc + 3 = pc') (kY : y < x → Wp p e s below C S Q T (mkF m pcY Ls st)) (kN : ¬ y < x → Wp p e s below C S Q T (mkF m pc' Ls st)) : Wp p e s below C S Q T (mkF m pc Ls (Value.int y :: Value.int x :: st)) := by
  by_cases q : y < x
  · exact Wp.via (fun _ h => XS.icmpYes X.here hx rfl (pc0 := pc) (pc' := pcY) rfl hd rfl (tlt q).2.2.1 ho hy h) (kY q)
  · exact Wp.via (fun _ h => XS.icmpNo X.here hx rfl hd rfl (flt (by simpa using q)).2.2.1 h) (by subst hp; exact kN (by simpa using q))
theorem w_if_gt (X : Stand p l e R s m args below meth c T locs cells slots) (hx : p.tables.exec = Jvm.exec) {o : Int} {pcY : Nat} {x : Int32} (hd : decode c.code pc = .ok (.ifCond .gt o, 3)) (ho : 0 ≤ (pc : Int) + o) (hy : ((pc : Int) + o).toNat = pcY) (hp : pc + 3 = pc') (kY : 0 < x → Wp p e s below C S Q T (mkF m pcY Ls st)) (kN : ¬ 0 < x → Wp p e s below C S Q T (mkF m pc' Ls st)) : Wp p e s below C S Q T (mkF m pc Ls (Value.int x :: st)) := by
  by_cases q : 0 < x
  · exact Wp.via (fun _ h => XS.ifYes X.here hx rfl (pc0 := pc) (pc' := pcY) rfl hd rfl ((if0 _ _).trans (tlt q).2.2.1) ho hy h) (kY q)
  · exact Wp.via (fun _ h => XS.ifNo X.here hx rfl hd rfl ((if0 _ _).trans (flt (by simpa using q)).2.2.1) h) (by subst hp; exact kN (by simpa using q))
theorem w_icmp_le (X : Stand p l e R s m args below meth c T locs cells slots) (hx : p.tables.exec = Jvm.exec) {o : Int} {pcY : Nat} {x y : Int32} (hd : decode c.code pc = .ok (.if_icmp .le o, 3)) (ho : 0 ≤ (pc : Int) + o) (hy : ((pc : Int) + o).toNat = pcY) (hp : pc + 3 = pc') (kY : ¬ y < x → Wp p e s below C S Q T (mkF m pcY Ls st)) (kN : y < x → Wp p e s below C S Q T (mkF m pc' Ls st)) : Wp p e s below C S Q T (mkF m pc Ls (Value.int y :: Value.int x :: st)) := by
  by_cases q : ¬ y < x
  · exact Wp.via (fun _ h => XS.icmpYes X.here hx rfl (pc0 := pc) (pc' := pcY) rfl hd rfl (flt q).2.2.2 ho hy h) (kY q)
  · exact Wp.via (fun _ h => XS.icmpNo X.here hx rfl hd rfl (tlt (by simpa using q)).2.2.2 h) (by subst hp; exact kN (by simpa using q))
theorem w_if_le (X : Stand p l e R s m args below meth c T locs cells slots) (hx : p.tables.exec = Jvm.exec) {o : Int} {pcY : Nat} {x : Int32} (hd : decode c.code pc = .ok (.ifCond .le o, 3)) (ho : 0 ≤ (pc : Int) + o) (hy : ((pc : Int) + o).toNat = pcY) (hp : pc + 3 = pc') (kY : ¬ 0 < x → Wp p e s below C S Q T (mkF m pcY Ls st)) (kN : 0 < x → Wp p e s below C S Q T (mkF m pc' Ls st)) : Wp p e s below C S Q T (mkF m pc Ls (Value.int x :: st)) := by
  by_cases q : ¬ 0 < x
  · exact Wp.via (fun _ h => XS.ifYes X.here hx rfl (pc0 := pc) (pc' := pcY) rfl hd rfl ((if0 _ _).trans (flt q).2.2.2) ho hy h) (kY q)
  · exact Wp.via (fun _ h => XS.ifNo X.here hx rfl hd rfl ((if0 _ _).trans (tlt (by simpa using q)).2.2.2) h) (by subst hp; exact kN (by simpa using q))
theorem own_cl_lt (x y : Int64) : XT.cmpL x y < 0 ↔ x < y := by
  unfold XT.cmpL
  by_cases h1 : y < x
  · rw [if_pos h1]
    refine ⟨fun h => absurd h (by decide), fun h => absurd (Int64.lt_trans h1 h) Int64.lt_irrefl⟩
  · rw [if_neg h1]
    by_cases h2 : x = y
    · rw [if_pos h2]
      refine ⟨fun h => absurd h (by decide), fun h => absurd (h2 ▸ h) Int64.lt_irrefl⟩
    · rw [if_neg h2]
      refine ⟨fun _ => ?_, fun _ => by decide⟩
      rw [Int64.lt_iff_toInt_lt] at *
      have : x.toInt ≠ y.toInt := fun q => h2 (Int64.toInt_inj.mp q)
      omega
theorem own_cl_gt (x y : Int64) : 0 < XT.cmpL x y ↔ y < x := by
  unfold XT.cmpL
  by_cases h1 : y < x
  · rw [if_pos h1]
    exact ⟨fun _ => h1, fun _ => by decide⟩
  · rw [if_neg h1]
    by_cases h2 : x = y
    · rw [if_pos h2]
      exact ⟨fun h => absurd h (by decide), fun h => absurd h h1⟩
    · rw [if_neg h2]
      exact ⟨fun h => absurd h (by decide), fun h => absurd h h1⟩
theorem own_cl_eq (x y : Int64) : XT.cmpL x y = 0 ↔ x = y := by
  unfold XT.cmpL
  by_cases h1 : y < x
  · rw [if_pos h1]
    exact ⟨fun h => absurd h (by decide), fun h => absurd (h ▸ h1) Int64.lt_irrefl⟩
  · rw [if_neg h1]
    by_cases h2 : x = y
    · rw [if_pos h2]
      exact ⟨fun _ => h2, fun _ => rfl⟩
    · rw [if_neg h2]
      exact ⟨fun h => absurd h (by decide), fun h => absurd h h2⟩
theorem w_lcmp_eq (X : Stand p l e R s m args below meth c T locs cells slots) (hx : p.tables.exec = Jvm.exec) {o : Int} {pcY pc1 : Nat} {x y : Int64} (hd : decode c.code pc = .ok (.lcmp, 1)) (hp1 : pc + 1 = pc1) (hd1 : decode c.code pc1 = .ok (.ifCond .eq o, 3)) (ho : 0 ≤ (pc1 : Int) + o) (hy : ((pc1 : Int) + o).toNat = pcY) (hp : pc1 + 3 = pc') (kY : x = y → Wp p e s below C S Q T (mkF m pcY Ls st)) (kN : ¬ x = y → Wp p e s below C S Q T (mkF m pc' Ls st)) : Wp p e s below C S Q T (mkF m pc Ls (Value.long y :: Value.long x :: st)) :=
  w_lcmp X hx hd hp1 (w_if_eq X hx hd1 ho hy hp (fun q => kY ((own_cl_eq x y).mp q)) (fun q => kN fun r => q ((own_cl_eq x y).mpr r)))
theorem w_lcmp_ne (X : Stand p l e R s m args below meth c T locs cells slots) (hx : p.tables.exec = Jvm.exec) {o : Int} {pcY pc1 : Nat} {x y : Int64} (hd : decode c.code pc = .ok (.lcmp, 1)) (hp1 : pc + 1 = pc1) (hd1 : decode c.code pc1 = .ok (.ifCond .ne o, 3)) (ho : 0 ≤ (pc1 : Int) + o) (hy : ((pc1 : Int) + o).toNat = pcY) (hp : pc1 + 3 = pc') (kY : ¬ x = y → Wp p e s below C S Q T (mkF m pcY Ls st)) (kN : x = y → Wp p e s below C S Q T (mkF m pc' Ls st)) : Wp p e s below C S Q T (mkF m pc Ls (Value.long y :: Value.long x :: st)) :=
  w_lcmp X hx hd hp1 (w_if_ne X hx hd1 ho hy hp (fun q => kY fun r => q ((own_cl_eq x y).mpr r)) (fun q => kN ((own_cl_eq x y).mp q)))
theorem w_lcmp_lt (X : Stand p l e R s m args below meth c T locs cells slots) (hx : p.tables.exec = Jvm.exec) {o : Int} {pcY pc1 : Nat} {x y : Int64} (hd : decode c.code pc = .ok (.lcmp, 1)) (hp1 : pc + 1 = pc1) (hd1 : decode c.code pc1 = .ok (.ifCond .lt o, 3)) (ho : 0 ≤ (pc1 : Int) + o) (hy : ((pc1 : Int) + o).toNat = pcY) (hp : pc1 + 3 = pc') (kY : x < y → Wp p e s below C S Q T (mkF m pcY Ls st)) (kN : ¬ x < y → Wp p e s below C S Q T (mkF m pc' Ls st)) : Wp p e s below C S Q T (mkF m pc Ls (Value.long y :: Value.long x :: st)) :=
  w_lcmp X hx hd hp1 (w_if_lt X hx hd1 ho hy hp (fun q => kY ((own_cl_lt x y).mp q)) (fun q => kN fun r => q ((own_cl_lt x y).mpr r)))
theorem w_lcmp_ge (X : Stand p l e R s m args below meth c T locs cells slots) (hx : p.tables.exec = Jvm.exec) {o : Int} {pcY pc1 : Nat} {x y : Int64} (hd : decode c.code pc = .ok (.lcmp, 1)) (hp1 : pc + 1 = pc1) (hd1 : decode c.code pc1 = .ok (.ifCond .ge o, 3)) (ho : 0 ≤ (pc1 : Int) + o) (hy : ((pc1 : Int) + o).toNat = pcY) (hp : pc1 + 3 = pc') (kY : ¬ x < y → Wp p e s below C S Q T (mkF m pcY Ls st)) (kN : x < y → Wp p e s below C S Q T (mkF m pc' Ls st)) : Wp p e s below C S Q T (mkF m pc Ls (Value.long y :: Value.long x :: st)) :=
  w_lcmp X hx hd hp1 (w_if_ge X hx hd1 ho hy hp (fun q => kY fun r => q ((own_cl_lt x y).mpr r)) (fun q => kN ((own_cl_lt x y).mp q)))
theorem w_lcmp_gt (X : Stand p l e R s m args below meth c T locs cells slots) (hx : p.tables.exec = Jvm.exec) {o : Int} {pcY pc1 : Nat} {x y : Int64} (hd : decode c.code pc = .ok (.lcmp, 1)) (hp1 : pc + 1 = pc1) (hd1 : decode c.code pc1 = .ok (.ifCond .gt o, 3)) (ho : 0 ≤ (pc1 : Int) + o) (hy : ((pc1 : Int) + o).toNat = pcY) (hp : pc1 + 3 = pc') (kY : y < x → Wp p e s below C S Q T (mkF m pcY Ls st)) (kN : ¬ y < x → Wp p e s below C S Q T (mkF m pc' Ls st)) : Wp p e s below C S Q T (mkF m pc Ls (Value.long y :: Value.long x :: st)) :=
  w_lcmp X hx hd hp1 (w_if_gt X hx hd1 ho hy hp (fun q => kY ((own_cl_gt x y).mp q)) (fun q => kN fun r => q ((own_cl_gt x y).mpr r)))
theorem w_lcmp_le (X : Stand p l e R s m args below meth c T locs cells slots) (hx : p.tables.exec = Jvm.exec) {o : Int} {pcY pc1 : Nat} {x y : Int64} (hd : decode c.code pc = .ok (.lcmp, 1)) (hp1 : pc + 1 = pc1) (hd1 : decode c.code pc1 = .ok (.ifCond .le o, 3)) (ho : 0 ≤ (pc1 : Int) + o) (hy : ((pc1 : Int) + o).toNat = pcY) (hp : pc1 + 3 = pc') (kY : ¬ y < x → Wp p e s below C S Q T (mkF m pcY Ls st)) (kN : y < x → Wp p e s below C S Q T (mkF m pc' Ls st)) : Wp p e s below C S Q T (mkF m pc Ls (Value.long y :: Value.long x :: st)) :=
  w_lcmp X hx hd hp1 (w_if_le X hx hd1 ho hy hp (fun q => kY fun r => q ((own_cl_gt x y).mpr r)) (fun q => kN ((own_cl_gt x y).mp q)))
theorem w_eqI {x z : Int32} (h : x = z) (k : Wp p e s below C S Q T (mkF m pc Ls (Value.int z :: st))) : Wp p e s below C S Q T (mkF m pc Ls (Value.int x :: st)) := h ▸ k
theorem w_genI {x : Int32} (k : ∀ z, z = x → Wp p e s below C S Q T (mkF m pc Ls (Value.int z :: st))) : Wp p e s below C S Q T (mkF m pc Ls (Value.int x :: st)) := k x rfl
theorem w_eqJ {x z : Int64} (h : x = z) (k : Wp p e s below C S Q T (mkF m pc Ls (Value.long z :: st))) : Wp p e s below C S Q T (mkF m pc Ls (Value.long x :: st)) := h ▸ k
theorem w_genJ {x : Int64} (k : ∀ z, z = x → Wp p e s below C S Q T (mkF m pc Ls (Value.long z :: st))) : Wp p e s below C S Q T (mkF m pc Ls (Value.long x :: st)) := k x rfl
theorem w_iincE (X : Stand p l e R s m args below meth c T locs cells slots) (hx : p.tables.exec = Jvm.exec) {k : Nat} {cst : Int} {v z : Int32} {l' : Array Slot} (hd : decode c.code pc = .ok (.iinc k cst, 3)) (hl : Ls[k]? = some (.val (.int v))) (hz : v + Int32.ofInt cst = z) (hl' : storeLocals Ls k (.int z) = some l') (hp : pc + 3 = pc') (k : Wp p e s below C S Q T (mkF m pc' l' (st))) : Wp p e s below C S Q T (mkF m pc Ls (st)) := by
  subst hp
  exact Wp.via (fun _ h => XS.iinc X.here hx rfl hd hl (hz ▸ hl') h) k
theorem w_ifnullY (X : Stand p l e R s m args below meth c T locs cells slots) (hx : p.tables.exec = Jvm.exec) {o : Int}  (hd : decode c.code pc = .ok (.ifnull o, 3)) (ho : 0 ≤ (pc : Int) + o) (hp : ((pc : Int) + o).toNat = pc') (k : Wp p e s below C S Q T (mkF m pc' Ls st)) : Wp p e s below C S Q T (mkF m pc Ls (Value.null :: st)) :=
  Wp.via (fun _ h => XS.ifnullYes X.here hx rfl (pc0 := pc) (pc' := pc') rfl hd rfl ho hp h) k
theorem w_ifnonnullY (X : Stand p l e R s m args below meth c T locs cells slots) (hx : p.tables.exec = Jvm.exec) {o : Int} {b : Addr} (hd : decode c.code pc = .ok (.ifnonnull o, 3)) (ho : 0 ≤ (pc : Int) + o) (hp : ((pc : Int) + o).toNat = pc') (k : Wp p e s below C S Q T (mkF m pc' Ls st)) : Wp p e s below C S Q T (mkF m pc Ls (Value.ref b :: st)) :=
  Wp.via (fun _ h => XT.ifnonnullYes X.here hx rfl (pc0 := pc) (pc' := pc') rfl hd rfl ho hp h) k
theorem w_ifnullN (X : Stand p l e R s m args below meth c T locs cells slots) (hx : p.tables.exec = Jvm.exec) {o : Int} {b : Addr} (hd : decode c.code pc = .ok (.ifnull o, 3))  (hp : pc + 3 = pc') (k : Wp p e s below C S Q T (mkF m pc' Ls (st))) : Wp p e s below C S Q T (mkF m pc Ls (Value.ref b :: st)) := by
  subst hp
  exact Wp.via (fun _ h => XS.ifnullNo X.here hx rfl hd rfl h) k
theorem w_ifnonnullN (X : Stand p l e R s m args below meth c T locs cells slots) (hx : p.tables.exec = Jvm.exec) {o : Int} (hd : decode c.code pc = .ok (.ifnonnull o, 3))  (hp : pc + 3 = pc') (k : Wp p e s below C S Q T (mkF m pc' Ls (st))) : Wp p e s below C S Q T (mkF m pc Ls (Value.null :: st)) := by
  subst hp
  exact Wp.via (fun _ h => XT.ifnonnullNo X.here hx rfl hd rfl h) k
theorem own_out {fs : List Frame} {v : Option Value} {g : JFrame} (hs : Steps p.tables e below (T.setTop g) (T.setFrames fs)) (h1 : (T.setFrames fs).status = .running) (h2 : Ended (T.setFrames fs) below (.returned v)) (h3 : s.WarmedH (T.setFrames fs).vm) (h4 : s.sameButNew ({ T.setFrames fs with vm := s.vm } : State) locs cells slots)
    (hc : cells ≤ C) (hl : slots ≤ S) (hq : Q v T.heap locs) : Wp p e s below C S Q T g :=
  ⟨_, _, hs, h1, h2, _, _, rfl, hq, ⟨_, rfl⟩, h3, h4.mono hc hl⟩
theorem w_ret_i (X : Stand p l e R s m args below meth c T locs cells slots) (hx : p.tables.exec = Jvm.exec) {z : Int32} (hret : meth.sig.returnType = some .int) (hlk : meth.locks = false) (hd : decode c.code pc = .ok (.ireturn, 1)) (hc : cells ≤ C) (hl : slots ≤ S) (hq : Q (some (.int z)) T.heap locs) : Wp p e s below C S Q T (mkF m pc Ls (Value.int z :: st)) := by
  obtain ⟨fs, hr, h1, h2, h3, h4⟩ := X.leave (v := some (.int z)) (fun h => by rw [hret] at h; cases h) hlk
  exact own_out (retI X hx hret hd hr) h1 h2 h3 h4 hc hl hq
theorem w_ret_n (X : Stand p l e R s m args below meth c T locs cells slots) (hx : p.tables.exec = Jvm.exec) {z z' : Int32} {t : FieldType} (hret : meth.sig.returnType = some t) (hlk : meth.locks = false) (ht : t = .boolean ∨ t = .byte ∨ t = .char ∨ t = .short) (hd : decode c.code pc = .ok (.ireturn, 1)) (hz : nar t z = z') (hc : cells ≤ C) (hl : slots ≤ S) (hq : Q (some (.int z')) T.heap locs) : Wp p e s below C S Q T (mkF m pc Ls (Value.int z :: st)) := by
  subst hz
  obtain ⟨fs, hr, h1, h2, h3, h4⟩ := X.leave (v := some (.int (nar t z))) (fun h => by rw [hret] at h; cases h) hlk
  exact own_out (retN X hx hret ht hd hr) h1 h2 h3 h4 hc hl hq
theorem w_ret_l (X : Stand p l e R s m args below meth c T locs cells slots) (hx : p.tables.exec = Jvm.exec) {z : Int64} (hret : meth.sig.returnType = some .long) (hlk : meth.locks = false) (hd : decode c.code pc = .ok (.lreturn, 1)) (hc : cells ≤ C) (hl : slots ≤ S) (hq : Q (some (.long z)) T.heap locs) : Wp p e s below C S Q T (mkF m pc Ls [Value.long z]) := by
  obtain ⟨fs, hr, h1, h2, h3, h4⟩ := X.leave (v := some (.long z)) (fun h => by rw [hret] at h; cases h) hlk
  exact own_out (X.lreturnOut hx hret hd hr) h1 h2 h3 h4 hc hl hq
theorem w_ret_a (X : Stand p l e R s m args below meth c T locs cells slots) (hx : p.tables.exec = Jvm.exec) {w : Value} {t : FieldType} (hw : w.isRef = true) (hret : meth.sig.returnType = some t) (ht : t.isReference = true) (hlk : meth.locks = false) (hd : decode c.code pc = .ok (.areturn, 1)) (hc : cells ≤ C) (hl : slots ≤ S) (hq : Q (some w) T.heap locs) : Wp p e s below C S Q T (mkF m pc Ls [w]) := by
  obtain ⟨fs, hr, h1, h2, h3, h4⟩ := X.leave (v := some w) (fun h => by rw [hret] at h; cases h) hlk
  exact own_out (X.areturnOut hx hw hret ht hd hr) h1 h2 h3 h4 hc hl hq
theorem w_ret_v (X : Stand p l e R s m args below meth c T locs cells slots) (hx : p.tables.exec = Jvm.exec) (hret : meth.sig.returnType = none) (hlk : meth.locks = false) (hd : decode c.code pc = .ok (.return_, 1)) (hc : cells ≤ C) (hl : slots ≤ S) (hq : Q none T.heap locs) : Wp p e s below C S Q T (mkF m pc Ls []) := by
  obtain ⟨fs, hr, h1, h2, h3, h4⟩ := X.leave (v := none) (fun h => rfl) hlk
  exact own_out (X.returnOut hx hret hd hr) h1 h2 h3 h4 hc hl hq
theorem own_call (X : Stand p l e R s m args below meth c T locs cells slots) (hx : p.tables.exec = Jvm.exec) {Z : State} {a0 : Array Value} {h : Heap} (hZ : Z.Warmed39 s.vm) (eT : T.heap = h) {own : String} {i : Nat} {y : MethodName} {bytes : ByteArray} {maxL : Nat} {ret : Option FieldType} {rm : Room} {W : Nat} {as' : Array Value} {Qc : Option Value → Heap → List Loc → Prop}
    (hown : s.vm.findClass own = some m.cls) (hml : Ls.size = c.maxLocals) (w1 : (Jvm.Cond.methodLink own i y).before a0 Z = true) (w2 : (Jvm.Cond.static y).before a0 Z = true) (w3 : (Jvm.Cond.initialized y.cls).before a0 Z = true) (w4 : (Jvm.Cond.code y bytes maxL ret).before a0 Z = true)
    (hM : MetFree l y (head1 [Jvm.Cond.code y bytes maxL ret] rm) (fun a U => a = as' ∧ Z.Warmed39 U.vm ∧ U.heap = h) (fun _ _ _ _ _ => True) (fun _ U o U' => ∃ v L, o = .returned v ∧ Qc v U'.heap L ∧ FrameEnd U o U' L rm.cells rm.slots))
    (hy : y.cls ≠ "java/lang/invoke/MethodHandle" ∧ y.cls ≠ "java/lang/invoke/VarHandle") (hf : rm.frames + 1 ≤ R.frames) (hl : W + (maxL + 11) + rm.locals ≤ R.locals) (hc : cells + rm.cells ≤ R.cells) (hsl : slots + rm.slots ≤ R.slots)
    {argsL rest : List Value} {ps : List FieldType} {r : Option FieldType} (hpd : parseMethodDescriptor y.desc = some ⟨ps, r⟩) (hlen : argsL.length = ps.length) (has : argsL.toArray = as') (hst : st = argsL.reverse ++ rest) (hW : (rest.map fun v => v.category).sum ≤ W) (hd : decode c.code pc = .ok (.invokestatic i, 3)) (hp : pc + 3 = pc')
    (k : ∀ (v : Option Value) (T' : State) (L : List Loc), Stand p l e R s m args below meth c T' (locs ++ L) (cells + rm.cells) (slots + rm.slots) → Qc v T'.heap L → Wp p e s below C S Q T' (mkF m pc' Ls (v.toList ++ rest))) : Wp p e s below C S Q T (mkF m pc Ls st) := by
  obtain ⟨v, _, ⟨T1, L1, k1, n1⟩, -, X1, ⟨Lc1, hQ1, l1, y1, z1⟩, st1⟩ := Jvm.LawKit.callS X hx (y := y) hown (mvT hZ w1) (mvT hZ w2) (mvT hZ w3) (mvT hZ w4) hy (backOf (W := W) hM hZ w4 w3 hf hl) (g := mkF m pc Ls st) rfl hml (argsL := argsL) (rest := rest) (lenOf hpd hlen) hst (by show 2 * 0 + _ ≤ _; omega) hd (fun _ _ => ⟨has, eT, hc, hsl⟩)
  dsimp only [Pt.U, Pt.locs, Pt.cells, Pt.slots] at X1 l1 y1 z1 st1 hQ1
  subst l1 y1 z1
  subst hp
  exact Wp.via st1 (k v T1 Lc1 X1 hQ1)
theorem own_cast {g g' : JFrame} (q : g = g') (k : Wp p e s below C S Q T g') : Wp p e s below C S Q T g := q ▸ k
def PureQ (r : Value) (h0 : Heap) (v : Option Value) (h : Heap) (L : List Loc) : Prop := v = some r ∧ L = [] ∧ h = h0
theorem w_callP (X : Stand p l e R s m args below meth c T locs cells slots) (hx : p.tables.exec = Jvm.exec) {Z : State} {a0 : Array Value} {h : Heap} (hZ : Z.Warmed39 s.vm) (eT : T.heap = h) {own : String} {i : Nat} {y : MethodName} {bytes : ByteArray} {maxL : Nat} {ret : Option FieldType} {rm : Room} {W : Nat} {as' : Array Value} {r0 : Value}
    (hown : s.vm.findClass own = some m.cls) (hml : Ls.size = c.maxLocals) (w1 : (Jvm.Cond.methodLink own i y).before a0 Z = true) (w2 : (Jvm.Cond.static y).before a0 Z = true) (w3 : (Jvm.Cond.initialized y.cls).before a0 Z = true) (w4 : (Jvm.Cond.code y bytes maxL ret).before a0 Z = true)
    (hM : MetFree l y (head1 [Jvm.Cond.code y bytes maxL ret] rm) (fun a U => a = as' ∧ Z.Warmed39 U.vm ∧ U.heap = h) (fun _ _ _ _ _ => True) (fun _ U o U' => ∃ v L, o = .returned v ∧ PureQ r0 h v U'.heap L ∧ FrameEnd U o U' L rm.cells rm.slots))
    (hy : y.cls ≠ "java/lang/invoke/MethodHandle" ∧ y.cls ≠ "java/lang/invoke/VarHandle") (hf : rm.frames + 1 ≤ R.frames) (hl : W + (maxL + 11) + rm.locals ≤ R.locals) (hc : rm.cells = 0) (hsl : rm.slots = 0) (hc' : cells ≤ R.cells) (hsl' : slots ≤ R.slots)
    {argsL rest : List Value} {ps : List FieldType} {r : Option FieldType} (hpd : parseMethodDescriptor y.desc = some ⟨ps, r⟩) (hlen : argsL.length = ps.length) (has : argsL.toArray = as') (hst : st = argsL.reverse ++ rest) (hW : (rest.map fun v => v.category).sum ≤ W) (hd : decode c.code pc = .ok (.invokestatic i, 3)) (hp : pc + 3 = pc')
    (k : ∀ (T' : State), Stand p l e R s m args below meth c T' locs cells slots → T'.heap = h → Wp p e s below C S Q T' (mkF m pc' Ls (r0 :: rest))) : Wp p e s below C S Q T (mkF m pc Ls st) := by
  refine own_call X hx hZ eT hown hml w1 w2 w3 w4 hM hy hf hl (by omega) (by omega) hpd hlen has hst hW hd hp ?_
  intro v T' L X' hq
  obtain ⟨rfl, rfl, e1⟩ := hq
  rw [List.append_nil, hc, hsl] at X'
  exact k T' X' e1
def PureQV (h0 : Heap) (v : Option Value) (h : Heap) (L : List Loc) : Prop := v = none ∧ L = [] ∧ h = h0
theorem w_callPV (X : Stand p l e R s m args below meth c T locs cells slots) (hx : p.tables.exec = Jvm.exec) {Z : State} {a0 : Array Value} {h : Heap} (hZ : Z.Warmed39 s.vm) (eT : T.heap = h) {own : String} {i : Nat} {y : MethodName} {bytes : ByteArray} {maxL : Nat} {ret : Option FieldType} {rm : Room} {W : Nat} {as' : Array Value}
    (hown : s.vm.findClass own = some m.cls) (hml : Ls.size = c.maxLocals) (w1 : (Jvm.Cond.methodLink own i y).before a0 Z = true) (w2 : (Jvm.Cond.static y).before a0 Z = true) (w3 : (Jvm.Cond.initialized y.cls).before a0 Z = true) (w4 : (Jvm.Cond.code y bytes maxL ret).before a0 Z = true)
    (hM : MetFree l y (head1 [Jvm.Cond.code y bytes maxL ret] rm) (fun a U => a = as' ∧ Z.Warmed39 U.vm ∧ U.heap = h) (fun _ _ _ _ _ => True) (fun _ U o U' => ∃ v L, o = .returned v ∧ PureQV h v U'.heap L ∧ FrameEnd U o U' L rm.cells rm.slots))
    (hy : y.cls ≠ "java/lang/invoke/MethodHandle" ∧ y.cls ≠ "java/lang/invoke/VarHandle") (hf : rm.frames + 1 ≤ R.frames) (hl : W + (maxL + 11) + rm.locals ≤ R.locals) (hc : rm.cells = 0) (hsl : rm.slots = 0) (hc' : cells ≤ R.cells) (hsl' : slots ≤ R.slots)
    {argsL rest : List Value} {ps : List FieldType} {r : Option FieldType} (hpd : parseMethodDescriptor y.desc = some ⟨ps, r⟩) (hlen : argsL.length = ps.length) (has : argsL.toArray = as') (hst : st = argsL.reverse ++ rest) (hW : (rest.map fun v => v.category).sum ≤ W) (hd : decode c.code pc = .ok (.invokestatic i, 3)) (hp : pc + 3 = pc')
    (k : ∀ (T' : State), Stand p l e R s m args below meth c T' locs cells slots → T'.heap = h → Wp p e s below C S Q T' (mkF m pc' Ls rest)) : Wp p e s below C S Q T (mkF m pc Ls st) := by
  refine own_call X hx hZ eT hown hml w1 w2 w3 w4 hM hy hf hl (by omega) (by omega) hpd hlen has hst hW hd hp ?_
  intro v T' L X' hq
  obtain ⟨rfl, rfl, e1⟩ := hq
  rw [List.append_nil, hc, hsl] at X'
  exact k T' X' e1
theorem own_body {x : MethodName} {code : ByteArray} {maxL : Nat} {ret : Option FieldType} {ws : List Jvm.Cond} {rm : Room} {Z : State} {as : Array Value} {h0 : Heap} (hx : plainFor x = true)
    (body : ∀ (p : Program) (e : Env) (s : State) (m : MethodId) (below : List Frame) (meth : Method) (c : Code) (T : State), p.tables.exec = Jvm.exec → c.code = code → c.maxLocals = maxL → meth.sig.returnType = ret → meth.locks = false → s.vm.findClass x.cls = some m.cls → meth.name = x.name → Z.Warmed39 s.vm → Stand p l e rm s m as below meth c T [] 0 0 → T.heap = h0 → Wp p e s below rm.cells rm.slots Q T (entryFrame m as maxL)) :
    MetFree l x (head1 (Jvm.Cond.code x code maxL ret :: ws) rm) (fun a U => a = as ∧ Z.Warmed39 U.vm ∧ U.heap = h0) (fun _ _ _ _ _ => True) (fun _ U o U' => ∃ v L, o = .returned v ∧ Q v U'.heap L ∧ FrameEnd U o U' L rm.cells rm.slots) := by
  refine MetFree.of_bodySF hx hisR ?_
  intro p e s m args below meth c s₁ Bd hml0 hP hK
  obtain ⟨rfl, hZ, hh⟩ := hP
  exact body p e s m below meth c s₁ Bd.exec Bd.bytes hml0 Bd.returns Bd.notSynchronized (findClass_of_methodNamed Bd.named) (name_of_methodNamed Bd.named Bd.method).1 hZ (Stand.of_body Bd) (by rw [← hh, Bd.state]; rfl)
end OwnW
/-! cells made since the start: explicit -/
def HP (n0 : Nat) (h : Heap) (cs : List Cell) : Prop := h.size = n0 + cs.length ∧ ∀ (i : Nat) (c : Cell), cs[i]? = some c → h[n0 + i]? = some c
def IsA (Z : State) (k : ClassId) (ty : FieldType) : Prop := (∃ kc, Z.vm.classes[k]? = some kc ∧ ∃ comp, kc.kind = .array comp ty) ∧ Z.vm.findClass ("[" ++ ty.toString) = some k
def AC (k : ClassId) (vs : List Value) : Cell := { cls := k, slots := vs.toArray, vm := .none }
def FldC (Z : State) (cell : Cell) (C n d : String) (v : Value) : Prop := ∃ (cf : ClassId) (k : Class) (i : Nat) (f : Field), Z.fieldFound? C n d = some (cf, k, i, f) ∧ f.isStatic = false ∧ cell.vm ≠ .unknown ∧ cell.vm.isStatics = false ∧ Z.vm.assignable cell.cls cf = true ∧ cell.slots[f.slot]? = some v
def ExaC (Z : State) (cell : Cell) (C : String) : Prop := ∃ (k : Class), Z.vm.findClass C = some cell.cls ∧ Z.vm.classes[cell.cls]? = some k ∧ cell.vm.isStatics = false ∧ (k.kind = .ordinary → cell.slots.size = k.instanceTypes.size)
def ObjF (Z : State) (cell : Cell) (C : String) (fl : List (String × String)) (vs : List Value) : Prop := ExaC Z cell C ∧ vs.length = fl.length ∧ ∀ (j : Nat) (n d : String) (v : Value), fl[j]? = some (n, d) → vs[j]? = some v → FldC Z cell C n d v
def Dis (Z : State) (C : String) (fl : List (String × String)) : Prop := ∀ (i j : Nat) (a b : String × String), fl[i]? = some a → fl[j]? = some b → i ≠ j → Jvm.RoadKit.slotOf Z C a.1 a.2 ≠ Jvm.RoadKit.slotOf Z C b.1 b.2
section OwnHP
variable {Z : State} {h h' : Heap} {n0 : Nat} {cs : List Cell} {i sl : Nat} {cell : Cell} {v : Value} {k : ClassId} {vs : List Value} {ty : FieldType} {C : String} {fl : List (String × String)}
theorem HP.nil (h : Heap) : HP h.size h [] := ⟨by simp, fun i c q => by simp at q⟩
theorem HP.push (P : HP n0 h cs) (c : Cell) : HP n0 (h.push c) (cs ++ [c]) := by
  refine ⟨by simp [P.1]; omega, fun i c' q => ?_⟩
  by_cases hi : i < cs.length
  · rw [List.getElem?_append_left hi] at q
    have := P.2 i c' q
    rw [Array.getElem?_push_lt (by rw [P.1]; omega)]
    rw [Array.getElem?_eq_getElem (by rw [P.1]; omega)] at this
    exact this
  · have hl : i < (cs ++ [c]).length := (List.getElem?_eq_some_iff.mp q).1
    have e : i = cs.length := by simp at hl; omega
    subst e
    rw [List.getElem?_append_right (Nat.le_refl _)] at q
    simp at q
    subst q
    rw [← P.1]; simp
theorem HP.wr (P : HP n0 h cs) (W : Wr h h' (n0 + i) sl v) (q : cs[i]? = some cell) : HP n0 h' (cs.set i (cell.setSlot sl v)) := by
  obtain ⟨c0, h1, h2, h3, rfl⟩ := W
  cases h1.symm.trans (P.2 i cell q)
  refine ⟨by simp [P.1], fun j c' r => ?_⟩
  by_cases e : i = j
  · subst e
    have hl : i < cs.length := (List.getElem?_eq_some_iff.mp q).1
    rw [List.getElem?_set_self hl] at r
    cases r
    rw [Array.getElem?_setIfInBounds_self_of_lt (by rw [P.1]; omega)]
  · rw [List.getElem?_set_ne e] at r
    rw [Array.getElem?_setIfInBounds_ne (by omega)]
    exact P.2 j c' r
theorem HP.arr (P : HP n0 h cs) (q : cs[i]? = some (AC k vs)) (a : IsA Z k ty) : Arr Z h (n0 + i) (AC k vs) ty := ⟨P.2 _ _ q, ⟨fun _ => by simp [AC], a.1⟩, by simp [AC]⟩
theorem HP.exaA (P : HP n0 h cs) (q : cs[i]? = some (AC k vs)) (a : IsA Z k ty) {ad : String} (had : "[" ++ ty.toString = ad) : Exa Z h (n0 + i) ad := by
  obtain ⟨⟨kc, h1, comp, h2⟩, h3⟩ := a
  exact ⟨AC k vs, kc, P.2 _ _ q, by rw [← had]; exact h3, h1, rfl, fun z => by rw [h2] at z; cases z⟩
theorem HP.fld (P : HP n0 h cs) (q : cs[i]? = some cell) {n d : String} (F : FldC Z cell C n d v) : Fld Z h (n0 + i) C n d v := by
  obtain ⟨cf, k, j, f, r⟩ := F
  exact ⟨cell, cf, k, j, f, P.2 _ _ q, r⟩
theorem HP.exa (P : HP n0 h cs) (q : cs[i]? = some cell) (F : ExaC Z cell C) : Exa Z h (n0 + i) C := by
  obtain ⟨k, r⟩ := F
  exact ⟨cell, k, P.2 _ _ q, r⟩
theorem AC.set (k : ClassId) (vs : List Value) (j : Nat) (v : Value) : (AC k vs).setSlot j v = AC k (vs.set j v) := by simp [AC, Cell.setSlot]
theorem ExaC.set (F : ExaC Z cell C) (sl : Nat) (v : Value) : ExaC Z (cell.setSlot sl v) C := by
  obtain ⟨k, h1, h2, h3, h4⟩ := F
  exact ⟨k, h1, h2, h3, fun q => by rw [← h4 q]; simp [Cell.setSlot]⟩
theorem ObjF.set (F : ObjF Z cell C fl vs) (D : Dis Z C fl) {j : Nat} {n d : String} (hj : fl[j]? = some (n, d)) (v : Value) : ObjF Z (cell.setSlot (Jvm.RoadKit.slotOf Z C n d) v) C fl (vs.set j v) := by
  obtain ⟨E, hl, F⟩ := F
  refine ⟨E.set _ _, by simp [hl], fun i n' d' v' h1 h2 => ?_⟩
  have hjl : j < fl.length := (List.getElem?_eq_some_iff.mp hj).1
  by_cases e : j = i
  · subst e
    cases hj.symm.trans h1
    rw [List.getElem?_set_self (by omega)] at h2
    cases h2
    obtain ⟨cf, k, x, f, g1, g2, g3, g4, g5, g6⟩ := F j n d _ hj (List.getElem?_eq_getElem (by omega))
    have es : Jvm.RoadKit.slotOf Z C n d = f.slot := by simp [Jvm.RoadKit.slotOf, g1]
    refine ⟨cf, k, x, f, g1, g2, g3, g4, g5, ?_⟩
    rw [es]
    have := (Array.getElem?_eq_some_iff.mp g6).1
    simp [Cell.setSlot, this]
  · rw [List.getElem?_set_ne e] at h2
    obtain ⟨cf, k, x, f, g1, g2, g3, g4, g5, g6⟩ := F i n' d' v' h1 h2
    have es : Jvm.RoadKit.slotOf Z C n' d' = f.slot := by simp [Jvm.RoadKit.slotOf, g1]
    have ne := D j i _ _ hj h1 e
    refine ⟨cf, k, x, f, g1, g2, g3, g4, g5, ?_⟩
    show ((cell.slots.setIfInBounds _ _)[_]?) = _
    rw [Array.getElem?_setIfInBounds_ne (by rw [← es]; exact ne)]
    exact g6
theorem own_dis {a0 : Array Value} (hL : ∀ (j : Nat) (n d : String), fl[j]? = some (n, d) → Laid Z a0 C C n d ∧ ∃ t, parseFieldDescriptor d = some t) (hN : (fl.map Prod.fst).Nodup) : Dis Z C fl := by
  intro i j a b h1 h2 hne
  obtain ⟨L1, t1, p1⟩ := hL i a.1 a.2 h1
  obtain ⟨L2, t2, p2⟩ := hL j b.1 b.2 h2
  refine slot_ne L1 L2 (fun q => hne ?_) p1 p2
  have i1 := (List.getElem?_eq_some_iff.mp h1).1
  have i2 := (List.getElem?_eq_some_iff.mp h2).1
  have e1 : (fl.map Prod.fst)[i]? = some a.1 := by simp [h1]
  have e2 : (fl.map Prod.fst)[j]? = some b.1 := by simp [h2]
  exact (List.getElem?_inj (by simpa using i1) hN).mp (by rw [e1, e2, q])
theorem own_one {n0 : Nat} {L : List Loc} (N : Fr n0 L) (i sl : Nat) : Fr n0 (L ++ [⟨n0 + i, sl⟩]) := N.app fun y hy => by cases List.mem_singleton.mp hy; exact Nat.le_add_right _ _
theorem own_idx {j : Int32} {jn N : Nat} (hj : j.toInt = (jn : Int)) (hn : jn < N) : j.toNatClampNeg = jn ∧ ¬ (j < 0 ∨ N ≤ j.toNatClampNeg) := by
  have e : j.toNatClampNeg = jn := by simp [Int32.toNatClampNeg, hj]
  refine ⟨e, ?_⟩
  rw [e, Int32.lt_iff_toInt_lt, hj]
  simp
  omega
end OwnHP
theorem own_get {α : Type} {f : α → Value} {l : List α} {j : Nat} {d : α} (h : j < l.length) : (List.map f l)[j]? = some (f (l.getD j d)) := by
  simp [List.getD_eq_getElem?_getD, h]
theorem own_sl {α : Type} {l : List α} {i N : Nat} {x : α} (h : l.length = N) : (l.set i x).length = N := by simp [h]
theorem own_llt {α : Type} {l : List α} {j N : Nat} (h : l.length = N) (q : j < N) : j < l.length := by omega
theorem own_oN {n : Nat} (h : n < 2147483648) : (Int32.ofNat n).toInt = (n : Int) := Int32.toInt_ofNat_of_lt h
theorem own_oadd (a b : Nat) : Int32.ofNat a + Int32.ofNat b = Int32.ofNat (a + b) := (Int32.ofNat_add a b).symm
theorem own_osub {a b : Nat} (h : b ≤ a) : Int32.ofNat a - Int32.ofNat b = Int32.ofNat (a - b) := by
  have := own_oadd (a - b) b
  rw [Nat.sub_add_cancel h] at this
  rw [← this, Int32.add_sub_cancel]
theorem own_omul (a b : Nat) : Int32.ofNat a * Int32.ofNat b = Int32.ofNat (a * b) := (Int32.ofNat_mul a b).symm
theorem own_olt {a b : Nat} (ha : a < 2147483648) (hb : b < 2147483648) : Int32.ofNat a < Int32.ofNat b ↔ a < b := by
  rw [Int32.lt_iff_toInt_lt, own_oN ha, own_oN hb]; omega
theorem own_oeq {a b : Nat} (ha : a < 2147483648) (hb : b < 2147483648) : Int32.ofNat a = Int32.ofNat b ↔ a = b := by
  rw [← Int32.toInt_inj, own_oN ha, own_oN hb]; omega
theorem own_len {α : Type} {f : α → Value} {l : List α} {N : Nat} (h : l.length = N) : (List.map f l).length.toInt32 = Int32.ofNat N := by
  rw [List.length_map, h]
section OwnH
variable {p : Program} {l : Launch} {e : Env} {R : Room} {s : State} {m : MethodId} {args : Array Value} {below : List Frame} {meth : Method} {c : Code} {T : State} {locs : List Loc} {cells slots : Nat} {C S : Nat} {Q : Option Value → Heap → List Loc → Prop} {pc pc' : Nat} {Ls : Array Slot} {st : List Value}
  {Z : State} {a0 : Array Value} {n0 : Nat} {cs : List Cell}
theorem w_newarr (X : Stand p l e R s m args below meth c T locs cells slots) (hx : p.tables.exec = Jvm.exec) (hZ : Z.Warmed39 s.vm) (P : HP n0 T.heap cs) {aty : ArrayType} {ty : FieldType} (hty : newarray.typeOf aty = ty) (w : (Jvm.Cond.arrayClass ty).before a0 Z = true) (hd : decode c.code pc = .ok (.newarray aty, 2))
    {n : Int32} {N j : Nat} (hn : n.toInt = (N : Int)) (hN : N ≤ 1000) (hc : cells + 1 ≤ R.cells) (hl : slots + N ≤ R.slots) (hj : cs.length = j) (hp : pc + 2 = pc')
    (k : ∀ (T' : State) (kA : ClassId), Stand p l e R s m args below meth c T' locs (cells + 1) (slots + N) → IsA Z kA ty → HP n0 T'.heap (cs ++ [AC kA (List.replicate N (defaultValue ty))]) → Wp p e s below C S Q T' (mkF m pc' Ls (.ref (n0 + j) :: st))) :
    Wp p e s below C S Q T (mkF m pc Ls (.int n :: st)) := by
  subst hp hty hj
  have en : n.toNatClampNeg = N := by simp [Int32.toNatClampNeg, hn]
  have hcb : componentBytes (newarray.typeOf aty) ≤ 8 := by cases aty <;> decide
  obtain ⟨cA, kA, comp, h1, h2, h3, X', st1⟩ := X.newarrayPrim hx (mvA hZ w) (g := mkF m pc Ls (.int n :: st)) rfl hd rfl (by rw [Int32.lt_iff_toInt_lt, hn]; simp) (by rw [en]; exact Nat.le_trans (Nat.mul_le_mul hN hcb) (by decide)) hc (by rw [en]; exact hl)
  rw [en] at X' st1
  rw [hZ.alike.findClass] at h1
  obtain ⟨kZ, z1, -⟩ := Vm.findClass_spec h1
  obtain ⟨k', z2, z3⟩ := hZ.alike.2.2 _ _ z1
  cases h2.symm.trans z2
  rw [P.1] at st1
  have ec : ({ cls := cA, slots := Array.replicate N (defaultValue (newarray.typeOf aty)), vm := .none } : Cell) = AC cA (List.replicate N (defaultValue (newarray.typeOf aty))) := by simp [AC]
  rw [ec] at X' st1
  exact Wp.via st1 (k _ cA X' ⟨⟨kZ, z1, comp, by rw [← h3, z3]⟩, h1⟩ (P.push _))
theorem w_arrlen (X : Stand p l e R s m args below meth c T locs cells slots) (hx : p.tables.exec = Jvm.exec) (hZ : Z.Warmed39 s.vm) (P : HP n0 T.heap cs) {i : Nat} {kA : ClassId} {vs : List Value} {ty : FieldType} (q : cs[i]? = some (AC kA vs)) (hk : IsA Z kA ty) (hd : decode c.code pc = .ok (.arraylength, 1)) {z : Int32} (hz : vs.length.toInt32 = z) (hp : pc + 1 = pc')
    (k : Wp p e s below C S Q T (mkF m pc' Ls (.int z :: st))) : Wp p e s below C S Q T (mkF m pc Ls (.ref (n0 + i) :: st)) := by
  subst hp hz
  have A := P.arr q hk
  refine Wp.via (fun t ht => X.arraylength hx (cell := AC kA vs) A.1 (State.isArrayOf_alike hZ.alike A.2.1) (g := mkF m pc Ls (.ref (n0 + i) :: st)) rfl (rest := st) rfl hd _ ?_) k
  simpa [AC] using ht
theorem w_iaload (X : Stand p l e R s m args below meth c T locs cells slots) (hx : p.tables.exec = Jvm.exec) (hZ : Z.Warmed39 s.vm) (P : HP n0 T.heap cs) {i : Nat} {kA : ClassId} {vs : List Value} (q : cs[i]? = some (AC kA vs)) (hk : IsA Z kA .int) (hd : decode c.code pc = .ok (.iaload, 1)) {j : Int32} {jn : Nat} (hj : j.toInt = (jn : Int)) {v : Value} (hv : vs[jn]? = some v) (hp : pc + 1 = pc')
    (k : Wp p e s below C S Q T (mkF m pc' Ls (v :: st))) : Wp p e s below C S Q T (mkF m pc Ls (.int j :: .ref (n0 + i) :: st)) := by
  subst hp
  have A := P.arr q hk
  have hl : jn < (AC kA vs).slots.size := by simp [AC]; exact (List.getElem?_eq_some_iff.mp hv).1
  obtain ⟨e1, e2⟩ := own_idx hj hl
  exact Wp.via (fun t ht => X.iaload hx (j := j) (v := v) A.1 (State.isArrayOf_alike hZ.alike A.2.1) A.2.2 e2 (by rw [e1]; simpa [AC] using hv) (g := mkF m pc Ls (.int j :: .ref (n0 + i) :: st)) rfl rfl hd _ ht) k
theorem w_laload (X : Stand p l e R s m args below meth c T locs cells slots) (hx : p.tables.exec = Jvm.exec) (hZ : Z.Warmed39 s.vm) (P : HP n0 T.heap cs) {i : Nat} {kA : ClassId} {vs : List Value} (q : cs[i]? = some (AC kA vs)) (hk : IsA Z kA .long) (hd : decode c.code pc = .ok (.laload, 1)) {j : Int32} {jn : Nat} (hj : j.toInt = (jn : Int)) {v : Value} (hv : vs[jn]? = some v) (hp : pc + 1 = pc')
    (k : Wp p e s below C S Q T (mkF m pc' Ls (v :: st))) : Wp p e s below C S Q T (mkF m pc Ls (.int j :: .ref (n0 + i) :: st)) := by
  subst hp
  have A := P.arr q hk
  have hl : jn < (AC kA vs).slots.size := by simp [AC]; exact (List.getElem?_eq_some_iff.mp hv).1
  obtain ⟨e1, e2⟩ := own_idx hj hl
  exact Wp.via (fun t ht => X.laload hx (j := j) (v := v) A.1 (State.isArrayOf_alike hZ.alike A.2.1) A.2.2 e2 (by rw [e1]; simpa [AC] using hv) (g := mkF m pc Ls (.int j :: .ref (n0 + i) :: st)) rfl rfl hd _ ht) k
theorem w_baload (X : Stand p l e R s m args below meth c T locs cells slots) (hx : p.tables.exec = Jvm.exec) (hZ : Z.Warmed39 s.vm) (P : HP n0 T.heap cs) {i : Nat} {kA : ClassId} {vs : List Value} (q : cs[i]? = some (AC kA vs)) (hk : IsA Z kA .byte) (hd : decode c.code pc = .ok (.baload, 1)) {j : Int32} {jn : Nat} (hj : j.toInt = (jn : Int)) {v : Value} (hv : vs[jn]? = some v) (hp : pc + 1 = pc')
    (k : Wp p e s below C S Q T (mkF m pc' Ls (v :: st))) : Wp p e s below C S Q T (mkF m pc Ls (.int j :: .ref (n0 + i) :: st)) := by
  subst hp
  have A := P.arr q hk
  have hl : jn < (AC kA vs).slots.size := by simp [AC]; exact (List.getElem?_eq_some_iff.mp hv).1
  obtain ⟨e1, e2⟩ := own_idx hj hl
  exact Wp.via (fun t ht => X.baloadBytes hx (j := j) (v := v) A.1 (State.isArrayOf_alike hZ.alike A.2.1) A.2.2 e2 (by rw [e1]; simpa [AC] using hv) (g := mkF m pc Ls (.int j :: .ref (n0 + i) :: st)) rfl rfl hd _ ht) k
theorem w_caload (X : Stand p l e R s m args below meth c T locs cells slots) (hx : p.tables.exec = Jvm.exec) (hZ : Z.Warmed39 s.vm) (P : HP n0 T.heap cs) {i : Nat} {kA : ClassId} {vs : List Value} (q : cs[i]? = some (AC kA vs)) (hk : IsA Z kA .char) (hd : decode c.code pc = .ok (.caload, 1)) {j : Int32} {jn : Nat} (hj : j.toInt = (jn : Int)) {v : Value} (hv : vs[jn]? = some v) (hp : pc + 1 = pc')
    (k : Wp p e s below C S Q T (mkF m pc' Ls (v :: st))) : Wp p e s below C S Q T (mkF m pc Ls (.int j :: .ref (n0 + i) :: st)) := by
  subst hp
  have A := P.arr q hk
  have hl : jn < (AC kA vs).slots.size := by simp [AC]; exact (List.getElem?_eq_some_iff.mp hv).1
  obtain ⟨e1, e2⟩ := own_idx hj hl
  exact Wp.via (fun t ht => X.caload hx (j := j) (v := v) A.1 (State.isArrayOf_alike hZ.alike A.2.1) A.2.2 e2 (by rw [e1]; simpa [AC] using hv) (g := mkF m pc Ls (.int j :: .ref (n0 + i) :: st)) rfl rfl hd _ ht) k
theorem w_iastore (X : Stand p l e R s m args below meth c T locs cells slots) (hx : p.tables.exec = Jvm.exec) (hZ : Z.Warmed39 s.vm) (N : Fr n0 locs) (P : HP n0 T.heap cs) {i : Nat} {kA : ClassId} {vs : List Value} (q : cs[i]? = some (AC kA vs)) (hk : IsA Z kA .int) (hd : decode c.code pc = .ok (.iastore, 1)) {j : Int32} {x : Int32} {jn : Nat} (hj : j.toInt = (jn : Int)) (hl : jn < vs.length) (hp : pc + 1 = pc')
    (k : ∀ (T' : State) (L' : List Loc), Fr n0 L' → Stand p l e R s m args below meth c T' L' cells slots → HP n0 T'.heap (cs.set i (AC kA (vs.set jn (.int x)))) → Wp p e s below C S Q T' (mkF m pc' Ls st)) : Wp p e s below C S Q T (mkF m pc Ls (.int x :: .int j :: .ref (n0 + i) :: st)) := by
  subst hp
  have A := P.arr q hk
  obtain ⟨e1, e2⟩ := own_idx hj (N := (AC kA vs).slots.size) (by simpa [AC] using hl)
  obtain ⟨T', h', X', eh, W, st1⟩ := stI X hx hZ rfl A e2 (g := mkF m pc Ls (.int x :: .int j :: .ref (n0 + i) :: st)) rfl rfl hd
  rw [e1] at X' W
  subst eh
  have P' := P.wr W q
  rw [AC.set] at P'
  exact Wp.via st1 (k T' _ (own_one N _ _) X' P')
theorem w_lastore (X : Stand p l e R s m args below meth c T locs cells slots) (hx : p.tables.exec = Jvm.exec) (hZ : Z.Warmed39 s.vm) (N : Fr n0 locs) (P : HP n0 T.heap cs) {i : Nat} {kA : ClassId} {vs : List Value} (q : cs[i]? = some (AC kA vs)) (hk : IsA Z kA .long) (hd : decode c.code pc = .ok (.lastore, 1)) {j : Int32} {x : Int64} {jn : Nat} (hj : j.toInt = (jn : Int)) (hl : jn < vs.length) (hp : pc + 1 = pc')
    (k : ∀ (T' : State) (L' : List Loc), Fr n0 L' → Stand p l e R s m args below meth c T' L' cells slots → HP n0 T'.heap (cs.set i (AC kA (vs.set jn (.long x)))) → Wp p e s below C S Q T' (mkF m pc' Ls st)) : Wp p e s below C S Q T (mkF m pc Ls (.long x :: .int j :: .ref (n0 + i) :: st)) := by
  subst hp
  have A := P.arr q hk
  obtain ⟨e1, e2⟩ := own_idx hj (N := (AC kA vs).slots.size) (by simpa [AC] using hl)
  obtain ⟨T', h', X', eh, W, st1⟩ := stJ X hx hZ rfl A e2 (g := mkF m pc Ls (.long x :: .int j :: .ref (n0 + i) :: st)) rfl rfl hd
  rw [e1] at X' W
  subst eh
  have P' := P.wr W q
  rw [AC.set] at P'
  exact Wp.via st1 (k T' _ (own_one N _ _) X' P')
theorem w_bastore (X : Stand p l e R s m args below meth c T locs cells slots) (hx : p.tables.exec = Jvm.exec) (hZ : Z.Warmed39 s.vm) (N : Fr n0 locs) (P : HP n0 T.heap cs) {i : Nat} {kA : ClassId} {vs : List Value} (q : cs[i]? = some (AC kA vs)) (hk : IsA Z kA .byte) (hd : decode c.code pc = .ok (.bastore, 1)) {j : Int32} {x : Int32} {jn : Nat} (hj : j.toInt = (jn : Int)) (hl : jn < vs.length) (hp : pc + 1 = pc')
    (k : ∀ (T' : State) (L' : List Loc), Fr n0 L' → Stand p l e R s m args below meth c T' L' cells slots → HP n0 T'.heap (cs.set i (AC kA (vs.set jn (.int (nar .byte x))))) → Wp p e s below C S Q T' (mkF m pc' Ls st)) : Wp p e s below C S Q T (mkF m pc Ls (.int x :: .int j :: .ref (n0 + i) :: st)) := by
  subst hp
  have A := P.arr q hk
  obtain ⟨e1, e2⟩ := own_idx hj (N := (AC kA vs).slots.size) (by simpa [AC] using hl)
  obtain ⟨T', h', X', eh, W, st1⟩ := stB X hx hZ rfl A e2 (g := mkF m pc Ls (.int x :: .int j :: .ref (n0 + i) :: st)) rfl rfl hd
  rw [e1] at X' W
  subst eh
  have P' := P.wr W q
  rw [AC.set] at P'
  exact Wp.via st1 (k T' _ (own_one N _ _) X' P')
theorem w_bastoreE (X : Stand p l e R s m args below meth c T locs cells slots) (hx : p.tables.exec = Jvm.exec) (hZ : Z.Warmed39 s.vm) (N : Fr n0 locs) (P : HP n0 T.heap cs) {i : Nat} {kA : ClassId} {vs : List Value} (q : cs[i]? = some (AC kA vs)) (hk : IsA Z kA .byte) (hd : decode c.code pc = .ok (.bastore, 1)) {j : Int32} {x z : Int32} {jn : Nat} (hz : nar .byte x = z) (hj : j.toInt = (jn : Int)) (hl : jn < vs.length) (hp : pc + 1 = pc')
    (k : ∀ (T' : State) (L' : List Loc), Fr n0 L' → Stand p l e R s m args below meth c T' L' cells slots → HP n0 T'.heap (cs.set i (AC kA (vs.set jn (.int z)))) → Wp p e s below C S Q T' (mkF m pc' Ls st)) : Wp p e s below C S Q T (mkF m pc Ls (.int x :: .int j :: .ref (n0 + i) :: st)) := by
  subst hp hz
  have A := P.arr q hk
  obtain ⟨e1, e2⟩ := own_idx hj (N := (AC kA vs).slots.size) (by simpa [AC] using hl)
  obtain ⟨T', h', X', eh, W, st1⟩ := stB X hx hZ rfl A e2 (g := mkF m pc Ls (.int x :: .int j :: .ref (n0 + i) :: st)) rfl rfl hd
  rw [e1] at X' W
  subst eh
  have P' := P.wr W q
  rw [AC.set] at P'
  exact Wp.via st1 (k T' _ (own_one N _ _) X' P')
theorem w_getf (X : Stand p l e R s m args below meth c T locs cells slots) (hx : p.tables.exec = Jvm.exec) (hZ : Z.Warmed39 s.vm) {own O n d : String} {idx : Nat} (hown : s.vm.findClass own = some m.cls) (w : (Jvm.Cond.fieldLink own idx O n d).before a0 Z = true) (P : HP n0 T.heap cs) {i : Nat} {cell : Cell} (q : cs[i]? = some cell) {fl : List (String × String)} {vs : List Value} (F : ObjF Z cell O fl vs) (j : Nat) (hf : fl[j]? = some (n, d)) {v : Value} (hv : vs[j]? = some v) (hd : decode c.code pc = .ok (.getfield idx, 3)) (hp : pc + 3 = pc')
    (k : ∀ (T' : State), Stand p l e R s m args below meth c T' locs cells slots → HP n0 T'.heap cs → Wp p e s below C S Q T' (mkF m pc' Ls (v :: st))) : Wp p e s below C S Q T (mkF m pc Ls (.ref (n0 + i) :: st)) := by
  subst hp
  obtain ⟨T', X', eh, st1⟩ := getF X hx hZ hown (host := "") (Or.inl w) Via.refl rfl (P.fld q (F.2.2 j n d v hf hv)) (g := mkF m pc Ls (.ref (n0 + i) :: st)) rfl rfl hd
  exact Wp.via st1 (k T' X' (by rw [eh]; exact P))
theorem w_putf (X : Stand p l e R s m args below meth c T locs cells slots) (hx : p.tables.exec = Jvm.exec) (hZ : Z.Warmed39 s.vm) {own O n d : String} {idx kk : Nat} {ty : FieldType} (hown : s.vm.findClass own = some m.cls) (w : (Jvm.Cond.fieldLink own idx O n d).before a0 Z = true) (N : Fr n0 locs) (P : HP n0 T.heap cs) {i : Nat} {cell : Cell} (q : cs[i]? = some cell) {fl : List (String × String)} {vs : List Value} (F : ObjF Z cell O fl vs) (D : Dis Z O fl) (j : Nat) (hf : fl[j]? = some (n, d))
    (L : (Jvm.Cond.lays O O n d).before a0 Z = true ∨ ((Jvm.Cond.laysFinal O O n d).before a0 Z = true ∧ own = O ∧ meth.name = "<init>")) (wi : (Jvm.Cond.instantiable O kk).before a0 Z = true) (hty : parseFieldDescriptor d = some ty) {v : Value} (hn : narrow ty v = v) (hfit : fits ty v = true) (hd : decode c.code pc = .ok (.putfield idx, 3)) (hp : pc + 3 = pc')
    (k : ∀ (T' : State) (L' : List Loc) (cell' : Cell), Fr n0 L' → Stand p l e R s m args below meth c T' L' cells slots → HP n0 T'.heap (cs.set i cell') → ObjF Z cell' O fl (vs.set j v) → Wp p e s below C S Q T' (mkF m pc' Ls st)) : Wp p e s below C S Q T (mkF m pc Ls (v :: .ref (n0 + i) :: st)) := by
  subst hp
  have hjl : j < vs.length := by rw [F.2.1]; exact (List.getElem?_eq_some_iff.mp hf).1
  obtain ⟨T', h', X', eh, W, st1⟩ := putF X hx hZ hown (host := "") (Or.inl w) Via.refl rfl (P.fld q (F.2.2 j n d _ hf (List.getElem?_eq_getElem hjl))) (P.exa q F.1) L wi hty hn hfit (g := mkF m pc Ls (v :: .ref (n0 + i) :: st)) rfl rfl hd
  subst eh
  exact Wp.via st1 (k T' _ _ (own_one N _ _) X' (P.wr W q) (F.set D hf v))
theorem w_new (X : Stand p l e R s m args below meth c T locs cells slots) (hx : p.tables.exec = Jvm.exec) (hZ : Z.Warmed39 s.vm) {own K : String} {idx n j : Nat} (hown : s.vm.findClass own = some m.cls) (w : (Jvm.Cond.classLink own idx K).before a0 Z = true) (wi : (Jvm.Cond.instantiable K n).before a0 Z = true) (wz : (Jvm.Cond.initialized K).before a0 Z = true) (P : HP n0 T.heap cs)
    (fl : List (String × String)) (vs : List Value) (hfl : vs.length = fl.length) (hlay : ∀ (j : Nat) (n d : String) (v : Value), fl[j]? = some (n, d) → vs[j]? = some v → Laid Z a0 K K n d ∧ ∃ ty, parseFieldDescriptor d = some ty ∧ defaultValue ty = v) (hd : decode c.code pc = .ok (.new idx, 3)) (hc : cells + 1 ≤ R.cells) (hl : slots + n ≤ R.slots) (hj : cs.length = j) (hp : pc + 3 = pc')
    (k : ∀ (T' : State) (cell' : Cell), Stand p l e R s m args below meth c T' locs (cells + 1) (slots + n) → HP n0 T'.heap (cs ++ [cell']) → ObjF Z cell' K fl vs → Wp p e s below C S Q T' (mkF m pc' Ls (.ref (n0 + j) :: st))) : Wp p e s below C S Q T (mkF m pc Ls st) := by
  subst hp hj
  obtain ⟨vm', cC, kC, h1, h2, h3, h4, X', st1⟩ := X.newCold hx hown (mv hZ w) (mv hZ wi) (mv hZ wz) (g := mkF m pc Ls st) rfl hd hc hl
  rw [hZ.alike.findClass] at h1
  obtain ⟨kZ, z1, -⟩ := Vm.findClass_spec h1
  obtain ⟨k', z2, z3⟩ := hZ.alike.2.2 _ _ z1
  cases h2.symm.trans z2
  have ei : kC.instanceTypes = kZ.instanceTypes := by rw [z3]
  rw [P.1] at st1
  refine Wp.via st1 (k _ _ X' (P.push _) ⟨⟨kZ, h1, z1, rfl, fun _ => by simp [ei]⟩, hfl, fun j n d v a b => ?_⟩)
  obtain ⟨L, ty, ht, hv⟩ := hlay j n d v a b
  obtain ⟨c1, k1, cf, kf, i, f, a1, a2, a3, a4, a5, a6, -⟩ := L.spec
  cases h1.symm.trans a1
  cases z1.symm.trans a2
  exact ⟨cf, kf, i, f, a3, a4, by simp, rfl, a5, by simp [ei, a6, (State.fieldFound?_type a3 ht).2, hv]⟩
theorem w_initO (X : Stand p l e R s m args below meth c T locs cells slots) (hx : p.tables.exec = Jvm.exec) (hZ : Z.Warmed39 s.vm) {own : String} {idx : Nat} (hown : s.vm.findClass own = some m.cls) (hml : Ls.size = c.maxLocals) (w1 : (Jvm.Cond.methodLink own idx Lib.objectInit).before a0 Z = true) (w2 : (Jvm.Cond.instanceMethod Lib.objectInit).before a0 Z = true)
    (w3 : (Jvm.Cond.code Lib.objectInit ⟨#[0xb1]⟩ 1 none).before a0 Z = true) (P : HP n0 T.heap cs) {a : Addr} (hd : decode c.code pc = .ok (.invokespecial idx, 3)) (hf : 1 ≤ R.frames) {W : Nat} (hW : (st.map fun v => v.category).sum ≤ W) (hl : W + 12 ≤ R.locals) (hp : pc + 3 = pc')
    (k : ∀ (T' : State), Stand p l e R s m args below meth c T' locs cells slots → HP n0 T'.heap cs → Wp p e s below C S Q T' (mkF m pc' Ls st)) : Wp p e s below C S Q T (mkF m pc Ls (.ref a :: st)) := by
  subst hp
  obtain ⟨T', X', eh, st1⟩ := initO X hx hZ hown w1 w2 w3 rfl (g := mkF m pc Ls (.ref a :: st)) rfl hml (rest := st) rfl hd hf (W := W) (by show 2 * 0 + _ ≤ _; omega) hl
  exact Wp.via st1 (k T' X' (by rw [eh]; exact P))
theorem own_callI (X : Stand p l e R s m args below meth c T locs cells slots) (hx : p.tables.exec = Jvm.exec) {h : Heap} (hZ : Z.Warmed39 s.vm) (eT : T.heap = h) {own : String} {i : Nat} {y : MethodName} {bytes : ByteArray} {maxL : Nat} {rm : Room} {W : Nat} {as' : Array Value} {Qc : Option Value → Heap → List Loc → Prop} (hy1 : y.name = "<init>")
    (hown : s.vm.findClass own = some m.cls) (hml : Ls.size = c.maxLocals) (w1 : (Jvm.Cond.methodLink own i y).before a0 Z = true) (w2 : (Jvm.Cond.instanceMethod y).before a0 Z = true) (w3 : (Jvm.Cond.initialized y.cls).before a0 Z = true) (w4 : (Jvm.Cond.code y bytes maxL none).before a0 Z = true)
    (hM : MetFree l y (head1 [Jvm.Cond.code y bytes maxL none] rm) (fun a U => a = as' ∧ Z.Warmed39 U.vm ∧ U.heap = h) (fun _ _ _ _ _ => True) (fun _ U o U' => ∃ v L, o = .returned v ∧ Qc v U'.heap L ∧ FrameEnd U o U' L rm.cells rm.slots))
    (hy : y.cls ≠ "java/lang/invoke/MethodHandle" ∧ y.cls ≠ "java/lang/invoke/VarHandle") (hf : rm.frames + 1 ≤ R.frames) (hl : W + (maxL + 11) + rm.locals ≤ R.locals) (hc : cells + rm.cells ≤ R.cells) (hsl : slots + rm.slots ≤ R.slots)
    {a : Addr} {argsL rest : List Value} {ps : List FieldType} {r : Option FieldType} (hpd : parseMethodDescriptor y.desc = some ⟨ps, r⟩) (hlen : argsL.length = ps.length) (has : (.ref a :: argsL).toArray = as') (hst : st = argsL.reverse ++ .ref a :: rest) (hW : (rest.map fun v => v.category).sum ≤ W) (hd : decode c.code pc = .ok (.invokespecial i, 3)) (hp : pc + 3 = pc')
    (k : ∀ (v : Option Value) (T' : State) (L : List Loc), Stand p l e R s m args below meth c T' (locs ++ L) (cells + rm.cells) (slots + rm.slots) → Qc v T'.heap L → Wp p e s below C S Q T' (mkF m pc' Ls (v.toList ++ rest))) : Wp p e s below C S Q T (mkF m pc Ls st) := by
  obtain ⟨v, _, ⟨T1, L1, k1, n1⟩, -, X1, ⟨Lc1, hQ1, l1, y1, z1⟩, st1⟩ := X.specialBack hx (y := y) hy1 hown (mvT hZ w1) (mvT hZ w2) (mvT hZ w4) hy (backOf (W := W) hM hZ w4 w3 hf hl) (g := mkF m pc Ls st) rfl hml (Steps.refl _) (a := a) (argsL := argsL) (rest := rest) (lenOf hpd hlen) hst (by show 2 * 0 + _ ≤ _; omega) hd (fun _ _ => ⟨has, eT, hc, hsl⟩)
  dsimp only [Pt.U, Pt.locs, Pt.cells, Pt.slots] at X1 l1 y1 z1 st1 hQ1
  subst l1 y1 z1
  subst hp
  exact Wp.via (fun _ h => st1.trans h) (k v T1 Lc1 X1 hQ1)
theorem own_callV (X : Stand p l e R s m args below meth c T locs cells slots) (hx : p.tables.exec = Jvm.exec) {h : Heap} (hZ : Z.Warmed39 s.vm) (eT : T.heap = h) {own K : String} {i : Nat} {y : MethodName} {bytes : ByteArray} {maxL : Nat} {ret : Option FieldType} {rm : Room} {W : Nat} {as' : Array Value} {Qc : Option Value → Heap → List Loc → Prop}
    (hown : s.vm.findClass own = some m.cls) (hml : Ls.size = c.maxLocals) (w1 : (Jvm.Cond.methodLink own i y).before a0 Z = true) (w2 : (Jvm.Cond.declares y).before a0 Z = true) (w5 : (Jvm.Cond.selects K y y).before a0 Z = true) (w6 : (Jvm.Cond.instanceMethod y).before a0 Z = true) (w3 : (Jvm.Cond.initialized y.cls).before a0 Z = true) (w4 : (Jvm.Cond.code y bytes maxL ret).before a0 Z = true)
    (hM : MetFree l y (head1 [Jvm.Cond.code y bytes maxL ret] rm) (fun a U => a = as' ∧ Z.Warmed39 U.vm ∧ U.heap = h) (fun _ _ _ _ _ => True) (fun _ U o U' => ∃ v L, o = .returned v ∧ Qc v U'.heap L ∧ FrameEnd U o U' L rm.cells rm.slots))
    {a : Addr} (E : Exa Z h a K) (hy : y.cls ≠ "java/lang/invoke/MethodHandle" ∧ y.cls ≠ "java/lang/invoke/VarHandle") (hf : rm.frames + 1 ≤ R.frames) (hl : W + (maxL + 11) + rm.locals ≤ R.locals) (hc : cells + rm.cells ≤ R.cells) (hsl : slots + rm.slots ≤ R.slots)
    {argsL rest : List Value} {ps : List FieldType} {r : Option FieldType} (hpd : parseMethodDescriptor y.desc = some ⟨ps, r⟩) (hlen : argsL.length = ps.length) (has : (.ref a :: argsL).toArray = as') (hst : st = argsL.reverse ++ .ref a :: rest) (hW : (rest.map fun v => v.category).sum ≤ W) (hd : decode c.code pc = .ok (.invokevirtual i, 3)) (hp : pc + 3 = pc')
    (k : ∀ (v : Option Value) (T' : State) (L : List Loc), Stand p l e R s m args below meth c T' (locs ++ L) (cells + rm.cells) (slots + rm.slots) → Qc v T'.heap L → Wp p e s below C S Q T' (mkF m pc' Ls (v.toList ++ rest))) : Wp p e s below C S Q T (mkF m pc Ls st) := by
  obtain ⟨cq, kq, qa, qb, qc⟩ := isOf hZ eT E
  obtain ⟨v, _, ⟨T1, L1, k1, n1⟩, -, X1, ⟨Lc1, hQ1, l1, y1, z1⟩, st1⟩ := X.virtualBack hx (y := y) (z := y) hown (mvT hZ w1) (mvT hZ w2) (notFace_of_selects (args := #[]) (mvT hZ w5)) (mvT hZ w5) (mvT hZ w6) hy (backOf (W := W) hM hZ w4 w3 hf hl) qa qc (g := mkF m pc Ls st) rfl hml (Steps.refl _) (argsL := argsL) (rest := rest) (lenOf hpd hlen) hst (by show 2 * 0 + _ ≤ _; omega) hd (fun _ _ => ⟨has, eT, hc, hsl⟩)
  dsimp only [Pt.U, Pt.locs, Pt.cells, Pt.slots] at X1 l1 y1 z1 st1 hQ1
  subst l1 y1 z1
  subst hp
  exact Wp.via (fun _ h => st1.trans h) (k v T1 Lc1 X1 hQ1)
theorem w_clone (X : Stand p l e R s m args below meth c T locs cells slots) (hx : p.tables.exec = Jvm.exec) (hZ : Z.Warmed39 s.vm) {own ad : String} {idx : Nat} (hown : s.vm.findClass own = some m.cls) (hml : Ls.size = c.maxLocals)
    (w1 : (Jvm.Cond.methodLink own idx ⟨ad, "clone", "()Ljava/lang/Object;"⟩).before a0 Z = true) (w2 : (Jvm.Cond.sameMethod ad "java/lang/Object" "clone" "()Ljava/lang/Object;").before a0 Z = true) (w3 : (Jvm.Cond.native ⟨"java/lang/Object", "clone", "()Ljava/lang/Object;"⟩).before a0 Z = true)
    (w4 : (Jvm.Cond.instanceMethod ⟨"java/lang/Object", "clone", "()Ljava/lang/Object;"⟩).before a0 Z = true) (w5 : (Jvm.Cond.selects ad ⟨ad, "clone", "()Ljava/lang/Object;"⟩ ⟨"java/lang/Object", "clone", "()Ljava/lang/Object;"⟩).before a0 Z = true) (w6 : (Jvm.Cond.castable ad "java/lang/Cloneable").before a0 Z = true)
    (P : HP n0 T.heap cs) {i : Nat} {kA : ClassId} {vs : List Value} {ty : FieldType} (q : cs[i]? = some (AC kA vs)) (hk : IsA Z kA ty) (had : "[" ++ ty.toString = ad) (hfit : ∀ v ∈ vs, fits ty v = true) (hd : decode c.code pc = .ok (.invokevirtual idx, 3)) (hf : 1 ≤ R.frames) {W N j : Nat} (hW : (st.map fun v => v.category).sum ≤ W) (hl : W + 14 ≤ R.locals) (hN : vs.length = N) (hc : cells + 1 ≤ R.cells) (hsl : slots + N ≤ R.slots) (hj : cs.length = j) (hp : pc + 3 = pc')
    (k : ∀ (T' : State), Stand p l e R s m args below meth c T' locs (cells + 1) (slots + N) → HP n0 T'.heap (cs ++ [AC kA vs]) → Wp p e s below C S Q T' (mkF m pc' Ls (.ref (n0 + j) :: st))) : Wp p e s below C S Q T (mkF m pc Ls (.ref (n0 + i) :: st)) := by
  subst hp hj hN
  have A := P.arr q hk
  have E := P.exaA q hk had
  have F : FitC Z (AC kA vs) := fitC_of A fun i hi v hv => hfit v (by simp [AC] at hv; exact List.mem_of_getElem? hv)
  obtain ⟨c1, cC, g1, g2, g3⟩ := Cond.castable_spec w6
  have e2 : Z.vm.findClass ad = some (AC kA vs).cls := by rw [← had]; exact hk.2
  cases e2.symm.trans g1
  have hal : Z.vm.Alike T.vm := hZ.alike.trans X.warmed.alike
  obtain ⟨vm', X', st1⟩ := X.cloneArray hx hown (mv hZ w1) (mv hZ w2) (mv hZ w3) (mv hZ w4) (mv hZ w5) (a := n0 + i) A.1 A.2.1.1 A.2.2 (by rw [hZ.alike.findClass]; exact e2) (by rw [hZ.alike.findClass]; exact g2) (by rw [hZ.alike.assignable]; exact g3)
    (fun i v hv => by have q := F i v hv; rw [← State.fitsSlot_setVm hal] at q; exact q) (g := mkF m pc Ls (.ref (n0 + i) :: st)) rfl hml rfl hd hf (by show 2 * 0 + _ + 14 ≤ _; omega) hc (by simpa [AC] using hsl)
    (by obtain ⟨-, k2, hk2, comp, hkind⟩ := A.2.1; rw [hZ.alike.clonesLoader]; exact Vm.clonesLoader_of_array hk2 hkind)
  rw [P.1] at st1
  have es : (AC kA vs).slots.size = vs.length := by simp [AC]
  rw [es] at X'
  exact Wp.via st1 (k _ X' (P.push _))
theorem w_ccastA (X : Stand p l e R s m args below meth c T locs cells slots) (hx : p.tables.exec = Jvm.exec) (hZ : Z.Warmed39 s.vm) {own ad : String} {idx : Nat} (hown : s.vm.findClass own = some m.cls) (w : (Jvm.Cond.classLink own idx ad).before a0 Z = true) (P : HP n0 T.heap cs) {i : Nat} {kA : ClassId} {vs : List Value} {ty : FieldType} (q : cs[i]? = some (AC kA vs)) (hk : IsA Z kA ty) (had : "[" ++ ty.toString = ad) (hd : decode c.code pc = .ok (.checkcast idx, 3)) (hp : pc + 3 = pc')
    (k : ∀ (T' : State), Stand p l e R s m args below meth c T' locs cells slots → HP n0 T'.heap cs → Wp p e s below C S Q T' (mkF m pc' Ls (.ref (n0 + i) :: st))) : Wp p e s below C S Q T (mkF m pc Ls (.ref (n0 + i) :: st)) := by
  subst hp
  obtain ⟨T', X', eh, st1⟩ := castY X hx hZ hown w rfl (Ins.self (P.exaA q hk had)) (g := mkF m pc Ls (.ref (n0 + i) :: st)) rfl rfl hd
  exact Wp.via st1 (k T' X' (by rw [eh]; exact P))
theorem w_ialoadL (X : Stand p l e R s m args below meth c T locs cells slots) (hx : p.tables.exec = Jvm.exec) (hZ : Z.Warmed39 s.vm) (P : HP n0 T.heap cs) {i : Nat} {kA : ClassId} {ll : List Int32} (q : cs[i]? = some (AC kA (List.map Value.int ll))) (hk : IsA Z kA .int) (hd : decode c.code pc = .ok (.iaload, 1)) {j : Int32} {jn : Nat} (hj : j.toInt = (jn : Int)) (hl : jn < ll.length) (hp : pc + 1 = pc')
    (k : Wp p e s below C S Q T (mkF m pc' Ls (.int (ll.getD jn 0) :: st))) : Wp p e s below C S Q T (mkF m pc Ls (.int j :: .ref (n0 + i) :: st)) :=
  w_iaload X hx hZ P q hk hd hj (own_get hl) hp k
theorem w_laloadL (X : Stand p l e R s m args below meth c T locs cells slots) (hx : p.tables.exec = Jvm.exec) (hZ : Z.Warmed39 s.vm) (P : HP n0 T.heap cs) {i : Nat} {kA : ClassId} {ll : List Int64} (q : cs[i]? = some (AC kA (List.map Value.long ll))) (hk : IsA Z kA .long) (hd : decode c.code pc = .ok (.laload, 1)) {j : Int32} {jn : Nat} (hj : j.toInt = (jn : Int)) (hl : jn < ll.length) (hp : pc + 1 = pc')
    (k : Wp p e s below C S Q T (mkF m pc' Ls (.long (ll.getD jn 0) :: st))) : Wp p e s below C S Q T (mkF m pc Ls (.int j :: .ref (n0 + i) :: st)) :=
  w_laload X hx hZ P q hk hd hj (own_get hl) hp k
theorem w_baloadL (X : Stand p l e R s m args below meth c T locs cells slots) (hx : p.tables.exec = Jvm.exec) (hZ : Z.Warmed39 s.vm) (P : HP n0 T.heap cs) {i : Nat} {kA : ClassId} {ll : List Int32} (q : cs[i]? = some (AC kA (List.map Value.int ll))) (hk : IsA Z kA .byte) (hd : decode c.code pc = .ok (.baload, 1)) {j : Int32} {jn : Nat} (hj : j.toInt = (jn : Int)) (hl : jn < ll.length) (hp : pc + 1 = pc')
    (k : Wp p e s below C S Q T (mkF m pc' Ls (.int (ll.getD jn 0) :: st))) : Wp p e s below C S Q T (mkF m pc Ls (.int j :: .ref (n0 + i) :: st)) :=
  w_baload X hx hZ P q hk hd hj (own_get hl) hp k
theorem w_iastoreL (X : Stand p l e R s m args below meth c T locs cells slots) (hx : p.tables.exec = Jvm.exec) (hZ : Z.Warmed39 s.vm) (N : Fr n0 locs) (P : HP n0 T.heap cs) {i : Nat} {kA : ClassId} {ll : List Int32} (q : cs[i]? = some (AC kA (List.map Value.int ll))) (hk : IsA Z kA .int) (hd : decode c.code pc = .ok (.iastore, 1)) {j : Int32} {x : Int32} {jn : Nat} (hj : j.toInt = (jn : Int)) (hl : jn < ll.length) (hp : pc + 1 = pc')
    (k : ∀ (T' : State) (L' : List Loc), Fr n0 L' → Stand p l e R s m args below meth c T' L' cells slots → HP n0 T'.heap (cs.set i (AC kA (List.map Value.int (ll.set jn x)))) → Wp p e s below C S Q T' (mkF m pc' Ls st)) : Wp p e s below C S Q T (mkF m pc Ls (.int x :: .int j :: .ref (n0 + i) :: st)) :=
  w_iastore X hx hZ N P q hk hd hj (by simpa using hl) hp (fun T' L' N' X' P' => k T' L' N' X' (by rw [List.map_set]; exact P'))
theorem w_lastoreL (X : Stand p l e R s m args below meth c T locs cells slots) (hx : p.tables.exec = Jvm.exec) (hZ : Z.Warmed39 s.vm) (N : Fr n0 locs) (P : HP n0 T.heap cs) {i : Nat} {kA : ClassId} {ll : List Int64} (q : cs[i]? = some (AC kA (List.map Value.long ll))) (hk : IsA Z kA .long) (hd : decode c.code pc = .ok (.lastore, 1)) {j : Int32} {x : Int64} {jn : Nat} (hj : j.toInt = (jn : Int)) (hl : jn < ll.length) (hp : pc + 1 = pc')
    (k : ∀ (T' : State) (L' : List Loc), Fr n0 L' → Stand p l e R s m args below meth c T' L' cells slots → HP n0 T'.heap (cs.set i (AC kA (List.map Value.long (ll.set jn x)))) → Wp p e s below C S Q T' (mkF m pc' Ls st)) : Wp p e s below C S Q T (mkF m pc Ls (.long x :: .int j :: .ref (n0 + i) :: st)) :=
  w_lastore X hx hZ N P q hk hd hj (by simpa using hl) hp (fun T' L' N' X' P' => k T' L' N' X' (by rw [List.map_set]; exact P'))
theorem w_bastoreEL (X : Stand p l e R s m args below meth c T locs cells slots) (hx : p.tables.exec = Jvm.exec) (hZ : Z.Warmed39 s.vm) (N : Fr n0 locs) (P : HP n0 T.heap cs) {i : Nat} {kA : ClassId} {ll : List Int32} (q : cs[i]? = some (AC kA (List.map Value.int ll))) (hk : IsA Z kA .byte) (hd : decode c.code pc = .ok (.bastore, 1)) {j : Int32} {x : Int32} {z : Int32} (hz : nar .byte x = z) {jn : Nat} (hj : j.toInt = (jn : Int)) (hl : jn < ll.length) (hp : pc + 1 = pc')
    (k : ∀ (T' : State) (L' : List Loc), Fr n0 L' → Stand p l e R s m args below meth c T' L' cells slots → HP n0 T'.heap (cs.set i (AC kA (List.map Value.int (ll.set jn z)))) → Wp p e s below C S Q T' (mkF m pc' Ls st)) : Wp p e s below C S Q T (mkF m pc Ls (.int x :: .int j :: .ref (n0 + i) :: st)) :=
  w_bastoreE X hx hZ N P q hk hd hz hj (by simpa using hl) hp (fun T' L' N' X' P' => k T' L' N' X' (by rw [List.map_set]; exact P'))
end OwnH
/-! small numbers -/
theorem own_small {x : Int32} {n : Nat} (h0 : 0 ≤ x.toInt) (h1 : x.toInt < n) (hn : n ≤ 2147483648) : ∃ k : Nat, k < n ∧ x = Int32.ofNat k := by
  refine ⟨x.toInt.toNat, by omega, Int32.toInt_inj.mp ?_⟩
  rw [Int32.toInt_ofNat_of_lt (by omega)]
  omega
theorem own_mask (a : Int32) : 0 ≤ (a &&& 2147483647).toInt ∧ (a &&& 2147483647).toInt < 2147483648 := by
  have h := c_mask a 2147483647 31 (by decide) (by decide)
  omega
theorem own_rem (a d : Int32) (D : Nat) (hd : d.toInt = (D : Int)) (h0 : 0 < D) : ∃ k : Nat, k < D ∧ (a &&& 2147483647) % d = Int32.ofNat k := by
  have h := own_mask a
  have h2 := (c_irem (a &&& 2147483647) d D hd).1 h.1
  have h3 := Int.emod_nonneg (a &&& 2147483647).toInt (b := (D : Int)) (by omega)
  have h4 := Int.emod_lt_of_pos (a &&& 2147483647).toInt (b := (D : Int)) (by omega)
  have h5 := d.toInt_lt
  exact own_small (by omega) (by omega) (by omega)
theorem own_remP (y d : Int32) (D : Nat) (h0 : 0 ≤ y.toInt) (hd : d.toInt = (D : Int)) (h1 : 0 < D) : ∃ k : Nat, k < D ∧ y % d = Int32.ofNat k := by
  have h2 := (c_irem y d D hd).1 h0
  have h3 := Int.emod_nonneg y.toInt (b := (D : Int)) (by omega)
  have h4 := Int.emod_lt_of_pos y.toInt (b := (D : Int)) (by omega)
  have h5 := d.toInt_lt
  exact own_small (by omega) (by omega) (by omega)
theorem own_andk (a m : Int32) (M : Nat) (hm : m.toInt = (M : Int)) : ∃ k : Nat, k < M + 1 ∧ a &&& m = Int32.ofNat k := by
  have h := c_and a m (by omega)
  have h5 := m.toInt_lt
  exact own_small h.1 (by omega) (by omega)
theorem own_c1 {x : Int32} (h : ∃ k : Nat, k < 1 ∧ x = Int32.ofNat k) : x = 0 := by
  obtain ⟨k, hk, e⟩ := h
  obtain rfl : k = 0 := by omega
  exact e
theorem own_c2 {x : Int32} (h : ∃ k : Nat, k < 2 ∧ x = Int32.ofNat k) : x = 0 ∨ x = 1 := by
  obtain ⟨k, hk, e⟩ := h
  have q : k = 0 ∨ k = 1 := by omega
  rcases q with rfl | rfl
  · exact Or.inl e
  · exact Or.inr (e)
theorem own_c3 {x : Int32} (h : ∃ k : Nat, k < 3 ∧ x = Int32.ofNat k) : x = 0 ∨ x = 1 ∨ x = 2 := by
  obtain ⟨k, hk, e⟩ := h
  have q : k = 0 ∨ k = 1 ∨ k = 2 := by omega
  rcases q with rfl | rfl | rfl
  · exact Or.inl e
  · exact Or.inr (Or.inl e)
  · exact Or.inr (Or.inr (e))
theorem own_c4 {x : Int32} (h : ∃ k : Nat, k < 4 ∧ x = Int32.ofNat k) : x = 0 ∨ x = 1 ∨ x = 2 ∨ x = 3 := by
  obtain ⟨k, hk, e⟩ := h
  have q : k = 0 ∨ k = 1 ∨ k = 2 ∨ k = 3 := by omega
  rcases q with rfl | rfl | rfl | rfl
  · exact Or.inl e
  · exact Or.inr (Or.inl e)
  · exact Or.inr (Or.inr (Or.inl e))
  · exact Or.inr (Or.inr (Or.inr (e)))
theorem own_c5 {x : Int32} (h : ∃ k : Nat, k < 5 ∧ x = Int32.ofNat k) : x = 0 ∨ x = 1 ∨ x = 2 ∨ x = 3 ∨ x = 4 := by
  obtain ⟨k, hk, e⟩ := h
  have q : k = 0 ∨ k = 1 ∨ k = 2 ∨ k = 3 ∨ k = 4 := by omega
  rcases q with rfl | rfl | rfl | rfl | rfl
  · exact Or.inl e
  · exact Or.inr (Or.inl e)
  · exact Or.inr (Or.inr (Or.inl e))
  · exact Or.inr (Or.inr (Or.inr (Or.inl e)))
  · exact Or.inr (Or.inr (Or.inr (Or.inr (e))))
theorem own_c6 {x : Int32} (h : ∃ k : Nat, k < 6 ∧ x = Int32.ofNat k) : x = 0 ∨ x = 1 ∨ x = 2 ∨ x = 3 ∨ x = 4 ∨ x = 5 := by
  obtain ⟨k, hk, e⟩ := h
  have q : k = 0 ∨ k = 1 ∨ k = 2 ∨ k = 3 ∨ k = 4 ∨ k = 5 := by omega
  rcases q with rfl | rfl | rfl | rfl | rfl | rfl
  · exact Or.inl e
  · exact Or.inr (Or.inl e)
  · exact Or.inr (Or.inr (Or.inl e))
  · exact Or.inr (Or.inr (Or.inr (Or.inl e)))
  · exact Or.inr (Or.inr (Or.inr (Or.inr (Or.inl e))))
  · exact Or.inr (Or.inr (Or.inr (Or.inr (Or.inr (e)))))
theorem own_c7 {x : Int32} (h : ∃ k : Nat, k < 7 ∧ x = Int32.ofNat k) : x = 0 ∨ x = 1 ∨ x = 2 ∨ x = 3 ∨ x = 4 ∨ x = 5 ∨ x = 6 := by
  obtain ⟨k, hk, e⟩ := h
  have q : k = 0 ∨ k = 1 ∨ k = 2 ∨ k = 3 ∨ k = 4 ∨ k = 5 ∨ k = 6 := by omega
  rcases q with rfl | rfl | rfl | rfl | rfl | rfl | rfl
  · exact Or.inl e
  · exact Or.inr (Or.inl e)
  · exact Or.inr (Or.inr (Or.inl e))
  · exact Or.inr (Or.inr (Or.inr (Or.inl e)))
  · exact Or.inr (Or.inr (Or.inr (Or.inr (Or.inl e))))
  · exact Or.inr (Or.inr (Or.inr (Or.inr (Or.inr (Or.inl e)))))
  · exact Or.inr (Or.inr (Or.inr (Or.inr (Or.inr (Or.inr (e))))))
theorem own_c8 {x : Int32} (h : ∃ k : Nat, k < 8 ∧ x = Int32.ofNat k) : x = 0 ∨ x = 1 ∨ x = 2 ∨ x = 3 ∨ x = 4 ∨ x = 5 ∨ x = 6 ∨ x = 7 := by
  obtain ⟨k, hk, e⟩ := h
  have q : k = 0 ∨ k = 1 ∨ k = 2 ∨ k = 3 ∨ k = 4 ∨ k = 5 ∨ k = 6 ∨ k = 7 := by omega
  rcases q with rfl | rfl | rfl | rfl | rfl | rfl | rfl | rfl
  · exact Or.inl e
  · exact Or.inr (Or.inl e)
  · exact Or.inr (Or.inr (Or.inl e))
  · exact Or.inr (Or.inr (Or.inr (Or.inl e)))
  · exact Or.inr (Or.inr (Or.inr (Or.inr (Or.inl e))))
  · exact Or.inr (Or.inr (Or.inr (Or.inr (Or.inr (Or.inl e)))))
  · exact Or.inr (Or.inr (Or.inr (Or.inr (Or.inr (Or.inr (Or.inl e))))))
  · exact Or.inr (Or.inr (Or.inr (Or.inr (Or.inr (Or.inr (Or.inr (e)))))))
theorem own_c9 {x : Int32} (h : ∃ k : Nat, k < 9 ∧ x = Int32.ofNat k) : x = 0 ∨ x = 1 ∨ x = 2 ∨ x = 3 ∨ x = 4 ∨ x = 5 ∨ x = 6 ∨ x = 7 ∨ x = 8 := by
  obtain ⟨k, hk, e⟩ := h
  have q : k = 0 ∨ k = 1 ∨ k = 2 ∨ k = 3 ∨ k = 4 ∨ k = 5 ∨ k = 6 ∨ k = 7 ∨ k = 8 := by omega
  rcases q with rfl | rfl | rfl | rfl | rfl | rfl | rfl | rfl | rfl
  · exact Or.inl e
  · exact Or.inr (Or.inl e)
  · exact Or.inr (Or.inr (Or.inl e))
  · exact Or.inr (Or.inr (Or.inr (Or.inl e)))
  · exact Or.inr (Or.inr (Or.inr (Or.inr (Or.inl e))))
  · exact Or.inr (Or.inr (Or.inr (Or.inr (Or.inr (Or.inl e)))))
  · exact Or.inr (Or.inr (Or.inr (Or.inr (Or.inr (Or.inr (Or.inl e))))))
  · exact Or.inr (Or.inr (Or.inr (Or.inr (Or.inr (Or.inr (Or.inr (Or.inl e)))))))
  · exact Or.inr (Or.inr (Or.inr (Or.inr (Or.inr (Or.inr (Or.inr (Or.inr (e))))))))
theorem own_c10 {x : Int32} (h : ∃ k : Nat, k < 10 ∧ x = Int32.ofNat k) : x = 0 ∨ x = 1 ∨ x = 2 ∨ x = 3 ∨ x = 4 ∨ x = 5 ∨ x = 6 ∨ x = 7 ∨ x = 8 ∨ x = 9 := by
  obtain ⟨k, hk, e⟩ := h
  have q : k = 0 ∨ k = 1 ∨ k = 2 ∨ k = 3 ∨ k = 4 ∨ k = 5 ∨ k = 6 ∨ k = 7 ∨ k = 8 ∨ k = 9 := by omega
  rcases q with rfl | rfl | rfl | rfl | rfl | rfl | rfl | rfl | rfl | rfl
  · exact Or.inl e
  · exact Or.inr (Or.inl e)
  · exact Or.inr (Or.inr (Or.inl e))
  · exact Or.inr (Or.inr (Or.inr (Or.inl e)))
  · exact Or.inr (Or.inr (Or.inr (Or.inr (Or.inl e))))
  · exact Or.inr (Or.inr (Or.inr (Or.inr (Or.inr (Or.inl e)))))
  · exact Or.inr (Or.inr (Or.inr (Or.inr (Or.inr (Or.inr (Or.inl e))))))
  · exact Or.inr (Or.inr (Or.inr (Or.inr (Or.inr (Or.inr (Or.inr (Or.inl e)))))))
  · exact Or.inr (Or.inr (Or.inr (Or.inr (Or.inr (Or.inr (Or.inr (Or.inr (Or.inl e))))))))
  · exact Or.inr (Or.inr (Or.inr (Or.inr (Or.inr (Or.inr (Or.inr (Or.inr (Or.inr (e)))))))))
theorem own_c11 {x : Int32} (h : ∃ k : Nat, k < 11 ∧ x = Int32.ofNat k) : x = 0 ∨ x = 1 ∨ x = 2 ∨ x = 3 ∨ x = 4 ∨ x = 5 ∨ x = 6 ∨ x = 7 ∨ x = 8 ∨ x = 9 ∨ x = 10 := by
  obtain ⟨k, hk, e⟩ := h
  have q : k = 0 ∨ k = 1 ∨ k = 2 ∨ k = 3 ∨ k = 4 ∨ k = 5 ∨ k = 6 ∨ k = 7 ∨ k = 8 ∨ k = 9 ∨ k = 10 := by omega
  rcases q with rfl | rfl | rfl | rfl | rfl | rfl | rfl | rfl | rfl | rfl | rfl
  · exact Or.inl e
  · exact Or.inr (Or.inl e)
  · exact Or.inr (Or.inr (Or.inl e))
  · exact Or.inr (Or.inr (Or.inr (Or.inl e)))
  · exact Or.inr (Or.inr (Or.inr (Or.inr (Or.inl e))))
  · exact Or.inr (Or.inr (Or.inr (Or.inr (Or.inr (Or.inl e)))))
  · exact Or.inr (Or.inr (Or.inr (Or.inr (Or.inr (Or.inr (Or.inl e))))))
  · exact Or.inr (Or.inr (Or.inr (Or.inr (Or.inr (Or.inr (Or.inr (Or.inl e)))))))
  · exact Or.inr (Or.inr (Or.inr (Or.inr (Or.inr (Or.inr (Or.inr (Or.inr (Or.inl e))))))))
  · exact Or.inr (Or.inr (Or.inr (Or.inr (Or.inr (Or.inr (Or.inr (Or.inr (Or.inr (Or.inl e)))))))))
  · exact Or.inr (Or.inr (Or.inr (Or.inr (Or.inr (Or.inr (Or.inr (Or.inr (Or.inr (Or.inr (e))))))))))
theorem own_c12 {x : Int32} (h : ∃ k : Nat, k < 12 ∧ x = Int32.ofNat k) : x = 0 ∨ x = 1 ∨ x = 2 ∨ x = 3 ∨ x = 4 ∨ x = 5 ∨ x = 6 ∨ x = 7 ∨ x = 8 ∨ x = 9 ∨ x = 10 ∨ x = 11 := by
  obtain ⟨k, hk, e⟩ := h
  have q : k = 0 ∨ k = 1 ∨ k = 2 ∨ k = 3 ∨ k = 4 ∨ k = 5 ∨ k = 6 ∨ k = 7 ∨ k = 8 ∨ k = 9 ∨ k = 10 ∨ k = 11 := by omega
  rcases q with rfl | rfl | rfl | rfl | rfl | rfl | rfl | rfl | rfl | rfl | rfl | rfl
  · exact Or.inl e
  · exact Or.inr (Or.inl e)
  · exact Or.inr (Or.inr (Or.inl e))
  · exact Or.inr (Or.inr (Or.inr (Or.inl e)))
  · exact Or.inr (Or.inr (Or.inr (Or.inr (Or.inl e))))
  · exact Or.inr (Or.inr (Or.inr (Or.inr (Or.inr (Or.inl e)))))
  · exact Or.inr (Or.inr (Or.inr (Or.inr (Or.inr (Or.inr (Or.inl e))))))
  · exact Or.inr (Or.inr (Or.inr (Or.inr (Or.inr (Or.inr (Or.inr (Or.inl e)))))))
  · exact Or.inr (Or.inr (Or.inr (Or.inr (Or.inr (Or.inr (Or.inr (Or.inr (Or.inl e))))))))
  · exact Or.inr (Or.inr (Or.inr (Or.inr (Or.inr (Or.inr (Or.inr (Or.inr (Or.inr (Or.inl e)))))))))
  · exact Or.inr (Or.inr (Or.inr (Or.inr (Or.inr (Or.inr (Or.inr (Or.inr (Or.inr (Or.inr (Or.inl e))))))))))
  · exact Or.inr (Or.inr (Or.inr (Or.inr (Or.inr (Or.inr (Or.inr (Or.inr (Or.inr (Or.inr (Or.inr (e)))))))))))
theorem own_c13 {x : Int32} (h : ∃ k : Nat, k < 13 ∧ x = Int32.ofNat k) : x = 0 ∨ x = 1 ∨ x = 2 ∨ x = 3 ∨ x = 4 ∨ x = 5 ∨ x = 6 ∨ x = 7 ∨ x = 8 ∨ x = 9 ∨ x = 10 ∨ x = 11 ∨ x = 12 := by
  obtain ⟨k, hk, e⟩ := h
  have q : k = 0 ∨ k = 1 ∨ k = 2 ∨ k = 3 ∨ k = 4 ∨ k = 5 ∨ k = 6 ∨ k = 7 ∨ k = 8 ∨ k = 9 ∨ k = 10 ∨ k = 11 ∨ k = 12 := by omega
  rcases q with rfl | rfl | rfl | rfl | rfl | rfl | rfl | rfl | rfl | rfl | rfl | rfl | rfl
  · exact Or.inl e
  · exact Or.inr (Or.inl e)
  · exact Or.inr (Or.inr (Or.inl e))
  · exact Or.inr (Or.inr (Or.inr (Or.inl e)))
  · exact Or.inr (Or.inr (Or.inr (Or.inr (Or.inl e))))
  · exact Or.inr (Or.inr (Or.inr (Or.inr (Or.inr (Or.inl e)))))
  · exact Or.inr (Or.inr (Or.inr (Or.inr (Or.inr (Or.inr (Or.inl e))))))
  · exact Or.inr (Or.inr (Or.inr (Or.inr (Or.inr (Or.inr (Or.inr (Or.inl e)))))))
  · exact Or.inr (Or.inr (Or.inr (Or.inr (Or.inr (Or.inr (Or.inr (Or.inr (Or.inl e))))))))
  · exact Or.inr (Or.inr (Or.inr (Or.inr (Or.inr (Or.inr (Or.inr (Or.inr (Or.inr (Or.inl e)))))))))
  · exact Or.inr (Or.inr (Or.inr (Or.inr (Or.inr (Or.inr (Or.inr (Or.inr (Or.inr (Or.inr (Or.inl e))))))))))
  · exact Or.inr (Or.inr (Or.inr (Or.inr (Or.inr (Or.inr (Or.inr (Or.inr (Or.inr (Or.inr (Or.inr (Or.inl e)))))))))))
  · exact Or.inr (Or.inr (Or.inr (Or.inr (Or.inr (Or.inr (Or.inr (Or.inr (Or.inr (Or.inr (Or.inr (Or.inr (e))))))))))))
theorem own_c14 {x : Int32} (h : ∃ k : Nat, k < 14 ∧ x = Int32.ofNat k) : x = 0 ∨ x = 1 ∨ x = 2 ∨ x = 3 ∨ x = 4 ∨ x = 5 ∨ x = 6 ∨ x = 7 ∨ x = 8 ∨ x = 9 ∨ x = 10 ∨ x = 11 ∨ x = 12 ∨ x = 13 := by
  obtain ⟨k, hk, e⟩ := h
  have q : k = 0 ∨ k = 1 ∨ k = 2 ∨ k = 3 ∨ k = 4 ∨ k = 5 ∨ k = 6 ∨ k = 7 ∨ k = 8 ∨ k = 9 ∨ k = 10 ∨ k = 11 ∨ k = 12 ∨ k = 13 := by omega
  rcases q with rfl | rfl | rfl | rfl | rfl | rfl | rfl | rfl | rfl | rfl | rfl | rfl | rfl | rfl
  · exact Or.inl e
  · exact Or.inr (Or.inl e)
  · exact Or.inr (Or.inr (Or.inl e))
  · exact Or.inr (Or.inr (Or.inr (Or.inl e)))
  · exact Or.inr (Or.inr (Or.inr (Or.inr (Or.inl e))))
  · exact Or.inr (Or.inr (Or.inr (Or.inr (Or.inr (Or.inl e)))))
  · exact Or.inr (Or.inr (Or.inr (Or.inr (Or.inr (Or.inr (Or.inl e))))))
  · exact Or.inr (Or.inr (Or.inr (Or.inr (Or.inr (Or.inr (Or.inr (Or.inl e)))))))
  · exact Or.inr (Or.inr (Or.inr (Or.inr (Or.inr (Or.inr (Or.inr (Or.inr (Or.inl e))))))))
  · exact Or.inr (Or.inr (Or.inr (Or.inr (Or.inr (Or.inr (Or.inr (Or.inr (Or.inr (Or.inl e)))))))))
  · exact Or.inr (Or.inr (Or.inr (Or.inr (Or.inr (Or.inr (Or.inr (Or.inr (Or.inr (Or.inr (Or.inl e))))))))))
  · exact Or.inr (Or.inr (Or.inr (Or.inr (Or.inr (Or.inr (Or.inr (Or.inr (Or.inr (Or.inr (Or.inr (Or.inl e)))))))))))
  · exact Or.inr (Or.inr (Or.inr (Or.inr (Or.inr (Or.inr (Or.inr (Or.inr (Or.inr (Or.inr (Or.inr (Or.inr (Or.inl e))))))))))))
  · exact Or.inr (Or.inr (Or.inr (Or.inr (Or.inr (Or.inr (Or.inr (Or.inr (Or.inr (Or.inr (Or.inr (Or.inr (Or.inr (e)))))))))))))
theorem own_c15 {x : Int32} (h : ∃ k : Nat, k < 15 ∧ x = Int32.ofNat k) : x = 0 ∨ x = 1 ∨ x = 2 ∨ x = 3 ∨ x = 4 ∨ x = 5 ∨ x = 6 ∨ x = 7 ∨ x = 8 ∨ x = 9 ∨ x = 10 ∨ x = 11 ∨ x = 12 ∨ x = 13 ∨ x = 14 := by
  obtain ⟨k, hk, e⟩ := h
  have q : k = 0 ∨ k = 1 ∨ k = 2 ∨ k = 3 ∨ k = 4 ∨ k = 5 ∨ k = 6 ∨ k = 7 ∨ k = 8 ∨ k = 9 ∨ k = 10 ∨ k = 11 ∨ k = 12 ∨ k = 13 ∨ k = 14 := by omega
  rcases q with rfl | rfl | rfl | rfl | rfl | rfl | rfl | rfl | rfl | rfl | rfl | rfl | rfl | rfl | rfl
  · exact Or.inl e
  · exact Or.inr (Or.inl e)
  · exact Or.inr (Or.inr (Or.inl e))
  · exact Or.inr (Or.inr (Or.inr (Or.inl e)))
  · exact Or.inr (Or.inr (Or.inr (Or.inr (Or.inl e))))
  · exact Or.inr (Or.inr (Or.inr (Or.inr (Or.inr (Or.inl e)))))
  · exact Or.inr (Or.inr (Or.inr (Or.inr (Or.inr (Or.inr (Or.inl e))))))
  · exact Or.inr (Or.inr (Or.inr (Or.inr (Or.inr (Or.inr (Or.inr (Or.inl e)))))))
  · exact Or.inr (Or.inr (Or.inr (Or.inr (Or.inr (Or.inr (Or.inr (Or.inr (Or.inl e))))))))
  · exact Or.inr (Or.inr (Or.inr (Or.inr (Or.inr (Or.inr (Or.inr (Or.inr (Or.inr (Or.inl e)))))))))
  · exact Or.inr (Or.inr (Or.inr (Or.inr (Or.inr (Or.inr (Or.inr (Or.inr (Or.inr (Or.inr (Or.inl e))))))))))
  · exact Or.inr (Or.inr (Or.inr (Or.inr (Or.inr (Or.inr (Or.inr (Or.inr (Or.inr (Or.inr (Or.inr (Or.inl e)))))))))))
  · exact Or.inr (Or.inr (Or.inr (Or.inr (Or.inr (Or.inr (Or.inr (Or.inr (Or.inr (Or.inr (Or.inr (Or.inr (Or.inl e))))))))))))
  · exact Or.inr (Or.inr (Or.inr (Or.inr (Or.inr (Or.inr (Or.inr (Or.inr (Or.inr (Or.inr (Or.inr (Or.inr (Or.inr (Or.inl e)))))))))))))
  · exact Or.inr (Or.inr (Or.inr (Or.inr (Or.inr (Or.inr (Or.inr (Or.inr (Or.inr (Or.inr (Or.inr (Or.inr (Or.inr (Or.inr (e))))))))))))))
theorem own_c16 {x : Int32} (h : ∃ k : Nat, k < 16 ∧ x = Int32.ofNat k) : x = 0 ∨ x = 1 ∨ x = 2 ∨ x = 3 ∨ x = 4 ∨ x = 5 ∨ x = 6 ∨ x = 7 ∨ x = 8 ∨ x = 9 ∨ x = 10 ∨ x = 11 ∨ x = 12 ∨ x = 13 ∨ x = 14 ∨ x = 15 := by
  obtain ⟨k, hk, e⟩ := h
  have q : k = 0 ∨ k = 1 ∨ k = 2 ∨ k = 3 ∨ k = 4 ∨ k = 5 ∨ k = 6 ∨ k = 7 ∨ k = 8 ∨ k = 9 ∨ k = 10 ∨ k = 11 ∨ k = 12 ∨ k = 13 ∨ k = 14 ∨ k = 15 := by omega
  rcases q with rfl | rfl | rfl | rfl | rfl | rfl | rfl | rfl | rfl | rfl | rfl | rfl | rfl | rfl | rfl | rfl
  · exact Or.inl e
  · exact Or.inr (Or.inl e)
  · exact Or.inr (Or.inr (Or.inl e))
  · exact Or.inr (Or.inr (Or.inr (Or.inl e)))
  · exact Or.inr (Or.inr (Or.inr (Or.inr (Or.inl e))))
  · exact Or.inr (Or.inr (Or.inr (Or.inr (Or.inr (Or.inl e)))))
  · exact Or.inr (Or.inr (Or.inr (Or.inr (Or.inr (Or.inr (Or.inl e))))))
  · exact Or.inr (Or.inr (Or.inr (Or.inr (Or.inr (Or.inr (Or.inr (Or.inl e)))))))
  · exact Or.inr (Or.inr (Or.inr (Or.inr (Or.inr (Or.inr (Or.inr (Or.inr (Or.inl e))))))))
  · exact Or.inr (Or.inr (Or.inr (Or.inr (Or.inr (Or.inr (Or.inr (Or.inr (Or.inr (Or.inl e)))))))))
  · exact Or.inr (Or.inr (Or.inr (Or.inr (Or.inr (Or.inr (Or.inr (Or.inr (Or.inr (Or.inr (Or.inl e))))))))))
  · exact Or.inr (Or.inr (Or.inr (Or.inr (Or.inr (Or.inr (Or.inr (Or.inr (Or.inr (Or.inr (Or.inr (Or.inl e)))))))))))
  · exact Or.inr (Or.inr (Or.inr (Or.inr (Or.inr (Or.inr (Or.inr (Or.inr (Or.inr (Or.inr (Or.inr (Or.inr (Or.inl e))))))))))))
  · exact Or.inr (Or.inr (Or.inr (Or.inr (Or.inr (Or.inr (Or.inr (Or.inr (Or.inr (Or.inr (Or.inr (Or.inr (Or.inr (Or.inl e)))))))))))))
  · exact Or.inr (Or.inr (Or.inr (Or.inr (Or.inr (Or.inr (Or.inr (Or.inr (Or.inr (Or.inr (Or.inr (Or.inr (Or.inr (Or.inr (Or.inl e))))))))))))))
  · exact Or.inr (Or.inr (Or.inr (Or.inr (Or.inr (Or.inr (Or.inr (Or.inr (Or.inr (Or.inr (Or.inr (Or.inr (Or.inr (Or.inr (Or.inr (e)))))))))))))))
theorem own_c17 {x : Int32} (h : ∃ k : Nat, k < 17 ∧ x = Int32.ofNat k) : x = 0 ∨ x = 1 ∨ x = 2 ∨ x = 3 ∨ x = 4 ∨ x = 5 ∨ x = 6 ∨ x = 7 ∨ x = 8 ∨ x = 9 ∨ x = 10 ∨ x = 11 ∨ x = 12 ∨ x = 13 ∨ x = 14 ∨ x = 15 ∨ x = 16 := by
  obtain ⟨k, hk, e⟩ := h
  have q : k = 0 ∨ k = 1 ∨ k = 2 ∨ k = 3 ∨ k = 4 ∨ k = 5 ∨ k = 6 ∨ k = 7 ∨ k = 8 ∨ k = 9 ∨ k = 10 ∨ k = 11 ∨ k = 12 ∨ k = 13 ∨ k = 14 ∨ k = 15 ∨ k = 16 := by omega
  rcases q with rfl | rfl | rfl | rfl | rfl | rfl | rfl | rfl | rfl | rfl | rfl | rfl | rfl | rfl | rfl | rfl | rfl
  · exact Or.inl e
  · exact Or.inr (Or.inl e)
  · exact Or.inr (Or.inr (Or.inl e))
  · exact Or.inr (Or.inr (Or.inr (Or.inl e)))
  · exact Or.inr (Or.inr (Or.inr (Or.inr (Or.inl e))))
  · exact Or.inr (Or.inr (Or.inr (Or.inr (Or.inr (Or.inl e)))))
  · exact Or.inr (Or.inr (Or.inr (Or.inr (Or.inr (Or.inr (Or.inl e))))))
  · exact Or.inr (Or.inr (Or.inr (Or.inr (Or.inr (Or.inr (Or.inr (Or.inl e)))))))
  · exact Or.inr (Or.inr (Or.inr (Or.inr (Or.inr (Or.inr (Or.inr (Or.inr (Or.inl e))))))))
  · exact Or.inr (Or.inr (Or.inr (Or.inr (Or.inr (Or.inr (Or.inr (Or.inr (Or.inr (Or.inl e)))))))))
  · exact Or.inr (Or.inr (Or.inr (Or.inr (Or.inr (Or.inr (Or.inr (Or.inr (Or.inr (Or.inr (Or.inl e))))))))))
  · exact Or.inr (Or.inr (Or.inr (Or.inr (Or.inr (Or.inr (Or.inr (Or.inr (Or.inr (Or.inr (Or.inr (Or.inl e)))))))))))
  · exact Or.inr (Or.inr (Or.inr (Or.inr (Or.inr (Or.inr (Or.inr (Or.inr (Or.inr (Or.inr (Or.inr (Or.inr (Or.inl e))))))))))))
  · exact Or.inr (Or.inr (Or.inr (Or.inr (Or.inr (Or.inr (Or.inr (Or.inr (Or.inr (Or.inr (Or.inr (Or.inr (Or.inr (Or.inl e)))))))))))))
  · exact Or.inr (Or.inr (Or.inr (Or.inr (Or.inr (Or.inr (Or.inr (Or.inr (Or.inr (Or.inr (Or.inr (Or.inr (Or.inr (Or.inr (Or.inl e))))))))))))))
  · exact Or.inr (Or.inr (Or.inr (Or.inr (Or.inr (Or.inr (Or.inr (Or.inr (Or.inr (Or.inr (Or.inr (Or.inr (Or.inr (Or.inr (Or.inr (Or.inl e)))))))))))))))
  · exact Or.inr (Or.inr (Or.inr (Or.inr (Or.inr (Or.inr (Or.inr (Or.inr (Or.inr (Or.inr (Or.inr (Or.inr (Or.inr (Or.inr (Or.inr (Or.inr (e))))))))))))))))
theorem wd0 {Z : State} {a0 : Array Value} (hw : ∀ d ∈ tables_1, d.before a0 Z = true) : (Jvm.Cond.constant "com/example/protomata/protomata/BytesUintPinLaw" (9 : Nat) (2147483647 : Int32)).before a0 Z = true := hw _ (List.mem_of_getElem? (i := 0) rfl)
theorem wd1 {Z : State} {a0 : Array Value} (hw : ∀ d ∈ tables_1, d.before a0 Z = true) : (Jvm.Cond.methodLink "com/example/protomata/protomata/BytesUintPinLaw" (10 : Nat) ({ cls := "com/example/protomata/protomata/Bytes", name := "uint", desc := "(IJ)[B" } : Jvm.MethodName)).before a0 Z = true := hw _ (List.mem_of_getElem? (i := 1) rfl)
theorem wd2 {Z : State} {a0 : Array Value} (hw : ∀ d ∈ tables_1, d.before a0 Z = true) : (Jvm.Cond.static ({ cls := "com/example/protomata/protomata/Bytes", name := "uint", desc := "(IJ)[B" } : Jvm.MethodName)).before a0 Z = true := hw _ (List.mem_of_getElem? (i := 2) rfl)
theorem wd3 {Z : State} {a0 : Array Value} (hw : ∀ d ∈ tables_1, d.before a0 Z = true) : (Jvm.Cond.initialized "com/example/protomata/protomata/Bytes").before a0 Z = true := hw _ (List.mem_of_getElem? (i := 3) rfl)
theorem wd4 {Z : State} {a0 : Array Value} (hw : ∀ d ∈ tables_1, d.before a0 Z = true) : (Jvm.Cond.code ({ cls := "com/example/protomata/protomata/Bytes", name := "uint", desc := "(IJ)[B" } : Jvm.MethodName) prog_9_method_2_code (5 : Nat) (Option.some (Jvm.ClassFile.FieldType.array Jvm.ClassFile.FieldType.byte))).before a0 Z = true := hw _ (List.mem_of_getElem? (i := 4) rfl)
theorem wd5 {Z : State} {a0 : Array Value} (hw : ∀ d ∈ tables_1, d.before a0 Z = true) : (Jvm.Cond.arrayClass Jvm.ClassFile.FieldType.byte).before a0 Z = true := hw _ (List.mem_of_getElem? (i := 5) rfl)
theorem wd6 {Z : State} {a0 : Array Value} (hw : ∀ d ∈ tables_1, d.before a0 Z = true) : (Jvm.Cond.methodLink "com/example/protomata/protomata/BytesUintPinLaw" (16 : Nat) ({ cls := "com/example/protomata/protomata/BytesUintPinLaw", name := "step", desc := "(J[BI)J" } : Jvm.MethodName)).before a0 Z = true := hw _ (List.mem_of_getElem? (i := 6) rfl)
theorem wd7 {Z : State} {a0 : Array Value} (hw : ∀ d ∈ tables_1, d.before a0 Z = true) : (Jvm.Cond.static ({ cls := "com/example/protomata/protomata/BytesUintPinLaw", name := "step", desc := "(J[BI)J" } : Jvm.MethodName)).before a0 Z = true := hw _ (List.mem_of_getElem? (i := 7) rfl)
theorem wd8 {Z : State} {a0 : Array Value} (hw : ∀ d ∈ tables_1, d.before a0 Z = true) : (Jvm.Cond.initialized "com/example/protomata/protomata/BytesUintPinLaw").before a0 Z = true := hw _ (List.mem_of_getElem? (i := 8) rfl)
theorem wd9 {Z : State} {a0 : Array Value} (hw : ∀ d ∈ tables_1, d.before a0 Z = true) : (Jvm.Cond.code ({ cls := "com/example/protomata/protomata/BytesUintPinLaw", name := "step", desc := "(J[BI)J" } : Jvm.MethodName) method_2_code (4 : Nat) (Option.some Jvm.ClassFile.FieldType.long)).before a0 Z = true := hw _ (List.mem_of_getElem? (i := 9) rfl)
theorem wd10 {Z : State} {a0 : Array Value} (hw : ∀ d ∈ tables_1, d.before a0 Z = true) : (Jvm.Cond.constantLong "com/example/protomata/protomata/BytesUintPinLaw" (7 : Nat) (255 : Int64)).before a0 Z = true := hw _ (List.mem_of_getElem? (i := 10) rfl)
theorem d2_0 : decode method_2_code 0 = .ok (.iload_n 3, 1) := by decide +kernel
theorem d2_1 : decode method_2_code 1 = .ok (.aload_n 2, 1) := by decide +kernel
theorem d2_2 : decode method_2_code 2 = .ok (.arraylength, 1) := by decide +kernel
theorem d2_3 : decode method_2_code 3 = .ok (.if_icmp .ge 17, 3) := by decide +kernel
theorem d2_6 : decode method_2_code 6 = .ok (.lload_n 0, 1) := by decide +kernel
theorem d2_7 : decode method_2_code 7 = .ok (.bipush 8, 2) := by decide +kernel
theorem d2_9 : decode method_2_code 9 = .ok (.lshl, 1) := by decide +kernel
theorem d2_10 : decode method_2_code 10 = .ok (.aload_n 2, 1) := by decide +kernel
theorem d2_11 : decode method_2_code 11 = .ok (.iload_n 3, 1) := by decide +kernel
theorem d2_12 : decode method_2_code 12 = .ok (.baload, 1) := by decide +kernel
theorem d2_13 : decode method_2_code 13 = .ok (.i2l, 1) := by decide +kernel
theorem d2_14 : decode method_2_code 14 = .ok (.ldc2_w 7, 3) := by decide +kernel
theorem d2_17 : decode method_2_code 17 = .ok (.land, 1) := by decide +kernel
theorem d2_18 : decode method_2_code 18 = .ok (.lor, 1) := by decide +kernel
theorem d2_19 : decode method_2_code 19 = .ok (.lreturn, 1) := by decide +kernel
theorem d2_20 : decode method_2_code 20 = .ok (.lload_n 0, 1) := by decide +kernel
theorem d2_21 : decode method_2_code 21 = .ok (.lreturn, 1) := by decide +kernel
theorem pn2 : plainFor (⟨"com/example/protomata/protomata/BytesUintPinLaw", "step", "(J[BI)J"⟩ : MethodName) = true := plainFor_of_name (by first | (simp [plainName, overriddenIn]; done) | decide +kernel)
theorem pd2 : parseMethodDescriptor (⟨"com/example/protomata/protomata/BytesUintPinLaw", "step", "(J[BI)J"⟩ : MethodName).desc = some ⟨[.long, (.array .byte), .int], some .long⟩ := by decide +kernel
theorem ef_st0_0 (m : MethodId) (n0 : Nat) (rr : Int64) : entryFrame m #[.long rr, .ref (n0 + 0), .int (0 : Int32)] 4 = mkF m 0 #[.val (.long rr), .second, .val (.ref (n0 + 0)), .val (.int (0 : Int32))] [] := by first | (simp [entryFrame, mkF, argsToLocals, Value.category]; done) | rfl
def sp_st0_0 (rr : Int64) : Int64 := rr
set_option maxRecDepth 65536 in
set_option maxHeartbeats 40000000 in
theorem rm_st0_0 (l : Launch) (Z : State) (a0 : Array Value) (hw : ∀ d ∈ tables_1, d.before a0 Z = true) (ws : List Jvm.Cond) (n0 : Nat) (rr : Int64) (k0 : ClassId) (hk0 : IsA Z k0 .byte) (h0 : Heap) (P0 : HP n0 h0 [AC k0 []]) :
    MetFree l (⟨"com/example/protomata/protomata/BytesUintPinLaw", "step", "(J[BI)J"⟩ : MethodName) (head1 (Jvm.Cond.code (⟨"com/example/protomata/protomata/BytesUintPinLaw", "step", "(J[BI)J"⟩ : MethodName) method_2_code 4 (some .long) :: ws) ({ frames := 0, cells := 0, slots := 0, locals := 0 } : Room)) (fun a U => a = #[.long rr, .ref (n0 + 0), .int (0 : Int32)] ∧ Z.Warmed39 U.vm ∧ U.heap = h0) (fun _ _ _ _ _ => True) (fun _ U o U' => ∃ v L, o = .returned v ∧ PureQ (.long (sp_st0_0 rr)) h0 v U'.heap L ∧ FrameEnd U o U' L ({ frames := 0, cells := 0, slots := 0, locals := 0 } : Room).cells ({ frames := 0, cells := 0, slots := 0, locals := 0 } : Room).slots) := by
  refine own_body pn2 ?_
  intro p e s m below meth c T0 hx hby hml hret hlk hown hnm hZ X0 e0
  subst e0
  refine own_cast (ef_st0_0 m n0 rr) ?_
  refine w_iloadN X0 hx (hb hby d2_0) rfl (pc' := 1) rfl ?_
  refine w_aloadN X0 hx (hb hby d2_1) rfl rfl (pc' := 2) rfl ?_
  refine w_arrlen (i := 0) X0 hx hZ P0 rfl hk0 (hb hby d2_2) (z := (0 : Int32)) rfl (pc' := 3) rfl ?_
  refine w_icmp_ge X0 hx (hb hby d2_3) (by decide) (pcY := 20) (by decide) (pc' := 6) rfl (fun h0 => ?_) (fun h0 => absurd h0 (by decide))
  refine w_lloadN X0 hx (hb hby d2_20) rfl (pc' := 21) rfl ?_
  exact w_ret_l X0 hx hret hlk (hb hby d2_21) (by decide) (by decide) ⟨congrArg (fun q => some (Value.long q)) (show rr = sp_st0_0 rr from by rw [sp_st0_0]), rfl, rfl⟩
theorem ef_st0_1 (m : MethodId) (n0 : Nat) (rr : Int64) : entryFrame m #[.long rr, .ref (n0 + 0), .int (1 : Int32)] 4 = mkF m 0 #[.val (.long rr), .second, .val (.ref (n0 + 0)), .val (.int (1 : Int32))] [] := by first | (simp [entryFrame, mkF, argsToLocals, Value.category]; done) | rfl
def sp_st0_1 (rr : Int64) : Int64 := rr
set_option maxRecDepth 65536 in
set_option maxHeartbeats 40000000 in
theorem rm_st0_1 (l : Launch) (Z : State) (a0 : Array Value) (hw : ∀ d ∈ tables_1, d.before a0 Z = true) (ws : List Jvm.Cond) (n0 : Nat) (rr : Int64) (k0 : ClassId) (hk0 : IsA Z k0 .byte) (h0 : Heap) (P0 : HP n0 h0 [AC k0 []]) :
    MetFree l (⟨"com/example/protomata/protomata/BytesUintPinLaw", "step", "(J[BI)J"⟩ : MethodName) (head1 (Jvm.Cond.code (⟨"com/example/protomata/protomata/BytesUintPinLaw", "step", "(J[BI)J"⟩ : MethodName) method_2_code 4 (some .long) :: ws) ({ frames := 0, cells := 0, slots := 0, locals := 0 } : Room)) (fun a U => a = #[.long rr, .ref (n0 + 0), .int (1 : Int32)] ∧ Z.Warmed39 U.vm ∧ U.heap = h0) (fun _ _ _ _ _ => True) (fun _ U o U' => ∃ v L, o = .returned v ∧ PureQ (.long (sp_st0_1 rr)) h0 v U'.heap L ∧ FrameEnd U o U' L ({ frames := 0, cells := 0, slots := 0, locals := 0 } : Room).cells ({ frames := 0, cells := 0, slots := 0, locals := 0 } : Room).slots) := by
  refine own_body pn2 ?_
  intro p e s m below meth c T0 hx hby hml hret hlk hown hnm hZ X0 e0
  subst e0
  refine own_cast (ef_st0_1 m n0 rr) ?_
  refine w_iloadN X0 hx (hb hby d2_0) rfl (pc' := 1) rfl ?_
  refine w_aloadN X0 hx (hb hby d2_1) rfl rfl (pc' := 2) rfl ?_
  refine w_arrlen (i := 0) X0 hx hZ P0 rfl hk0 (hb hby d2_2) (z := (0 : Int32)) rfl (pc' := 3) rfl ?_
  refine w_icmp_ge X0 hx (hb hby d2_3) (by decide) (pcY := 20) (by decide) (pc' := 6) rfl (fun h0 => ?_) (fun h0 => absurd h0 (by decide))
  refine w_lloadN X0 hx (hb hby d2_20) rfl (pc' := 21) rfl ?_
  exact w_ret_l X0 hx hret hlk (hb hby d2_21) (by decide) (by decide) ⟨congrArg (fun q => some (Value.long q)) (show rr = sp_st0_1 rr from by rw [sp_st0_1]), rfl, rfl⟩
theorem ef_st0_2 (m : MethodId) (n0 : Nat) (rr : Int64) : entryFrame m #[.long rr, .ref (n0 + 0), .int (2 : Int32)] 4 = mkF m 0 #[.val (.long rr), .second, .val (.ref (n0 + 0)), .val (.int (2 : Int32))] [] := by first | (simp [entryFrame, mkF, argsToLocals, Value.category]; done) | rfl
def sp_st0_2 (rr : Int64) : Int64 := rr
set_option maxRecDepth 65536 in
set_option maxHeartbeats 40000000 in
theorem rm_st0_2 (l : Launch) (Z : State) (a0 : Array Value) (hw : ∀ d ∈ tables_1, d.before a0 Z = true) (ws : List Jvm.Cond) (n0 : Nat) (rr : Int64) (k0 : ClassId) (hk0 : IsA Z k0 .byte) (h0 : Heap) (P0 : HP n0 h0 [AC k0 []]) :
    MetFree l (⟨"com/example/protomata/protomata/BytesUintPinLaw", "step", "(J[BI)J"⟩ : MethodName) (head1 (Jvm.Cond.code (⟨"com/example/protomata/protomata/BytesUintPinLaw", "step", "(J[BI)J"⟩ : MethodName) method_2_code 4 (some .long) :: ws) ({ frames := 0, cells := 0, slots := 0, locals := 0 } : Room)) (fun a U => a = #[.long rr, .ref (n0 + 0), .int (2 : Int32)] ∧ Z.Warmed39 U.vm ∧ U.heap = h0) (fun _ _ _ _ _ => True) (fun _ U o U' => ∃ v L, o = .returned v ∧ PureQ (.long (sp_st0_2 rr)) h0 v U'.heap L ∧ FrameEnd U o U' L ({ frames := 0, cells := 0, slots := 0, locals := 0 } : Room).cells ({ frames := 0, cells := 0, slots := 0, locals := 0 } : Room).slots) := by
  refine own_body pn2 ?_
  intro p e s m below meth c T0 hx hby hml hret hlk hown hnm hZ X0 e0
  subst e0
  refine own_cast (ef_st0_2 m n0 rr) ?_
  refine w_iloadN X0 hx (hb hby d2_0) rfl (pc' := 1) rfl ?_
  refine w_aloadN X0 hx (hb hby d2_1) rfl rfl (pc' := 2) rfl ?_
  refine w_arrlen (i := 0) X0 hx hZ P0 rfl hk0 (hb hby d2_2) (z := (0 : Int32)) rfl (pc' := 3) rfl ?_
  refine w_icmp_ge X0 hx (hb hby d2_3) (by decide) (pcY := 20) (by decide) (pc' := 6) rfl (fun h0 => ?_) (fun h0 => absurd h0 (by decide))
  refine w_lloadN X0 hx (hb hby d2_20) rfl (pc' := 21) rfl ?_
  exact w_ret_l X0 hx hret hlk (hb hby d2_21) (by decide) (by decide) ⟨congrArg (fun q => some (Value.long q)) (show rr = sp_st0_2 rr from by rw [sp_st0_2]), rfl, rfl⟩
theorem ef_st0_3 (m : MethodId) (n0 : Nat) (rr : Int64) : entryFrame m #[.long rr, .ref (n0 + 0), .int (3 : Int32)] 4 = mkF m 0 #[.val (.long rr), .second, .val (.ref (n0 + 0)), .val (.int (3 : Int32))] [] := by first | (simp [entryFrame, mkF, argsToLocals, Value.category]; done) | rfl
def sp_st0_3 (rr : Int64) : Int64 := rr
set_option maxRecDepth 65536 in
set_option maxHeartbeats 40000000 in
theorem rm_st0_3 (l : Launch) (Z : State) (a0 : Array Value) (hw : ∀ d ∈ tables_1, d.before a0 Z = true) (ws : List Jvm.Cond) (n0 : Nat) (rr : Int64) (k0 : ClassId) (hk0 : IsA Z k0 .byte) (h0 : Heap) (P0 : HP n0 h0 [AC k0 []]) :
    MetFree l (⟨"com/example/protomata/protomata/BytesUintPinLaw", "step", "(J[BI)J"⟩ : MethodName) (head1 (Jvm.Cond.code (⟨"com/example/protomata/protomata/BytesUintPinLaw", "step", "(J[BI)J"⟩ : MethodName) method_2_code 4 (some .long) :: ws) ({ frames := 0, cells := 0, slots := 0, locals := 0 } : Room)) (fun a U => a = #[.long rr, .ref (n0 + 0), .int (3 : Int32)] ∧ Z.Warmed39 U.vm ∧ U.heap = h0) (fun _ _ _ _ _ => True) (fun _ U o U' => ∃ v L, o = .returned v ∧ PureQ (.long (sp_st0_3 rr)) h0 v U'.heap L ∧ FrameEnd U o U' L ({ frames := 0, cells := 0, slots := 0, locals := 0 } : Room).cells ({ frames := 0, cells := 0, slots := 0, locals := 0 } : Room).slots) := by
  refine own_body pn2 ?_
  intro p e s m below meth c T0 hx hby hml hret hlk hown hnm hZ X0 e0
  subst e0
  refine own_cast (ef_st0_3 m n0 rr) ?_
  refine w_iloadN X0 hx (hb hby d2_0) rfl (pc' := 1) rfl ?_
  refine w_aloadN X0 hx (hb hby d2_1) rfl rfl (pc' := 2) rfl ?_
  refine w_arrlen (i := 0) X0 hx hZ P0 rfl hk0 (hb hby d2_2) (z := (0 : Int32)) rfl (pc' := 3) rfl ?_
  refine w_icmp_ge X0 hx (hb hby d2_3) (by decide) (pcY := 20) (by decide) (pc' := 6) rfl (fun h0 => ?_) (fun h0 => absurd h0 (by decide))
  refine w_lloadN X0 hx (hb hby d2_20) rfl (pc' := 21) rfl ?_
  exact w_ret_l X0 hx hret hlk (hb hby d2_21) (by decide) (by decide) ⟨congrArg (fun q => some (Value.long q)) (show rr = sp_st0_3 rr from by rw [sp_st0_3]), rfl, rfl⟩
theorem ef_st0_4 (m : MethodId) (n0 : Nat) (rr : Int64) : entryFrame m #[.long rr, .ref (n0 + 0), .int (4 : Int32)] 4 = mkF m 0 #[.val (.long rr), .second, .val (.ref (n0 + 0)), .val (.int (4 : Int32))] [] := by first | (simp [entryFrame, mkF, argsToLocals, Value.category]; done) | rfl
def sp_st0_4 (rr : Int64) : Int64 := rr
set_option maxRecDepth 65536 in
set_option maxHeartbeats 40000000 in
theorem rm_st0_4 (l : Launch) (Z : State) (a0 : Array Value) (hw : ∀ d ∈ tables_1, d.before a0 Z = true) (ws : List Jvm.Cond) (n0 : Nat) (rr : Int64) (k0 : ClassId) (hk0 : IsA Z k0 .byte) (h0 : Heap) (P0 : HP n0 h0 [AC k0 []]) :
    MetFree l (⟨"com/example/protomata/protomata/BytesUintPinLaw", "step", "(J[BI)J"⟩ : MethodName) (head1 (Jvm.Cond.code (⟨"com/example/protomata/protomata/BytesUintPinLaw", "step", "(J[BI)J"⟩ : MethodName) method_2_code 4 (some .long) :: ws) ({ frames := 0, cells := 0, slots := 0, locals := 0 } : Room)) (fun a U => a = #[.long rr, .ref (n0 + 0), .int (4 : Int32)] ∧ Z.Warmed39 U.vm ∧ U.heap = h0) (fun _ _ _ _ _ => True) (fun _ U o U' => ∃ v L, o = .returned v ∧ PureQ (.long (sp_st0_4 rr)) h0 v U'.heap L ∧ FrameEnd U o U' L ({ frames := 0, cells := 0, slots := 0, locals := 0 } : Room).cells ({ frames := 0, cells := 0, slots := 0, locals := 0 } : Room).slots) := by
  refine own_body pn2 ?_
  intro p e s m below meth c T0 hx hby hml hret hlk hown hnm hZ X0 e0
  subst e0
  refine own_cast (ef_st0_4 m n0 rr) ?_
  refine w_iloadN X0 hx (hb hby d2_0) rfl (pc' := 1) rfl ?_
  refine w_aloadN X0 hx (hb hby d2_1) rfl rfl (pc' := 2) rfl ?_
  refine w_arrlen (i := 0) X0 hx hZ P0 rfl hk0 (hb hby d2_2) (z := (0 : Int32)) rfl (pc' := 3) rfl ?_
  refine w_icmp_ge X0 hx (hb hby d2_3) (by decide) (pcY := 20) (by decide) (pc' := 6) rfl (fun h0 => ?_) (fun h0 => absurd h0 (by decide))
  refine w_lloadN X0 hx (hb hby d2_20) rfl (pc' := 21) rfl ?_
  exact w_ret_l X0 hx hret hlk (hb hby d2_21) (by decide) (by decide) ⟨congrArg (fun q => some (Value.long q)) (show rr = sp_st0_4 rr from by rw [sp_st0_4]), rfl, rfl⟩
theorem ef_st0_5 (m : MethodId) (n0 : Nat) (rr : Int64) : entryFrame m #[.long rr, .ref (n0 + 0), .int (5 : Int32)] 4 = mkF m 0 #[.val (.long rr), .second, .val (.ref (n0 + 0)), .val (.int (5 : Int32))] [] := by first | (simp [entryFrame, mkF, argsToLocals, Value.category]; done) | rfl
def sp_st0_5 (rr : Int64) : Int64 := rr
set_option maxRecDepth 65536 in
set_option maxHeartbeats 40000000 in
theorem rm_st0_5 (l : Launch) (Z : State) (a0 : Array Value) (hw : ∀ d ∈ tables_1, d.before a0 Z = true) (ws : List Jvm.Cond) (n0 : Nat) (rr : Int64) (k0 : ClassId) (hk0 : IsA Z k0 .byte) (h0 : Heap) (P0 : HP n0 h0 [AC k0 []]) :
    MetFree l (⟨"com/example/protomata/protomata/BytesUintPinLaw", "step", "(J[BI)J"⟩ : MethodName) (head1 (Jvm.Cond.code (⟨"com/example/protomata/protomata/BytesUintPinLaw", "step", "(J[BI)J"⟩ : MethodName) method_2_code 4 (some .long) :: ws) ({ frames := 0, cells := 0, slots := 0, locals := 0 } : Room)) (fun a U => a = #[.long rr, .ref (n0 + 0), .int (5 : Int32)] ∧ Z.Warmed39 U.vm ∧ U.heap = h0) (fun _ _ _ _ _ => True) (fun _ U o U' => ∃ v L, o = .returned v ∧ PureQ (.long (sp_st0_5 rr)) h0 v U'.heap L ∧ FrameEnd U o U' L ({ frames := 0, cells := 0, slots := 0, locals := 0 } : Room).cells ({ frames := 0, cells := 0, slots := 0, locals := 0 } : Room).slots) := by
  refine own_body pn2 ?_
  intro p e s m below meth c T0 hx hby hml hret hlk hown hnm hZ X0 e0
  subst e0
  refine own_cast (ef_st0_5 m n0 rr) ?_
  refine w_iloadN X0 hx (hb hby d2_0) rfl (pc' := 1) rfl ?_
  refine w_aloadN X0 hx (hb hby d2_1) rfl rfl (pc' := 2) rfl ?_
  refine w_arrlen (i := 0) X0 hx hZ P0 rfl hk0 (hb hby d2_2) (z := (0 : Int32)) rfl (pc' := 3) rfl ?_
  refine w_icmp_ge X0 hx (hb hby d2_3) (by decide) (pcY := 20) (by decide) (pc' := 6) rfl (fun h0 => ?_) (fun h0 => absurd h0 (by decide))
  refine w_lloadN X0 hx (hb hby d2_20) rfl (pc' := 21) rfl ?_
  exact w_ret_l X0 hx hret hlk (hb hby d2_21) (by decide) (by decide) ⟨congrArg (fun q => some (Value.long q)) (show rr = sp_st0_5 rr from by rw [sp_st0_5]), rfl, rfl⟩
theorem ef_st0_6 (m : MethodId) (n0 : Nat) (rr : Int64) : entryFrame m #[.long rr, .ref (n0 + 0), .int (6 : Int32)] 4 = mkF m 0 #[.val (.long rr), .second, .val (.ref (n0 + 0)), .val (.int (6 : Int32))] [] := by first | (simp [entryFrame, mkF, argsToLocals, Value.category]; done) | rfl
def sp_st0_6 (rr : Int64) : Int64 := rr
set_option maxRecDepth 65536 in
set_option maxHeartbeats 40000000 in
theorem rm_st0_6 (l : Launch) (Z : State) (a0 : Array Value) (hw : ∀ d ∈ tables_1, d.before a0 Z = true) (ws : List Jvm.Cond) (n0 : Nat) (rr : Int64) (k0 : ClassId) (hk0 : IsA Z k0 .byte) (h0 : Heap) (P0 : HP n0 h0 [AC k0 []]) :
    MetFree l (⟨"com/example/protomata/protomata/BytesUintPinLaw", "step", "(J[BI)J"⟩ : MethodName) (head1 (Jvm.Cond.code (⟨"com/example/protomata/protomata/BytesUintPinLaw", "step", "(J[BI)J"⟩ : MethodName) method_2_code 4 (some .long) :: ws) ({ frames := 0, cells := 0, slots := 0, locals := 0 } : Room)) (fun a U => a = #[.long rr, .ref (n0 + 0), .int (6 : Int32)] ∧ Z.Warmed39 U.vm ∧ U.heap = h0) (fun _ _ _ _ _ => True) (fun _ U o U' => ∃ v L, o = .returned v ∧ PureQ (.long (sp_st0_6 rr)) h0 v U'.heap L ∧ FrameEnd U o U' L ({ frames := 0, cells := 0, slots := 0, locals := 0 } : Room).cells ({ frames := 0, cells := 0, slots := 0, locals := 0 } : Room).slots) := by
  refine own_body pn2 ?_
  intro p e s m below meth c T0 hx hby hml hret hlk hown hnm hZ X0 e0
  subst e0
  refine own_cast (ef_st0_6 m n0 rr) ?_
  refine w_iloadN X0 hx (hb hby d2_0) rfl (pc' := 1) rfl ?_
  refine w_aloadN X0 hx (hb hby d2_1) rfl rfl (pc' := 2) rfl ?_
  refine w_arrlen (i := 0) X0 hx hZ P0 rfl hk0 (hb hby d2_2) (z := (0 : Int32)) rfl (pc' := 3) rfl ?_
  refine w_icmp_ge X0 hx (hb hby d2_3) (by decide) (pcY := 20) (by decide) (pc' := 6) rfl (fun h0 => ?_) (fun h0 => absurd h0 (by decide))
  refine w_lloadN X0 hx (hb hby d2_20) rfl (pc' := 21) rfl ?_
  exact w_ret_l X0 hx hret hlk (hb hby d2_21) (by decide) (by decide) ⟨congrArg (fun q => some (Value.long q)) (show rr = sp_st0_6 rr from by rw [sp_st0_6]), rfl, rfl⟩
theorem ef_st0_7 (m : MethodId) (n0 : Nat) (rr : Int64) : entryFrame m #[.long rr, .ref (n0 + 0), .int (7 : Int32)] 4 = mkF m 0 #[.val (.long rr), .second, .val (.ref (n0 + 0)), .val (.int (7 : Int32))] [] := by first | (simp [entryFrame, mkF, argsToLocals, Value.category]; done) | rfl
def sp_st0_7 (rr : Int64) : Int64 := rr
set_option maxRecDepth 65536 in
set_option maxHeartbeats 40000000 in
theorem rm_st0_7 (l : Launch) (Z : State) (a0 : Array Value) (hw : ∀ d ∈ tables_1, d.before a0 Z = true) (ws : List Jvm.Cond) (n0 : Nat) (rr : Int64) (k0 : ClassId) (hk0 : IsA Z k0 .byte) (h0 : Heap) (P0 : HP n0 h0 [AC k0 []]) :
    MetFree l (⟨"com/example/protomata/protomata/BytesUintPinLaw", "step", "(J[BI)J"⟩ : MethodName) (head1 (Jvm.Cond.code (⟨"com/example/protomata/protomata/BytesUintPinLaw", "step", "(J[BI)J"⟩ : MethodName) method_2_code 4 (some .long) :: ws) ({ frames := 0, cells := 0, slots := 0, locals := 0 } : Room)) (fun a U => a = #[.long rr, .ref (n0 + 0), .int (7 : Int32)] ∧ Z.Warmed39 U.vm ∧ U.heap = h0) (fun _ _ _ _ _ => True) (fun _ U o U' => ∃ v L, o = .returned v ∧ PureQ (.long (sp_st0_7 rr)) h0 v U'.heap L ∧ FrameEnd U o U' L ({ frames := 0, cells := 0, slots := 0, locals := 0 } : Room).cells ({ frames := 0, cells := 0, slots := 0, locals := 0 } : Room).slots) := by
  refine own_body pn2 ?_
  intro p e s m below meth c T0 hx hby hml hret hlk hown hnm hZ X0 e0
  subst e0
  refine own_cast (ef_st0_7 m n0 rr) ?_
  refine w_iloadN X0 hx (hb hby d2_0) rfl (pc' := 1) rfl ?_
  refine w_aloadN X0 hx (hb hby d2_1) rfl rfl (pc' := 2) rfl ?_
  refine w_arrlen (i := 0) X0 hx hZ P0 rfl hk0 (hb hby d2_2) (z := (0 : Int32)) rfl (pc' := 3) rfl ?_
  refine w_icmp_ge X0 hx (hb hby d2_3) (by decide) (pcY := 20) (by decide) (pc' := 6) rfl (fun h0 => ?_) (fun h0 => absurd h0 (by decide))
  refine w_lloadN X0 hx (hb hby d2_20) rfl (pc' := 21) rfl ?_
  exact w_ret_l X0 hx hret hlk (hb hby d2_21) (by decide) (by decide) ⟨congrArg (fun q => some (Value.long q)) (show rr = sp_st0_7 rr from by rw [sp_st0_7]), rfl, rfl⟩
theorem ef_st1_0 (m : MethodId) (n0 : Nat) (rr : Int64) (b0 : Int32) : entryFrame m #[.long rr, .ref (n0 + 0), .int (0 : Int32)] 4 = mkF m 0 #[.val (.long rr), .second, .val (.ref (n0 + 0)), .val (.int (0 : Int32))] [] := by first | (simp [entryFrame, mkF, argsToLocals, Value.category]; done) | rfl
def sp_st1_0 (rr : Int64) (b0 : Int32) : Int64 := ((rr <<< (Int32.toInt64 (8 : Int32) &&& 63)) ||| ((Int32.toInt64 b0) &&& (255 : Int64)))
set_option maxRecDepth 65536 in
set_option maxHeartbeats 40000000 in
theorem rm_st1_0 (l : Launch) (Z : State) (a0 : Array Value) (hw : ∀ d ∈ tables_1, d.before a0 Z = true) (ws : List Jvm.Cond) (n0 : Nat) (rr : Int64) (b0 : Int32) (k0 : ClassId) (hk0 : IsA Z k0 .byte) (h0 : Heap) (P0 : HP n0 h0 [AC k0 [.int b0]]) :
    MetFree l (⟨"com/example/protomata/protomata/BytesUintPinLaw", "step", "(J[BI)J"⟩ : MethodName) (head1 (Jvm.Cond.code (⟨"com/example/protomata/protomata/BytesUintPinLaw", "step", "(J[BI)J"⟩ : MethodName) method_2_code 4 (some .long) :: ws) ({ frames := 0, cells := 0, slots := 0, locals := 0 } : Room)) (fun a U => a = #[.long rr, .ref (n0 + 0), .int (0 : Int32)] ∧ Z.Warmed39 U.vm ∧ U.heap = h0) (fun _ _ _ _ _ => True) (fun _ U o U' => ∃ v L, o = .returned v ∧ PureQ (.long (sp_st1_0 rr b0)) h0 v U'.heap L ∧ FrameEnd U o U' L ({ frames := 0, cells := 0, slots := 0, locals := 0 } : Room).cells ({ frames := 0, cells := 0, slots := 0, locals := 0 } : Room).slots) := by
  refine own_body pn2 ?_
  intro p e s m below meth c T0 hx hby hml hret hlk hown hnm hZ X0 e0
  subst e0
  refine own_cast (ef_st1_0 m n0 rr b0) ?_
  refine w_iloadN X0 hx (hb hby d2_0) rfl (pc' := 1) rfl ?_
  refine w_aloadN X0 hx (hb hby d2_1) rfl rfl (pc' := 2) rfl ?_
  refine w_arrlen (i := 0) X0 hx hZ P0 rfl hk0 (hb hby d2_2) (z := (1 : Int32)) rfl (pc' := 3) rfl ?_
  refine w_icmp_ge X0 hx (hb hby d2_3) (by decide) (pcY := 20) (by decide) (pc' := 6) rfl (fun h0 => absurd h0 (by decide)) (fun h0 => ?_)
  refine w_lloadN X0 hx (hb hby d2_6) rfl (pc' := 7) rfl ?_
  refine w_bipush (v := (8 : Int32)) X0 hx (hb hby d2_7) rfl (pc' := 9) rfl ?_
  refine w_lshl X0 hx (hb hby d2_9) (pc' := 10) rfl ?_
  refine w_aloadN X0 hx (hb hby d2_10) rfl rfl (pc' := 11) rfl ?_
  refine w_iloadN X0 hx (hb hby d2_11) rfl (pc' := 12) rfl ?_
  refine w_baload (i := 0) (jn := 0) (v := .int b0) X0 hx hZ P0 rfl hk0 (hb hby d2_12) (by decide) rfl (pc' := 13) rfl ?_
  refine w_i2l X0 hx (hb hby d2_13) (pc' := 14) rfl ?_
  refine w_ldc2 X0 hx (hb hby d2_14) hown (mvT hZ (wd10 hw)) (pc' := 17) rfl ?_
  refine w_land X0 hx (hb hby d2_17) (pc' := 18) rfl ?_
  refine w_lor X0 hx (hb hby d2_18) (pc' := 19) rfl ?_
  exact w_ret_l X0 hx hret hlk (hb hby d2_19) (by decide) (by decide) ⟨congrArg (fun q => some (Value.long q)) (show ((rr <<< (Int32.toInt64 (8 : Int32) &&& 63)) ||| ((Int32.toInt64 b0) &&& (255 : Int64))) = sp_st1_0 rr b0 from by rw [sp_st1_0]), rfl, rfl⟩
theorem ef_st1_1 (m : MethodId) (n0 : Nat) (rr : Int64) (b0 : Int32) : entryFrame m #[.long rr, .ref (n0 + 0), .int (1 : Int32)] 4 = mkF m 0 #[.val (.long rr), .second, .val (.ref (n0 + 0)), .val (.int (1 : Int32))] [] := by first | (simp [entryFrame, mkF, argsToLocals, Value.category]; done) | rfl
def sp_st1_1 (rr : Int64) (b0 : Int32) : Int64 := rr
set_option maxRecDepth 65536 in
set_option maxHeartbeats 40000000 in
theorem rm_st1_1 (l : Launch) (Z : State) (a0 : Array Value) (hw : ∀ d ∈ tables_1, d.before a0 Z = true) (ws : List Jvm.Cond) (n0 : Nat) (rr : Int64) (b0 : Int32) (k0 : ClassId) (hk0 : IsA Z k0 .byte) (h0 : Heap) (P0 : HP n0 h0 [AC k0 [.int b0]]) :
    MetFree l (⟨"com/example/protomata/protomata/BytesUintPinLaw", "step", "(J[BI)J"⟩ : MethodName) (head1 (Jvm.Cond.code (⟨"com/example/protomata/protomata/BytesUintPinLaw", "step", "(J[BI)J"⟩ : MethodName) method_2_code 4 (some .long) :: ws) ({ frames := 0, cells := 0, slots := 0, locals := 0 } : Room)) (fun a U => a = #[.long rr, .ref (n0 + 0), .int (1 : Int32)] ∧ Z.Warmed39 U.vm ∧ U.heap = h0) (fun _ _ _ _ _ => True) (fun _ U o U' => ∃ v L, o = .returned v ∧ PureQ (.long (sp_st1_1 rr b0)) h0 v U'.heap L ∧ FrameEnd U o U' L ({ frames := 0, cells := 0, slots := 0, locals := 0 } : Room).cells ({ frames := 0, cells := 0, slots := 0, locals := 0 } : Room).slots) := by
  refine own_body pn2 ?_
  intro p e s m below meth c T0 hx hby hml hret hlk hown hnm hZ X0 e0
  subst e0
  refine own_cast (ef_st1_1 m n0 rr b0) ?_
  refine w_iloadN X0 hx (hb hby d2_0) rfl (pc' := 1) rfl ?_
  refine w_aloadN X0 hx (hb hby d2_1) rfl rfl (pc' := 2) rfl ?_
  refine w_arrlen (i := 0) X0 hx hZ P0 rfl hk0 (hb hby d2_2) (z := (1 : Int32)) rfl (pc' := 3) rfl ?_
  refine w_icmp_ge X0 hx (hb hby d2_3) (by decide) (pcY := 20) (by decide) (pc' := 6) rfl (fun h0 => ?_) (fun h0 => absurd h0 (by decide))
  refine w_lloadN X0 hx (hb hby d2_20) rfl (pc' := 21) rfl ?_
  exact w_ret_l X0 hx hret hlk (hb hby d2_21) (by decide) (by decide) ⟨congrArg (fun q => some (Value.long q)) (show rr = sp_st1_1 rr b0 from by rw [sp_st1_1]), rfl, rfl⟩
theorem ef_st1_2 (m : MethodId) (n0 : Nat) (rr : Int64) (b0 : Int32) : entryFrame m #[.long rr, .ref (n0 + 0), .int (2 : Int32)] 4 = mkF m 0 #[.val (.long rr), .second, .val (.ref (n0 + 0)), .val (.int (2 : Int32))] [] := by first | (simp [entryFrame, mkF, argsToLocals, Value.category]; done) | rfl
def sp_st1_2 (rr : Int64) (b0 : Int32) : Int64 := rr
set_option maxRecDepth 65536 in
set_option maxHeartbeats 40000000 in
theorem rm_st1_2 (l : Launch) (Z : State) (a0 : Array Value) (hw : ∀ d ∈ tables_1, d.before a0 Z = true) (ws : List Jvm.Cond) (n0 : Nat) (rr : Int64) (b0 : Int32) (k0 : ClassId) (hk0 : IsA Z k0 .byte) (h0 : Heap) (P0 : HP n0 h0 [AC k0 [.int b0]]) :
    MetFree l (⟨"com/example/protomata/protomata/BytesUintPinLaw", "step", "(J[BI)J"⟩ : MethodName) (head1 (Jvm.Cond.code (⟨"com/example/protomata/protomata/BytesUintPinLaw", "step", "(J[BI)J"⟩ : MethodName) method_2_code 4 (some .long) :: ws) ({ frames := 0, cells := 0, slots := 0, locals := 0 } : Room)) (fun a U => a = #[.long rr, .ref (n0 + 0), .int (2 : Int32)] ∧ Z.Warmed39 U.vm ∧ U.heap = h0) (fun _ _ _ _ _ => True) (fun _ U o U' => ∃ v L, o = .returned v ∧ PureQ (.long (sp_st1_2 rr b0)) h0 v U'.heap L ∧ FrameEnd U o U' L ({ frames := 0, cells := 0, slots := 0, locals := 0 } : Room).cells ({ frames := 0, cells := 0, slots := 0, locals := 0 } : Room).slots) := by
  refine own_body pn2 ?_
  intro p e s m below meth c T0 hx hby hml hret hlk hown hnm hZ X0 e0
  subst e0
  refine own_cast (ef_st1_2 m n0 rr b0) ?_
  refine w_iloadN X0 hx (hb hby d2_0) rfl (pc' := 1) rfl ?_
  refine w_aloadN X0 hx (hb hby d2_1) rfl rfl (pc' := 2) rfl ?_
  refine w_arrlen (i := 0) X0 hx hZ P0 rfl hk0 (hb hby d2_2) (z := (1 : Int32)) rfl (pc' := 3) rfl ?_
  refine w_icmp_ge X0 hx (hb hby d2_3) (by decide) (pcY := 20) (by decide) (pc' := 6) rfl (fun h0 => ?_) (fun h0 => absurd h0 (by decide))
  refine w_lloadN X0 hx (hb hby d2_20) rfl (pc' := 21) rfl ?_
  exact w_ret_l X0 hx hret hlk (hb hby d2_21) (by decide) (by decide) ⟨congrArg (fun q => some (Value.long q)) (show rr = sp_st1_2 rr b0 from by rw [sp_st1_2]), rfl, rfl⟩
theorem ef_st1_3 (m : MethodId) (n0 : Nat) (rr : Int64) (b0 : Int32) : entryFrame m #[.long rr, .ref (n0 + 0), .int (3 : Int32)] 4 = mkF m 0 #[.val (.long rr), .second, .val (.ref (n0 + 0)), .val (.int (3 : Int32))] [] := by first | (simp [entryFrame, mkF, argsToLocals, Value.category]; done) | rfl
def sp_st1_3 (rr : Int64) (b0 : Int32) : Int64 := rr
set_option maxRecDepth 65536 in
set_option maxHeartbeats 40000000 in
theorem rm_st1_3 (l : Launch) (Z : State) (a0 : Array Value) (hw : ∀ d ∈ tables_1, d.before a0 Z = true) (ws : List Jvm.Cond) (n0 : Nat) (rr : Int64) (b0 : Int32) (k0 : ClassId) (hk0 : IsA Z k0 .byte) (h0 : Heap) (P0 : HP n0 h0 [AC k0 [.int b0]]) :
    MetFree l (⟨"com/example/protomata/protomata/BytesUintPinLaw", "step", "(J[BI)J"⟩ : MethodName) (head1 (Jvm.Cond.code (⟨"com/example/protomata/protomata/BytesUintPinLaw", "step", "(J[BI)J"⟩ : MethodName) method_2_code 4 (some .long) :: ws) ({ frames := 0, cells := 0, slots := 0, locals := 0 } : Room)) (fun a U => a = #[.long rr, .ref (n0 + 0), .int (3 : Int32)] ∧ Z.Warmed39 U.vm ∧ U.heap = h0) (fun _ _ _ _ _ => True) (fun _ U o U' => ∃ v L, o = .returned v ∧ PureQ (.long (sp_st1_3 rr b0)) h0 v U'.heap L ∧ FrameEnd U o U' L ({ frames := 0, cells := 0, slots := 0, locals := 0 } : Room).cells ({ frames := 0, cells := 0, slots := 0, locals := 0 } : Room).slots) := by
  refine own_body pn2 ?_
  intro p e s m below meth c T0 hx hby hml hret hlk hown hnm hZ X0 e0
  subst e0
  refine own_cast (ef_st1_3 m n0 rr b0) ?_
  refine w_iloadN X0 hx (hb hby d2_0) rfl (pc' := 1) rfl ?_
  refine w_aloadN X0 hx (hb hby d2_1) rfl rfl (pc' := 2) rfl ?_
  refine w_arrlen (i := 0) X0 hx hZ P0 rfl hk0 (hb hby d2_2) (z := (1 : Int32)) rfl (pc' := 3) rfl ?_
  refine w_icmp_ge X0 hx (hb hby d2_3) (by decide) (pcY := 20) (by decide) (pc' := 6) rfl (fun h0 => ?_) (fun h0 => absurd h0 (by decide))
  refine w_lloadN X0 hx (hb hby d2_20) rfl (pc' := 21) rfl ?_
  exact w_ret_l X0 hx hret hlk (hb hby d2_21) (by decide) (by decide) ⟨congrArg (fun q => some (Value.long q)) (show rr = sp_st1_3 rr b0 from by rw [sp_st1_3]), rfl, rfl⟩
theorem ef_st1_4 (m : MethodId) (n0 : Nat) (rr : Int64) (b0 : Int32) : entryFrame m #[.long rr, .ref (n0 + 0), .int (4 : Int32)] 4 = mkF m 0 #[.val (.long rr), .second, .val (.ref (n0 + 0)), .val (.int (4 : Int32))] [] := by first | (simp [entryFrame, mkF, argsToLocals, Value.category]; done) | rfl
def sp_st1_4 (rr : Int64) (b0 : Int32) : Int64 := rr
set_option maxRecDepth 65536 in
set_option maxHeartbeats 40000000 in
theorem rm_st1_4 (l : Launch) (Z : State) (a0 : Array Value) (hw : ∀ d ∈ tables_1, d.before a0 Z = true) (ws : List Jvm.Cond) (n0 : Nat) (rr : Int64) (b0 : Int32) (k0 : ClassId) (hk0 : IsA Z k0 .byte) (h0 : Heap) (P0 : HP n0 h0 [AC k0 [.int b0]]) :
    MetFree l (⟨"com/example/protomata/protomata/BytesUintPinLaw", "step", "(J[BI)J"⟩ : MethodName) (head1 (Jvm.Cond.code (⟨"com/example/protomata/protomata/BytesUintPinLaw", "step", "(J[BI)J"⟩ : MethodName) method_2_code 4 (some .long) :: ws) ({ frames := 0, cells := 0, slots := 0, locals := 0 } : Room)) (fun a U => a = #[.long rr, .ref (n0 + 0), .int (4 : Int32)] ∧ Z.Warmed39 U.vm ∧ U.heap = h0) (fun _ _ _ _ _ => True) (fun _ U o U' => ∃ v L, o = .returned v ∧ PureQ (.long (sp_st1_4 rr b0)) h0 v U'.heap L ∧ FrameEnd U o U' L ({ frames := 0, cells := 0, slots := 0, locals := 0 } : Room).cells ({ frames := 0, cells := 0, slots := 0, locals := 0 } : Room).slots) := by
  refine own_body pn2 ?_
  intro p e s m below meth c T0 hx hby hml hret hlk hown hnm hZ X0 e0
  subst e0
  refine own_cast (ef_st1_4 m n0 rr b0) ?_
  refine w_iloadN X0 hx (hb hby d2_0) rfl (pc' := 1) rfl ?_
  refine w_aloadN X0 hx (hb hby d2_1) rfl rfl (pc' := 2) rfl ?_
  refine w_arrlen (i := 0) X0 hx hZ P0 rfl hk0 (hb hby d2_2) (z := (1 : Int32)) rfl (pc' := 3) rfl ?_
  refine w_icmp_ge X0 hx (hb hby d2_3) (by decide) (pcY := 20) (by decide) (pc' := 6) rfl (fun h0 => ?_) (fun h0 => absurd h0 (by decide))
  refine w_lloadN X0 hx (hb hby d2_20) rfl (pc' := 21) rfl ?_
  exact w_ret_l X0 hx hret hlk (hb hby d2_21) (by decide) (by decide) ⟨congrArg (fun q => some (Value.long q)) (show rr = sp_st1_4 rr b0 from by rw [sp_st1_4]), rfl, rfl⟩
theorem ef_st1_5 (m : MethodId) (n0 : Nat) (rr : Int64) (b0 : Int32) : entryFrame m #[.long rr, .ref (n0 + 0), .int (5 : Int32)] 4 = mkF m 0 #[.val (.long rr), .second, .val (.ref (n0 + 0)), .val (.int (5 : Int32))] [] := by first | (simp [entryFrame, mkF, argsToLocals, Value.category]; done) | rfl
def sp_st1_5 (rr : Int64) (b0 : Int32) : Int64 := rr
set_option maxRecDepth 65536 in
set_option maxHeartbeats 40000000 in
theorem rm_st1_5 (l : Launch) (Z : State) (a0 : Array Value) (hw : ∀ d ∈ tables_1, d.before a0 Z = true) (ws : List Jvm.Cond) (n0 : Nat) (rr : Int64) (b0 : Int32) (k0 : ClassId) (hk0 : IsA Z k0 .byte) (h0 : Heap) (P0 : HP n0 h0 [AC k0 [.int b0]]) :
    MetFree l (⟨"com/example/protomata/protomata/BytesUintPinLaw", "step", "(J[BI)J"⟩ : MethodName) (head1 (Jvm.Cond.code (⟨"com/example/protomata/protomata/BytesUintPinLaw", "step", "(J[BI)J"⟩ : MethodName) method_2_code 4 (some .long) :: ws) ({ frames := 0, cells := 0, slots := 0, locals := 0 } : Room)) (fun a U => a = #[.long rr, .ref (n0 + 0), .int (5 : Int32)] ∧ Z.Warmed39 U.vm ∧ U.heap = h0) (fun _ _ _ _ _ => True) (fun _ U o U' => ∃ v L, o = .returned v ∧ PureQ (.long (sp_st1_5 rr b0)) h0 v U'.heap L ∧ FrameEnd U o U' L ({ frames := 0, cells := 0, slots := 0, locals := 0 } : Room).cells ({ frames := 0, cells := 0, slots := 0, locals := 0 } : Room).slots) := by
  refine own_body pn2 ?_
  intro p e s m below meth c T0 hx hby hml hret hlk hown hnm hZ X0 e0
  subst e0
  refine own_cast (ef_st1_5 m n0 rr b0) ?_
  refine w_iloadN X0 hx (hb hby d2_0) rfl (pc' := 1) rfl ?_
  refine w_aloadN X0 hx (hb hby d2_1) rfl rfl (pc' := 2) rfl ?_
  refine w_arrlen (i := 0) X0 hx hZ P0 rfl hk0 (hb hby d2_2) (z := (1 : Int32)) rfl (pc' := 3) rfl ?_
  refine w_icmp_ge X0 hx (hb hby d2_3) (by decide) (pcY := 20) (by decide) (pc' := 6) rfl (fun h0 => ?_) (fun h0 => absurd h0 (by decide))
  refine w_lloadN X0 hx (hb hby d2_20) rfl (pc' := 21) rfl ?_
  exact w_ret_l X0 hx hret hlk (hb hby d2_21) (by decide) (by decide) ⟨congrArg (fun q => some (Value.long q)) (show rr = sp_st1_5 rr b0 from by rw [sp_st1_5]), rfl, rfl⟩
theorem ef_st1_6 (m : MethodId) (n0 : Nat) (rr : Int64) (b0 : Int32) : entryFrame m #[.long rr, .ref (n0 + 0), .int (6 : Int32)] 4 = mkF m 0 #[.val (.long rr), .second, .val (.ref (n0 + 0)), .val (.int (6 : Int32))] [] := by first | (simp [entryFrame, mkF, argsToLocals, Value.category]; done) | rfl
def sp_st1_6 (rr : Int64) (b0 : Int32) : Int64 := rr
set_option maxRecDepth 65536 in
set_option maxHeartbeats 40000000 in
theorem rm_st1_6 (l : Launch) (Z : State) (a0 : Array Value) (hw : ∀ d ∈ tables_1, d.before a0 Z = true) (ws : List Jvm.Cond) (n0 : Nat) (rr : Int64) (b0 : Int32) (k0 : ClassId) (hk0 : IsA Z k0 .byte) (h0 : Heap) (P0 : HP n0 h0 [AC k0 [.int b0]]) :
    MetFree l (⟨"com/example/protomata/protomata/BytesUintPinLaw", "step", "(J[BI)J"⟩ : MethodName) (head1 (Jvm.Cond.code (⟨"com/example/protomata/protomata/BytesUintPinLaw", "step", "(J[BI)J"⟩ : MethodName) method_2_code 4 (some .long) :: ws) ({ frames := 0, cells := 0, slots := 0, locals := 0 } : Room)) (fun a U => a = #[.long rr, .ref (n0 + 0), .int (6 : Int32)] ∧ Z.Warmed39 U.vm ∧ U.heap = h0) (fun _ _ _ _ _ => True) (fun _ U o U' => ∃ v L, o = .returned v ∧ PureQ (.long (sp_st1_6 rr b0)) h0 v U'.heap L ∧ FrameEnd U o U' L ({ frames := 0, cells := 0, slots := 0, locals := 0 } : Room).cells ({ frames := 0, cells := 0, slots := 0, locals := 0 } : Room).slots) := by
  refine own_body pn2 ?_
  intro p e s m below meth c T0 hx hby hml hret hlk hown hnm hZ X0 e0
  subst e0
  refine own_cast (ef_st1_6 m n0 rr b0) ?_
  refine w_iloadN X0 hx (hb hby d2_0) rfl (pc' := 1) rfl ?_
  refine w_aloadN X0 hx (hb hby d2_1) rfl rfl (pc' := 2) rfl ?_
  refine w_arrlen (i := 0) X0 hx hZ P0 rfl hk0 (hb hby d2_2) (z := (1 : Int32)) rfl (pc' := 3) rfl ?_
  refine w_icmp_ge X0 hx (hb hby d2_3) (by decide) (pcY := 20) (by decide) (pc' := 6) rfl (fun h0 => ?_) (fun h0 => absurd h0 (by decide))
  refine w_lloadN X0 hx (hb hby d2_20) rfl (pc' := 21) rfl ?_
  exact w_ret_l X0 hx hret hlk (hb hby d2_21) (by decide) (by decide) ⟨congrArg (fun q => some (Value.long q)) (show rr = sp_st1_6 rr b0 from by rw [sp_st1_6]), rfl, rfl⟩
theorem ef_st1_7 (m : MethodId) (n0 : Nat) (rr : Int64) (b0 : Int32) : entryFrame m #[.long rr, .ref (n0 + 0), .int (7 : Int32)] 4 = mkF m 0 #[.val (.long rr), .second, .val (.ref (n0 + 0)), .val (.int (7 : Int32))] [] := by first | (simp [entryFrame, mkF, argsToLocals, Value.category]; done) | rfl
def sp_st1_7 (rr : Int64) (b0 : Int32) : Int64 := rr
set_option maxRecDepth 65536 in
set_option maxHeartbeats 40000000 in
theorem rm_st1_7 (l : Launch) (Z : State) (a0 : Array Value) (hw : ∀ d ∈ tables_1, d.before a0 Z = true) (ws : List Jvm.Cond) (n0 : Nat) (rr : Int64) (b0 : Int32) (k0 : ClassId) (hk0 : IsA Z k0 .byte) (h0 : Heap) (P0 : HP n0 h0 [AC k0 [.int b0]]) :
    MetFree l (⟨"com/example/protomata/protomata/BytesUintPinLaw", "step", "(J[BI)J"⟩ : MethodName) (head1 (Jvm.Cond.code (⟨"com/example/protomata/protomata/BytesUintPinLaw", "step", "(J[BI)J"⟩ : MethodName) method_2_code 4 (some .long) :: ws) ({ frames := 0, cells := 0, slots := 0, locals := 0 } : Room)) (fun a U => a = #[.long rr, .ref (n0 + 0), .int (7 : Int32)] ∧ Z.Warmed39 U.vm ∧ U.heap = h0) (fun _ _ _ _ _ => True) (fun _ U o U' => ∃ v L, o = .returned v ∧ PureQ (.long (sp_st1_7 rr b0)) h0 v U'.heap L ∧ FrameEnd U o U' L ({ frames := 0, cells := 0, slots := 0, locals := 0 } : Room).cells ({ frames := 0, cells := 0, slots := 0, locals := 0 } : Room).slots) := by
  refine own_body pn2 ?_
  intro p e s m below meth c T0 hx hby hml hret hlk hown hnm hZ X0 e0
  subst e0
  refine own_cast (ef_st1_7 m n0 rr b0) ?_
  refine w_iloadN X0 hx (hb hby d2_0) rfl (pc' := 1) rfl ?_
  refine w_aloadN X0 hx (hb hby d2_1) rfl rfl (pc' := 2) rfl ?_
  refine w_arrlen (i := 0) X0 hx hZ P0 rfl hk0 (hb hby d2_2) (z := (1 : Int32)) rfl (pc' := 3) rfl ?_
  refine w_icmp_ge X0 hx (hb hby d2_3) (by decide) (pcY := 20) (by decide) (pc' := 6) rfl (fun h0 => ?_) (fun h0 => absurd h0 (by decide))
  refine w_lloadN X0 hx (hb hby d2_20) rfl (pc' := 21) rfl ?_
  exact w_ret_l X0 hx hret hlk (hb hby d2_21) (by decide) (by decide) ⟨congrArg (fun q => some (Value.long q)) (show rr = sp_st1_7 rr b0 from by rw [sp_st1_7]), rfl, rfl⟩
theorem ef_st2_0 (m : MethodId) (n0 : Nat) (rr : Int64) (b0 : Int32) (b1 : Int32) : entryFrame m #[.long rr, .ref (n0 + 0), .int (0 : Int32)] 4 = mkF m 0 #[.val (.long rr), .second, .val (.ref (n0 + 0)), .val (.int (0 : Int32))] [] := by first | (simp [entryFrame, mkF, argsToLocals, Value.category]; done) | rfl
def sp_st2_0 (rr : Int64) (b0 : Int32) (b1 : Int32) : Int64 := ((rr <<< (Int32.toInt64 (8 : Int32) &&& 63)) ||| ((Int32.toInt64 b0) &&& (255 : Int64)))
set_option maxRecDepth 65536 in
set_option maxHeartbeats 40000000 in
theorem rm_st2_0 (l : Launch) (Z : State) (a0 : Array Value) (hw : ∀ d ∈ tables_1, d.before a0 Z = true) (ws : List Jvm.Cond) (n0 : Nat) (rr : Int64) (b0 : Int32) (b1 : Int32) (k0 : ClassId) (hk0 : IsA Z k0 .byte) (h0 : Heap) (P0 : HP n0 h0 [AC k0 [.int b0, .int b1]]) :
    MetFree l (⟨"com/example/protomata/protomata/BytesUintPinLaw", "step", "(J[BI)J"⟩ : MethodName) (head1 (Jvm.Cond.code (⟨"com/example/protomata/protomata/BytesUintPinLaw", "step", "(J[BI)J"⟩ : MethodName) method_2_code 4 (some .long) :: ws) ({ frames := 0, cells := 0, slots := 0, locals := 0 } : Room)) (fun a U => a = #[.long rr, .ref (n0 + 0), .int (0 : Int32)] ∧ Z.Warmed39 U.vm ∧ U.heap = h0) (fun _ _ _ _ _ => True) (fun _ U o U' => ∃ v L, o = .returned v ∧ PureQ (.long (sp_st2_0 rr b0 b1)) h0 v U'.heap L ∧ FrameEnd U o U' L ({ frames := 0, cells := 0, slots := 0, locals := 0 } : Room).cells ({ frames := 0, cells := 0, slots := 0, locals := 0 } : Room).slots) := by
  refine own_body pn2 ?_
  intro p e s m below meth c T0 hx hby hml hret hlk hown hnm hZ X0 e0
  subst e0
  refine own_cast (ef_st2_0 m n0 rr b0 b1) ?_
  refine w_iloadN X0 hx (hb hby d2_0) rfl (pc' := 1) rfl ?_
  refine w_aloadN X0 hx (hb hby d2_1) rfl rfl (pc' := 2) rfl ?_
  refine w_arrlen (i := 0) X0 hx hZ P0 rfl hk0 (hb hby d2_2) (z := (2 : Int32)) rfl (pc' := 3) rfl ?_
  refine w_icmp_ge X0 hx (hb hby d2_3) (by decide) (pcY := 20) (by decide) (pc' := 6) rfl (fun h0 => absurd h0 (by decide)) (fun h0 => ?_)
  refine w_lloadN X0 hx (hb hby d2_6) rfl (pc' := 7) rfl ?_
  refine w_bipush (v := (8 : Int32)) X0 hx (hb hby d2_7) rfl (pc' := 9) rfl ?_
  refine w_lshl X0 hx (hb hby d2_9) (pc' := 10) rfl ?_
  refine w_aloadN X0 hx (hb hby d2_10) rfl rfl (pc' := 11) rfl ?_
  refine w_iloadN X0 hx (hb hby d2_11) rfl (pc' := 12) rfl ?_
  refine w_baload (i := 0) (jn := 0) (v := .int b0) X0 hx hZ P0 rfl hk0 (hb hby d2_12) (by decide) rfl (pc' := 13) rfl ?_
  refine w_i2l X0 hx (hb hby d2_13) (pc' := 14) rfl ?_
  refine w_ldc2 X0 hx (hb hby d2_14) hown (mvT hZ (wd10 hw)) (pc' := 17) rfl ?_
  refine w_land X0 hx (hb hby d2_17) (pc' := 18) rfl ?_
  refine w_lor X0 hx (hb hby d2_18) (pc' := 19) rfl ?_
  exact w_ret_l X0 hx hret hlk (hb hby d2_19) (by decide) (by decide) ⟨congrArg (fun q => some (Value.long q)) (show ((rr <<< (Int32.toInt64 (8 : Int32) &&& 63)) ||| ((Int32.toInt64 b0) &&& (255 : Int64))) = sp_st2_0 rr b0 b1 from by rw [sp_st2_0]), rfl, rfl⟩
theorem ef_st2_1 (m : MethodId) (n0 : Nat) (rr : Int64) (b0 : Int32) (b1 : Int32) : entryFrame m #[.long rr, .ref (n0 + 0), .int (1 : Int32)] 4 = mkF m 0 #[.val (.long rr), .second, .val (.ref (n0 + 0)), .val (.int (1 : Int32))] [] := by first | (simp [entryFrame, mkF, argsToLocals, Value.category]; done) | rfl
def sp_st2_1 (rr : Int64) (b0 : Int32) (b1 : Int32) : Int64 := ((rr <<< (Int32.toInt64 (8 : Int32) &&& 63)) ||| ((Int32.toInt64 b1) &&& (255 : Int64)))
set_option maxRecDepth 65536 in
set_option maxHeartbeats 40000000 in
theorem rm_st2_1 (l : Launch) (Z : State) (a0 : Array Value) (hw : ∀ d ∈ tables_1, d.before a0 Z = true) (ws : List Jvm.Cond) (n0 : Nat) (rr : Int64) (b0 : Int32) (b1 : Int32) (k0 : ClassId) (hk0 : IsA Z k0 .byte) (h0 : Heap) (P0 : HP n0 h0 [AC k0 [.int b0, .int b1]]) :
    MetFree l (⟨"com/example/protomata/protomata/BytesUintPinLaw", "step", "(J[BI)J"⟩ : MethodName) (head1 (Jvm.Cond.code (⟨"com/example/protomata/protomata/BytesUintPinLaw", "step", "(J[BI)J"⟩ : MethodName) method_2_code 4 (some .long) :: ws) ({ frames := 0, cells := 0, slots := 0, locals := 0 } : Room)) (fun a U => a = #[.long rr, .ref (n0 + 0), .int (1 : Int32)] ∧ Z.Warmed39 U.vm ∧ U.heap = h0) (fun _ _ _ _ _ => True) (fun _ U o U' => ∃ v L, o = .returned v ∧ PureQ (.long (sp_st2_1 rr b0 b1)) h0 v U'.heap L ∧ FrameEnd U o U' L ({ frames := 0, cells := 0, slots := 0, locals := 0 } : Room).cells ({ frames := 0, cells := 0, slots := 0, locals := 0 } : Room).slots) := by
  refine own_body pn2 ?_
  intro p e s m below meth c T0 hx hby hml hret hlk hown hnm hZ X0 e0
  subst e0
  refine own_cast (ef_st2_1 m n0 rr b0 b1) ?_
  refine w_iloadN X0 hx (hb hby d2_0) rfl (pc' := 1) rfl ?_
  refine w_aloadN X0 hx (hb hby d2_1) rfl rfl (pc' := 2) rfl ?_
  refine w_arrlen (i := 0) X0 hx hZ P0 rfl hk0 (hb hby d2_2) (z := (2 : Int32)) rfl (pc' := 3) rfl ?_
  refine w_icmp_ge X0 hx (hb hby d2_3) (by decide) (pcY := 20) (by decide) (pc' := 6) rfl (fun h0 => absurd h0 (by decide)) (fun h0 => ?_)
  refine w_lloadN X0 hx (hb hby d2_6) rfl (pc' := 7) rfl ?_
  refine w_bipush (v := (8 : Int32)) X0 hx (hb hby d2_7) rfl (pc' := 9) rfl ?_
  refine w_lshl X0 hx (hb hby d2_9) (pc' := 10) rfl ?_
  refine w_aloadN X0 hx (hb hby d2_10) rfl rfl (pc' := 11) rfl ?_
  refine w_iloadN X0 hx (hb hby d2_11) rfl (pc' := 12) rfl ?_
  refine w_baload (i := 0) (jn := 1) (v := .int b1) X0 hx hZ P0 rfl hk0 (hb hby d2_12) (by decide) rfl (pc' := 13) rfl ?_
  refine w_i2l X0 hx (hb hby d2_13) (pc' := 14) rfl ?_
  refine w_ldc2 X0 hx (hb hby d2_14) hown (mvT hZ (wd10 hw)) (pc' := 17) rfl ?_
  refine w_land X0 hx (hb hby d2_17) (pc' := 18) rfl ?_
  refine w_lor X0 hx (hb hby d2_18) (pc' := 19) rfl ?_
  exact w_ret_l X0 hx hret hlk (hb hby d2_19) (by decide) (by decide) ⟨congrArg (fun q => some (Value.long q)) (show ((rr <<< (Int32.toInt64 (8 : Int32) &&& 63)) ||| ((Int32.toInt64 b1) &&& (255 : Int64))) = sp_st2_1 rr b0 b1 from by rw [sp_st2_1]), rfl, rfl⟩
theorem ef_st2_2 (m : MethodId) (n0 : Nat) (rr : Int64) (b0 : Int32) (b1 : Int32) : entryFrame m #[.long rr, .ref (n0 + 0), .int (2 : Int32)] 4 = mkF m 0 #[.val (.long rr), .second, .val (.ref (n0 + 0)), .val (.int (2 : Int32))] [] := by first | (simp [entryFrame, mkF, argsToLocals, Value.category]; done) | rfl
def sp_st2_2 (rr : Int64) (b0 : Int32) (b1 : Int32) : Int64 := rr
set_option maxRecDepth 65536 in
set_option maxHeartbeats 40000000 in
theorem rm_st2_2 (l : Launch) (Z : State) (a0 : Array Value) (hw : ∀ d ∈ tables_1, d.before a0 Z = true) (ws : List Jvm.Cond) (n0 : Nat) (rr : Int64) (b0 : Int32) (b1 : Int32) (k0 : ClassId) (hk0 : IsA Z k0 .byte) (h0 : Heap) (P0 : HP n0 h0 [AC k0 [.int b0, .int b1]]) :
    MetFree l (⟨"com/example/protomata/protomata/BytesUintPinLaw", "step", "(J[BI)J"⟩ : MethodName) (head1 (Jvm.Cond.code (⟨"com/example/protomata/protomata/BytesUintPinLaw", "step", "(J[BI)J"⟩ : MethodName) method_2_code 4 (some .long) :: ws) ({ frames := 0, cells := 0, slots := 0, locals := 0 } : Room)) (fun a U => a = #[.long rr, .ref (n0 + 0), .int (2 : Int32)] ∧ Z.Warmed39 U.vm ∧ U.heap = h0) (fun _ _ _ _ _ => True) (fun _ U o U' => ∃ v L, o = .returned v ∧ PureQ (.long (sp_st2_2 rr b0 b1)) h0 v U'.heap L ∧ FrameEnd U o U' L ({ frames := 0, cells := 0, slots := 0, locals := 0 } : Room).cells ({ frames := 0, cells := 0, slots := 0, locals := 0 } : Room).slots) := by
  refine own_body pn2 ?_
  intro p e s m below meth c T0 hx hby hml hret hlk hown hnm hZ X0 e0
  subst e0
  refine own_cast (ef_st2_2 m n0 rr b0 b1) ?_
  refine w_iloadN X0 hx (hb hby d2_0) rfl (pc' := 1) rfl ?_
  refine w_aloadN X0 hx (hb hby d2_1) rfl rfl (pc' := 2) rfl ?_
  refine w_arrlen (i := 0) X0 hx hZ P0 rfl hk0 (hb hby d2_2) (z := (2 : Int32)) rfl (pc' := 3) rfl ?_
  refine w_icmp_ge X0 hx (hb hby d2_3) (by decide) (pcY := 20) (by decide) (pc' := 6) rfl (fun h0 => ?_) (fun h0 => absurd h0 (by decide))
  refine w_lloadN X0 hx (hb hby d2_20) rfl (pc' := 21) rfl ?_
  exact w_ret_l X0 hx hret hlk (hb hby d2_21) (by decide) (by decide) ⟨congrArg (fun q => some (Value.long q)) (show rr = sp_st2_2 rr b0 b1 from by rw [sp_st2_2]), rfl, rfl⟩
theorem ef_st2_3 (m : MethodId) (n0 : Nat) (rr : Int64) (b0 : Int32) (b1 : Int32) : entryFrame m #[.long rr, .ref (n0 + 0), .int (3 : Int32)] 4 = mkF m 0 #[.val (.long rr), .second, .val (.ref (n0 + 0)), .val (.int (3 : Int32))] [] := by first | (simp [entryFrame, mkF, argsToLocals, Value.category]; done) | rfl
def sp_st2_3 (rr : Int64) (b0 : Int32) (b1 : Int32) : Int64 := rr
set_option maxRecDepth 65536 in
set_option maxHeartbeats 40000000 in
theorem rm_st2_3 (l : Launch) (Z : State) (a0 : Array Value) (hw : ∀ d ∈ tables_1, d.before a0 Z = true) (ws : List Jvm.Cond) (n0 : Nat) (rr : Int64) (b0 : Int32) (b1 : Int32) (k0 : ClassId) (hk0 : IsA Z k0 .byte) (h0 : Heap) (P0 : HP n0 h0 [AC k0 [.int b0, .int b1]]) :
    MetFree l (⟨"com/example/protomata/protomata/BytesUintPinLaw", "step", "(J[BI)J"⟩ : MethodName) (head1 (Jvm.Cond.code (⟨"com/example/protomata/protomata/BytesUintPinLaw", "step", "(J[BI)J"⟩ : MethodName) method_2_code 4 (some .long) :: ws) ({ frames := 0, cells := 0, slots := 0, locals := 0 } : Room)) (fun a U => a = #[.long rr, .ref (n0 + 0), .int (3 : Int32)] ∧ Z.Warmed39 U.vm ∧ U.heap = h0) (fun _ _ _ _ _ => True) (fun _ U o U' => ∃ v L, o = .returned v ∧ PureQ (.long (sp_st2_3 rr b0 b1)) h0 v U'.heap L ∧ FrameEnd U o U' L ({ frames := 0, cells := 0, slots := 0, locals := 0 } : Room).cells ({ frames := 0, cells := 0, slots := 0, locals := 0 } : Room).slots) := by
  refine own_body pn2 ?_
  intro p e s m below meth c T0 hx hby hml hret hlk hown hnm hZ X0 e0
  subst e0
  refine own_cast (ef_st2_3 m n0 rr b0 b1) ?_
  refine w_iloadN X0 hx (hb hby d2_0) rfl (pc' := 1) rfl ?_
  refine w_aloadN X0 hx (hb hby d2_1) rfl rfl (pc' := 2) rfl ?_
  refine w_arrlen (i := 0) X0 hx hZ P0 rfl hk0 (hb hby d2_2) (z := (2 : Int32)) rfl (pc' := 3) rfl ?_
  refine w_icmp_ge X0 hx (hb hby d2_3) (by decide) (pcY := 20) (by decide) (pc' := 6) rfl (fun h0 => ?_) (fun h0 => absurd h0 (by decide))
  refine w_lloadN X0 hx (hb hby d2_20) rfl (pc' := 21) rfl ?_
  exact w_ret_l X0 hx hret hlk (hb hby d2_21) (by decide) (by decide) ⟨congrArg (fun q => some (Value.long q)) (show rr = sp_st2_3 rr b0 b1 from by rw [sp_st2_3]), rfl, rfl⟩
theorem ef_st2_4 (m : MethodId) (n0 : Nat) (rr : Int64) (b0 : Int32) (b1 : Int32) : entryFrame m #[.long rr, .ref (n0 + 0), .int (4 : Int32)] 4 = mkF m 0 #[.val (.long rr), .second, .val (.ref (n0 + 0)), .val (.int (4 : Int32))] [] := by first | (simp [entryFrame, mkF, argsToLocals, Value.category]; done) | rfl
def sp_st2_4 (rr : Int64) (b0 : Int32) (b1 : Int32) : Int64 := rr
set_option maxRecDepth 65536 in
set_option maxHeartbeats 40000000 in
theorem rm_st2_4 (l : Launch) (Z : State) (a0 : Array Value) (hw : ∀ d ∈ tables_1, d.before a0 Z = true) (ws : List Jvm.Cond) (n0 : Nat) (rr : Int64) (b0 : Int32) (b1 : Int32) (k0 : ClassId) (hk0 : IsA Z k0 .byte) (h0 : Heap) (P0 : HP n0 h0 [AC k0 [.int b0, .int b1]]) :
    MetFree l (⟨"com/example/protomata/protomata/BytesUintPinLaw", "step", "(J[BI)J"⟩ : MethodName) (head1 (Jvm.Cond.code (⟨"com/example/protomata/protomata/BytesUintPinLaw", "step", "(J[BI)J"⟩ : MethodName) method_2_code 4 (some .long) :: ws) ({ frames := 0, cells := 0, slots := 0, locals := 0 } : Room)) (fun a U => a = #[.long rr, .ref (n0 + 0), .int (4 : Int32)] ∧ Z.Warmed39 U.vm ∧ U.heap = h0) (fun _ _ _ _ _ => True) (fun _ U o U' => ∃ v L, o = .returned v ∧ PureQ (.long (sp_st2_4 rr b0 b1)) h0 v U'.heap L ∧ FrameEnd U o U' L ({ frames := 0, cells := 0, slots := 0, locals := 0 } : Room).cells ({ frames := 0, cells := 0, slots := 0, locals := 0 } : Room).slots) := by
  refine own_body pn2 ?_
  intro p e s m below meth c T0 hx hby hml hret hlk hown hnm hZ X0 e0
  subst e0
  refine own_cast (ef_st2_4 m n0 rr b0 b1) ?_
  refine w_iloadN X0 hx (hb hby d2_0) rfl (pc' := 1) rfl ?_
  refine w_aloadN X0 hx (hb hby d2_1) rfl rfl (pc' := 2) rfl ?_
  refine w_arrlen (i := 0) X0 hx hZ P0 rfl hk0 (hb hby d2_2) (z := (2 : Int32)) rfl (pc' := 3) rfl ?_
  refine w_icmp_ge X0 hx (hb hby d2_3) (by decide) (pcY := 20) (by decide) (pc' := 6) rfl (fun h0 => ?_) (fun h0 => absurd h0 (by decide))
  refine w_lloadN X0 hx (hb hby d2_20) rfl (pc' := 21) rfl ?_
  exact w_ret_l X0 hx hret hlk (hb hby d2_21) (by decide) (by decide) ⟨congrArg (fun q => some (Value.long q)) (show rr = sp_st2_4 rr b0 b1 from by rw [sp_st2_4]), rfl, rfl⟩
theorem ef_st2_5 (m : MethodId) (n0 : Nat) (rr : Int64) (b0 : Int32) (b1 : Int32) : entryFrame m #[.long rr, .ref (n0 + 0), .int (5 : Int32)] 4 = mkF m 0 #[.val (.long rr), .second, .val (.ref (n0 + 0)), .val (.int (5 : Int32))] [] := by first | (simp [entryFrame, mkF, argsToLocals, Value.category]; done) | rfl
def sp_st2_5 (rr : Int64) (b0 : Int32) (b1 : Int32) : Int64 := rr
set_option maxRecDepth 65536 in
set_option maxHeartbeats 40000000 in
theorem rm_st2_5 (l : Launch) (Z : State) (a0 : Array Value) (hw : ∀ d ∈ tables_1, d.before a0 Z = true) (ws : List Jvm.Cond) (n0 : Nat) (rr : Int64) (b0 : Int32) (b1 : Int32) (k0 : ClassId) (hk0 : IsA Z k0 .byte) (h0 : Heap) (P0 : HP n0 h0 [AC k0 [.int b0, .int b1]]) :
    MetFree l (⟨"com/example/protomata/protomata/BytesUintPinLaw", "step", "(J[BI)J"⟩ : MethodName) (head1 (Jvm.Cond.code (⟨"com/example/protomata/protomata/BytesUintPinLaw", "step", "(J[BI)J"⟩ : MethodName) method_2_code 4 (some .long) :: ws) ({ frames := 0, cells := 0, slots := 0, locals := 0 } : Room)) (fun a U => a = #[.long rr, .ref (n0 + 0), .int (5 : Int32)] ∧ Z.Warmed39 U.vm ∧ U.heap = h0) (fun _ _ _ _ _ => True) (fun _ U o U' => ∃ v L, o = .returned v ∧ PureQ (.long (sp_st2_5 rr b0 b1)) h0 v U'.heap L ∧ FrameEnd U o U' L ({ frames := 0, cells := 0, slots := 0, locals := 0 } : Room).cells ({ frames := 0, cells := 0, slots := 0, locals := 0 } : Room).slots) := by
  refine own_body pn2 ?_
  intro p e s m below meth c T0 hx hby hml hret hlk hown hnm hZ X0 e0
  subst e0
  refine own_cast (ef_st2_5 m n0 rr b0 b1) ?_
  refine w_iloadN X0 hx (hb hby d2_0) rfl (pc' := 1) rfl ?_
  refine w_aloadN X0 hx (hb hby d2_1) rfl rfl (pc' := 2) rfl ?_
  refine w_arrlen (i := 0) X0 hx hZ P0 rfl hk0 (hb hby d2_2) (z := (2 : Int32)) rfl (pc' := 3) rfl ?_
  refine w_icmp_ge X0 hx (hb hby d2_3) (by decide) (pcY := 20) (by decide) (pc' := 6) rfl (fun h0 => ?_) (fun h0 => absurd h0 (by decide))
  refine w_lloadN X0 hx (hb hby d2_20) rfl (pc' := 21) rfl ?_
  exact w_ret_l X0 hx hret hlk (hb hby d2_21) (by decide) (by decide) ⟨congrArg (fun q => some (Value.long q)) (show rr = sp_st2_5 rr b0 b1 from by rw [sp_st2_5]), rfl, rfl⟩
theorem ef_st2_6 (m : MethodId) (n0 : Nat) (rr : Int64) (b0 : Int32) (b1 : Int32) : entryFrame m #[.long rr, .ref (n0 + 0), .int (6 : Int32)] 4 = mkF m 0 #[.val (.long rr), .second, .val (.ref (n0 + 0)), .val (.int (6 : Int32))] [] := by first | (simp [entryFrame, mkF, argsToLocals, Value.category]; done) | rfl
def sp_st2_6 (rr : Int64) (b0 : Int32) (b1 : Int32) : Int64 := rr
set_option maxRecDepth 65536 in
set_option maxHeartbeats 40000000 in
theorem rm_st2_6 (l : Launch) (Z : State) (a0 : Array Value) (hw : ∀ d ∈ tables_1, d.before a0 Z = true) (ws : List Jvm.Cond) (n0 : Nat) (rr : Int64) (b0 : Int32) (b1 : Int32) (k0 : ClassId) (hk0 : IsA Z k0 .byte) (h0 : Heap) (P0 : HP n0 h0 [AC k0 [.int b0, .int b1]]) :
    MetFree l (⟨"com/example/protomata/protomata/BytesUintPinLaw", "step", "(J[BI)J"⟩ : MethodName) (head1 (Jvm.Cond.code (⟨"com/example/protomata/protomata/BytesUintPinLaw", "step", "(J[BI)J"⟩ : MethodName) method_2_code 4 (some .long) :: ws) ({ frames := 0, cells := 0, slots := 0, locals := 0 } : Room)) (fun a U => a = #[.long rr, .ref (n0 + 0), .int (6 : Int32)] ∧ Z.Warmed39 U.vm ∧ U.heap = h0) (fun _ _ _ _ _ => True) (fun _ U o U' => ∃ v L, o = .returned v ∧ PureQ (.long (sp_st2_6 rr b0 b1)) h0 v U'.heap L ∧ FrameEnd U o U' L ({ frames := 0, cells := 0, slots := 0, locals := 0 } : Room).cells ({ frames := 0, cells := 0, slots := 0, locals := 0 } : Room).slots) := by
  refine own_body pn2 ?_
  intro p e s m below meth c T0 hx hby hml hret hlk hown hnm hZ X0 e0
  subst e0
  refine own_cast (ef_st2_6 m n0 rr b0 b1) ?_
  refine w_iloadN X0 hx (hb hby d2_0) rfl (pc' := 1) rfl ?_
  refine w_aloadN X0 hx (hb hby d2_1) rfl rfl (pc' := 2) rfl ?_
  refine w_arrlen (i := 0) X0 hx hZ P0 rfl hk0 (hb hby d2_2) (z := (2 : Int32)) rfl (pc' := 3) rfl ?_
  refine w_icmp_ge X0 hx (hb hby d2_3) (by decide) (pcY := 20) (by decide) (pc' := 6) rfl (fun h0 => ?_) (fun h0 => absurd h0 (by decide))
  refine w_lloadN X0 hx (hb hby d2_20) rfl (pc' := 21) rfl ?_
  exact w_ret_l X0 hx hret hlk (hb hby d2_21) (by decide) (by decide) ⟨congrArg (fun q => some (Value.long q)) (show rr = sp_st2_6 rr b0 b1 from by rw [sp_st2_6]), rfl, rfl⟩
theorem ef_st2_7 (m : MethodId) (n0 : Nat) (rr : Int64) (b0 : Int32) (b1 : Int32) : entryFrame m #[.long rr, .ref (n0 + 0), .int (7 : Int32)] 4 = mkF m 0 #[.val (.long rr), .second, .val (.ref (n0 + 0)), .val (.int (7 : Int32))] [] := by first | (simp [entryFrame, mkF, argsToLocals, Value.category]; done) | rfl
def sp_st2_7 (rr : Int64) (b0 : Int32) (b1 : Int32) : Int64 := rr
set_option maxRecDepth 65536 in
set_option maxHeartbeats 40000000 in
theorem rm_st2_7 (l : Launch) (Z : State) (a0 : Array Value) (hw : ∀ d ∈ tables_1, d.before a0 Z = true) (ws : List Jvm.Cond) (n0 : Nat) (rr : Int64) (b0 : Int32) (b1 : Int32) (k0 : ClassId) (hk0 : IsA Z k0 .byte) (h0 : Heap) (P0 : HP n0 h0 [AC k0 [.int b0, .int b1]]) :
    MetFree l (⟨"com/example/protomata/protomata/BytesUintPinLaw", "step", "(J[BI)J"⟩ : MethodName) (head1 (Jvm.Cond.code (⟨"com/example/protomata/protomata/BytesUintPinLaw", "step", "(J[BI)J"⟩ : MethodName) method_2_code 4 (some .long) :: ws) ({ frames := 0, cells := 0, slots := 0, locals := 0 } : Room)) (fun a U => a = #[.long rr, .ref (n0 + 0), .int (7 : Int32)] ∧ Z.Warmed39 U.vm ∧ U.heap = h0) (fun _ _ _ _ _ => True) (fun _ U o U' => ∃ v L, o = .returned v ∧ PureQ (.long (sp_st2_7 rr b0 b1)) h0 v U'.heap L ∧ FrameEnd U o U' L ({ frames := 0, cells := 0, slots := 0, locals := 0 } : Room).cells ({ frames := 0, cells := 0, slots := 0, locals := 0 } : Room).slots) := by
  refine own_body pn2 ?_
  intro p e s m below meth c T0 hx hby hml hret hlk hown hnm hZ X0 e0
  subst e0
  refine own_cast (ef_st2_7 m n0 rr b0 b1) ?_
  refine w_iloadN X0 hx (hb hby d2_0) rfl (pc' := 1) rfl ?_
  refine w_aloadN X0 hx (hb hby d2_1) rfl rfl (pc' := 2) rfl ?_
  refine w_arrlen (i := 0) X0 hx hZ P0 rfl hk0 (hb hby d2_2) (z := (2 : Int32)) rfl (pc' := 3) rfl ?_
  refine w_icmp_ge X0 hx (hb hby d2_3) (by decide) (pcY := 20) (by decide) (pc' := 6) rfl (fun h0 => ?_) (fun h0 => absurd h0 (by decide))
  refine w_lloadN X0 hx (hb hby d2_20) rfl (pc' := 21) rfl ?_
  exact w_ret_l X0 hx hret hlk (hb hby d2_21) (by decide) (by decide) ⟨congrArg (fun q => some (Value.long q)) (show rr = sp_st2_7 rr b0 b1 from by rw [sp_st2_7]), rfl, rfl⟩
theorem ef_st3_0 (m : MethodId) (n0 : Nat) (rr : Int64) (b0 : Int32) (b1 : Int32) (b2 : Int32) : entryFrame m #[.long rr, .ref (n0 + 0), .int (0 : Int32)] 4 = mkF m 0 #[.val (.long rr), .second, .val (.ref (n0 + 0)), .val (.int (0 : Int32))] [] := by first | (simp [entryFrame, mkF, argsToLocals, Value.category]; done) | rfl
def sp_st3_0 (rr : Int64) (b0 : Int32) (b1 : Int32) (b2 : Int32) : Int64 := ((rr <<< (Int32.toInt64 (8 : Int32) &&& 63)) ||| ((Int32.toInt64 b0) &&& (255 : Int64)))
set_option maxRecDepth 65536 in
set_option maxHeartbeats 40000000 in
theorem rm_st3_0 (l : Launch) (Z : State) (a0 : Array Value) (hw : ∀ d ∈ tables_1, d.before a0 Z = true) (ws : List Jvm.Cond) (n0 : Nat) (rr : Int64) (b0 : Int32) (b1 : Int32) (b2 : Int32) (k0 : ClassId) (hk0 : IsA Z k0 .byte) (h0 : Heap) (P0 : HP n0 h0 [AC k0 [.int b0, .int b1, .int b2]]) :
    MetFree l (⟨"com/example/protomata/protomata/BytesUintPinLaw", "step", "(J[BI)J"⟩ : MethodName) (head1 (Jvm.Cond.code (⟨"com/example/protomata/protomata/BytesUintPinLaw", "step", "(J[BI)J"⟩ : MethodName) method_2_code 4 (some .long) :: ws) ({ frames := 0, cells := 0, slots := 0, locals := 0 } : Room)) (fun a U => a = #[.long rr, .ref (n0 + 0), .int (0 : Int32)] ∧ Z.Warmed39 U.vm ∧ U.heap = h0) (fun _ _ _ _ _ => True) (fun _ U o U' => ∃ v L, o = .returned v ∧ PureQ (.long (sp_st3_0 rr b0 b1 b2)) h0 v U'.heap L ∧ FrameEnd U o U' L ({ frames := 0, cells := 0, slots := 0, locals := 0 } : Room).cells ({ frames := 0, cells := 0, slots := 0, locals := 0 } : Room).slots) := by
  refine own_body pn2 ?_
  intro p e s m below meth c T0 hx hby hml hret hlk hown hnm hZ X0 e0
  subst e0
  refine own_cast (ef_st3_0 m n0 rr b0 b1 b2) ?_
  refine w_iloadN X0 hx (hb hby d2_0) rfl (pc' := 1) rfl ?_
  refine w_aloadN X0 hx (hb hby d2_1) rfl rfl (pc' := 2) rfl ?_
  refine w_arrlen (i := 0) X0 hx hZ P0 rfl hk0 (hb hby d2_2) (z := (3 : Int32)) rfl (pc' := 3) rfl ?_
  refine w_icmp_ge X0 hx (hb hby d2_3) (by decide) (pcY := 20) (by decide) (pc' := 6) rfl (fun h0 => absurd h0 (by decide)) (fun h0 => ?_)
  refine w_lloadN X0 hx (hb hby d2_6) rfl (pc' := 7) rfl ?_
  refine w_bipush (v := (8 : Int32)) X0 hx (hb hby d2_7) rfl (pc' := 9) rfl ?_
  refine w_lshl X0 hx (hb hby d2_9) (pc' := 10) rfl ?_
  refine w_aloadN X0 hx (hb hby d2_10) rfl rfl (pc' := 11) rfl ?_
  refine w_iloadN X0 hx (hb hby d2_11) rfl (pc' := 12) rfl ?_
  refine w_baload (i := 0) (jn := 0) (v := .int b0) X0 hx hZ P0 rfl hk0 (hb hby d2_12) (by decide) rfl (pc' := 13) rfl ?_
  refine w_i2l X0 hx (hb hby d2_13) (pc' := 14) rfl ?_
  refine w_ldc2 X0 hx (hb hby d2_14) hown (mvT hZ (wd10 hw)) (pc' := 17) rfl ?_
  refine w_land X0 hx (hb hby d2_17) (pc' := 18) rfl ?_
  refine w_lor X0 hx (hb hby d2_18) (pc' := 19) rfl ?_
  exact w_ret_l X0 hx hret hlk (hb hby d2_19) (by decide) (by decide) ⟨congrArg (fun q => some (Value.long q)) (show ((rr <<< (Int32.toInt64 (8 : Int32) &&& 63)) ||| ((Int32.toInt64 b0) &&& (255 : Int64))) = sp_st3_0 rr b0 b1 b2 from by rw [sp_st3_0]), rfl, rfl⟩
theorem ef_st3_1 (m : MethodId) (n0 : Nat) (rr : Int64) (b0 : Int32) (b1 : Int32) (b2 : Int32) : entryFrame m #[.long rr, .ref (n0 + 0), .int (1 : Int32)] 4 = mkF m 0 #[.val (.long rr), .second, .val (.ref (n0 + 0)), .val (.int (1 : Int32))] [] := by first | (simp [entryFrame, mkF, argsToLocals, Value.category]; done) | rfl
def sp_st3_1 (rr : Int64) (b0 : Int32) (b1 : Int32) (b2 : Int32) : Int64 := ((rr <<< (Int32.toInt64 (8 : Int32) &&& 63)) ||| ((Int32.toInt64 b1) &&& (255 : Int64)))
set_option maxRecDepth 65536 in
set_option maxHeartbeats 40000000 in
theorem rm_st3_1 (l : Launch) (Z : State) (a0 : Array Value) (hw : ∀ d ∈ tables_1, d.before a0 Z = true) (ws : List Jvm.Cond) (n0 : Nat) (rr : Int64) (b0 : Int32) (b1 : Int32) (b2 : Int32) (k0 : ClassId) (hk0 : IsA Z k0 .byte) (h0 : Heap) (P0 : HP n0 h0 [AC k0 [.int b0, .int b1, .int b2]]) :
    MetFree l (⟨"com/example/protomata/protomata/BytesUintPinLaw", "step", "(J[BI)J"⟩ : MethodName) (head1 (Jvm.Cond.code (⟨"com/example/protomata/protomata/BytesUintPinLaw", "step", "(J[BI)J"⟩ : MethodName) method_2_code 4 (some .long) :: ws) ({ frames := 0, cells := 0, slots := 0, locals := 0 } : Room)) (fun a U => a = #[.long rr, .ref (n0 + 0), .int (1 : Int32)] ∧ Z.Warmed39 U.vm ∧ U.heap = h0) (fun _ _ _ _ _ => True) (fun _ U o U' => ∃ v L, o = .returned v ∧ PureQ (.long (sp_st3_1 rr b0 b1 b2)) h0 v U'.heap L ∧ FrameEnd U o U' L ({ frames := 0, cells := 0, slots := 0, locals := 0 } : Room).cells ({ frames := 0, cells := 0, slots := 0, locals := 0 } : Room).slots) := by
  refine own_body pn2 ?_
  intro p e s m below meth c T0 hx hby hml hret hlk hown hnm hZ X0 e0
  subst e0
  refine own_cast (ef_st3_1 m n0 rr b0 b1 b2) ?_
  refine w_iloadN X0 hx (hb hby d2_0) rfl (pc' := 1) rfl ?_
  refine w_aloadN X0 hx (hb hby d2_1) rfl rfl (pc' := 2) rfl ?_
  refine w_arrlen (i := 0) X0 hx hZ P0 rfl hk0 (hb hby d2_2) (z := (3 : Int32)) rfl (pc' := 3) rfl ?_
  refine w_icmp_ge X0 hx (hb hby d2_3) (by decide) (pcY := 20) (by decide) (pc' := 6) rfl (fun h0 => absurd h0 (by decide)) (fun h0 => ?_)
  refine w_lloadN X0 hx (hb hby d2_6) rfl (pc' := 7) rfl ?_
  refine w_bipush (v := (8 : Int32)) X0 hx (hb hby d2_7) rfl (pc' := 9) rfl ?_
  refine w_lshl X0 hx (hb hby d2_9) (pc' := 10) rfl ?_
  refine w_aloadN X0 hx (hb hby d2_10) rfl rfl (pc' := 11) rfl ?_
  refine w_iloadN X0 hx (hb hby d2_11) rfl (pc' := 12) rfl ?_
  refine w_baload (i := 0) (jn := 1) (v := .int b1) X0 hx hZ P0 rfl hk0 (hb hby d2_12) (by decide) rfl (pc' := 13) rfl ?_
  refine w_i2l X0 hx (hb hby d2_13) (pc' := 14) rfl ?_
  refine w_ldc2 X0 hx (hb hby d2_14) hown (mvT hZ (wd10 hw)) (pc' := 17) rfl ?_
  refine w_land X0 hx (hb hby d2_17) (pc' := 18) rfl ?_
  refine w_lor X0 hx (hb hby d2_18) (pc' := 19) rfl ?_
  exact w_ret_l X0 hx hret hlk (hb hby d2_19) (by decide) (by decide) ⟨congrArg (fun q => some (Value.long q)) (show ((rr <<< (Int32.toInt64 (8 : Int32) &&& 63)) ||| ((Int32.toInt64 b1) &&& (255 : Int64))) = sp_st3_1 rr b0 b1 b2 from by rw [sp_st3_1]), rfl, rfl⟩
theorem ef_st3_2 (m : MethodId) (n0 : Nat) (rr : Int64) (b0 : Int32) (b1 : Int32) (b2 : Int32) : entryFrame m #[.long rr, .ref (n0 + 0), .int (2 : Int32)] 4 = mkF m 0 #[.val (.long rr), .second, .val (.ref (n0 + 0)), .val (.int (2 : Int32))] [] := by first | (simp [entryFrame, mkF, argsToLocals, Value.category]; done) | rfl
def sp_st3_2 (rr : Int64) (b0 : Int32) (b1 : Int32) (b2 : Int32) : Int64 := ((rr <<< (Int32.toInt64 (8 : Int32) &&& 63)) ||| ((Int32.toInt64 b2) &&& (255 : Int64)))
set_option maxRecDepth 65536 in
set_option maxHeartbeats 40000000 in
theorem rm_st3_2 (l : Launch) (Z : State) (a0 : Array Value) (hw : ∀ d ∈ tables_1, d.before a0 Z = true) (ws : List Jvm.Cond) (n0 : Nat) (rr : Int64) (b0 : Int32) (b1 : Int32) (b2 : Int32) (k0 : ClassId) (hk0 : IsA Z k0 .byte) (h0 : Heap) (P0 : HP n0 h0 [AC k0 [.int b0, .int b1, .int b2]]) :
    MetFree l (⟨"com/example/protomata/protomata/BytesUintPinLaw", "step", "(J[BI)J"⟩ : MethodName) (head1 (Jvm.Cond.code (⟨"com/example/protomata/protomata/BytesUintPinLaw", "step", "(J[BI)J"⟩ : MethodName) method_2_code 4 (some .long) :: ws) ({ frames := 0, cells := 0, slots := 0, locals := 0 } : Room)) (fun a U => a = #[.long rr, .ref (n0 + 0), .int (2 : Int32)] ∧ Z.Warmed39 U.vm ∧ U.heap = h0) (fun _ _ _ _ _ => True) (fun _ U o U' => ∃ v L, o = .returned v ∧ PureQ (.long (sp_st3_2 rr b0 b1 b2)) h0 v U'.heap L ∧ FrameEnd U o U' L ({ frames := 0, cells := 0, slots := 0, locals := 0 } : Room).cells ({ frames := 0, cells := 0, slots := 0, locals := 0 } : Room).slots) := by
  refine own_body pn2 ?_
  intro p e s m below meth c T0 hx hby hml hret hlk hown hnm hZ X0 e0
  subst e0
  refine own_cast (ef_st3_2 m n0 rr b0 b1 b2) ?_
  refine w_iloadN X0 hx (hb hby d2_0) rfl (pc' := 1) rfl ?_
  refine w_aloadN X0 hx (hb hby d2_1) rfl rfl (pc' := 2) rfl ?_
  refine w_arrlen (i := 0) X0 hx hZ P0 rfl hk0 (hb hby d2_2) (z := (3 : Int32)) rfl (pc' := 3) rfl ?_
  refine w_icmp_ge X0 hx (hb hby d2_3) (by decide) (pcY := 20) (by decide) (pc' := 6) rfl (fun h0 => absurd h0 (by decide)) (fun h0 => ?_)
  refine w_lloadN X0 hx (hb hby d2_6) rfl (pc' := 7) rfl ?_
  refine w_bipush (v := (8 : Int32)) X0 hx (hb hby d2_7) rfl (pc' := 9) rfl ?_
  refine w_lshl X0 hx (hb hby d2_9) (pc' := 10) rfl ?_
  refine w_aloadN X0 hx (hb hby d2_10) rfl rfl (pc' := 11) rfl ?_
  refine w_iloadN X0 hx (hb hby d2_11) rfl (pc' := 12) rfl ?_
  refine w_baload (i := 0) (jn := 2) (v := .int b2) X0 hx hZ P0 rfl hk0 (hb hby d2_12) (by decide) rfl (pc' := 13) rfl ?_
  refine w_i2l X0 hx (hb hby d2_13) (pc' := 14) rfl ?_
  refine w_ldc2 X0 hx (hb hby d2_14) hown (mvT hZ (wd10 hw)) (pc' := 17) rfl ?_
  refine w_land X0 hx (hb hby d2_17) (pc' := 18) rfl ?_
  refine w_lor X0 hx (hb hby d2_18) (pc' := 19) rfl ?_
  exact w_ret_l X0 hx hret hlk (hb hby d2_19) (by decide) (by decide) ⟨congrArg (fun q => some (Value.long q)) (show ((rr <<< (Int32.toInt64 (8 : Int32) &&& 63)) ||| ((Int32.toInt64 b2) &&& (255 : Int64))) = sp_st3_2 rr b0 b1 b2 from by rw [sp_st3_2]), rfl, rfl⟩
theorem ef_st3_3 (m : MethodId) (n0 : Nat) (rr : Int64) (b0 : Int32) (b1 : Int32) (b2 : Int32) : entryFrame m #[.long rr, .ref (n0 + 0), .int (3 : Int32)] 4 = mkF m 0 #[.val (.long rr), .second, .val (.ref (n0 + 0)), .val (.int (3 : Int32))] [] := by first | (simp [entryFrame, mkF, argsToLocals, Value.category]; done) | rfl
def sp_st3_3 (rr : Int64) (b0 : Int32) (b1 : Int32) (b2 : Int32) : Int64 := rr
set_option maxRecDepth 65536 in
set_option maxHeartbeats 40000000 in
theorem rm_st3_3 (l : Launch) (Z : State) (a0 : Array Value) (hw : ∀ d ∈ tables_1, d.before a0 Z = true) (ws : List Jvm.Cond) (n0 : Nat) (rr : Int64) (b0 : Int32) (b1 : Int32) (b2 : Int32) (k0 : ClassId) (hk0 : IsA Z k0 .byte) (h0 : Heap) (P0 : HP n0 h0 [AC k0 [.int b0, .int b1, .int b2]]) :
    MetFree l (⟨"com/example/protomata/protomata/BytesUintPinLaw", "step", "(J[BI)J"⟩ : MethodName) (head1 (Jvm.Cond.code (⟨"com/example/protomata/protomata/BytesUintPinLaw", "step", "(J[BI)J"⟩ : MethodName) method_2_code 4 (some .long) :: ws) ({ frames := 0, cells := 0, slots := 0, locals := 0 } : Room)) (fun a U => a = #[.long rr, .ref (n0 + 0), .int (3 : Int32)] ∧ Z.Warmed39 U.vm ∧ U.heap = h0) (fun _ _ _ _ _ => True) (fun _ U o U' => ∃ v L, o = .returned v ∧ PureQ (.long (sp_st3_3 rr b0 b1 b2)) h0 v U'.heap L ∧ FrameEnd U o U' L ({ frames := 0, cells := 0, slots := 0, locals := 0 } : Room).cells ({ frames := 0, cells := 0, slots := 0, locals := 0 } : Room).slots) := by
  refine own_body pn2 ?_
  intro p e s m below meth c T0 hx hby hml hret hlk hown hnm hZ X0 e0
  subst e0
  refine own_cast (ef_st3_3 m n0 rr b0 b1 b2) ?_
  refine w_iloadN X0 hx (hb hby d2_0) rfl (pc' := 1) rfl ?_
  refine w_aloadN X0 hx (hb hby d2_1) rfl rfl (pc' := 2) rfl ?_
  refine w_arrlen (i := 0) X0 hx hZ P0 rfl hk0 (hb hby d2_2) (z := (3 : Int32)) rfl (pc' := 3) rfl ?_
  refine w_icmp_ge X0 hx (hb hby d2_3) (by decide) (pcY := 20) (by decide) (pc' := 6) rfl (fun h0 => ?_) (fun h0 => absurd h0 (by decide))
  refine w_lloadN X0 hx (hb hby d2_20) rfl (pc' := 21) rfl ?_
  exact w_ret_l X0 hx hret hlk (hb hby d2_21) (by decide) (by decide) ⟨congrArg (fun q => some (Value.long q)) (show rr = sp_st3_3 rr b0 b1 b2 from by rw [sp_st3_3]), rfl, rfl⟩
theorem ef_st3_4 (m : MethodId) (n0 : Nat) (rr : Int64) (b0 : Int32) (b1 : Int32) (b2 : Int32) : entryFrame m #[.long rr, .ref (n0 + 0), .int (4 : Int32)] 4 = mkF m 0 #[.val (.long rr), .second, .val (.ref (n0 + 0)), .val (.int (4 : Int32))] [] := by first | (simp [entryFrame, mkF, argsToLocals, Value.category]; done) | rfl
def sp_st3_4 (rr : Int64) (b0 : Int32) (b1 : Int32) (b2 : Int32) : Int64 := rr
set_option maxRecDepth 65536 in
set_option maxHeartbeats 40000000 in
theorem rm_st3_4 (l : Launch) (Z : State) (a0 : Array Value) (hw : ∀ d ∈ tables_1, d.before a0 Z = true) (ws : List Jvm.Cond) (n0 : Nat) (rr : Int64) (b0 : Int32) (b1 : Int32) (b2 : Int32) (k0 : ClassId) (hk0 : IsA Z k0 .byte) (h0 : Heap) (P0 : HP n0 h0 [AC k0 [.int b0, .int b1, .int b2]]) :
    MetFree l (⟨"com/example/protomata/protomata/BytesUintPinLaw", "step", "(J[BI)J"⟩ : MethodName) (head1 (Jvm.Cond.code (⟨"com/example/protomata/protomata/BytesUintPinLaw", "step", "(J[BI)J"⟩ : MethodName) method_2_code 4 (some .long) :: ws) ({ frames := 0, cells := 0, slots := 0, locals := 0 } : Room)) (fun a U => a = #[.long rr, .ref (n0 + 0), .int (4 : Int32)] ∧ Z.Warmed39 U.vm ∧ U.heap = h0) (fun _ _ _ _ _ => True) (fun _ U o U' => ∃ v L, o = .returned v ∧ PureQ (.long (sp_st3_4 rr b0 b1 b2)) h0 v U'.heap L ∧ FrameEnd U o U' L ({ frames := 0, cells := 0, slots := 0, locals := 0 } : Room).cells ({ frames := 0, cells := 0, slots := 0, locals := 0 } : Room).slots) := by
  refine own_body pn2 ?_
  intro p e s m below meth c T0 hx hby hml hret hlk hown hnm hZ X0 e0
  subst e0
  refine own_cast (ef_st3_4 m n0 rr b0 b1 b2) ?_
  refine w_iloadN X0 hx (hb hby d2_0) rfl (pc' := 1) rfl ?_
  refine w_aloadN X0 hx (hb hby d2_1) rfl rfl (pc' := 2) rfl ?_
  refine w_arrlen (i := 0) X0 hx hZ P0 rfl hk0 (hb hby d2_2) (z := (3 : Int32)) rfl (pc' := 3) rfl ?_
  refine w_icmp_ge X0 hx (hb hby d2_3) (by decide) (pcY := 20) (by decide) (pc' := 6) rfl (fun h0 => ?_) (fun h0 => absurd h0 (by decide))
  refine w_lloadN X0 hx (hb hby d2_20) rfl (pc' := 21) rfl ?_
  exact w_ret_l X0 hx hret hlk (hb hby d2_21) (by decide) (by decide) ⟨congrArg (fun q => some (Value.long q)) (show rr = sp_st3_4 rr b0 b1 b2 from by rw [sp_st3_4]), rfl, rfl⟩
theorem ef_st3_5 (m : MethodId) (n0 : Nat) (rr : Int64) (b0 : Int32) (b1 : Int32) (b2 : Int32) : entryFrame m #[.long rr, .ref (n0 + 0), .int (5 : Int32)] 4 = mkF m 0 #[.val (.long rr), .second, .val (.ref (n0 + 0)), .val (.int (5 : Int32))] [] := by first | (simp [entryFrame, mkF, argsToLocals, Value.category]; done) | rfl
def sp_st3_5 (rr : Int64) (b0 : Int32) (b1 : Int32) (b2 : Int32) : Int64 := rr
set_option maxRecDepth 65536 in
set_option maxHeartbeats 40000000 in
theorem rm_st3_5 (l : Launch) (Z : State) (a0 : Array Value) (hw : ∀ d ∈ tables_1, d.before a0 Z = true) (ws : List Jvm.Cond) (n0 : Nat) (rr : Int64) (b0 : Int32) (b1 : Int32) (b2 : Int32) (k0 : ClassId) (hk0 : IsA Z k0 .byte) (h0 : Heap) (P0 : HP n0 h0 [AC k0 [.int b0, .int b1, .int b2]]) :
    MetFree l (⟨"com/example/protomata/protomata/BytesUintPinLaw", "step", "(J[BI)J"⟩ : MethodName) (head1 (Jvm.Cond.code (⟨"com/example/protomata/protomata/BytesUintPinLaw", "step", "(J[BI)J"⟩ : MethodName) method_2_code 4 (some .long) :: ws) ({ frames := 0, cells := 0, slots := 0, locals := 0 } : Room)) (fun a U => a = #[.long rr, .ref (n0 + 0), .int (5 : Int32)] ∧ Z.Warmed39 U.vm ∧ U.heap = h0) (fun _ _ _ _ _ => True) (fun _ U o U' => ∃ v L, o = .returned v ∧ PureQ (.long (sp_st3_5 rr b0 b1 b2)) h0 v U'.heap L ∧ FrameEnd U o U' L ({ frames := 0, cells := 0, slots := 0, locals := 0 } : Room).cells ({ frames := 0, cells := 0, slots := 0, locals := 0 } : Room).slots) := by
  refine own_body pn2 ?_
  intro p e s m below meth c T0 hx hby hml hret hlk hown hnm hZ X0 e0
  subst e0
  refine own_cast (ef_st3_5 m n0 rr b0 b1 b2) ?_
  refine w_iloadN X0 hx (hb hby d2_0) rfl (pc' := 1) rfl ?_
  refine w_aloadN X0 hx (hb hby d2_1) rfl rfl (pc' := 2) rfl ?_
  refine w_arrlen (i := 0) X0 hx hZ P0 rfl hk0 (hb hby d2_2) (z := (3 : Int32)) rfl (pc' := 3) rfl ?_
  refine w_icmp_ge X0 hx (hb hby d2_3) (by decide) (pcY := 20) (by decide) (pc' := 6) rfl (fun h0 => ?_) (fun h0 => absurd h0 (by decide))
  refine w_lloadN X0 hx (hb hby d2_20) rfl (pc' := 21) rfl ?_
  exact w_ret_l X0 hx hret hlk (hb hby d2_21) (by decide) (by decide) ⟨congrArg (fun q => some (Value.long q)) (show rr = sp_st3_5 rr b0 b1 b2 from by rw [sp_st3_5]), rfl, rfl⟩
theorem ef_st3_6 (m : MethodId) (n0 : Nat) (rr : Int64) (b0 : Int32) (b1 : Int32) (b2 : Int32) : entryFrame m #[.long rr, .ref (n0 + 0), .int (6 : Int32)] 4 = mkF m 0 #[.val (.long rr), .second, .val (.ref (n0 + 0)), .val (.int (6 : Int32))] [] := by first | (simp [entryFrame, mkF, argsToLocals, Value.category]; done) | rfl
def sp_st3_6 (rr : Int64) (b0 : Int32) (b1 : Int32) (b2 : Int32) : Int64 := rr
set_option maxRecDepth 65536 in
set_option maxHeartbeats 40000000 in
theorem rm_st3_6 (l : Launch) (Z : State) (a0 : Array Value) (hw : ∀ d ∈ tables_1, d.before a0 Z = true) (ws : List Jvm.Cond) (n0 : Nat) (rr : Int64) (b0 : Int32) (b1 : Int32) (b2 : Int32) (k0 : ClassId) (hk0 : IsA Z k0 .byte) (h0 : Heap) (P0 : HP n0 h0 [AC k0 [.int b0, .int b1, .int b2]]) :
    MetFree l (⟨"com/example/protomata/protomata/BytesUintPinLaw", "step", "(J[BI)J"⟩ : MethodName) (head1 (Jvm.Cond.code (⟨"com/example/protomata/protomata/BytesUintPinLaw", "step", "(J[BI)J"⟩ : MethodName) method_2_code 4 (some .long) :: ws) ({ frames := 0, cells := 0, slots := 0, locals := 0 } : Room)) (fun a U => a = #[.long rr, .ref (n0 + 0), .int (6 : Int32)] ∧ Z.Warmed39 U.vm ∧ U.heap = h0) (fun _ _ _ _ _ => True) (fun _ U o U' => ∃ v L, o = .returned v ∧ PureQ (.long (sp_st3_6 rr b0 b1 b2)) h0 v U'.heap L ∧ FrameEnd U o U' L ({ frames := 0, cells := 0, slots := 0, locals := 0 } : Room).cells ({ frames := 0, cells := 0, slots := 0, locals := 0 } : Room).slots) := by
  refine own_body pn2 ?_
  intro p e s m below meth c T0 hx hby hml hret hlk hown hnm hZ X0 e0
  subst e0
  refine own_cast (ef_st3_6 m n0 rr b0 b1 b2) ?_
  refine w_iloadN X0 hx (hb hby d2_0) rfl (pc' := 1) rfl ?_
  refine w_aloadN X0 hx (hb hby d2_1) rfl rfl (pc' := 2) rfl ?_
  refine w_arrlen (i := 0) X0 hx hZ P0 rfl hk0 (hb hby d2_2) (z := (3 : Int32)) rfl (pc' := 3) rfl ?_
  refine w_icmp_ge X0 hx (hb hby d2_3) (by decide) (pcY := 20) (by decide) (pc' := 6) rfl (fun h0 => ?_) (fun h0 => absurd h0 (by decide))
  refine w_lloadN X0 hx (hb hby d2_20) rfl (pc' := 21) rfl ?_
  exact w_ret_l X0 hx hret hlk (hb hby d2_21) (by decide) (by decide) ⟨congrArg (fun q => some (Value.long q)) (show rr = sp_st3_6 rr b0 b1 b2 from by rw [sp_st3_6]), rfl, rfl⟩
theorem ef_st3_7 (m : MethodId) (n0 : Nat) (rr : Int64) (b0 : Int32) (b1 : Int32) (b2 : Int32) : entryFrame m #[.long rr, .ref (n0 + 0), .int (7 : Int32)] 4 = mkF m 0 #[.val (.long rr), .second, .val (.ref (n0 + 0)), .val (.int (7 : Int32))] [] := by first | (simp [entryFrame, mkF, argsToLocals, Value.category]; done) | rfl
def sp_st3_7 (rr : Int64) (b0 : Int32) (b1 : Int32) (b2 : Int32) : Int64 := rr
set_option maxRecDepth 65536 in
set_option maxHeartbeats 40000000 in
theorem rm_st3_7 (l : Launch) (Z : State) (a0 : Array Value) (hw : ∀ d ∈ tables_1, d.before a0 Z = true) (ws : List Jvm.Cond) (n0 : Nat) (rr : Int64) (b0 : Int32) (b1 : Int32) (b2 : Int32) (k0 : ClassId) (hk0 : IsA Z k0 .byte) (h0 : Heap) (P0 : HP n0 h0 [AC k0 [.int b0, .int b1, .int b2]]) :
    MetFree l (⟨"com/example/protomata/protomata/BytesUintPinLaw", "step", "(J[BI)J"⟩ : MethodName) (head1 (Jvm.Cond.code (⟨"com/example/protomata/protomata/BytesUintPinLaw", "step", "(J[BI)J"⟩ : MethodName) method_2_code 4 (some .long) :: ws) ({ frames := 0, cells := 0, slots := 0, locals := 0 } : Room)) (fun a U => a = #[.long rr, .ref (n0 + 0), .int (7 : Int32)] ∧ Z.Warmed39 U.vm ∧ U.heap = h0) (fun _ _ _ _ _ => True) (fun _ U o U' => ∃ v L, o = .returned v ∧ PureQ (.long (sp_st3_7 rr b0 b1 b2)) h0 v U'.heap L ∧ FrameEnd U o U' L ({ frames := 0, cells := 0, slots := 0, locals := 0 } : Room).cells ({ frames := 0, cells := 0, slots := 0, locals := 0 } : Room).slots) := by
  refine own_body pn2 ?_
  intro p e s m below meth c T0 hx hby hml hret hlk hown hnm hZ X0 e0
  subst e0
  refine own_cast (ef_st3_7 m n0 rr b0 b1 b2) ?_
  refine w_iloadN X0 hx (hb hby d2_0) rfl (pc' := 1) rfl ?_
  refine w_aloadN X0 hx (hb hby d2_1) rfl rfl (pc' := 2) rfl ?_
  refine w_arrlen (i := 0) X0 hx hZ P0 rfl hk0 (hb hby d2_2) (z := (3 : Int32)) rfl (pc' := 3) rfl ?_
  refine w_icmp_ge X0 hx (hb hby d2_3) (by decide) (pcY := 20) (by decide) (pc' := 6) rfl (fun h0 => ?_) (fun h0 => absurd h0 (by decide))
  refine w_lloadN X0 hx (hb hby d2_20) rfl (pc' := 21) rfl ?_
  exact w_ret_l X0 hx hret hlk (hb hby d2_21) (by decide) (by decide) ⟨congrArg (fun q => some (Value.long q)) (show rr = sp_st3_7 rr b0 b1 b2 from by rw [sp_st3_7]), rfl, rfl⟩
theorem ef_st4_0 (m : MethodId) (n0 : Nat) (rr : Int64) (b0 : Int32) (b1 : Int32) (b2 : Int32) (b3 : Int32) : entryFrame m #[.long rr, .ref (n0 + 0), .int (0 : Int32)] 4 = mkF m 0 #[.val (.long rr), .second, .val (.ref (n0 + 0)), .val (.int (0 : Int32))] [] := by first | (simp [entryFrame, mkF, argsToLocals, Value.category]; done) | rfl
def sp_st4_0 (rr : Int64) (b0 : Int32) (b1 : Int32) (b2 : Int32) (b3 : Int32) : Int64 := ((rr <<< (Int32.toInt64 (8 : Int32) &&& 63)) ||| ((Int32.toInt64 b0) &&& (255 : Int64)))
set_option maxRecDepth 65536 in
set_option maxHeartbeats 40000000 in
theorem rm_st4_0 (l : Launch) (Z : State) (a0 : Array Value) (hw : ∀ d ∈ tables_1, d.before a0 Z = true) (ws : List Jvm.Cond) (n0 : Nat) (rr : Int64) (b0 : Int32) (b1 : Int32) (b2 : Int32) (b3 : Int32) (k0 : ClassId) (hk0 : IsA Z k0 .byte) (h0 : Heap) (P0 : HP n0 h0 [AC k0 [.int b0, .int b1, .int b2, .int b3]]) :
    MetFree l (⟨"com/example/protomata/protomata/BytesUintPinLaw", "step", "(J[BI)J"⟩ : MethodName) (head1 (Jvm.Cond.code (⟨"com/example/protomata/protomata/BytesUintPinLaw", "step", "(J[BI)J"⟩ : MethodName) method_2_code 4 (some .long) :: ws) ({ frames := 0, cells := 0, slots := 0, locals := 0 } : Room)) (fun a U => a = #[.long rr, .ref (n0 + 0), .int (0 : Int32)] ∧ Z.Warmed39 U.vm ∧ U.heap = h0) (fun _ _ _ _ _ => True) (fun _ U o U' => ∃ v L, o = .returned v ∧ PureQ (.long (sp_st4_0 rr b0 b1 b2 b3)) h0 v U'.heap L ∧ FrameEnd U o U' L ({ frames := 0, cells := 0, slots := 0, locals := 0 } : Room).cells ({ frames := 0, cells := 0, slots := 0, locals := 0 } : Room).slots) := by
  refine own_body pn2 ?_
  intro p e s m below meth c T0 hx hby hml hret hlk hown hnm hZ X0 e0
  subst e0
  refine own_cast (ef_st4_0 m n0 rr b0 b1 b2 b3) ?_
  refine w_iloadN X0 hx (hb hby d2_0) rfl (pc' := 1) rfl ?_
  refine w_aloadN X0 hx (hb hby d2_1) rfl rfl (pc' := 2) rfl ?_
  refine w_arrlen (i := 0) X0 hx hZ P0 rfl hk0 (hb hby d2_2) (z := (4 : Int32)) rfl (pc' := 3) rfl ?_
  refine w_icmp_ge X0 hx (hb hby d2_3) (by decide) (pcY := 20) (by decide) (pc' := 6) rfl (fun h0 => absurd h0 (by decide)) (fun h0 => ?_)
  refine w_lloadN X0 hx (hb hby d2_6) rfl (pc' := 7) rfl ?_
  refine w_bipush (v := (8 : Int32)) X0 hx (hb hby d2_7) rfl (pc' := 9) rfl ?_
  refine w_lshl X0 hx (hb hby d2_9) (pc' := 10) rfl ?_
  refine w_aloadN X0 hx (hb hby d2_10) rfl rfl (pc' := 11) rfl ?_
  refine w_iloadN X0 hx (hb hby d2_11) rfl (pc' := 12) rfl ?_
  refine w_baload (i := 0) (jn := 0) (v := .int b0) X0 hx hZ P0 rfl hk0 (hb hby d2_12) (by decide) rfl (pc' := 13) rfl ?_
  refine w_i2l X0 hx (hb hby d2_13) (pc' := 14) rfl ?_
  refine w_ldc2 X0 hx (hb hby d2_14) hown (mvT hZ (wd10 hw)) (pc' := 17) rfl ?_
  refine w_land X0 hx (hb hby d2_17) (pc' := 18) rfl ?_
  refine w_lor X0 hx (hb hby d2_18) (pc' := 19) rfl ?_
  exact w_ret_l X0 hx hret hlk (hb hby d2_19) (by decide) (by decide) ⟨congrArg (fun q => some (Value.long q)) (show ((rr <<< (Int32.toInt64 (8 : Int32) &&& 63)) ||| ((Int32.toInt64 b0) &&& (255 : Int64))) = sp_st4_0 rr b0 b1 b2 b3 from by rw [sp_st4_0]), rfl, rfl⟩
theorem ef_st4_1 (m : MethodId) (n0 : Nat) (rr : Int64) (b0 : Int32) (b1 : Int32) (b2 : Int32) (b3 : Int32) : entryFrame m #[.long rr, .ref (n0 + 0), .int (1 : Int32)] 4 = mkF m 0 #[.val (.long rr), .second, .val (.ref (n0 + 0)), .val (.int (1 : Int32))] [] := by first | (simp [entryFrame, mkF, argsToLocals, Value.category]; done) | rfl
def sp_st4_1 (rr : Int64) (b0 : Int32) (b1 : Int32) (b2 : Int32) (b3 : Int32) : Int64 := ((rr <<< (Int32.toInt64 (8 : Int32) &&& 63)) ||| ((Int32.toInt64 b1) &&& (255 : Int64)))
set_option maxRecDepth 65536 in
set_option maxHeartbeats 40000000 in
theorem rm_st4_1 (l : Launch) (Z : State) (a0 : Array Value) (hw : ∀ d ∈ tables_1, d.before a0 Z = true) (ws : List Jvm.Cond) (n0 : Nat) (rr : Int64) (b0 : Int32) (b1 : Int32) (b2 : Int32) (b3 : Int32) (k0 : ClassId) (hk0 : IsA Z k0 .byte) (h0 : Heap) (P0 : HP n0 h0 [AC k0 [.int b0, .int b1, .int b2, .int b3]]) :
    MetFree l (⟨"com/example/protomata/protomata/BytesUintPinLaw", "step", "(J[BI)J"⟩ : MethodName) (head1 (Jvm.Cond.code (⟨"com/example/protomata/protomata/BytesUintPinLaw", "step", "(J[BI)J"⟩ : MethodName) method_2_code 4 (some .long) :: ws) ({ frames := 0, cells := 0, slots := 0, locals := 0 } : Room)) (fun a U => a = #[.long rr, .ref (n0 + 0), .int (1 : Int32)] ∧ Z.Warmed39 U.vm ∧ U.heap = h0) (fun _ _ _ _ _ => True) (fun _ U o U' => ∃ v L, o = .returned v ∧ PureQ (.long (sp_st4_1 rr b0 b1 b2 b3)) h0 v U'.heap L ∧ FrameEnd U o U' L ({ frames := 0, cells := 0, slots := 0, locals := 0 } : Room).cells ({ frames := 0, cells := 0, slots := 0, locals := 0 } : Room).slots) := by
  refine own_body pn2 ?_
  intro p e s m below meth c T0 hx hby hml hret hlk hown hnm hZ X0 e0
  subst e0
  refine own_cast (ef_st4_1 m n0 rr b0 b1 b2 b3) ?_
  refine w_iloadN X0 hx (hb hby d2_0) rfl (pc' := 1) rfl ?_
  refine w_aloadN X0 hx (hb hby d2_1) rfl rfl (pc' := 2) rfl ?_
  refine w_arrlen (i := 0) X0 hx hZ P0 rfl hk0 (hb hby d2_2) (z := (4 : Int32)) rfl (pc' := 3) rfl ?_
  refine w_icmp_ge X0 hx (hb hby d2_3) (by decide) (pcY := 20) (by decide) (pc' := 6) rfl (fun h0 => absurd h0 (by decide)) (fun h0 => ?_)
  refine w_lloadN X0 hx (hb hby d2_6) rfl (pc' := 7) rfl ?_
  refine w_bipush (v := (8 : Int32)) X0 hx (hb hby d2_7) rfl (pc' := 9) rfl ?_
  refine w_lshl X0 hx (hb hby d2_9) (pc' := 10) rfl ?_
  refine w_aloadN X0 hx (hb hby d2_10) rfl rfl (pc' := 11) rfl ?_
  refine w_iloadN X0 hx (hb hby d2_11) rfl (pc' := 12) rfl ?_
  refine w_baload (i := 0) (jn := 1) (v := .int b1) X0 hx hZ P0 rfl hk0 (hb hby d2_12) (by decide) rfl (pc' := 13) rfl ?_
  refine w_i2l X0 hx (hb hby d2_13) (pc' := 14) rfl ?_
  refine w_ldc2 X0 hx (hb hby d2_14) hown (mvT hZ (wd10 hw)) (pc' := 17) rfl ?_
  refine w_land X0 hx (hb hby d2_17) (pc' := 18) rfl ?_
  refine w_lor X0 hx (hb hby d2_18) (pc' := 19) rfl ?_
  exact w_ret_l X0 hx hret hlk (hb hby d2_19) (by decide) (by decide) ⟨congrArg (fun q => some (Value.long q)) (show ((rr <<< (Int32.toInt64 (8 : Int32) &&& 63)) ||| ((Int32.toInt64 b1) &&& (255 : Int64))) = sp_st4_1 rr b0 b1 b2 b3 from by rw [sp_st4_1]), rfl, rfl⟩
theorem ef_st4_2 (m : MethodId) (n0 : Nat) (rr : Int64) (b0 : Int32) (b1 : Int32) (b2 : Int32) (b3 : Int32) : entryFrame m #[.long rr, .ref (n0 + 0), .int (2 : Int32)] 4 = mkF m 0 #[.val (.long rr), .second, .val (.ref (n0 + 0)), .val (.int (2 : Int32))] [] := by first | (simp [entryFrame, mkF, argsToLocals, Value.category]; done) | rfl
def sp_st4_2 (rr : Int64) (b0 : Int32) (b1 : Int32) (b2 : Int32) (b3 : Int32) : Int64 := ((rr <<< (Int32.toInt64 (8 : Int32) &&& 63)) ||| ((Int32.toInt64 b2) &&& (255 : Int64)))
set_option maxRecDepth 65536 in
set_option maxHeartbeats 40000000 in
theorem rm_st4_2 (l : Launch) (Z : State) (a0 : Array Value) (hw : ∀ d ∈ tables_1, d.before a0 Z = true) (ws : List Jvm.Cond) (n0 : Nat) (rr : Int64) (b0 : Int32) (b1 : Int32) (b2 : Int32) (b3 : Int32) (k0 : ClassId) (hk0 : IsA Z k0 .byte) (h0 : Heap) (P0 : HP n0 h0 [AC k0 [.int b0, .int b1, .int b2, .int b3]]) :
    MetFree l (⟨"com/example/protomata/protomata/BytesUintPinLaw", "step", "(J[BI)J"⟩ : MethodName) (head1 (Jvm.Cond.code (⟨"com/example/protomata/protomata/BytesUintPinLaw", "step", "(J[BI)J"⟩ : MethodName) method_2_code 4 (some .long) :: ws) ({ frames := 0, cells := 0, slots := 0, locals := 0 } : Room)) (fun a U => a = #[.long rr, .ref (n0 + 0), .int (2 : Int32)] ∧ Z.Warmed39 U.vm ∧ U.heap = h0) (fun _ _ _ _ _ => True) (fun _ U o U' => ∃ v L, o = .returned v ∧ PureQ (.long (sp_st4_2 rr b0 b1 b2 b3)) h0 v U'.heap L ∧ FrameEnd U o U' L ({ frames := 0, cells := 0, slots := 0, locals := 0 } : Room).cells ({ frames := 0, cells := 0, slots := 0, locals := 0 } : Room).slots) := by
  refine own_body pn2 ?_
  intro p e s m below meth c T0 hx hby hml hret hlk hown hnm hZ X0 e0
  subst e0
  refine own_cast (ef_st4_2 m n0 rr b0 b1 b2 b3) ?_
  refine w_iloadN X0 hx (hb hby d2_0) rfl (pc' := 1) rfl ?_
  refine w_aloadN X0 hx (hb hby d2_1) rfl rfl (pc' := 2) rfl ?_
  refine w_arrlen (i := 0) X0 hx hZ P0 rfl hk0 (hb hby d2_2) (z := (4 : Int32)) rfl (pc' := 3) rfl ?_
  refine w_icmp_ge X0 hx (hb hby d2_3) (by decide) (pcY := 20) (by decide) (pc' := 6) rfl (fun h0 => absurd h0 (by decide)) (fun h0 => ?_)
  refine w_lloadN X0 hx (hb hby d2_6) rfl (pc' := 7) rfl ?_
  refine w_bipush (v := (8 : Int32)) X0 hx (hb hby d2_7) rfl (pc' := 9) rfl ?_
  refine w_lshl X0 hx (hb hby d2_9) (pc' := 10) rfl ?_
  refine w_aloadN X0 hx (hb hby d2_10) rfl rfl (pc' := 11) rfl ?_
  refine w_iloadN X0 hx (hb hby d2_11) rfl (pc' := 12) rfl ?_
  refine w_baload (i := 0) (jn := 2) (v := .int b2) X0 hx hZ P0 rfl hk0 (hb hby d2_12) (by decide) rfl (pc' := 13) rfl ?_
  refine w_i2l X0 hx (hb hby d2_13) (pc' := 14) rfl ?_
  refine w_ldc2 X0 hx (hb hby d2_14) hown (mvT hZ (wd10 hw)) (pc' := 17) rfl ?_
  refine w_land X0 hx (hb hby d2_17) (pc' := 18) rfl ?_
  refine w_lor X0 hx (hb hby d2_18) (pc' := 19) rfl ?_
  exact w_ret_l X0 hx hret hlk (hb hby d2_19) (by decide) (by decide) ⟨congrArg (fun q => some (Value.long q)) (show ((rr <<< (Int32.toInt64 (8 : Int32) &&& 63)) ||| ((Int32.toInt64 b2) &&& (255 : Int64))) = sp_st4_2 rr b0 b1 b2 b3 from by rw [sp_st4_2]), rfl, rfl⟩
theorem ef_st4_3 (m : MethodId) (n0 : Nat) (rr : Int64) (b0 : Int32) (b1 : Int32) (b2 : Int32) (b3 : Int32) : entryFrame m #[.long rr, .ref (n0 + 0), .int (3 : Int32)] 4 = mkF m 0 #[.val (.long rr), .second, .val (.ref (n0 + 0)), .val (.int (3 : Int32))] [] := by first | (simp [entryFrame, mkF, argsToLocals, Value.category]; done) | rfl
def sp_st4_3 (rr : Int64) (b0 : Int32) (b1 : Int32) (b2 : Int32) (b3 : Int32) : Int64 := ((rr <<< (Int32.toInt64 (8 : Int32) &&& 63)) ||| ((Int32.toInt64 b3) &&& (255 : Int64)))
set_option maxRecDepth 65536 in
set_option maxHeartbeats 40000000 in
theorem rm_st4_3 (l : Launch) (Z : State) (a0 : Array Value) (hw : ∀ d ∈ tables_1, d.before a0 Z = true) (ws : List Jvm.Cond) (n0 : Nat) (rr : Int64) (b0 : Int32) (b1 : Int32) (b2 : Int32) (b3 : Int32) (k0 : ClassId) (hk0 : IsA Z k0 .byte) (h0 : Heap) (P0 : HP n0 h0 [AC k0 [.int b0, .int b1, .int b2, .int b3]]) :
    MetFree l (⟨"com/example/protomata/protomata/BytesUintPinLaw", "step", "(J[BI)J"⟩ : MethodName) (head1 (Jvm.Cond.code (⟨"com/example/protomata/protomata/BytesUintPinLaw", "step", "(J[BI)J"⟩ : MethodName) method_2_code 4 (some .long) :: ws) ({ frames := 0, cells := 0, slots := 0, locals := 0 } : Room)) (fun a U => a = #[.long rr, .ref (n0 + 0), .int (3 : Int32)] ∧ Z.Warmed39 U.vm ∧ U.heap = h0) (fun _ _ _ _ _ => True) (fun _ U o U' => ∃ v L, o = .returned v ∧ PureQ (.long (sp_st4_3 rr b0 b1 b2 b3)) h0 v U'.heap L ∧ FrameEnd U o U' L ({ frames := 0, cells := 0, slots := 0, locals := 0 } : Room).cells ({ frames := 0, cells := 0, slots := 0, locals := 0 } : Room).slots) := by
  refine own_body pn2 ?_
  intro p e s m below meth c T0 hx hby hml hret hlk hown hnm hZ X0 e0
  subst e0
  refine own_cast (ef_st4_3 m n0 rr b0 b1 b2 b3) ?_
  refine w_iloadN X0 hx (hb hby d2_0) rfl (pc' := 1) rfl ?_
  refine w_aloadN X0 hx (hb hby d2_1) rfl rfl (pc' := 2) rfl ?_
  refine w_arrlen (i := 0) X0 hx hZ P0 rfl hk0 (hb hby d2_2) (z := (4 : Int32)) rfl (pc' := 3) rfl ?_
  refine w_icmp_ge X0 hx (hb hby d2_3) (by decide) (pcY := 20) (by decide) (pc' := 6) rfl (fun h0 => absurd h0 (by decide)) (fun h0 => ?_)
  refine w_lloadN X0 hx (hb hby d2_6) rfl (pc' := 7) rfl ?_
  refine w_bipush (v := (8 : Int32)) X0 hx (hb hby d2_7) rfl (pc' := 9) rfl ?_
  refine w_lshl X0 hx (hb hby d2_9) (pc' := 10) rfl ?_
  refine w_aloadN X0 hx (hb hby d2_10) rfl rfl (pc' := 11) rfl ?_
  refine w_iloadN X0 hx (hb hby d2_11) rfl (pc' := 12) rfl ?_
  refine w_baload (i := 0) (jn := 3) (v := .int b3) X0 hx hZ P0 rfl hk0 (hb hby d2_12) (by decide) rfl (pc' := 13) rfl ?_
  refine w_i2l X0 hx (hb hby d2_13) (pc' := 14) rfl ?_
  refine w_ldc2 X0 hx (hb hby d2_14) hown (mvT hZ (wd10 hw)) (pc' := 17) rfl ?_
  refine w_land X0 hx (hb hby d2_17) (pc' := 18) rfl ?_
  refine w_lor X0 hx (hb hby d2_18) (pc' := 19) rfl ?_
  exact w_ret_l X0 hx hret hlk (hb hby d2_19) (by decide) (by decide) ⟨congrArg (fun q => some (Value.long q)) (show ((rr <<< (Int32.toInt64 (8 : Int32) &&& 63)) ||| ((Int32.toInt64 b3) &&& (255 : Int64))) = sp_st4_3 rr b0 b1 b2 b3 from by rw [sp_st4_3]), rfl, rfl⟩
theorem ef_st4_4 (m : MethodId) (n0 : Nat) (rr : Int64) (b0 : Int32) (b1 : Int32) (b2 : Int32) (b3 : Int32) : entryFrame m #[.long rr, .ref (n0 + 0), .int (4 : Int32)] 4 = mkF m 0 #[.val (.long rr), .second, .val (.ref (n0 + 0)), .val (.int (4 : Int32))] [] := by first | (simp [entryFrame, mkF, argsToLocals, Value.category]; done) | rfl
def sp_st4_4 (rr : Int64) (b0 : Int32) (b1 : Int32) (b2 : Int32) (b3 : Int32) : Int64 := rr
set_option maxRecDepth 65536 in
set_option maxHeartbeats 40000000 in
theorem rm_st4_4 (l : Launch) (Z : State) (a0 : Array Value) (hw : ∀ d ∈ tables_1, d.before a0 Z = true) (ws : List Jvm.Cond) (n0 : Nat) (rr : Int64) (b0 : Int32) (b1 : Int32) (b2 : Int32) (b3 : Int32) (k0 : ClassId) (hk0 : IsA Z k0 .byte) (h0 : Heap) (P0 : HP n0 h0 [AC k0 [.int b0, .int b1, .int b2, .int b3]]) :
    MetFree l (⟨"com/example/protomata/protomata/BytesUintPinLaw", "step", "(J[BI)J"⟩ : MethodName) (head1 (Jvm.Cond.code (⟨"com/example/protomata/protomata/BytesUintPinLaw", "step", "(J[BI)J"⟩ : MethodName) method_2_code 4 (some .long) :: ws) ({ frames := 0, cells := 0, slots := 0, locals := 0 } : Room)) (fun a U => a = #[.long rr, .ref (n0 + 0), .int (4 : Int32)] ∧ Z.Warmed39 U.vm ∧ U.heap = h0) (fun _ _ _ _ _ => True) (fun _ U o U' => ∃ v L, o = .returned v ∧ PureQ (.long (sp_st4_4 rr b0 b1 b2 b3)) h0 v U'.heap L ∧ FrameEnd U o U' L ({ frames := 0, cells := 0, slots := 0, locals := 0 } : Room).cells ({ frames := 0, cells := 0, slots := 0, locals := 0 } : Room).slots) := by
  refine own_body pn2 ?_
  intro p e s m below meth c T0 hx hby hml hret hlk hown hnm hZ X0 e0
  subst e0
  refine own_cast (ef_st4_4 m n0 rr b0 b1 b2 b3) ?_
  refine w_iloadN X0 hx (hb hby d2_0) rfl (pc' := 1) rfl ?_
  refine w_aloadN X0 hx (hb hby d2_1) rfl rfl (pc' := 2) rfl ?_
  refine w_arrlen (i := 0) X0 hx hZ P0 rfl hk0 (hb hby d2_2) (z := (4 : Int32)) rfl (pc' := 3) rfl ?_
  refine w_icmp_ge X0 hx (hb hby d2_3) (by decide) (pcY := 20) (by decide) (pc' := 6) rfl (fun h0 => ?_) (fun h0 => absurd h0 (by decide))
  refine w_lloadN X0 hx (hb hby d2_20) rfl (pc' := 21) rfl ?_
  exact w_ret_l X0 hx hret hlk (hb hby d2_21) (by decide) (by decide) ⟨congrArg (fun q => some (Value.long q)) (show rr = sp_st4_4 rr b0 b1 b2 b3 from by rw [sp_st4_4]), rfl, rfl⟩
theorem ef_st4_5 (m : MethodId) (n0 : Nat) (rr : Int64) (b0 : Int32) (b1 : Int32) (b2 : Int32) (b3 : Int32) : entryFrame m #[.long rr, .ref (n0 + 0), .int (5 : Int32)] 4 = mkF m 0 #[.val (.long rr), .second, .val (.ref (n0 + 0)), .val (.int (5 : Int32))] [] := by first | (simp [entryFrame, mkF, argsToLocals, Value.category]; done) | rfl
def sp_st4_5 (rr : Int64) (b0 : Int32) (b1 : Int32) (b2 : Int32) (b3 : Int32) : Int64 := rr
set_option maxRecDepth 65536 in
set_option maxHeartbeats 40000000 in
theorem rm_st4_5 (l : Launch) (Z : State) (a0 : Array Value) (hw : ∀ d ∈ tables_1, d.before a0 Z = true) (ws : List Jvm.Cond) (n0 : Nat) (rr : Int64) (b0 : Int32) (b1 : Int32) (b2 : Int32) (b3 : Int32) (k0 : ClassId) (hk0 : IsA Z k0 .byte) (h0 : Heap) (P0 : HP n0 h0 [AC k0 [.int b0, .int b1, .int b2, .int b3]]) :
    MetFree l (⟨"com/example/protomata/protomata/BytesUintPinLaw", "step", "(J[BI)J"⟩ : MethodName) (head1 (Jvm.Cond.code (⟨"com/example/protomata/protomata/BytesUintPinLaw", "step", "(J[BI)J"⟩ : MethodName) method_2_code 4 (some .long) :: ws) ({ frames := 0, cells := 0, slots := 0, locals := 0 } : Room)) (fun a U => a = #[.long rr, .ref (n0 + 0), .int (5 : Int32)] ∧ Z.Warmed39 U.vm ∧ U.heap = h0) (fun _ _ _ _ _ => True) (fun _ U o U' => ∃ v L, o = .returned v ∧ PureQ (.long (sp_st4_5 rr b0 b1 b2 b3)) h0 v U'.heap L ∧ FrameEnd U o U' L ({ frames := 0, cells := 0, slots := 0, locals := 0 } : Room).cells ({ frames := 0, cells := 0, slots := 0, locals := 0 } : Room).slots) := by
  refine own_body pn2 ?_
  intro p e s m below meth c T0 hx hby hml hret hlk hown hnm hZ X0 e0
  subst e0
  refine own_cast (ef_st4_5 m n0 rr b0 b1 b2 b3) ?_
  refine w_iloadN X0 hx (hb hby d2_0) rfl (pc' := 1) rfl ?_
  refine w_aloadN X0 hx (hb hby d2_1) rfl rfl (pc' := 2) rfl ?_
  refine w_arrlen (i := 0) X0 hx hZ P0 rfl hk0 (hb hby d2_2) (z := (4 : Int32)) rfl (pc' := 3) rfl ?_
  refine w_icmp_ge X0 hx (hb hby d2_3) (by decide) (pcY := 20) (by decide) (pc' := 6) rfl (fun h0 => ?_) (fun h0 => absurd h0 (by decide))
  refine w_lloadN X0 hx (hb hby d2_20) rfl (pc' := 21) rfl ?_
  exact w_ret_l X0 hx hret hlk (hb hby d2_21) (by decide) (by decide) ⟨congrArg (fun q => some (Value.long q)) (show rr = sp_st4_5 rr b0 b1 b2 b3 from by rw [sp_st4_5]), rfl, rfl⟩
theorem ef_st4_6 (m : MethodId) (n0 : Nat) (rr : Int64) (b0 : Int32) (b1 : Int32) (b2 : Int32) (b3 : Int32) : entryFrame m #[.long rr, .ref (n0 + 0), .int (6 : Int32)] 4 = mkF m 0 #[.val (.long rr), .second, .val (.ref (n0 + 0)), .val (.int (6 : Int32))] [] := by first | (simp [entryFrame, mkF, argsToLocals, Value.category]; done) | rfl
def sp_st4_6 (rr : Int64) (b0 : Int32) (b1 : Int32) (b2 : Int32) (b3 : Int32) : Int64 := rr
set_option maxRecDepth 65536 in
set_option maxHeartbeats 40000000 in
theorem rm_st4_6 (l : Launch) (Z : State) (a0 : Array Value) (hw : ∀ d ∈ tables_1, d.before a0 Z = true) (ws : List Jvm.Cond) (n0 : Nat) (rr : Int64) (b0 : Int32) (b1 : Int32) (b2 : Int32) (b3 : Int32) (k0 : ClassId) (hk0 : IsA Z k0 .byte) (h0 : Heap) (P0 : HP n0 h0 [AC k0 [.int b0, .int b1, .int b2, .int b3]]) :
    MetFree l (⟨"com/example/protomata/protomata/BytesUintPinLaw", "step", "(J[BI)J"⟩ : MethodName) (head1 (Jvm.Cond.code (⟨"com/example/protomata/protomata/BytesUintPinLaw", "step", "(J[BI)J"⟩ : MethodName) method_2_code 4 (some .long) :: ws) ({ frames := 0, cells := 0, slots := 0, locals := 0 } : Room)) (fun a U => a = #[.long rr, .ref (n0 + 0), .int (6 : Int32)] ∧ Z.Warmed39 U.vm ∧ U.heap = h0) (fun _ _ _ _ _ => True) (fun _ U o U' => ∃ v L, o = .returned v ∧ PureQ (.long (sp_st4_6 rr b0 b1 b2 b3)) h0 v U'.heap L ∧ FrameEnd U o U' L ({ frames := 0, cells := 0, slots := 0, locals := 0 } : Room).cells ({ frames := 0, cells := 0, slots := 0, locals := 0 } : Room).slots) := by
  refine own_body pn2 ?_
  intro p e s m below meth c T0 hx hby hml hret hlk hown hnm hZ X0 e0
  subst e0
  refine own_cast (ef_st4_6 m n0 rr b0 b1 b2 b3) ?_
  refine w_iloadN X0 hx (hb hby d2_0) rfl (pc' := 1) rfl ?_
  refine w_aloadN X0 hx (hb hby d2_1) rfl rfl (pc' := 2) rfl ?_
  refine w_arrlen (i := 0) X0 hx hZ P0 rfl hk0 (hb hby d2_2) (z := (4 : Int32)) rfl (pc' := 3) rfl ?_
  refine w_icmp_ge X0 hx (hb hby d2_3) (by decide) (pcY := 20) (by decide) (pc' := 6) rfl (fun h0 => ?_) (fun h0 => absurd h0 (by decide))
  refine w_lloadN X0 hx (hb hby d2_20) rfl (pc' := 21) rfl ?_
  exact w_ret_l X0 hx hret hlk (hb hby d2_21) (by decide) (by decide) ⟨congrArg (fun q => some (Value.long q)) (show rr = sp_st4_6 rr b0 b1 b2 b3 from by rw [sp_st4_6]), rfl, rfl⟩
theorem ef_st4_7 (m : MethodId) (n0 : Nat) (rr : Int64) (b0 : Int32) (b1 : Int32) (b2 : Int32) (b3 : Int32) : entryFrame m #[.long rr, .ref (n0 + 0), .int (7 : Int32)] 4 = mkF m 0 #[.val (.long rr), .second, .val (.ref (n0 + 0)), .val (.int (7 : Int32))] [] := by first | (simp [entryFrame, mkF, argsToLocals, Value.category]; done) | rfl
def sp_st4_7 (rr : Int64) (b0 : Int32) (b1 : Int32) (b2 : Int32) (b3 : Int32) : Int64 := rr
set_option maxRecDepth 65536 in
set_option maxHeartbeats 40000000 in
theorem rm_st4_7 (l : Launch) (Z : State) (a0 : Array Value) (hw : ∀ d ∈ tables_1, d.before a0 Z = true) (ws : List Jvm.Cond) (n0 : Nat) (rr : Int64) (b0 : Int32) (b1 : Int32) (b2 : Int32) (b3 : Int32) (k0 : ClassId) (hk0 : IsA Z k0 .byte) (h0 : Heap) (P0 : HP n0 h0 [AC k0 [.int b0, .int b1, .int b2, .int b3]]) :
    MetFree l (⟨"com/example/protomata/protomata/BytesUintPinLaw", "step", "(J[BI)J"⟩ : MethodName) (head1 (Jvm.Cond.code (⟨"com/example/protomata/protomata/BytesUintPinLaw", "step", "(J[BI)J"⟩ : MethodName) method_2_code 4 (some .long) :: ws) ({ frames := 0, cells := 0, slots := 0, locals := 0 } : Room)) (fun a U => a = #[.long rr, .ref (n0 + 0), .int (7 : Int32)] ∧ Z.Warmed39 U.vm ∧ U.heap = h0) (fun _ _ _ _ _ => True) (fun _ U o U' => ∃ v L, o = .returned v ∧ PureQ (.long (sp_st4_7 rr b0 b1 b2 b3)) h0 v U'.heap L ∧ FrameEnd U o U' L ({ frames := 0, cells := 0, slots := 0, locals := 0 } : Room).cells ({ frames := 0, cells := 0, slots := 0, locals := 0 } : Room).slots) := by
  refine own_body pn2 ?_
  intro p e s m below meth c T0 hx hby hml hret hlk hown hnm hZ X0 e0
  subst e0
  refine own_cast (ef_st4_7 m n0 rr b0 b1 b2 b3) ?_
  refine w_iloadN X0 hx (hb hby d2_0) rfl (pc' := 1) rfl ?_
  refine w_aloadN X0 hx (hb hby d2_1) rfl rfl (pc' := 2) rfl ?_
  refine w_arrlen (i := 0) X0 hx hZ P0 rfl hk0 (hb hby d2_2) (z := (4 : Int32)) rfl (pc' := 3) rfl ?_
  refine w_icmp_ge X0 hx (hb hby d2_3) (by decide) (pcY := 20) (by decide) (pc' := 6) rfl (fun h0 => ?_) (fun h0 => absurd h0 (by decide))
  refine w_lloadN X0 hx (hb hby d2_20) rfl (pc' := 21) rfl ?_
  exact w_ret_l X0 hx hret hlk (hb hby d2_21) (by decide) (by decide) ⟨congrArg (fun q => some (Value.long q)) (show rr = sp_st4_7 rr b0 b1 b2 b3 from by rw [sp_st4_7]), rfl, rfl⟩
theorem ef_st5_0 (m : MethodId) (n0 : Nat) (rr : Int64) (b0 : Int32) (b1 : Int32) (b2 : Int32) (b3 : Int32) (b4 : Int32) : entryFrame m #[.long rr, .ref (n0 + 0), .int (0 : Int32)] 4 = mkF m 0 #[.val (.long rr), .second, .val (.ref (n0 + 0)), .val (.int (0 : Int32))] [] := by first | (simp [entryFrame, mkF, argsToLocals, Value.category]; done) | rfl
def sp_st5_0 (rr : Int64) (b0 : Int32) (b1 : Int32) (b2 : Int32) (b3 : Int32) (b4 : Int32) : Int64 := ((rr <<< (Int32.toInt64 (8 : Int32) &&& 63)) ||| ((Int32.toInt64 b0) &&& (255 : Int64)))
set_option maxRecDepth 65536 in
set_option maxHeartbeats 40000000 in
theorem rm_st5_0 (l : Launch) (Z : State) (a0 : Array Value) (hw : ∀ d ∈ tables_1, d.before a0 Z = true) (ws : List Jvm.Cond) (n0 : Nat) (rr : Int64) (b0 : Int32) (b1 : Int32) (b2 : Int32) (b3 : Int32) (b4 : Int32) (k0 : ClassId) (hk0 : IsA Z k0 .byte) (h0 : Heap) (P0 : HP n0 h0 [AC k0 [.int b0, .int b1, .int b2, .int b3, .int b4]]) :
    MetFree l (⟨"com/example/protomata/protomata/BytesUintPinLaw", "step", "(J[BI)J"⟩ : MethodName) (head1 (Jvm.Cond.code (⟨"com/example/protomata/protomata/BytesUintPinLaw", "step", "(J[BI)J"⟩ : MethodName) method_2_code 4 (some .long) :: ws) ({ frames := 0, cells := 0, slots := 0, locals := 0 } : Room)) (fun a U => a = #[.long rr, .ref (n0 + 0), .int (0 : Int32)] ∧ Z.Warmed39 U.vm ∧ U.heap = h0) (fun _ _ _ _ _ => True) (fun _ U o U' => ∃ v L, o = .returned v ∧ PureQ (.long (sp_st5_0 rr b0 b1 b2 b3 b4)) h0 v U'.heap L ∧ FrameEnd U o U' L ({ frames := 0, cells := 0, slots := 0, locals := 0 } : Room).cells ({ frames := 0, cells := 0, slots := 0, locals := 0 } : Room).slots) := by
  refine own_body pn2 ?_
  intro p e s m below meth c T0 hx hby hml hret hlk hown hnm hZ X0 e0
  subst e0
  refine own_cast (ef_st5_0 m n0 rr b0 b1 b2 b3 b4) ?_
  refine w_iloadN X0 hx (hb hby d2_0) rfl (pc' := 1) rfl ?_
  refine w_aloadN X0 hx (hb hby d2_1) rfl rfl (pc' := 2) rfl ?_
  refine w_arrlen (i := 0) X0 hx hZ P0 rfl hk0 (hb hby d2_2) (z := (5 : Int32)) rfl (pc' := 3) rfl ?_
  refine w_icmp_ge X0 hx (hb hby d2_3) (by decide) (pcY := 20) (by decide) (pc' := 6) rfl (fun h0 => absurd h0 (by decide)) (fun h0 => ?_)
  refine w_lloadN X0 hx (hb hby d2_6) rfl (pc' := 7) rfl ?_
  refine w_bipush (v := (8 : Int32)) X0 hx (hb hby d2_7) rfl (pc' := 9) rfl ?_
  refine w_lshl X0 hx (hb hby d2_9) (pc' := 10) rfl ?_
  refine w_aloadN X0 hx (hb hby d2_10) rfl rfl (pc' := 11) rfl ?_
  refine w_iloadN X0 hx (hb hby d2_11) rfl (pc' := 12) rfl ?_
  refine w_baload (i := 0) (jn := 0) (v := .int b0) X0 hx hZ P0 rfl hk0 (hb hby d2_12) (by decide) rfl (pc' := 13) rfl ?_
  refine w_i2l X0 hx (hb hby d2_13) (pc' := 14) rfl ?_
  refine w_ldc2 X0 hx (hb hby d2_14) hown (mvT hZ (wd10 hw)) (pc' := 17) rfl ?_
  refine w_land X0 hx (hb hby d2_17) (pc' := 18) rfl ?_
  refine w_lor X0 hx (hb hby d2_18) (pc' := 19) rfl ?_
  exact w_ret_l X0 hx hret hlk (hb hby d2_19) (by decide) (by decide) ⟨congrArg (fun q => some (Value.long q)) (show ((rr <<< (Int32.toInt64 (8 : Int32) &&& 63)) ||| ((Int32.toInt64 b0) &&& (255 : Int64))) = sp_st5_0 rr b0 b1 b2 b3 b4 from by rw [sp_st5_0]), rfl, rfl⟩
theorem ef_st5_1 (m : MethodId) (n0 : Nat) (rr : Int64) (b0 : Int32) (b1 : Int32) (b2 : Int32) (b3 : Int32) (b4 : Int32) : entryFrame m #[.long rr, .ref (n0 + 0), .int (1 : Int32)] 4 = mkF m 0 #[.val (.long rr), .second, .val (.ref (n0 + 0)), .val (.int (1 : Int32))] [] := by first | (simp [entryFrame, mkF, argsToLocals, Value.category]; done) | rfl
def sp_st5_1 (rr : Int64) (b0 : Int32) (b1 : Int32) (b2 : Int32) (b3 : Int32) (b4 : Int32) : Int64 := ((rr <<< (Int32.toInt64 (8 : Int32) &&& 63)) ||| ((Int32.toInt64 b1) &&& (255 : Int64)))
set_option maxRecDepth 65536 in
set_option maxHeartbeats 40000000 in
theorem rm_st5_1 (l : Launch) (Z : State) (a0 : Array Value) (hw : ∀ d ∈ tables_1, d.before a0 Z = true) (ws : List Jvm.Cond) (n0 : Nat) (rr : Int64) (b0 : Int32) (b1 : Int32) (b2 : Int32) (b3 : Int32) (b4 : Int32) (k0 : ClassId) (hk0 : IsA Z k0 .byte) (h0 : Heap) (P0 : HP n0 h0 [AC k0 [.int b0, .int b1, .int b2, .int b3, .int b4]]) :
    MetFree l (⟨"com/example/protomata/protomata/BytesUintPinLaw", "step", "(J[BI)J"⟩ : MethodName) (head1 (Jvm.Cond.code (⟨"com/example/protomata/protomata/BytesUintPinLaw", "step", "(J[BI)J"⟩ : MethodName) method_2_code 4 (some .long) :: ws) ({ frames := 0, cells := 0, slots := 0, locals := 0 } : Room)) (fun a U => a = #[.long rr, .ref (n0 + 0), .int (1 : Int32)] ∧ Z.Warmed39 U.vm ∧ U.heap = h0) (fun _ _ _ _ _ => True) (fun _ U o U' => ∃ v L, o = .returned v ∧ PureQ (.long (sp_st5_1 rr b0 b1 b2 b3 b4)) h0 v U'.heap L ∧ FrameEnd U o U' L ({ frames := 0, cells := 0, slots := 0, locals := 0 } : Room).cells ({ frames := 0, cells := 0, slots := 0, locals := 0 } : Room).slots) := by
  refine own_body pn2 ?_
  intro p e s m below meth c T0 hx hby hml hret hlk hown hnm hZ X0 e0
  subst e0
  refine own_cast (ef_st5_1 m n0 rr b0 b1 b2 b3 b4) ?_
  refine w_iloadN X0 hx (hb hby d2_0) rfl (pc' := 1) rfl ?_
  refine w_aloadN X0 hx (hb hby d2_1) rfl rfl (pc' := 2) rfl ?_
  refine w_arrlen (i := 0) X0 hx hZ P0 rfl hk0 (hb hby d2_2) (z := (5 : Int32)) rfl (pc' := 3) rfl ?_
  refine w_icmp_ge X0 hx (hb hby d2_3) (by decide) (pcY := 20) (by decide) (pc' := 6) rfl (fun h0 => absurd h0 (by decide)) (fun h0 => ?_)
  refine w_lloadN X0 hx (hb hby d2_6) rfl (pc' := 7) rfl ?_
  refine w_bipush (v := (8 : Int32)) X0 hx (hb hby d2_7) rfl (pc' := 9) rfl ?_
  refine w_lshl X0 hx (hb hby d2_9) (pc' := 10) rfl ?_
  refine w_aloadN X0 hx (hb hby d2_10) rfl rfl (pc' := 11) rfl ?_
  refine w_iloadN X0 hx (hb hby d2_11) rfl (pc' := 12) rfl ?_
  refine w_baload (i := 0) (jn := 1) (v := .int b1) X0 hx hZ P0 rfl hk0 (hb hby d2_12) (by decide) rfl (pc' := 13) rfl ?_
  refine w_i2l X0 hx (hb hby d2_13) (pc' := 14) rfl ?_
  refine w_ldc2 X0 hx (hb hby d2_14) hown (mvT hZ (wd10 hw)) (pc' := 17) rfl ?_
  refine w_land X0 hx (hb hby d2_17) (pc' := 18) rfl ?_
  refine w_lor X0 hx (hb hby d2_18) (pc' := 19) rfl ?_
  exact w_ret_l X0 hx hret hlk (hb hby d2_19) (by decide) (by decide) ⟨congrArg (fun q => some (Value.long q)) (show ((rr <<< (Int32.toInt64 (8 : Int32) &&& 63)) ||| ((Int32.toInt64 b1) &&& (255 : Int64))) = sp_st5_1 rr b0 b1 b2 b3 b4 from by rw [sp_st5_1]), rfl, rfl⟩
theorem ef_st5_2 (m : MethodId) (n0 : Nat) (rr : Int64) (b0 : Int32) (b1 : Int32) (b2 : Int32) (b3 : Int32) (b4 : Int32) : entryFrame m #[.long rr, .ref (n0 + 0), .int (2 : Int32)] 4 = mkF m 0 #[.val (.long rr), .second, .val (.ref (n0 + 0)), .val (.int (2 : Int32))] [] := by first | (simp [entryFrame, mkF, argsToLocals, Value.category]; done) | rfl
def sp_st5_2 (rr : Int64) (b0 : Int32) (b1 : Int32) (b2 : Int32) (b3 : Int32) (b4 : Int32) : Int64 := ((rr <<< (Int32.toInt64 (8 : Int32) &&& 63)) ||| ((Int32.toInt64 b2) &&& (255 : Int64)))
set_option maxRecDepth 65536 in
set_option maxHeartbeats 40000000 in
theorem rm_st5_2 (l : Launch) (Z : State) (a0 : Array Value) (hw : ∀ d ∈ tables_1, d.before a0 Z = true) (ws : List Jvm.Cond) (n0 : Nat) (rr : Int64) (b0 : Int32) (b1 : Int32) (b2 : Int32) (b3 : Int32) (b4 : Int32) (k0 : ClassId) (hk0 : IsA Z k0 .byte) (h0 : Heap) (P0 : HP n0 h0 [AC k0 [.int b0, .int b1, .int b2, .int b3, .int b4]]) :
    MetFree l (⟨"com/example/protomata/protomata/BytesUintPinLaw", "step", "(J[BI)J"⟩ : MethodName) (head1 (Jvm.Cond.code (⟨"com/example/protomata/protomata/BytesUintPinLaw", "step", "(J[BI)J"⟩ : MethodName) method_2_code 4 (some .long) :: ws) ({ frames := 0, cells := 0, slots := 0, locals := 0 } : Room)) (fun a U => a = #[.long rr, .ref (n0 + 0), .int (2 : Int32)] ∧ Z.Warmed39 U.vm ∧ U.heap = h0) (fun _ _ _ _ _ => True) (fun _ U o U' => ∃ v L, o = .returned v ∧ PureQ (.long (sp_st5_2 rr b0 b1 b2 b3 b4)) h0 v U'.heap L ∧ FrameEnd U o U' L ({ frames := 0, cells := 0, slots := 0, locals := 0 } : Room).cells ({ frames := 0, cells := 0, slots := 0, locals := 0 } : Room).slots) := by
  refine own_body pn2 ?_
  intro p e s m below meth c T0 hx hby hml hret hlk hown hnm hZ X0 e0
  subst e0
  refine own_cast (ef_st5_2 m n0 rr b0 b1 b2 b3 b4) ?_
  refine w_iloadN X0 hx (hb hby d2_0) rfl (pc' := 1) rfl ?_
  refine w_aloadN X0 hx (hb hby d2_1) rfl rfl (pc' := 2) rfl ?_
  refine w_arrlen (i := 0) X0 hx hZ P0 rfl hk0 (hb hby d2_2) (z := (5 : Int32)) rfl (pc' := 3) rfl ?_
  refine w_icmp_ge X0 hx (hb hby d2_3) (by decide) (pcY := 20) (by decide) (pc' := 6) rfl (fun h0 => absurd h0 (by decide)) (fun h0 => ?_)
  refine w_lloadN X0 hx (hb hby d2_6) rfl (pc' := 7) rfl ?_
  refine w_bipush (v := (8 : Int32)) X0 hx (hb hby d2_7) rfl (pc' := 9) rfl ?_
  refine w_lshl X0 hx (hb hby d2_9) (pc' := 10) rfl ?_
  refine w_aloadN X0 hx (hb hby d2_10) rfl rfl (pc' := 11) rfl ?_
  refine w_iloadN X0 hx (hb hby d2_11) rfl (pc' := 12) rfl ?_
  refine w_baload (i := 0) (jn := 2) (v := .int b2) X0 hx hZ P0 rfl hk0 (hb hby d2_12) (by decide) rfl (pc' := 13) rfl ?_
  refine w_i2l X0 hx (hb hby d2_13) (pc' := 14) rfl ?_
  refine w_ldc2 X0 hx (hb hby d2_14) hown (mvT hZ (wd10 hw)) (pc' := 17) rfl ?_
  refine w_land X0 hx (hb hby d2_17) (pc' := 18) rfl ?_
  refine w_lor X0 hx (hb hby d2_18) (pc' := 19) rfl ?_
  exact w_ret_l X0 hx hret hlk (hb hby d2_19) (by decide) (by decide) ⟨congrArg (fun q => some (Value.long q)) (show ((rr <<< (Int32.toInt64 (8 : Int32) &&& 63)) ||| ((Int32.toInt64 b2) &&& (255 : Int64))) = sp_st5_2 rr b0 b1 b2 b3 b4 from by rw [sp_st5_2]), rfl, rfl⟩
theorem ef_st5_3 (m : MethodId) (n0 : Nat) (rr : Int64) (b0 : Int32) (b1 : Int32) (b2 : Int32) (b3 : Int32) (b4 : Int32) : entryFrame m #[.long rr, .ref (n0 + 0), .int (3 : Int32)] 4 = mkF m 0 #[.val (.long rr), .second, .val (.ref (n0 + 0)), .val (.int (3 : Int32))] [] := by first | (simp [entryFrame, mkF, argsToLocals, Value.category]; done) | rfl
def sp_st5_3 (rr : Int64) (b0 : Int32) (b1 : Int32) (b2 : Int32) (b3 : Int32) (b4 : Int32) : Int64 := ((rr <<< (Int32.toInt64 (8 : Int32) &&& 63)) ||| ((Int32.toInt64 b3) &&& (255 : Int64)))
set_option maxRecDepth 65536 in
set_option maxHeartbeats 40000000 in
theorem rm_st5_3 (l : Launch) (Z : State) (a0 : Array Value) (hw : ∀ d ∈ tables_1, d.before a0 Z = true) (ws : List Jvm.Cond) (n0 : Nat) (rr : Int64) (b0 : Int32) (b1 : Int32) (b2 : Int32) (b3 : Int32) (b4 : Int32) (k0 : ClassId) (hk0 : IsA Z k0 .byte) (h0 : Heap) (P0 : HP n0 h0 [AC k0 [.int b0, .int b1, .int b2, .int b3, .int b4]]) :
    MetFree l (⟨"com/example/protomata/protomata/BytesUintPinLaw", "step", "(J[BI)J"⟩ : MethodName) (head1 (Jvm.Cond.code (⟨"com/example/protomata/protomata/BytesUintPinLaw", "step", "(J[BI)J"⟩ : MethodName) method_2_code 4 (some .long) :: ws) ({ frames := 0, cells := 0, slots := 0, locals := 0 } : Room)) (fun a U => a = #[.long rr, .ref (n0 + 0), .int (3 : Int32)] ∧ Z.Warmed39 U.vm ∧ U.heap = h0) (fun _ _ _ _ _ => True) (fun _ U o U' => ∃ v L, o = .returned v ∧ PureQ (.long (sp_st5_3 rr b0 b1 b2 b3 b4)) h0 v U'.heap L ∧ FrameEnd U o U' L ({ frames := 0, cells := 0, slots := 0, locals := 0 } : Room).cells ({ frames := 0, cells := 0, slots := 0, locals := 0 } : Room).slots) := by
  refine own_body pn2 ?_
  intro p e s m below meth c T0 hx hby hml hret hlk hown hnm hZ X0 e0
  subst e0
  refine own_cast (ef_st5_3 m n0 rr b0 b1 b2 b3 b4) ?_
  refine w_iloadN X0 hx (hb hby d2_0) rfl (pc' := 1) rfl ?_
  refine w_aloadN X0 hx (hb hby d2_1) rfl rfl (pc' := 2) rfl ?_
  refine w_arrlen (i := 0) X0 hx hZ P0 rfl hk0 (hb hby d2_2) (z := (5 : Int32)) rfl (pc' := 3) rfl ?_
  refine w_icmp_ge X0 hx (hb hby d2_3) (by decide) (pcY := 20) (by decide) (pc' := 6) rfl (fun h0 => absurd h0 (by decide)) (fun h0 => ?_)
  refine w_lloadN X0 hx (hb hby d2_6) rfl (pc' := 7) rfl ?_
  refine w_bipush (v := (8 : Int32)) X0 hx (hb hby d2_7) rfl (pc' := 9) rfl ?_
  refine w_lshl X0 hx (hb hby d2_9) (pc' := 10) rfl ?_
  refine w_aloadN X0 hx (hb hby d2_10) rfl rfl (pc' := 11) rfl ?_
  refine w_iloadN X0 hx (hb hby d2_11) rfl (pc' := 12) rfl ?_
  refine w_baload (i := 0) (jn := 3) (v := .int b3) X0 hx hZ P0 rfl hk0 (hb hby d2_12) (by decide) rfl (pc' := 13) rfl ?_
  refine w_i2l X0 hx (hb hby d2_13) (pc' := 14) rfl ?_
  refine w_ldc2 X0 hx (hb hby d2_14) hown (mvT hZ (wd10 hw)) (pc' := 17) rfl ?_
  refine w_land X0 hx (hb hby d2_17) (pc' := 18) rfl ?_
  refine w_lor X0 hx (hb hby d2_18) (pc' := 19) rfl ?_
  exact w_ret_l X0 hx hret hlk (hb hby d2_19) (by decide) (by decide) ⟨congrArg (fun q => some (Value.long q)) (show ((rr <<< (Int32.toInt64 (8 : Int32) &&& 63)) ||| ((Int32.toInt64 b3) &&& (255 : Int64))) = sp_st5_3 rr b0 b1 b2 b3 b4 from by rw [sp_st5_3]), rfl, rfl⟩
theorem ef_st5_4 (m : MethodId) (n0 : Nat) (rr : Int64) (b0 : Int32) (b1 : Int32) (b2 : Int32) (b3 : Int32) (b4 : Int32) : entryFrame m #[.long rr, .ref (n0 + 0), .int (4 : Int32)] 4 = mkF m 0 #[.val (.long rr), .second, .val (.ref (n0 + 0)), .val (.int (4 : Int32))] [] := by first | (simp [entryFrame, mkF, argsToLocals, Value.category]; done) | rfl
def sp_st5_4 (rr : Int64) (b0 : Int32) (b1 : Int32) (b2 : Int32) (b3 : Int32) (b4 : Int32) : Int64 := ((rr <<< (Int32.toInt64 (8 : Int32) &&& 63)) ||| ((Int32.toInt64 b4) &&& (255 : Int64)))
set_option maxRecDepth 65536 in
set_option maxHeartbeats 40000000 in
theorem rm_st5_4 (l : Launch) (Z : State) (a0 : Array Value) (hw : ∀ d ∈ tables_1, d.before a0 Z = true) (ws : List Jvm.Cond) (n0 : Nat) (rr : Int64) (b0 : Int32) (b1 : Int32) (b2 : Int32) (b3 : Int32) (b4 : Int32) (k0 : ClassId) (hk0 : IsA Z k0 .byte) (h0 : Heap) (P0 : HP n0 h0 [AC k0 [.int b0, .int b1, .int b2, .int b3, .int b4]]) :
    MetFree l (⟨"com/example/protomata/protomata/BytesUintPinLaw", "step", "(J[BI)J"⟩ : MethodName) (head1 (Jvm.Cond.code (⟨"com/example/protomata/protomata/BytesUintPinLaw", "step", "(J[BI)J"⟩ : MethodName) method_2_code 4 (some .long) :: ws) ({ frames := 0, cells := 0, slots := 0, locals := 0 } : Room)) (fun a U => a = #[.long rr, .ref (n0 + 0), .int (4 : Int32)] ∧ Z.Warmed39 U.vm ∧ U.heap = h0) (fun _ _ _ _ _ => True) (fun _ U o U' => ∃ v L, o = .returned v ∧ PureQ (.long (sp_st5_4 rr b0 b1 b2 b3 b4)) h0 v U'.heap L ∧ FrameEnd U o U' L ({ frames := 0, cells := 0, slots := 0, locals := 0 } : Room).cells ({ frames := 0, cells := 0, slots := 0, locals := 0 } : Room).slots) := by
  refine own_body pn2 ?_
  intro p e s m below meth c T0 hx hby hml hret hlk hown hnm hZ X0 e0
  subst e0
  refine own_cast (ef_st5_4 m n0 rr b0 b1 b2 b3 b4) ?_
  refine w_iloadN X0 hx (hb hby d2_0) rfl (pc' := 1) rfl ?_
  refine w_aloadN X0 hx (hb hby d2_1) rfl rfl (pc' := 2) rfl ?_
  refine w_arrlen (i := 0) X0 hx hZ P0 rfl hk0 (hb hby d2_2) (z := (5 : Int32)) rfl (pc' := 3) rfl ?_
  refine w_icmp_ge X0 hx (hb hby d2_3) (by decide) (pcY := 20) (by decide) (pc' := 6) rfl (fun h0 => absurd h0 (by decide)) (fun h0 => ?_)
  refine w_lloadN X0 hx (hb hby d2_6) rfl (pc' := 7) rfl ?_
  refine w_bipush (v := (8 : Int32)) X0 hx (hb hby d2_7) rfl (pc' := 9) rfl ?_
  refine w_lshl X0 hx (hb hby d2_9) (pc' := 10) rfl ?_
  refine w_aloadN X0 hx (hb hby d2_10) rfl rfl (pc' := 11) rfl ?_
  refine w_iloadN X0 hx (hb hby d2_11) rfl (pc' := 12) rfl ?_
  refine w_baload (i := 0) (jn := 4) (v := .int b4) X0 hx hZ P0 rfl hk0 (hb hby d2_12) (by decide) rfl (pc' := 13) rfl ?_
  refine w_i2l X0 hx (hb hby d2_13) (pc' := 14) rfl ?_
  refine w_ldc2 X0 hx (hb hby d2_14) hown (mvT hZ (wd10 hw)) (pc' := 17) rfl ?_
  refine w_land X0 hx (hb hby d2_17) (pc' := 18) rfl ?_
  refine w_lor X0 hx (hb hby d2_18) (pc' := 19) rfl ?_
  exact w_ret_l X0 hx hret hlk (hb hby d2_19) (by decide) (by decide) ⟨congrArg (fun q => some (Value.long q)) (show ((rr <<< (Int32.toInt64 (8 : Int32) &&& 63)) ||| ((Int32.toInt64 b4) &&& (255 : Int64))) = sp_st5_4 rr b0 b1 b2 b3 b4 from by rw [sp_st5_4]), rfl, rfl⟩
theorem ef_st5_5 (m : MethodId) (n0 : Nat) (rr : Int64) (b0 : Int32) (b1 : Int32) (b2 : Int32) (b3 : Int32) (b4 : Int32) : entryFrame m #[.long rr, .ref (n0 + 0), .int (5 : Int32)] 4 = mkF m 0 #[.val (.long rr), .second, .val (.ref (n0 + 0)), .val (.int (5 : Int32))] [] := by first | (simp [entryFrame, mkF, argsToLocals, Value.category]; done) | rfl
def sp_st5_5 (rr : Int64) (b0 : Int32) (b1 : Int32) (b2 : Int32) (b3 : Int32) (b4 : Int32) : Int64 := rr
set_option maxRecDepth 65536 in
set_option maxHeartbeats 40000000 in
theorem rm_st5_5 (l : Launch) (Z : State) (a0 : Array Value) (hw : ∀ d ∈ tables_1, d.before a0 Z = true) (ws : List Jvm.Cond) (n0 : Nat) (rr : Int64) (b0 : Int32) (b1 : Int32) (b2 : Int32) (b3 : Int32) (b4 : Int32) (k0 : ClassId) (hk0 : IsA Z k0 .byte) (h0 : Heap) (P0 : HP n0 h0 [AC k0 [.int b0, .int b1, .int b2, .int b3, .int b4]]) :
    MetFree l (⟨"com/example/protomata/protomata/BytesUintPinLaw", "step", "(J[BI)J"⟩ : MethodName) (head1 (Jvm.Cond.code (⟨"com/example/protomata/protomata/BytesUintPinLaw", "step", "(J[BI)J"⟩ : MethodName) method_2_code 4 (some .long) :: ws) ({ frames := 0, cells := 0, slots := 0, locals := 0 } : Room)) (fun a U => a = #[.long rr, .ref (n0 + 0), .int (5 : Int32)] ∧ Z.Warmed39 U.vm ∧ U.heap = h0) (fun _ _ _ _ _ => True) (fun _ U o U' => ∃ v L, o = .returned v ∧ PureQ (.long (sp_st5_5 rr b0 b1 b2 b3 b4)) h0 v U'.heap L ∧ FrameEnd U o U' L ({ frames := 0, cells := 0, slots := 0, locals := 0 } : Room).cells ({ frames := 0, cells := 0, slots := 0, locals := 0 } : Room).slots) := by
  refine own_body pn2 ?_
  intro p e s m below meth c T0 hx hby hml hret hlk hown hnm hZ X0 e0
  subst e0
  refine own_cast (ef_st5_5 m n0 rr b0 b1 b2 b3 b4) ?_
  refine w_iloadN X0 hx (hb hby d2_0) rfl (pc' := 1) rfl ?_
  refine w_aloadN X0 hx (hb hby d2_1) rfl rfl (pc' := 2) rfl ?_
  refine w_arrlen (i := 0) X0 hx hZ P0 rfl hk0 (hb hby d2_2) (z := (5 : Int32)) rfl (pc' := 3) rfl ?_
  refine w_icmp_ge X0 hx (hb hby d2_3) (by decide) (pcY := 20) (by decide) (pc' := 6) rfl (fun h0 => ?_) (fun h0 => absurd h0 (by decide))
  refine w_lloadN X0 hx (hb hby d2_20) rfl (pc' := 21) rfl ?_
  exact w_ret_l X0 hx hret hlk (hb hby d2_21) (by decide) (by decide) ⟨congrArg (fun q => some (Value.long q)) (show rr = sp_st5_5 rr b0 b1 b2 b3 b4 from by rw [sp_st5_5]), rfl, rfl⟩
theorem ef_st5_6 (m : MethodId) (n0 : Nat) (rr : Int64) (b0 : Int32) (b1 : Int32) (b2 : Int32) (b3 : Int32) (b4 : Int32) : entryFrame m #[.long rr, .ref (n0 + 0), .int (6 : Int32)] 4 = mkF m 0 #[.val (.long rr), .second, .val (.ref (n0 + 0)), .val (.int (6 : Int32))] [] := by first | (simp [entryFrame, mkF, argsToLocals, Value.category]; done) | rfl
def sp_st5_6 (rr : Int64) (b0 : Int32) (b1 : Int32) (b2 : Int32) (b3 : Int32) (b4 : Int32) : Int64 := rr
set_option maxRecDepth 65536 in
set_option maxHeartbeats 40000000 in
theorem rm_st5_6 (l : Launch) (Z : State) (a0 : Array Value) (hw : ∀ d ∈ tables_1, d.before a0 Z = true) (ws : List Jvm.Cond) (n0 : Nat) (rr : Int64) (b0 : Int32) (b1 : Int32) (b2 : Int32) (b3 : Int32) (b4 : Int32) (k0 : ClassId) (hk0 : IsA Z k0 .byte) (h0 : Heap) (P0 : HP n0 h0 [AC k0 [.int b0, .int b1, .int b2, .int b3, .int b4]]) :
    MetFree l (⟨"com/example/protomata/protomata/BytesUintPinLaw", "step", "(J[BI)J"⟩ : MethodName) (head1 (Jvm.Cond.code (⟨"com/example/protomata/protomata/BytesUintPinLaw", "step", "(J[BI)J"⟩ : MethodName) method_2_code 4 (some .long) :: ws) ({ frames := 0, cells := 0, slots := 0, locals := 0 } : Room)) (fun a U => a = #[.long rr, .ref (n0 + 0), .int (6 : Int32)] ∧ Z.Warmed39 U.vm ∧ U.heap = h0) (fun _ _ _ _ _ => True) (fun _ U o U' => ∃ v L, o = .returned v ∧ PureQ (.long (sp_st5_6 rr b0 b1 b2 b3 b4)) h0 v U'.heap L ∧ FrameEnd U o U' L ({ frames := 0, cells := 0, slots := 0, locals := 0 } : Room).cells ({ frames := 0, cells := 0, slots := 0, locals := 0 } : Room).slots) := by
  refine own_body pn2 ?_
  intro p e s m below meth c T0 hx hby hml hret hlk hown hnm hZ X0 e0
  subst e0
  refine own_cast (ef_st5_6 m n0 rr b0 b1 b2 b3 b4) ?_
  refine w_iloadN X0 hx (hb hby d2_0) rfl (pc' := 1) rfl ?_
  refine w_aloadN X0 hx (hb hby d2_1) rfl rfl (pc' := 2) rfl ?_
  refine w_arrlen (i := 0) X0 hx hZ P0 rfl hk0 (hb hby d2_2) (z := (5 : Int32)) rfl (pc' := 3) rfl ?_
  refine w_icmp_ge X0 hx (hb hby d2_3) (by decide) (pcY := 20) (by decide) (pc' := 6) rfl (fun h0 => ?_) (fun h0 => absurd h0 (by decide))
  refine w_lloadN X0 hx (hb hby d2_20) rfl (pc' := 21) rfl ?_
  exact w_ret_l X0 hx hret hlk (hb hby d2_21) (by decide) (by decide) ⟨congrArg (fun q => some (Value.long q)) (show rr = sp_st5_6 rr b0 b1 b2 b3 b4 from by rw [sp_st5_6]), rfl, rfl⟩
theorem ef_st5_7 (m : MethodId) (n0 : Nat) (rr : Int64) (b0 : Int32) (b1 : Int32) (b2 : Int32) (b3 : Int32) (b4 : Int32) : entryFrame m #[.long rr, .ref (n0 + 0), .int (7 : Int32)] 4 = mkF m 0 #[.val (.long rr), .second, .val (.ref (n0 + 0)), .val (.int (7 : Int32))] [] := by first | (simp [entryFrame, mkF, argsToLocals, Value.category]; done) | rfl
def sp_st5_7 (rr : Int64) (b0 : Int32) (b1 : Int32) (b2 : Int32) (b3 : Int32) (b4 : Int32) : Int64 := rr
set_option maxRecDepth 65536 in
set_option maxHeartbeats 40000000 in
theorem rm_st5_7 (l : Launch) (Z : State) (a0 : Array Value) (hw : ∀ d ∈ tables_1, d.before a0 Z = true) (ws : List Jvm.Cond) (n0 : Nat) (rr : Int64) (b0 : Int32) (b1 : Int32) (b2 : Int32) (b3 : Int32) (b4 : Int32) (k0 : ClassId) (hk0 : IsA Z k0 .byte) (h0 : Heap) (P0 : HP n0 h0 [AC k0 [.int b0, .int b1, .int b2, .int b3, .int b4]]) :
    MetFree l (⟨"com/example/protomata/protomata/BytesUintPinLaw", "step", "(J[BI)J"⟩ : MethodName) (head1 (Jvm.Cond.code (⟨"com/example/protomata/protomata/BytesUintPinLaw", "step", "(J[BI)J"⟩ : MethodName) method_2_code 4 (some .long) :: ws) ({ frames := 0, cells := 0, slots := 0, locals := 0 } : Room)) (fun a U => a = #[.long rr, .ref (n0 + 0), .int (7 : Int32)] ∧ Z.Warmed39 U.vm ∧ U.heap = h0) (fun _ _ _ _ _ => True) (fun _ U o U' => ∃ v L, o = .returned v ∧ PureQ (.long (sp_st5_7 rr b0 b1 b2 b3 b4)) h0 v U'.heap L ∧ FrameEnd U o U' L ({ frames := 0, cells := 0, slots := 0, locals := 0 } : Room).cells ({ frames := 0, cells := 0, slots := 0, locals := 0 } : Room).slots) := by
  refine own_body pn2 ?_
  intro p e s m below meth c T0 hx hby hml hret hlk hown hnm hZ X0 e0
  subst e0
  refine own_cast (ef_st5_7 m n0 rr b0 b1 b2 b3 b4) ?_
  refine w_iloadN X0 hx (hb hby d2_0) rfl (pc' := 1) rfl ?_
  refine w_aloadN X0 hx (hb hby d2_1) rfl rfl (pc' := 2) rfl ?_
  refine w_arrlen (i := 0) X0 hx hZ P0 rfl hk0 (hb hby d2_2) (z := (5 : Int32)) rfl (pc' := 3) rfl ?_
  refine w_icmp_ge X0 hx (hb hby d2_3) (by decide) (pcY := 20) (by decide) (pc' := 6) rfl (fun h0 => ?_) (fun h0 => absurd h0 (by decide))
  refine w_lloadN X0 hx (hb hby d2_20) rfl (pc' := 21) rfl ?_
  exact w_ret_l X0 hx hret hlk (hb hby d2_21) (by decide) (by decide) ⟨congrArg (fun q => some (Value.long q)) (show rr = sp_st5_7 rr b0 b1 b2 b3 b4 from by rw [sp_st5_7]), rfl, rfl⟩
theorem ef_st6_0 (m : MethodId) (n0 : Nat) (rr : Int64) (b0 : Int32) (b1 : Int32) (b2 : Int32) (b3 : Int32) (b4 : Int32) (b5 : Int32) : entryFrame m #[.long rr, .ref (n0 + 0), .int (0 : Int32)] 4 = mkF m 0 #[.val (.long rr), .second, .val (.ref (n0 + 0)), .val (.int (0 : Int32))] [] := by first | (simp [entryFrame, mkF, argsToLocals, Value.category]; done) | rfl
def sp_st6_0 (rr : Int64) (b0 : Int32) (b1 : Int32) (b2 : Int32) (b3 : Int32) (b4 : Int32) (b5 : Int32) : Int64 := ((rr <<< (Int32.toInt64 (8 : Int32) &&& 63)) ||| ((Int32.toInt64 b0) &&& (255 : Int64)))
set_option maxRecDepth 65536 in
set_option maxHeartbeats 40000000 in
theorem rm_st6_0 (l : Launch) (Z : State) (a0 : Array Value) (hw : ∀ d ∈ tables_1, d.before a0 Z = true) (ws : List Jvm.Cond) (n0 : Nat) (rr : Int64) (b0 : Int32) (b1 : Int32) (b2 : Int32) (b3 : Int32) (b4 : Int32) (b5 : Int32) (k0 : ClassId) (hk0 : IsA Z k0 .byte) (h0 : Heap) (P0 : HP n0 h0 [AC k0 [.int b0, .int b1, .int b2, .int b3, .int b4, .int b5]]) :
    MetFree l (⟨"com/example/protomata/protomata/BytesUintPinLaw", "step", "(J[BI)J"⟩ : MethodName) (head1 (Jvm.Cond.code (⟨"com/example/protomata/protomata/BytesUintPinLaw", "step", "(J[BI)J"⟩ : MethodName) method_2_code 4 (some .long) :: ws) ({ frames := 0, cells := 0, slots := 0, locals := 0 } : Room)) (fun a U => a = #[.long rr, .ref (n0 + 0), .int (0 : Int32)] ∧ Z.Warmed39 U.vm ∧ U.heap = h0) (fun _ _ _ _ _ => True) (fun _ U o U' => ∃ v L, o = .returned v ∧ PureQ (.long (sp_st6_0 rr b0 b1 b2 b3 b4 b5)) h0 v U'.heap L ∧ FrameEnd U o U' L ({ frames := 0, cells := 0, slots := 0, locals := 0 } : Room).cells ({ frames := 0, cells := 0, slots := 0, locals := 0 } : Room).slots) := by
  refine own_body pn2 ?_
  intro p e s m below meth c T0 hx hby hml hret hlk hown hnm hZ X0 e0
  subst e0
  refine own_cast (ef_st6_0 m n0 rr b0 b1 b2 b3 b4 b5) ?_
  refine w_iloadN X0 hx (hb hby d2_0) rfl (pc' := 1) rfl ?_
  refine w_aloadN X0 hx (hb hby d2_1) rfl rfl (pc' := 2) rfl ?_
  refine w_arrlen (i := 0) X0 hx hZ P0 rfl hk0 (hb hby d2_2) (z := (6 : Int32)) rfl (pc' := 3) rfl ?_
  refine w_icmp_ge X0 hx (hb hby d2_3) (by decide) (pcY := 20) (by decide) (pc' := 6) rfl (fun h0 => absurd h0 (by decide)) (fun h0 => ?_)
  refine w_lloadN X0 hx (hb hby d2_6) rfl (pc' := 7) rfl ?_
  refine w_bipush (v := (8 : Int32)) X0 hx (hb hby d2_7) rfl (pc' := 9) rfl ?_
  refine w_lshl X0 hx (hb hby d2_9) (pc' := 10) rfl ?_
  refine w_aloadN X0 hx (hb hby d2_10) rfl rfl (pc' := 11) rfl ?_
  refine w_iloadN X0 hx (hb hby d2_11) rfl (pc' := 12) rfl ?_
  refine w_baload (i := 0) (jn := 0) (v := .int b0) X0 hx hZ P0 rfl hk0 (hb hby d2_12) (by decide) rfl (pc' := 13) rfl ?_
  refine w_i2l X0 hx (hb hby d2_13) (pc' := 14) rfl ?_
  refine w_ldc2 X0 hx (hb hby d2_14) hown (mvT hZ (wd10 hw)) (pc' := 17) rfl ?_
  refine w_land X0 hx (hb hby d2_17) (pc' := 18) rfl ?_
  refine w_lor X0 hx (hb hby d2_18) (pc' := 19) rfl ?_
  exact w_ret_l X0 hx hret hlk (hb hby d2_19) (by decide) (by decide) ⟨congrArg (fun q => some (Value.long q)) (show ((rr <<< (Int32.toInt64 (8 : Int32) &&& 63)) ||| ((Int32.toInt64 b0) &&& (255 : Int64))) = sp_st6_0 rr b0 b1 b2 b3 b4 b5 from by rw [sp_st6_0]), rfl, rfl⟩
theorem ef_st6_1 (m : MethodId) (n0 : Nat) (rr : Int64) (b0 : Int32) (b1 : Int32) (b2 : Int32) (b3 : Int32) (b4 : Int32) (b5 : Int32) : entryFrame m #[.long rr, .ref (n0 + 0), .int (1 : Int32)] 4 = mkF m 0 #[.val (.long rr), .second, .val (.ref (n0 + 0)), .val (.int (1 : Int32))] [] := by first | (simp [entryFrame, mkF, argsToLocals, Value.category]; done) | rfl
def sp_st6_1 (rr : Int64) (b0 : Int32) (b1 : Int32) (b2 : Int32) (b3 : Int32) (b4 : Int32) (b5 : Int32) : Int64 := ((rr <<< (Int32.toInt64 (8 : Int32) &&& 63)) ||| ((Int32.toInt64 b1) &&& (255 : Int64)))
set_option maxRecDepth 65536 in
set_option maxHeartbeats 40000000 in
theorem rm_st6_1 (l : Launch) (Z : State) (a0 : Array Value) (hw : ∀ d ∈ tables_1, d.before a0 Z = true) (ws : List Jvm.Cond) (n0 : Nat) (rr : Int64) (b0 : Int32) (b1 : Int32) (b2 : Int32) (b3 : Int32) (b4 : Int32) (b5 : Int32) (k0 : ClassId) (hk0 : IsA Z k0 .byte) (h0 : Heap) (P0 : HP n0 h0 [AC k0 [.int b0, .int b1, .int b2, .int b3, .int b4, .int b5]]) :
    MetFree l (⟨"com/example/protomata/protomata/BytesUintPinLaw", "step", "(J[BI)J"⟩ : MethodName) (head1 (Jvm.Cond.code (⟨"com/example/protomata/protomata/BytesUintPinLaw", "step", "(J[BI)J"⟩ : MethodName) method_2_code 4 (some .long) :: ws) ({ frames := 0, cells := 0, slots := 0, locals := 0 } : Room)) (fun a U => a = #[.long rr, .ref (n0 + 0), .int (1 : Int32)] ∧ Z.Warmed39 U.vm ∧ U.heap = h0) (fun _ _ _ _ _ => True) (fun _ U o U' => ∃ v L, o = .returned v ∧ PureQ (.long (sp_st6_1 rr b0 b1 b2 b3 b4 b5)) h0 v U'.heap L ∧ FrameEnd U o U' L ({ frames := 0, cells := 0, slots := 0, locals := 0 } : Room).cells ({ frames := 0, cells := 0, slots := 0, locals := 0 } : Room).slots) := by
  refine own_body pn2 ?_
  intro p e s m below meth c T0 hx hby hml hret hlk hown hnm hZ X0 e0
  subst e0
  refine own_cast (ef_st6_1 m n0 rr b0 b1 b2 b3 b4 b5) ?_
  refine w_iloadN X0 hx (hb hby d2_0) rfl (pc' := 1) rfl ?_
  refine w_aloadN X0 hx (hb hby d2_1) rfl rfl (pc' := 2) rfl ?_
  refine w_arrlen (i := 0) X0 hx hZ P0 rfl hk0 (hb hby d2_2) (z := (6 : Int32)) rfl (pc' := 3) rfl ?_
  refine w_icmp_ge X0 hx (hb hby d2_3) (by decide) (pcY := 20) (by decide) (pc' := 6) rfl (fun h0 => absurd h0 (by decide)) (fun h0 => ?_)
  refine w_lloadN X0 hx (hb hby d2_6) rfl (pc' := 7) rfl ?_
  refine w_bipush (v := (8 : Int32)) X0 hx (hb hby d2_7) rfl (pc' := 9) rfl ?_
  refine w_lshl X0 hx (hb hby d2_9) (pc' := 10) rfl ?_
  refine w_aloadN X0 hx (hb hby d2_10) rfl rfl (pc' := 11) rfl ?_
  refine w_iloadN X0 hx (hb hby d2_11) rfl (pc' := 12) rfl ?_
  refine w_baload (i := 0) (jn := 1) (v := .int b1) X0 hx hZ P0 rfl hk0 (hb hby d2_12) (by decide) rfl (pc' := 13) rfl ?_
  refine w_i2l X0 hx (hb hby d2_13) (pc' := 14) rfl ?_
  refine w_ldc2 X0 hx (hb hby d2_14) hown (mvT hZ (wd10 hw)) (pc' := 17) rfl ?_
  refine w_land X0 hx (hb hby d2_17) (pc' := 18) rfl ?_
  refine w_lor X0 hx (hb hby d2_18) (pc' := 19) rfl ?_
  exact w_ret_l X0 hx hret hlk (hb hby d2_19) (by decide) (by decide) ⟨congrArg (fun q => some (Value.long q)) (show ((rr <<< (Int32.toInt64 (8 : Int32) &&& 63)) ||| ((Int32.toInt64 b1) &&& (255 : Int64))) = sp_st6_1 rr b0 b1 b2 b3 b4 b5 from by rw [sp_st6_1]), rfl, rfl⟩
theorem ef_st6_2 (m : MethodId) (n0 : Nat) (rr : Int64) (b0 : Int32) (b1 : Int32) (b2 : Int32) (b3 : Int32) (b4 : Int32) (b5 : Int32) : entryFrame m #[.long rr, .ref (n0 + 0), .int (2 : Int32)] 4 = mkF m 0 #[.val (.long rr), .second, .val (.ref (n0 + 0)), .val (.int (2 : Int32))] [] := by first | (simp [entryFrame, mkF, argsToLocals, Value.category]; done) | rfl
def sp_st6_2 (rr : Int64) (b0 : Int32) (b1 : Int32) (b2 : Int32) (b3 : Int32) (b4 : Int32) (b5 : Int32) : Int64 := ((rr <<< (Int32.toInt64 (8 : Int32) &&& 63)) ||| ((Int32.toInt64 b2) &&& (255 : Int64)))
set_option maxRecDepth 65536 in
set_option maxHeartbeats 40000000 in
theorem rm_st6_2 (l : Launch) (Z : State) (a0 : Array Value) (hw : ∀ d ∈ tables_1, d.before a0 Z = true) (ws : List Jvm.Cond) (n0 : Nat) (rr : Int64) (b0 : Int32) (b1 : Int32) (b2 : Int32) (b3 : Int32) (b4 : Int32) (b5 : Int32) (k0 : ClassId) (hk0 : IsA Z k0 .byte) (h0 : Heap) (P0 : HP n0 h0 [AC k0 [.int b0, .int b1, .int b2, .int b3, .int b4, .int b5]]) :
    MetFree l (⟨"com/example/protomata/protomata/BytesUintPinLaw", "step", "(J[BI)J"⟩ : MethodName) (head1 (Jvm.Cond.code (⟨"com/example/protomata/protomata/BytesUintPinLaw", "step", "(J[BI)J"⟩ : MethodName) method_2_code 4 (some .long) :: ws) ({ frames := 0, cells := 0, slots := 0, locals := 0 } : Room)) (fun a U => a = #[.long rr, .ref (n0 + 0), .int (2 : Int32)] ∧ Z.Warmed39 U.vm ∧ U.heap = h0) (fun _ _ _ _ _ => True) (fun _ U o U' => ∃ v L, o = .returned v ∧ PureQ (.long (sp_st6_2 rr b0 b1 b2 b3 b4 b5)) h0 v U'.heap L ∧ FrameEnd U o U' L ({ frames := 0, cells := 0, slots := 0, locals := 0 } : Room).cells ({ frames := 0, cells := 0, slots := 0, locals := 0 } : Room).slots) := by
  refine own_body pn2 ?_
  intro p e s m below meth c T0 hx hby hml hret hlk hown hnm hZ X0 e0
  subst e0
  refine own_cast (ef_st6_2 m n0 rr b0 b1 b2 b3 b4 b5) ?_
  refine w_iloadN X0 hx (hb hby d2_0) rfl (pc' := 1) rfl ?_
  refine w_aloadN X0 hx (hb hby d2_1) rfl rfl (pc' := 2) rfl ?_
  refine w_arrlen (i := 0) X0 hx hZ P0 rfl hk0 (hb hby d2_2) (z := (6 : Int32)) rfl (pc' := 3) rfl ?_
  refine w_icmp_ge X0 hx (hb hby d2_3) (by decide) (pcY := 20) (by decide) (pc' := 6) rfl (fun h0 => absurd h0 (by decide)) (fun h0 => ?_)
  refine w_lloadN X0 hx (hb hby d2_6) rfl (pc' := 7) rfl ?_
  refine w_bipush (v := (8 : Int32)) X0 hx (hb hby d2_7) rfl (pc' := 9) rfl ?_
  refine w_lshl X0 hx (hb hby d2_9) (pc' := 10) rfl ?_
  refine w_aloadN X0 hx (hb hby d2_10) rfl rfl (pc' := 11) rfl ?_
  refine w_iloadN X0 hx (hb hby d2_11) rfl (pc' := 12) rfl ?_
  refine w_baload (i := 0) (jn := 2) (v := .int b2) X0 hx hZ P0 rfl hk0 (hb hby d2_12) (by decide) rfl (pc' := 13) rfl ?_
  refine w_i2l X0 hx (hb hby d2_13) (pc' := 14) rfl ?_
  refine w_ldc2 X0 hx (hb hby d2_14) hown (mvT hZ (wd10 hw)) (pc' := 17) rfl ?_
  refine w_land X0 hx (hb hby d2_17) (pc' := 18) rfl ?_
  refine w_lor X0 hx (hb hby d2_18) (pc' := 19) rfl ?_
  exact w_ret_l X0 hx hret hlk (hb hby d2_19) (by decide) (by decide) ⟨congrArg (fun q => some (Value.long q)) (show ((rr <<< (Int32.toInt64 (8 : Int32) &&& 63)) ||| ((Int32.toInt64 b2) &&& (255 : Int64))) = sp_st6_2 rr b0 b1 b2 b3 b4 b5 from by rw [sp_st6_2]), rfl, rfl⟩
theorem ef_st6_3 (m : MethodId) (n0 : Nat) (rr : Int64) (b0 : Int32) (b1 : Int32) (b2 : Int32) (b3 : Int32) (b4 : Int32) (b5 : Int32) : entryFrame m #[.long rr, .ref (n0 + 0), .int (3 : Int32)] 4 = mkF m 0 #[.val (.long rr), .second, .val (.ref (n0 + 0)), .val (.int (3 : Int32))] [] := by first | (simp [entryFrame, mkF, argsToLocals, Value.category]; done) | rfl
def sp_st6_3 (rr : Int64) (b0 : Int32) (b1 : Int32) (b2 : Int32) (b3 : Int32) (b4 : Int32) (b5 : Int32) : Int64 := ((rr <<< (Int32.toInt64 (8 : Int32) &&& 63)) ||| ((Int32.toInt64 b3) &&& (255 : Int64)))
set_option maxRecDepth 65536 in
set_option maxHeartbeats 40000000 in
theorem rm_st6_3 (l : Launch) (Z : State) (a0 : Array Value) (hw : ∀ d ∈ tables_1, d.before a0 Z = true) (ws : List Jvm.Cond) (n0 : Nat) (rr : Int64) (b0 : Int32) (b1 : Int32) (b2 : Int32) (b3 : Int32) (b4 : Int32) (b5 : Int32) (k0 : ClassId) (hk0 : IsA Z k0 .byte) (h0 : Heap) (P0 : HP n0 h0 [AC k0 [.int b0, .int b1, .int b2, .int b3, .int b4, .int b5]]) :
    MetFree l (⟨"com/example/protomata/protomata/BytesUintPinLaw", "step", "(J[BI)J"⟩ : MethodName) (head1 (Jvm.Cond.code (⟨"com/example/protomata/protomata/BytesUintPinLaw", "step", "(J[BI)J"⟩ : MethodName) method_2_code 4 (some .long) :: ws) ({ frames := 0, cells := 0, slots := 0, locals := 0 } : Room)) (fun a U => a = #[.long rr, .ref (n0 + 0), .int (3 : Int32)] ∧ Z.Warmed39 U.vm ∧ U.heap = h0) (fun _ _ _ _ _ => True) (fun _ U o U' => ∃ v L, o = .returned v ∧ PureQ (.long (sp_st6_3 rr b0 b1 b2 b3 b4 b5)) h0 v U'.heap L ∧ FrameEnd U o U' L ({ frames := 0, cells := 0, slots := 0, locals := 0 } : Room).cells ({ frames := 0, cells := 0, slots := 0, locals := 0 } : Room).slots) := by
  refine own_body pn2 ?_
  intro p e s m below meth c T0 hx hby hml hret hlk hown hnm hZ X0 e0
  subst e0
  refine own_cast (ef_st6_3 m n0 rr b0 b1 b2 b3 b4 b5) ?_
  refine w_iloadN X0 hx (hb hby d2_0) rfl (pc' := 1) rfl ?_
  refine w_aloadN X0 hx (hb hby d2_1) rfl rfl (pc' := 2) rfl ?_
  refine w_arrlen (i := 0) X0 hx hZ P0 rfl hk0 (hb hby d2_2) (z := (6 : Int32)) rfl (pc' := 3) rfl ?_
  refine w_icmp_ge X0 hx (hb hby d2_3) (by decide) (pcY := 20) (by decide) (pc' := 6) rfl (fun h0 => absurd h0 (by decide)) (fun h0 => ?_)
  refine w_lloadN X0 hx (hb hby d2_6) rfl (pc' := 7) rfl ?_
  refine w_bipush (v := (8 : Int32)) X0 hx (hb hby d2_7) rfl (pc' := 9) rfl ?_
  refine w_lshl X0 hx (hb hby d2_9) (pc' := 10) rfl ?_
  refine w_aloadN X0 hx (hb hby d2_10) rfl rfl (pc' := 11) rfl ?_
  refine w_iloadN X0 hx (hb hby d2_11) rfl (pc' := 12) rfl ?_
  refine w_baload (i := 0) (jn := 3) (v := .int b3) X0 hx hZ P0 rfl hk0 (hb hby d2_12) (by decide) rfl (pc' := 13) rfl ?_
  refine w_i2l X0 hx (hb hby d2_13) (pc' := 14) rfl ?_
  refine w_ldc2 X0 hx (hb hby d2_14) hown (mvT hZ (wd10 hw)) (pc' := 17) rfl ?_
  refine w_land X0 hx (hb hby d2_17) (pc' := 18) rfl ?_
  refine w_lor X0 hx (hb hby d2_18) (pc' := 19) rfl ?_
  exact w_ret_l X0 hx hret hlk (hb hby d2_19) (by decide) (by decide) ⟨congrArg (fun q => some (Value.long q)) (show ((rr <<< (Int32.toInt64 (8 : Int32) &&& 63)) ||| ((Int32.toInt64 b3) &&& (255 : Int64))) = sp_st6_3 rr b0 b1 b2 b3 b4 b5 from by rw [sp_st6_3]), rfl, rfl⟩
theorem ef_st6_4 (m : MethodId) (n0 : Nat) (rr : Int64) (b0 : Int32) (b1 : Int32) (b2 : Int32) (b3 : Int32) (b4 : Int32) (b5 : Int32) : entryFrame m #[.long rr, .ref (n0 + 0), .int (4 : Int32)] 4 = mkF m 0 #[.val (.long rr), .second, .val (.ref (n0 + 0)), .val (.int (4 : Int32))] [] := by first | (simp [entryFrame, mkF, argsToLocals, Value.category]; done) | rfl
def sp_st6_4 (rr : Int64) (b0 : Int32) (b1 : Int32) (b2 : Int32) (b3 : Int32) (b4 : Int32) (b5 : Int32) : Int64 := ((rr <<< (Int32.toInt64 (8 : Int32) &&& 63)) ||| ((Int32.toInt64 b4) &&& (255 : Int64)))
set_option maxRecDepth 65536 in
set_option maxHeartbeats 40000000 in
theorem rm_st6_4 (l : Launch) (Z : State) (a0 : Array Value) (hw : ∀ d ∈ tables_1, d.before a0 Z = true) (ws : List Jvm.Cond) (n0 : Nat) (rr : Int64) (b0 : Int32) (b1 : Int32) (b2 : Int32) (b3 : Int32) (b4 : Int32) (b5 : Int32) (k0 : ClassId) (hk0 : IsA Z k0 .byte) (h0 : Heap) (P0 : HP n0 h0 [AC k0 [.int b0, .int b1, .int b2, .int b3, .int b4, .int b5]]) :
    MetFree l (⟨"com/example/protomata/protomata/BytesUintPinLaw", "step", "(J[BI)J"⟩ : MethodName) (head1 (Jvm.Cond.code (⟨"com/example/protomata/protomata/BytesUintPinLaw", "step", "(J[BI)J"⟩ : MethodName) method_2_code 4 (some .long) :: ws) ({ frames := 0, cells := 0, slots := 0, locals := 0 } : Room)) (fun a U => a = #[.long rr, .ref (n0 + 0), .int (4 : Int32)] ∧ Z.Warmed39 U.vm ∧ U.heap = h0) (fun _ _ _ _ _ => True) (fun _ U o U' => ∃ v L, o = .returned v ∧ PureQ (.long (sp_st6_4 rr b0 b1 b2 b3 b4 b5)) h0 v U'.heap L ∧ FrameEnd U o U' L ({ frames := 0, cells := 0, slots := 0, locals := 0 } : Room).cells ({ frames := 0, cells := 0, slots := 0, locals := 0 } : Room).slots) := by
  refine own_body pn2 ?_
  intro p e s m below meth c T0 hx hby hml hret hlk hown hnm hZ X0 e0
  subst e0
  refine own_cast (ef_st6_4 m n0 rr b0 b1 b2 b3 b4 b5) ?_
  refine w_iloadN X0 hx (hb hby d2_0) rfl (pc' := 1) rfl ?_
  refine w_aloadN X0 hx (hb hby d2_1) rfl rfl (pc' := 2) rfl ?_
  refine w_arrlen (i := 0) X0 hx hZ P0 rfl hk0 (hb hby d2_2) (z := (6 : Int32)) rfl (pc' := 3) rfl ?_
  refine w_icmp_ge X0 hx (hb hby d2_3) (by decide) (pcY := 20) (by decide) (pc' := 6) rfl (fun h0 => absurd h0 (by decide)) (fun h0 => ?_)
  refine w_lloadN X0 hx (hb hby d2_6) rfl (pc' := 7) rfl ?_
  refine w_bipush (v := (8 : Int32)) X0 hx (hb hby d2_7) rfl (pc' := 9) rfl ?_
  refine w_lshl X0 hx (hb hby d2_9) (pc' := 10) rfl ?_
  refine w_aloadN X0 hx (hb hby d2_10) rfl rfl (pc' := 11) rfl ?_
  refine w_iloadN X0 hx (hb hby d2_11) rfl (pc' := 12) rfl ?_
  refine w_baload (i := 0) (jn := 4) (v := .int b4) X0 hx hZ P0 rfl hk0 (hb hby d2_12) (by decide) rfl (pc' := 13) rfl ?_
  refine w_i2l X0 hx (hb hby d2_13) (pc' := 14) rfl ?_
  refine w_ldc2 X0 hx (hb hby d2_14) hown (mvT hZ (wd10 hw)) (pc' := 17) rfl ?_
  refine w_land X0 hx (hb hby d2_17) (pc' := 18) rfl ?_
  refine w_lor X0 hx (hb hby d2_18) (pc' := 19) rfl ?_
  exact w_ret_l X0 hx hret hlk (hb hby d2_19) (by decide) (by decide) ⟨congrArg (fun q => some (Value.long q)) (show ((rr <<< (Int32.toInt64 (8 : Int32) &&& 63)) ||| ((Int32.toInt64 b4) &&& (255 : Int64))) = sp_st6_4 rr b0 b1 b2 b3 b4 b5 from by rw [sp_st6_4]), rfl, rfl⟩
theorem ef_st6_5 (m : MethodId) (n0 : Nat) (rr : Int64) (b0 : Int32) (b1 : Int32) (b2 : Int32) (b3 : Int32) (b4 : Int32) (b5 : Int32) : entryFrame m #[.long rr, .ref (n0 + 0), .int (5 : Int32)] 4 = mkF m 0 #[.val (.long rr), .second, .val (.ref (n0 + 0)), .val (.int (5 : Int32))] [] := by first | (simp [entryFrame, mkF, argsToLocals, Value.category]; done) | rfl
def sp_st6_5 (rr : Int64) (b0 : Int32) (b1 : Int32) (b2 : Int32) (b3 : Int32) (b4 : Int32) (b5 : Int32) : Int64 := ((rr <<< (Int32.toInt64 (8 : Int32) &&& 63)) ||| ((Int32.toInt64 b5) &&& (255 : Int64)))
set_option maxRecDepth 65536 in
set_option maxHeartbeats 40000000 in
theorem rm_st6_5 (l : Launch) (Z : State) (a0 : Array Value) (hw : ∀ d ∈ tables_1, d.before a0 Z = true) (ws : List Jvm.Cond) (n0 : Nat) (rr : Int64) (b0 : Int32) (b1 : Int32) (b2 : Int32) (b3 : Int32) (b4 : Int32) (b5 : Int32) (k0 : ClassId) (hk0 : IsA Z k0 .byte) (h0 : Heap) (P0 : HP n0 h0 [AC k0 [.int b0, .int b1, .int b2, .int b3, .int b4, .int b5]]) :
    MetFree l (⟨"com/example/protomata/protomata/BytesUintPinLaw", "step", "(J[BI)J"⟩ : MethodName) (head1 (Jvm.Cond.code (⟨"com/example/protomata/protomata/BytesUintPinLaw", "step", "(J[BI)J"⟩ : MethodName) method_2_code 4 (some .long) :: ws) ({ frames := 0, cells := 0, slots := 0, locals := 0 } : Room)) (fun a U => a = #[.long rr, .ref (n0 + 0), .int (5 : Int32)] ∧ Z.Warmed39 U.vm ∧ U.heap = h0) (fun _ _ _ _ _ => True) (fun _ U o U' => ∃ v L, o = .returned v ∧ PureQ (.long (sp_st6_5 rr b0 b1 b2 b3 b4 b5)) h0 v U'.heap L ∧ FrameEnd U o U' L ({ frames := 0, cells := 0, slots := 0, locals := 0 } : Room).cells ({ frames := 0, cells := 0, slots := 0, locals := 0 } : Room).slots) := by
  refine own_body pn2 ?_
  intro p e s m below meth c T0 hx hby hml hret hlk hown hnm hZ X0 e0
  subst e0
  refine own_cast (ef_st6_5 m n0 rr b0 b1 b2 b3 b4 b5) ?_
  refine w_iloadN X0 hx (hb hby d2_0) rfl (pc' := 1) rfl ?_
  refine w_aloadN X0 hx (hb hby d2_1) rfl rfl (pc' := 2) rfl ?_
  refine w_arrlen (i := 0) X0 hx hZ P0 rfl hk0 (hb hby d2_2) (z := (6 : Int32)) rfl (pc' := 3) rfl ?_
  refine w_icmp_ge X0 hx (hb hby d2_3) (by decide) (pcY := 20) (by decide) (pc' := 6) rfl (fun h0 => absurd h0 (by decide)) (fun h0 => ?_)
  refine w_lloadN X0 hx (hb hby d2_6) rfl (pc' := 7) rfl ?_
  refine w_bipush (v := (8 : Int32)) X0 hx (hb hby d2_7) rfl (pc' := 9) rfl ?_
  refine w_lshl X0 hx (hb hby d2_9) (pc' := 10) rfl ?_
  refine w_aloadN X0 hx (hb hby d2_10) rfl rfl (pc' := 11) rfl ?_
  refine w_iloadN X0 hx (hb hby d2_11) rfl (pc' := 12) rfl ?_
  refine w_baload (i := 0) (jn := 5) (v := .int b5) X0 hx hZ P0 rfl hk0 (hb hby d2_12) (by decide) rfl (pc' := 13) rfl ?_
  refine w_i2l X0 hx (hb hby d2_13) (pc' := 14) rfl ?_
  refine w_ldc2 X0 hx (hb hby d2_14) hown (mvT hZ (wd10 hw)) (pc' := 17) rfl ?_
  refine w_land X0 hx (hb hby d2_17) (pc' := 18) rfl ?_
  refine w_lor X0 hx (hb hby d2_18) (pc' := 19) rfl ?_
  exact w_ret_l X0 hx hret hlk (hb hby d2_19) (by decide) (by decide) ⟨congrArg (fun q => some (Value.long q)) (show ((rr <<< (Int32.toInt64 (8 : Int32) &&& 63)) ||| ((Int32.toInt64 b5) &&& (255 : Int64))) = sp_st6_5 rr b0 b1 b2 b3 b4 b5 from by rw [sp_st6_5]), rfl, rfl⟩
theorem ef_st6_6 (m : MethodId) (n0 : Nat) (rr : Int64) (b0 : Int32) (b1 : Int32) (b2 : Int32) (b3 : Int32) (b4 : Int32) (b5 : Int32) : entryFrame m #[.long rr, .ref (n0 + 0), .int (6 : Int32)] 4 = mkF m 0 #[.val (.long rr), .second, .val (.ref (n0 + 0)), .val (.int (6 : Int32))] [] := by first | (simp [entryFrame, mkF, argsToLocals, Value.category]; done) | rfl
def sp_st6_6 (rr : Int64) (b0 : Int32) (b1 : Int32) (b2 : Int32) (b3 : Int32) (b4 : Int32) (b5 : Int32) : Int64 := rr
set_option maxRecDepth 65536 in
set_option maxHeartbeats 40000000 in
theorem rm_st6_6 (l : Launch) (Z : State) (a0 : Array Value) (hw : ∀ d ∈ tables_1, d.before a0 Z = true) (ws : List Jvm.Cond) (n0 : Nat) (rr : Int64) (b0 : Int32) (b1 : Int32) (b2 : Int32) (b3 : Int32) (b4 : Int32) (b5 : Int32) (k0 : ClassId) (hk0 : IsA Z k0 .byte) (h0 : Heap) (P0 : HP n0 h0 [AC k0 [.int b0, .int b1, .int b2, .int b3, .int b4, .int b5]]) :
    MetFree l (⟨"com/example/protomata/protomata/BytesUintPinLaw", "step", "(J[BI)J"⟩ : MethodName) (head1 (Jvm.Cond.code (⟨"com/example/protomata/protomata/BytesUintPinLaw", "step", "(J[BI)J"⟩ : MethodName) method_2_code 4 (some .long) :: ws) ({ frames := 0, cells := 0, slots := 0, locals := 0 } : Room)) (fun a U => a = #[.long rr, .ref (n0 + 0), .int (6 : Int32)] ∧ Z.Warmed39 U.vm ∧ U.heap = h0) (fun _ _ _ _ _ => True) (fun _ U o U' => ∃ v L, o = .returned v ∧ PureQ (.long (sp_st6_6 rr b0 b1 b2 b3 b4 b5)) h0 v U'.heap L ∧ FrameEnd U o U' L ({ frames := 0, cells := 0, slots := 0, locals := 0 } : Room).cells ({ frames := 0, cells := 0, slots := 0, locals := 0 } : Room).slots) := by
  refine own_body pn2 ?_
  intro p e s m below meth c T0 hx hby hml hret hlk hown hnm hZ X0 e0
  subst e0
  refine own_cast (ef_st6_6 m n0 rr b0 b1 b2 b3 b4 b5) ?_
  refine w_iloadN X0 hx (hb hby d2_0) rfl (pc' := 1) rfl ?_
  refine w_aloadN X0 hx (hb hby d2_1) rfl rfl (pc' := 2) rfl ?_
  refine w_arrlen (i := 0) X0 hx hZ P0 rfl hk0 (hb hby d2_2) (z := (6 : Int32)) rfl (pc' := 3) rfl ?_
  refine w_icmp_ge X0 hx (hb hby d2_3) (by decide) (pcY := 20) (by decide) (pc' := 6) rfl (fun h0 => ?_) (fun h0 => absurd h0 (by decide))
  refine w_lloadN X0 hx (hb hby d2_20) rfl (pc' := 21) rfl ?_
  exact w_ret_l X0 hx hret hlk (hb hby d2_21) (by decide) (by decide) ⟨congrArg (fun q => some (Value.long q)) (show rr = sp_st6_6 rr b0 b1 b2 b3 b4 b5 from by rw [sp_st6_6]), rfl, rfl⟩
theorem ef_st6_7 (m : MethodId) (n0 : Nat) (rr : Int64) (b0 : Int32) (b1 : Int32) (b2 : Int32) (b3 : Int32) (b4 : Int32) (b5 : Int32) : entryFrame m #[.long rr, .ref (n0 + 0), .int (7 : Int32)] 4 = mkF m 0 #[.val (.long rr), .second, .val (.ref (n0 + 0)), .val (.int (7 : Int32))] [] := by first | (simp [entryFrame, mkF, argsToLocals, Value.category]; done) | rfl
def sp_st6_7 (rr : Int64) (b0 : Int32) (b1 : Int32) (b2 : Int32) (b3 : Int32) (b4 : Int32) (b5 : Int32) : Int64 := rr
set_option maxRecDepth 65536 in
set_option maxHeartbeats 40000000 in
theorem rm_st6_7 (l : Launch) (Z : State) (a0 : Array Value) (hw : ∀ d ∈ tables_1, d.before a0 Z = true) (ws : List Jvm.Cond) (n0 : Nat) (rr : Int64) (b0 : Int32) (b1 : Int32) (b2 : Int32) (b3 : Int32) (b4 : Int32) (b5 : Int32) (k0 : ClassId) (hk0 : IsA Z k0 .byte) (h0 : Heap) (P0 : HP n0 h0 [AC k0 [.int b0, .int b1, .int b2, .int b3, .int b4, .int b5]]) :
    MetFree l (⟨"com/example/protomata/protomata/BytesUintPinLaw", "step", "(J[BI)J"⟩ : MethodName) (head1 (Jvm.Cond.code (⟨"com/example/protomata/protomata/BytesUintPinLaw", "step", "(J[BI)J"⟩ : MethodName) method_2_code 4 (some .long) :: ws) ({ frames := 0, cells := 0, slots := 0, locals := 0 } : Room)) (fun a U => a = #[.long rr, .ref (n0 + 0), .int (7 : Int32)] ∧ Z.Warmed39 U.vm ∧ U.heap = h0) (fun _ _ _ _ _ => True) (fun _ U o U' => ∃ v L, o = .returned v ∧ PureQ (.long (sp_st6_7 rr b0 b1 b2 b3 b4 b5)) h0 v U'.heap L ∧ FrameEnd U o U' L ({ frames := 0, cells := 0, slots := 0, locals := 0 } : Room).cells ({ frames := 0, cells := 0, slots := 0, locals := 0 } : Room).slots) := by
  refine own_body pn2 ?_
  intro p e s m below meth c T0 hx hby hml hret hlk hown hnm hZ X0 e0
  subst e0
  refine own_cast (ef_st6_7 m n0 rr b0 b1 b2 b3 b4 b5) ?_
  refine w_iloadN X0 hx (hb hby d2_0) rfl (pc' := 1) rfl ?_
  refine w_aloadN X0 hx (hb hby d2_1) rfl rfl (pc' := 2) rfl ?_
  refine w_arrlen (i := 0) X0 hx hZ P0 rfl hk0 (hb hby d2_2) (z := (6 : Int32)) rfl (pc' := 3) rfl ?_
  refine w_icmp_ge X0 hx (hb hby d2_3) (by decide) (pcY := 20) (by decide) (pc' := 6) rfl (fun h0 => ?_) (fun h0 => absurd h0 (by decide))
  refine w_lloadN X0 hx (hb hby d2_20) rfl (pc' := 21) rfl ?_
  exact w_ret_l X0 hx hret hlk (hb hby d2_21) (by decide) (by decide) ⟨congrArg (fun q => some (Value.long q)) (show rr = sp_st6_7 rr b0 b1 b2 b3 b4 b5 from by rw [sp_st6_7]), rfl, rfl⟩
theorem ef_st7_0 (m : MethodId) (n0 : Nat) (rr : Int64) (b0 : Int32) (b1 : Int32) (b2 : Int32) (b3 : Int32) (b4 : Int32) (b5 : Int32) (b6 : Int32) : entryFrame m #[.long rr, .ref (n0 + 0), .int (0 : Int32)] 4 = mkF m 0 #[.val (.long rr), .second, .val (.ref (n0 + 0)), .val (.int (0 : Int32))] [] := by first | (simp [entryFrame, mkF, argsToLocals, Value.category]; done) | rfl
def sp_st7_0 (rr : Int64) (b0 : Int32) (b1 : Int32) (b2 : Int32) (b3 : Int32) (b4 : Int32) (b5 : Int32) (b6 : Int32) : Int64 := ((rr <<< (Int32.toInt64 (8 : Int32) &&& 63)) ||| ((Int32.toInt64 b0) &&& (255 : Int64)))
set_option maxRecDepth 65536 in
set_option maxHeartbeats 40000000 in
theorem rm_st7_0 (l : Launch) (Z : State) (a0 : Array Value) (hw : ∀ d ∈ tables_1, d.before a0 Z = true) (ws : List Jvm.Cond) (n0 : Nat) (rr : Int64) (b0 : Int32) (b1 : Int32) (b2 : Int32) (b3 : Int32) (b4 : Int32) (b5 : Int32) (b6 : Int32) (k0 : ClassId) (hk0 : IsA Z k0 .byte) (h0 : Heap) (P0 : HP n0 h0 [AC k0 [.int b0, .int b1, .int b2, .int b3, .int b4, .int b5, .int b6]]) :
    MetFree l (⟨"com/example/protomata/protomata/BytesUintPinLaw", "step", "(J[BI)J"⟩ : MethodName) (head1 (Jvm.Cond.code (⟨"com/example/protomata/protomata/BytesUintPinLaw", "step", "(J[BI)J"⟩ : MethodName) method_2_code 4 (some .long) :: ws) ({ frames := 0, cells := 0, slots := 0, locals := 0 } : Room)) (fun a U => a = #[.long rr, .ref (n0 + 0), .int (0 : Int32)] ∧ Z.Warmed39 U.vm ∧ U.heap = h0) (fun _ _ _ _ _ => True) (fun _ U o U' => ∃ v L, o = .returned v ∧ PureQ (.long (sp_st7_0 rr b0 b1 b2 b3 b4 b5 b6)) h0 v U'.heap L ∧ FrameEnd U o U' L ({ frames := 0, cells := 0, slots := 0, locals := 0 } : Room).cells ({ frames := 0, cells := 0, slots := 0, locals := 0 } : Room).slots) := by
  refine own_body pn2 ?_
  intro p e s m below meth c T0 hx hby hml hret hlk hown hnm hZ X0 e0
  subst e0
  refine own_cast (ef_st7_0 m n0 rr b0 b1 b2 b3 b4 b5 b6) ?_
  refine w_iloadN X0 hx (hb hby d2_0) rfl (pc' := 1) rfl ?_
  refine w_aloadN X0 hx (hb hby d2_1) rfl rfl (pc' := 2) rfl ?_
  refine w_arrlen (i := 0) X0 hx hZ P0 rfl hk0 (hb hby d2_2) (z := (7 : Int32)) rfl (pc' := 3) rfl ?_
  refine w_icmp_ge X0 hx (hb hby d2_3) (by decide) (pcY := 20) (by decide) (pc' := 6) rfl (fun h0 => absurd h0 (by decide)) (fun h0 => ?_)
  refine w_lloadN X0 hx (hb hby d2_6) rfl (pc' := 7) rfl ?_
  refine w_bipush (v := (8 : Int32)) X0 hx (hb hby d2_7) rfl (pc' := 9) rfl ?_
  refine w_lshl X0 hx (hb hby d2_9) (pc' := 10) rfl ?_
  refine w_aloadN X0 hx (hb hby d2_10) rfl rfl (pc' := 11) rfl ?_
  refine w_iloadN X0 hx (hb hby d2_11) rfl (pc' := 12) rfl ?_
  refine w_baload (i := 0) (jn := 0) (v := .int b0) X0 hx hZ P0 rfl hk0 (hb hby d2_12) (by decide) rfl (pc' := 13) rfl ?_
  refine w_i2l X0 hx (hb hby d2_13) (pc' := 14) rfl ?_
  refine w_ldc2 X0 hx (hb hby d2_14) hown (mvT hZ (wd10 hw)) (pc' := 17) rfl ?_
  refine w_land X0 hx (hb hby d2_17) (pc' := 18) rfl ?_
  refine w_lor X0 hx (hb hby d2_18) (pc' := 19) rfl ?_
  exact w_ret_l X0 hx hret hlk (hb hby d2_19) (by decide) (by decide) ⟨congrArg (fun q => some (Value.long q)) (show ((rr <<< (Int32.toInt64 (8 : Int32) &&& 63)) ||| ((Int32.toInt64 b0) &&& (255 : Int64))) = sp_st7_0 rr b0 b1 b2 b3 b4 b5 b6 from by rw [sp_st7_0]), rfl, rfl⟩
theorem ef_st7_1 (m : MethodId) (n0 : Nat) (rr : Int64) (b0 : Int32) (b1 : Int32) (b2 : Int32) (b3 : Int32) (b4 : Int32) (b5 : Int32) (b6 : Int32) : entryFrame m #[.long rr, .ref (n0 + 0), .int (1 : Int32)] 4 = mkF m 0 #[.val (.long rr), .second, .val (.ref (n0 + 0)), .val (.int (1 : Int32))] [] := by first | (simp [entryFrame, mkF, argsToLocals, Value.category]; done) | rfl
def sp_st7_1 (rr : Int64) (b0 : Int32) (b1 : Int32) (b2 : Int32) (b3 : Int32) (b4 : Int32) (b5 : Int32) (b6 : Int32) : Int64 := ((rr <<< (Int32.toInt64 (8 : Int32) &&& 63)) ||| ((Int32.toInt64 b1) &&& (255 : Int64)))
set_option maxRecDepth 65536 in
set_option maxHeartbeats 40000000 in
theorem rm_st7_1 (l : Launch) (Z : State) (a0 : Array Value) (hw : ∀ d ∈ tables_1, d.before a0 Z = true) (ws : List Jvm.Cond) (n0 : Nat) (rr : Int64) (b0 : Int32) (b1 : Int32) (b2 : Int32) (b3 : Int32) (b4 : Int32) (b5 : Int32) (b6 : Int32) (k0 : ClassId) (hk0 : IsA Z k0 .byte) (h0 : Heap) (P0 : HP n0 h0 [AC k0 [.int b0, .int b1, .int b2, .int b3, .int b4, .int b5, .int b6]]) :
    MetFree l (⟨"com/example/protomata/protomata/BytesUintPinLaw", "step", "(J[BI)J"⟩ : MethodName) (head1 (Jvm.Cond.code (⟨"com/example/protomata/protomata/BytesUintPinLaw", "step", "(J[BI)J"⟩ : MethodName) method_2_code 4 (some .long) :: ws) ({ frames := 0, cells := 0, slots := 0, locals := 0 } : Room)) (fun a U => a = #[.long rr, .ref (n0 + 0), .int (1 : Int32)] ∧ Z.Warmed39 U.vm ∧ U.heap = h0) (fun _ _ _ _ _ => True) (fun _ U o U' => ∃ v L, o = .returned v ∧ PureQ (.long (sp_st7_1 rr b0 b1 b2 b3 b4 b5 b6)) h0 v U'.heap L ∧ FrameEnd U o U' L ({ frames := 0, cells := 0, slots := 0, locals := 0 } : Room).cells ({ frames := 0, cells := 0, slots := 0, locals := 0 } : Room).slots) := by
  refine own_body pn2 ?_
  intro p e s m below meth c T0 hx hby hml hret hlk hown hnm hZ X0 e0
  subst e0
  refine own_cast (ef_st7_1 m n0 rr b0 b1 b2 b3 b4 b5 b6) ?_
  refine w_iloadN X0 hx (hb hby d2_0) rfl (pc' := 1) rfl ?_
  refine w_aloadN X0 hx (hb hby d2_1) rfl rfl (pc' := 2) rfl ?_
  refine w_arrlen (i := 0) X0 hx hZ P0 rfl hk0 (hb hby d2_2) (z := (7 : Int32)) rfl (pc' := 3) rfl ?_
  refine w_icmp_ge X0 hx (hb hby d2_3) (by decide) (pcY := 20) (by decide) (pc' := 6) rfl (fun h0 => absurd h0 (by decide)) (fun h0 => ?_)
  refine w_lloadN X0 hx (hb hby d2_6) rfl (pc' := 7) rfl ?_
  refine w_bipush (v := (8 : Int32)) X0 hx (hb hby d2_7) rfl (pc' := 9) rfl ?_
  refine w_lshl X0 hx (hb hby d2_9) (pc' := 10) rfl ?_
  refine w_aloadN X0 hx (hb hby d2_10) rfl rfl (pc' := 11) rfl ?_
  refine w_iloadN X0 hx (hb hby d2_11) rfl (pc' := 12) rfl ?_
  refine w_baload (i := 0) (jn := 1) (v := .int b1) X0 hx hZ P0 rfl hk0 (hb hby d2_12) (by decide) rfl (pc' := 13) rfl ?_
  refine w_i2l X0 hx (hb hby d2_13) (pc' := 14) rfl ?_
  refine w_ldc2 X0 hx (hb hby d2_14) hown (mvT hZ (wd10 hw)) (pc' := 17) rfl ?_
  refine w_land X0 hx (hb hby d2_17) (pc' := 18) rfl ?_
  refine w_lor X0 hx (hb hby d2_18) (pc' := 19) rfl ?_
  exact w_ret_l X0 hx hret hlk (hb hby d2_19) (by decide) (by decide) ⟨congrArg (fun q => some (Value.long q)) (show ((rr <<< (Int32.toInt64 (8 : Int32) &&& 63)) ||| ((Int32.toInt64 b1) &&& (255 : Int64))) = sp_st7_1 rr b0 b1 b2 b3 b4 b5 b6 from by rw [sp_st7_1]), rfl, rfl⟩
theorem ef_st7_2 (m : MethodId) (n0 : Nat) (rr : Int64) (b0 : Int32) (b1 : Int32) (b2 : Int32) (b3 : Int32) (b4 : Int32) (b5 : Int32) (b6 : Int32) : entryFrame m #[.long rr, .ref (n0 + 0), .int (2 : Int32)] 4 = mkF m 0 #[.val (.long rr), .second, .val (.ref (n0 + 0)), .val (.int (2 : Int32))] [] := by first | (simp [entryFrame, mkF, argsToLocals, Value.category]; done) | rfl
def sp_st7_2 (rr : Int64) (b0 : Int32) (b1 : Int32) (b2 : Int32) (b3 : Int32) (b4 : Int32) (b5 : Int32) (b6 : Int32) : Int64 := ((rr <<< (Int32.toInt64 (8 : Int32) &&& 63)) ||| ((Int32.toInt64 b2) &&& (255 : Int64)))
set_option maxRecDepth 65536 in
set_option maxHeartbeats 40000000 in
theorem rm_st7_2 (l : Launch) (Z : State) (a0 : Array Value) (hw : ∀ d ∈ tables_1, d.before a0 Z = true) (ws : List Jvm.Cond) (n0 : Nat) (rr : Int64) (b0 : Int32) (b1 : Int32) (b2 : Int32) (b3 : Int32) (b4 : Int32) (b5 : Int32) (b6 : Int32) (k0 : ClassId) (hk0 : IsA Z k0 .byte) (h0 : Heap) (P0 : HP n0 h0 [AC k0 [.int b0, .int b1, .int b2, .int b3, .int b4, .int b5, .int b6]]) :
    MetFree l (⟨"com/example/protomata/protomata/BytesUintPinLaw", "step", "(J[BI)J"⟩ : MethodName) (head1 (Jvm.Cond.code (⟨"com/example/protomata/protomata/BytesUintPinLaw", "step", "(J[BI)J"⟩ : MethodName) method_2_code 4 (some .long) :: ws) ({ frames := 0, cells := 0, slots := 0, locals := 0 } : Room)) (fun a U => a = #[.long rr, .ref (n0 + 0), .int (2 : Int32)] ∧ Z.Warmed39 U.vm ∧ U.heap = h0) (fun _ _ _ _ _ => True) (fun _ U o U' => ∃ v L, o = .returned v ∧ PureQ (.long (sp_st7_2 rr b0 b1 b2 b3 b4 b5 b6)) h0 v U'.heap L ∧ FrameEnd U o U' L ({ frames := 0, cells := 0, slots := 0, locals := 0 } : Room).cells ({ frames := 0, cells := 0, slots := 0, locals := 0 } : Room).slots) := by
  refine own_body pn2 ?_
  intro p e s m below meth c T0 hx hby hml hret hlk hown hnm hZ X0 e0
  subst e0
  refine own_cast (ef_st7_2 m n0 rr b0 b1 b2 b3 b4 b5 b6) ?_
  refine w_iloadN X0 hx (hb hby d2_0) rfl (pc' := 1) rfl ?_
  refine w_aloadN X0 hx (hb hby d2_1) rfl rfl (pc' := 2) rfl ?_
  refine w_arrlen (i := 0) X0 hx hZ P0 rfl hk0 (hb hby d2_2) (z := (7 : Int32)) rfl (pc' := 3) rfl ?_
  refine w_icmp_ge X0 hx (hb hby d2_3) (by decide) (pcY := 20) (by decide) (pc' := 6) rfl (fun h0 => absurd h0 (by decide)) (fun h0 => ?_)
  refine w_lloadN X0 hx (hb hby d2_6) rfl (pc' := 7) rfl ?_
  refine w_bipush (v := (8 : Int32)) X0 hx (hb hby d2_7) rfl (pc' := 9) rfl ?_
  refine w_lshl X0 hx (hb hby d2_9) (pc' := 10) rfl ?_
  refine w_aloadN X0 hx (hb hby d2_10) rfl rfl (pc' := 11) rfl ?_
  refine w_iloadN X0 hx (hb hby d2_11) rfl (pc' := 12) rfl ?_
  refine w_baload (i := 0) (jn := 2) (v := .int b2) X0 hx hZ P0 rfl hk0 (hb hby d2_12) (by decide) rfl (pc' := 13) rfl ?_
  refine w_i2l X0 hx (hb hby d2_13) (pc' := 14) rfl ?_
  refine w_ldc2 X0 hx (hb hby d2_14) hown (mvT hZ (wd10 hw)) (pc' := 17) rfl ?_
  refine w_land X0 hx (hb hby d2_17) (pc' := 18) rfl ?_
  refine w_lor X0 hx (hb hby d2_18) (pc' := 19) rfl ?_
  exact w_ret_l X0 hx hret hlk (hb hby d2_19) (by decide) (by decide) ⟨congrArg (fun q => some (Value.long q)) (show ((rr <<< (Int32.toInt64 (8 : Int32) &&& 63)) ||| ((Int32.toInt64 b2) &&& (255 : Int64))) = sp_st7_2 rr b0 b1 b2 b3 b4 b5 b6 from by rw [sp_st7_2]), rfl, rfl⟩
theorem ef_st7_3 (m : MethodId) (n0 : Nat) (rr : Int64) (b0 : Int32) (b1 : Int32) (b2 : Int32) (b3 : Int32) (b4 : Int32) (b5 : Int32) (b6 : Int32) : entryFrame m #[.long rr, .ref (n0 + 0), .int (3 : Int32)] 4 = mkF m 0 #[.val (.long rr), .second, .val (.ref (n0 + 0)), .val (.int (3 : Int32))] [] := by first | (simp [entryFrame, mkF, argsToLocals, Value.category]; done) | rfl
def sp_st7_3 (rr : Int64) (b0 : Int32) (b1 : Int32) (b2 : Int32) (b3 : Int32) (b4 : Int32) (b5 : Int32) (b6 : Int32) : Int64 := ((rr <<< (Int32.toInt64 (8 : Int32) &&& 63)) ||| ((Int32.toInt64 b3) &&& (255 : Int64)))
set_option maxRecDepth 65536 in
set_option maxHeartbeats 40000000 in
theorem rm_st7_3 (l : Launch) (Z : State) (a0 : Array Value) (hw : ∀ d ∈ tables_1, d.before a0 Z = true) (ws : List Jvm.Cond) (n0 : Nat) (rr : Int64) (b0 : Int32) (b1 : Int32) (b2 : Int32) (b3 : Int32) (b4 : Int32) (b5 : Int32) (b6 : Int32) (k0 : ClassId) (hk0 : IsA Z k0 .byte) (h0 : Heap) (P0 : HP n0 h0 [AC k0 [.int b0, .int b1, .int b2, .int b3, .int b4, .int b5, .int b6]]) :
    MetFree l (⟨"com/example/protomata/protomata/BytesUintPinLaw", "step", "(J[BI)J"⟩ : MethodName) (head1 (Jvm.Cond.code (⟨"com/example/protomata/protomata/BytesUintPinLaw", "step", "(J[BI)J"⟩ : MethodName) method_2_code 4 (some .long) :: ws) ({ frames := 0, cells := 0, slots := 0, locals := 0 } : Room)) (fun a U => a = #[.long rr, .ref (n0 + 0), .int (3 : Int32)] ∧ Z.Warmed39 U.vm ∧ U.heap = h0) (fun _ _ _ _ _ => True) (fun _ U o U' => ∃ v L, o = .returned v ∧ PureQ (.long (sp_st7_3 rr b0 b1 b2 b3 b4 b5 b6)) h0 v U'.heap L ∧ FrameEnd U o U' L ({ frames := 0, cells := 0, slots := 0, locals := 0 } : Room).cells ({ frames := 0, cells := 0, slots := 0, locals := 0 } : Room).slots) := by
  refine own_body pn2 ?_
  intro p e s m below meth c T0 hx hby hml hret hlk hown hnm hZ X0 e0
  subst e0
  refine own_cast (ef_st7_3 m n0 rr b0 b1 b2 b3 b4 b5 b6) ?_
  refine w_iloadN X0 hx (hb hby d2_0) rfl (pc' := 1) rfl ?_
  refine w_aloadN X0 hx (hb hby d2_1) rfl rfl (pc' := 2) rfl ?_
  refine w_arrlen (i := 0) X0 hx hZ P0 rfl hk0 (hb hby d2_2) (z := (7 : Int32)) rfl (pc' := 3) rfl ?_
  refine w_icmp_ge X0 hx (hb hby d2_3) (by decide) (pcY := 20) (by decide) (pc' := 6) rfl (fun h0 => absurd h0 (by decide)) (fun h0 => ?_)
  refine w_lloadN X0 hx (hb hby d2_6) rfl (pc' := 7) rfl ?_
  refine w_bipush (v := (8 : Int32)) X0 hx (hb hby d2_7) rfl (pc' := 9) rfl ?_
  refine w_lshl X0 hx (hb hby d2_9) (pc' := 10) rfl ?_
  refine w_aloadN X0 hx (hb hby d2_10) rfl rfl (pc' := 11) rfl ?_
  refine w_iloadN X0 hx (hb hby d2_11) rfl (pc' := 12) rfl ?_
  refine w_baload (i := 0) (jn := 3) (v := .int b3) X0 hx hZ P0 rfl hk0 (hb hby d2_12) (by decide) rfl (pc' := 13) rfl ?_
  refine w_i2l X0 hx (hb hby d2_13) (pc' := 14) rfl ?_
  refine w_ldc2 X0 hx (hb hby d2_14) hown (mvT hZ (wd10 hw)) (pc' := 17) rfl ?_
  refine w_land X0 hx (hb hby d2_17) (pc' := 18) rfl ?_
  refine w_lor X0 hx (hb hby d2_18) (pc' := 19) rfl ?_
  exact w_ret_l X0 hx hret hlk (hb hby d2_19) (by decide) (by decide) ⟨congrArg (fun q => some (Value.long q)) (show ((rr <<< (Int32.toInt64 (8 : Int32) &&& 63)) ||| ((Int32.toInt64 b3) &&& (255 : Int64))) = sp_st7_3 rr b0 b1 b2 b3 b4 b5 b6 from by rw [sp_st7_3]), rfl, rfl⟩
theorem ef_st7_4 (m : MethodId) (n0 : Nat) (rr : Int64) (b0 : Int32) (b1 : Int32) (b2 : Int32) (b3 : Int32) (b4 : Int32) (b5 : Int32) (b6 : Int32) : entryFrame m #[.long rr, .ref (n0 + 0), .int (4 : Int32)] 4 = mkF m 0 #[.val (.long rr), .second, .val (.ref (n0 + 0)), .val (.int (4 : Int32))] [] := by first | (simp [entryFrame, mkF, argsToLocals, Value.category]; done) | rfl
def sp_st7_4 (rr : Int64) (b0 : Int32) (b1 : Int32) (b2 : Int32) (b3 : Int32) (b4 : Int32) (b5 : Int32) (b6 : Int32) : Int64 := ((rr <<< (Int32.toInt64 (8 : Int32) &&& 63)) ||| ((Int32.toInt64 b4) &&& (255 : Int64)))
set_option maxRecDepth 65536 in
set_option maxHeartbeats 40000000 in
theorem rm_st7_4 (l : Launch) (Z : State) (a0 : Array Value) (hw : ∀ d ∈ tables_1, d.before a0 Z = true) (ws : List Jvm.Cond) (n0 : Nat) (rr : Int64) (b0 : Int32) (b1 : Int32) (b2 : Int32) (b3 : Int32) (b4 : Int32) (b5 : Int32) (b6 : Int32) (k0 : ClassId) (hk0 : IsA Z k0 .byte) (h0 : Heap) (P0 : HP n0 h0 [AC k0 [.int b0, .int b1, .int b2, .int b3, .int b4, .int b5, .int b6]]) :
    MetFree l (⟨"com/example/protomata/protomata/BytesUintPinLaw", "step", "(J[BI)J"⟩ : MethodName) (head1 (Jvm.Cond.code (⟨"com/example/protomata/protomata/BytesUintPinLaw", "step", "(J[BI)J"⟩ : MethodName) method_2_code 4 (some .long) :: ws) ({ frames := 0, cells := 0, slots := 0, locals := 0 } : Room)) (fun a U => a = #[.long rr, .ref (n0 + 0), .int (4 : Int32)] ∧ Z.Warmed39 U.vm ∧ U.heap = h0) (fun _ _ _ _ _ => True) (fun _ U o U' => ∃ v L, o = .returned v ∧ PureQ (.long (sp_st7_4 rr b0 b1 b2 b3 b4 b5 b6)) h0 v U'.heap L ∧ FrameEnd U o U' L ({ frames := 0, cells := 0, slots := 0, locals := 0 } : Room).cells ({ frames := 0, cells := 0, slots := 0, locals := 0 } : Room).slots) := by
  refine own_body pn2 ?_
  intro p e s m below meth c T0 hx hby hml hret hlk hown hnm hZ X0 e0
  subst e0
  refine own_cast (ef_st7_4 m n0 rr b0 b1 b2 b3 b4 b5 b6) ?_
  refine w_iloadN X0 hx (hb hby d2_0) rfl (pc' := 1) rfl ?_
  refine w_aloadN X0 hx (hb hby d2_1) rfl rfl (pc' := 2) rfl ?_
  refine w_arrlen (i := 0) X0 hx hZ P0 rfl hk0 (hb hby d2_2) (z := (7 : Int32)) rfl (pc' := 3) rfl ?_
  refine w_icmp_ge X0 hx (hb hby d2_3) (by decide) (pcY := 20) (by decide) (pc' := 6) rfl (fun h0 => absurd h0 (by decide)) (fun h0 => ?_)
  refine w_lloadN X0 hx (hb hby d2_6) rfl (pc' := 7) rfl ?_
  refine w_bipush (v := (8 : Int32)) X0 hx (hb hby d2_7) rfl (pc' := 9) rfl ?_
  refine w_lshl X0 hx (hb hby d2_9) (pc' := 10) rfl ?_
  refine w_aloadN X0 hx (hb hby d2_10) rfl rfl (pc' := 11) rfl ?_
  refine w_iloadN X0 hx (hb hby d2_11) rfl (pc' := 12) rfl ?_
  refine w_baload (i := 0) (jn := 4) (v := .int b4) X0 hx hZ P0 rfl hk0 (hb hby d2_12) (by decide) rfl (pc' := 13) rfl ?_
  refine w_i2l X0 hx (hb hby d2_13) (pc' := 14) rfl ?_
  refine w_ldc2 X0 hx (hb hby d2_14) hown (mvT hZ (wd10 hw)) (pc' := 17) rfl ?_
  refine w_land X0 hx (hb hby d2_17) (pc' := 18) rfl ?_
  refine w_lor X0 hx (hb hby d2_18) (pc' := 19) rfl ?_
  exact w_ret_l X0 hx hret hlk (hb hby d2_19) (by decide) (by decide) ⟨congrArg (fun q => some (Value.long q)) (show ((rr <<< (Int32.toInt64 (8 : Int32) &&& 63)) ||| ((Int32.toInt64 b4) &&& (255 : Int64))) = sp_st7_4 rr b0 b1 b2 b3 b4 b5 b6 from by rw [sp_st7_4]), rfl, rfl⟩
theorem ef_st7_5 (m : MethodId) (n0 : Nat) (rr : Int64) (b0 : Int32) (b1 : Int32) (b2 : Int32) (b3 : Int32) (b4 : Int32) (b5 : Int32) (b6 : Int32) : entryFrame m #[.long rr, .ref (n0 + 0), .int (5 : Int32)] 4 = mkF m 0 #[.val (.long rr), .second, .val (.ref (n0 + 0)), .val (.int (5 : Int32))] [] := by first | (simp [entryFrame, mkF, argsToLocals, Value.category]; done) | rfl
def sp_st7_5 (rr : Int64) (b0 : Int32) (b1 : Int32) (b2 : Int32) (b3 : Int32) (b4 : Int32) (b5 : Int32) (b6 : Int32) : Int64 := ((rr <<< (Int32.toInt64 (8 : Int32) &&& 63)) ||| ((Int32.toInt64 b5) &&& (255 : Int64)))
set_option maxRecDepth 65536 in
set_option maxHeartbeats 40000000 in
theorem rm_st7_5 (l : Launch) (Z : State) (a0 : Array Value) (hw : ∀ d ∈ tables_1, d.before a0 Z = true) (ws : List Jvm.Cond) (n0 : Nat) (rr : Int64) (b0 : Int32) (b1 : Int32) (b2 : Int32) (b3 : Int32) (b4 : Int32) (b5 : Int32) (b6 : Int32) (k0 : ClassId) (hk0 : IsA Z k0 .byte) (h0 : Heap) (P0 : HP n0 h0 [AC k0 [.int b0, .int b1, .int b2, .int b3, .int b4, .int b5, .int b6]]) :
    MetFree l (⟨"com/example/protomata/protomata/BytesUintPinLaw", "step", "(J[BI)J"⟩ : MethodName) (head1 (Jvm.Cond.code (⟨"com/example/protomata/protomata/BytesUintPinLaw", "step", "(J[BI)J"⟩ : MethodName) method_2_code 4 (some .long) :: ws) ({ frames := 0, cells := 0, slots := 0, locals := 0 } : Room)) (fun a U => a = #[.long rr, .ref (n0 + 0), .int (5 : Int32)] ∧ Z.Warmed39 U.vm ∧ U.heap = h0) (fun _ _ _ _ _ => True) (fun _ U o U' => ∃ v L, o = .returned v ∧ PureQ (.long (sp_st7_5 rr b0 b1 b2 b3 b4 b5 b6)) h0 v U'.heap L ∧ FrameEnd U o U' L ({ frames := 0, cells := 0, slots := 0, locals := 0 } : Room).cells ({ frames := 0, cells := 0, slots := 0, locals := 0 } : Room).slots) := by
  refine own_body pn2 ?_
  intro p e s m below meth c T0 hx hby hml hret hlk hown hnm hZ X0 e0
  subst e0
  refine own_cast (ef_st7_5 m n0 rr b0 b1 b2 b3 b4 b5 b6) ?_
  refine w_iloadN X0 hx (hb hby d2_0) rfl (pc' := 1) rfl ?_
  refine w_aloadN X0 hx (hb hby d2_1) rfl rfl (pc' := 2) rfl ?_
  refine w_arrlen (i := 0) X0 hx hZ P0 rfl hk0 (hb hby d2_2) (z := (7 : Int32)) rfl (pc' := 3) rfl ?_
  refine w_icmp_ge X0 hx (hb hby d2_3) (by decide) (pcY := 20) (by decide) (pc' := 6) rfl (fun h0 => absurd h0 (by decide)) (fun h0 => ?_)
  refine w_lloadN X0 hx (hb hby d2_6) rfl (pc' := 7) rfl ?_
  refine w_bipush (v := (8 : Int32)) X0 hx (hb hby d2_7) rfl (pc' := 9) rfl ?_
  refine w_lshl X0 hx (hb hby d2_9) (pc' := 10) rfl ?_
  refine w_aloadN X0 hx (hb hby d2_10) rfl rfl (pc' := 11) rfl ?_
  refine w_iloadN X0 hx (hb hby d2_11) rfl (pc' := 12) rfl ?_
  refine w_baload (i := 0) (jn := 5) (v := .int b5) X0 hx hZ P0 rfl hk0 (hb hby d2_12) (by decide) rfl (pc' := 13) rfl ?_
  refine w_i2l X0 hx (hb hby d2_13) (pc' := 14) rfl ?_
  refine w_ldc2 X0 hx (hb hby d2_14) hown (mvT hZ (wd10 hw)) (pc' := 17) rfl ?_
  refine w_land X0 hx (hb hby d2_17) (pc' := 18) rfl ?_
  refine w_lor X0 hx (hb hby d2_18) (pc' := 19) rfl ?_
  exact w_ret_l X0 hx hret hlk (hb hby d2_19) (by decide) (by decide) ⟨congrArg (fun q => some (Value.long q)) (show ((rr <<< (Int32.toInt64 (8 : Int32) &&& 63)) ||| ((Int32.toInt64 b5) &&& (255 : Int64))) = sp_st7_5 rr b0 b1 b2 b3 b4 b5 b6 from by rw [sp_st7_5]), rfl, rfl⟩
theorem ef_st7_6 (m : MethodId) (n0 : Nat) (rr : Int64) (b0 : Int32) (b1 : Int32) (b2 : Int32) (b3 : Int32) (b4 : Int32) (b5 : Int32) (b6 : Int32) : entryFrame m #[.long rr, .ref (n0 + 0), .int (6 : Int32)] 4 = mkF m 0 #[.val (.long rr), .second, .val (.ref (n0 + 0)), .val (.int (6 : Int32))] [] := by first | (simp [entryFrame, mkF, argsToLocals, Value.category]; done) | rfl
def sp_st7_6 (rr : Int64) (b0 : Int32) (b1 : Int32) (b2 : Int32) (b3 : Int32) (b4 : Int32) (b5 : Int32) (b6 : Int32) : Int64 := ((rr <<< (Int32.toInt64 (8 : Int32) &&& 63)) ||| ((Int32.toInt64 b6) &&& (255 : Int64)))
set_option maxRecDepth 65536 in
set_option maxHeartbeats 40000000 in
theorem rm_st7_6 (l : Launch) (Z : State) (a0 : Array Value) (hw : ∀ d ∈ tables_1, d.before a0 Z = true) (ws : List Jvm.Cond) (n0 : Nat) (rr : Int64) (b0 : Int32) (b1 : Int32) (b2 : Int32) (b3 : Int32) (b4 : Int32) (b5 : Int32) (b6 : Int32) (k0 : ClassId) (hk0 : IsA Z k0 .byte) (h0 : Heap) (P0 : HP n0 h0 [AC k0 [.int b0, .int b1, .int b2, .int b3, .int b4, .int b5, .int b6]]) :
    MetFree l (⟨"com/example/protomata/protomata/BytesUintPinLaw", "step", "(J[BI)J"⟩ : MethodName) (head1 (Jvm.Cond.code (⟨"com/example/protomata/protomata/BytesUintPinLaw", "step", "(J[BI)J"⟩ : MethodName) method_2_code 4 (some .long) :: ws) ({ frames := 0, cells := 0, slots := 0, locals := 0 } : Room)) (fun a U => a = #[.long rr, .ref (n0 + 0), .int (6 : Int32)] ∧ Z.Warmed39 U.vm ∧ U.heap = h0) (fun _ _ _ _ _ => True) (fun _ U o U' => ∃ v L, o = .returned v ∧ PureQ (.long (sp_st7_6 rr b0 b1 b2 b3 b4 b5 b6)) h0 v U'.heap L ∧ FrameEnd U o U' L ({ frames := 0, cells := 0, slots := 0, locals := 0 } : Room).cells ({ frames := 0, cells := 0, slots := 0, locals := 0 } : Room).slots) := by
  refine own_body pn2 ?_
  intro p e s m below meth c T0 hx hby hml hret hlk hown hnm hZ X0 e0
  subst e0
  refine own_cast (ef_st7_6 m n0 rr b0 b1 b2 b3 b4 b5 b6) ?_
  refine w_iloadN X0 hx (hb hby d2_0) rfl (pc' := 1) rfl ?_
  refine w_aloadN X0 hx (hb hby d2_1) rfl rfl (pc' := 2) rfl ?_
  refine w_arrlen (i := 0) X0 hx hZ P0 rfl hk0 (hb hby d2_2) (z := (7 : Int32)) rfl (pc' := 3) rfl ?_
  refine w_icmp_ge X0 hx (hb hby d2_3) (by decide) (pcY := 20) (by decide) (pc' := 6) rfl (fun h0 => absurd h0 (by decide)) (fun h0 => ?_)
  refine w_lloadN X0 hx (hb hby d2_6) rfl (pc' := 7) rfl ?_
  refine w_bipush (v := (8 : Int32)) X0 hx (hb hby d2_7) rfl (pc' := 9) rfl ?_
  refine w_lshl X0 hx (hb hby d2_9) (pc' := 10) rfl ?_
  refine w_aloadN X0 hx (hb hby d2_10) rfl rfl (pc' := 11) rfl ?_
  refine w_iloadN X0 hx (hb hby d2_11) rfl (pc' := 12) rfl ?_
  refine w_baload (i := 0) (jn := 6) (v := .int b6) X0 hx hZ P0 rfl hk0 (hb hby d2_12) (by decide) rfl (pc' := 13) rfl ?_
  refine w_i2l X0 hx (hb hby d2_13) (pc' := 14) rfl ?_
  refine w_ldc2 X0 hx (hb hby d2_14) hown (mvT hZ (wd10 hw)) (pc' := 17) rfl ?_
  refine w_land X0 hx (hb hby d2_17) (pc' := 18) rfl ?_
  refine w_lor X0 hx (hb hby d2_18) (pc' := 19) rfl ?_
  exact w_ret_l X0 hx hret hlk (hb hby d2_19) (by decide) (by decide) ⟨congrArg (fun q => some (Value.long q)) (show ((rr <<< (Int32.toInt64 (8 : Int32) &&& 63)) ||| ((Int32.toInt64 b6) &&& (255 : Int64))) = sp_st7_6 rr b0 b1 b2 b3 b4 b5 b6 from by rw [sp_st7_6]), rfl, rfl⟩
theorem ef_st7_7 (m : MethodId) (n0 : Nat) (rr : Int64) (b0 : Int32) (b1 : Int32) (b2 : Int32) (b3 : Int32) (b4 : Int32) (b5 : Int32) (b6 : Int32) : entryFrame m #[.long rr, .ref (n0 + 0), .int (7 : Int32)] 4 = mkF m 0 #[.val (.long rr), .second, .val (.ref (n0 + 0)), .val (.int (7 : Int32))] [] := by first | (simp [entryFrame, mkF, argsToLocals, Value.category]; done) | rfl
def sp_st7_7 (rr : Int64) (b0 : Int32) (b1 : Int32) (b2 : Int32) (b3 : Int32) (b4 : Int32) (b5 : Int32) (b6 : Int32) : Int64 := rr
set_option maxRecDepth 65536 in
set_option maxHeartbeats 40000000 in
theorem rm_st7_7 (l : Launch) (Z : State) (a0 : Array Value) (hw : ∀ d ∈ tables_1, d.before a0 Z = true) (ws : List Jvm.Cond) (n0 : Nat) (rr : Int64) (b0 : Int32) (b1 : Int32) (b2 : Int32) (b3 : Int32) (b4 : Int32) (b5 : Int32) (b6 : Int32) (k0 : ClassId) (hk0 : IsA Z k0 .byte) (h0 : Heap) (P0 : HP n0 h0 [AC k0 [.int b0, .int b1, .int b2, .int b3, .int b4, .int b5, .int b6]]) :
    MetFree l (⟨"com/example/protomata/protomata/BytesUintPinLaw", "step", "(J[BI)J"⟩ : MethodName) (head1 (Jvm.Cond.code (⟨"com/example/protomata/protomata/BytesUintPinLaw", "step", "(J[BI)J"⟩ : MethodName) method_2_code 4 (some .long) :: ws) ({ frames := 0, cells := 0, slots := 0, locals := 0 } : Room)) (fun a U => a = #[.long rr, .ref (n0 + 0), .int (7 : Int32)] ∧ Z.Warmed39 U.vm ∧ U.heap = h0) (fun _ _ _ _ _ => True) (fun _ U o U' => ∃ v L, o = .returned v ∧ PureQ (.long (sp_st7_7 rr b0 b1 b2 b3 b4 b5 b6)) h0 v U'.heap L ∧ FrameEnd U o U' L ({ frames := 0, cells := 0, slots := 0, locals := 0 } : Room).cells ({ frames := 0, cells := 0, slots := 0, locals := 0 } : Room).slots) := by
  refine own_body pn2 ?_
  intro p e s m below meth c T0 hx hby hml hret hlk hown hnm hZ X0 e0
  subst e0
  refine own_cast (ef_st7_7 m n0 rr b0 b1 b2 b3 b4 b5 b6) ?_
  refine w_iloadN X0 hx (hb hby d2_0) rfl (pc' := 1) rfl ?_
  refine w_aloadN X0 hx (hb hby d2_1) rfl rfl (pc' := 2) rfl ?_
  refine w_arrlen (i := 0) X0 hx hZ P0 rfl hk0 (hb hby d2_2) (z := (7 : Int32)) rfl (pc' := 3) rfl ?_
  refine w_icmp_ge X0 hx (hb hby d2_3) (by decide) (pcY := 20) (by decide) (pc' := 6) rfl (fun h0 => ?_) (fun h0 => absurd h0 (by decide))
  refine w_lloadN X0 hx (hb hby d2_20) rfl (pc' := 21) rfl ?_
  exact w_ret_l X0 hx hret hlk (hb hby d2_21) (by decide) (by decide) ⟨congrArg (fun q => some (Value.long q)) (show rr = sp_st7_7 rr b0 b1 b2 b3 b4 b5 b6 from by rw [sp_st7_7]), rfl, rfl⟩
theorem ef_st8_0 (m : MethodId) (n0 : Nat) (rr : Int64) (b0 : Int32) (b1 : Int32) (b2 : Int32) (b3 : Int32) (b4 : Int32) (b5 : Int32) (b6 : Int32) (b7 : Int32) : entryFrame m #[.long rr, .ref (n0 + 0), .int (0 : Int32)] 4 = mkF m 0 #[.val (.long rr), .second, .val (.ref (n0 + 0)), .val (.int (0 : Int32))] [] := by first | (simp [entryFrame, mkF, argsToLocals, Value.category]; done) | rfl
def sp_st8_0 (rr : Int64) (b0 : Int32) (b1 : Int32) (b2 : Int32) (b3 : Int32) (b4 : Int32) (b5 : Int32) (b6 : Int32) (b7 : Int32) : Int64 := ((rr <<< (Int32.toInt64 (8 : Int32) &&& 63)) ||| ((Int32.toInt64 b0) &&& (255 : Int64)))
set_option maxRecDepth 65536 in
set_option maxHeartbeats 40000000 in
theorem rm_st8_0 (l : Launch) (Z : State) (a0 : Array Value) (hw : ∀ d ∈ tables_1, d.before a0 Z = true) (ws : List Jvm.Cond) (n0 : Nat) (rr : Int64) (b0 : Int32) (b1 : Int32) (b2 : Int32) (b3 : Int32) (b4 : Int32) (b5 : Int32) (b6 : Int32) (b7 : Int32) (k0 : ClassId) (hk0 : IsA Z k0 .byte) (h0 : Heap) (P0 : HP n0 h0 [AC k0 [.int b0, .int b1, .int b2, .int b3, .int b4, .int b5, .int b6, .int b7]]) :
    MetFree l (⟨"com/example/protomata/protomata/BytesUintPinLaw", "step", "(J[BI)J"⟩ : MethodName) (head1 (Jvm.Cond.code (⟨"com/example/protomata/protomata/BytesUintPinLaw", "step", "(J[BI)J"⟩ : MethodName) method_2_code 4 (some .long) :: ws) ({ frames := 0, cells := 0, slots := 0, locals := 0 } : Room)) (fun a U => a = #[.long rr, .ref (n0 + 0), .int (0 : Int32)] ∧ Z.Warmed39 U.vm ∧ U.heap = h0) (fun _ _ _ _ _ => True) (fun _ U o U' => ∃ v L, o = .returned v ∧ PureQ (.long (sp_st8_0 rr b0 b1 b2 b3 b4 b5 b6 b7)) h0 v U'.heap L ∧ FrameEnd U o U' L ({ frames := 0, cells := 0, slots := 0, locals := 0 } : Room).cells ({ frames := 0, cells := 0, slots := 0, locals := 0 } : Room).slots) := by
  refine own_body pn2 ?_
  intro p e s m below meth c T0 hx hby hml hret hlk hown hnm hZ X0 e0
  subst e0
  refine own_cast (ef_st8_0 m n0 rr b0 b1 b2 b3 b4 b5 b6 b7) ?_
  refine w_iloadN X0 hx (hb hby d2_0) rfl (pc' := 1) rfl ?_
  refine w_aloadN X0 hx (hb hby d2_1) rfl rfl (pc' := 2) rfl ?_
  refine w_arrlen (i := 0) X0 hx hZ P0 rfl hk0 (hb hby d2_2) (z := (8 : Int32)) rfl (pc' := 3) rfl ?_
  refine w_icmp_ge X0 hx (hb hby d2_3) (by decide) (pcY := 20) (by decide) (pc' := 6) rfl (fun h0 => absurd h0 (by decide)) (fun h0 => ?_)
  refine w_lloadN X0 hx (hb hby d2_6) rfl (pc' := 7) rfl ?_
  refine w_bipush (v := (8 : Int32)) X0 hx (hb hby d2_7) rfl (pc' := 9) rfl ?_
  refine w_lshl X0 hx (hb hby d2_9) (pc' := 10) rfl ?_
  refine w_aloadN X0 hx (hb hby d2_10) rfl rfl (pc' := 11) rfl ?_
  refine w_iloadN X0 hx (hb hby d2_11) rfl (pc' := 12) rfl ?_
  refine w_baload (i := 0) (jn := 0) (v := .int b0) X0 hx hZ P0 rfl hk0 (hb hby d2_12) (by decide) rfl (pc' := 13) rfl ?_
  refine w_i2l X0 hx (hb hby d2_13) (pc' := 14) rfl ?_
  refine w_ldc2 X0 hx (hb hby d2_14) hown (mvT hZ (wd10 hw)) (pc' := 17) rfl ?_
  refine w_land X0 hx (hb hby d2_17) (pc' := 18) rfl ?_
  refine w_lor X0 hx (hb hby d2_18) (pc' := 19) rfl ?_
  exact w_ret_l X0 hx hret hlk (hb hby d2_19) (by decide) (by decide) ⟨congrArg (fun q => some (Value.long q)) (show ((rr <<< (Int32.toInt64 (8 : Int32) &&& 63)) ||| ((Int32.toInt64 b0) &&& (255 : Int64))) = sp_st8_0 rr b0 b1 b2 b3 b4 b5 b6 b7 from by rw [sp_st8_0]), rfl, rfl⟩
theorem ef_st8_1 (m : MethodId) (n0 : Nat) (rr : Int64) (b0 : Int32) (b1 : Int32) (b2 : Int32) (b3 : Int32) (b4 : Int32) (b5 : Int32) (b6 : Int32) (b7 : Int32) : entryFrame m #[.long rr, .ref (n0 + 0), .int (1 : Int32)] 4 = mkF m 0 #[.val (.long rr), .second, .val (.ref (n0 + 0)), .val (.int (1 : Int32))] [] := by first | (simp [entryFrame, mkF, argsToLocals, Value.category]; done) | rfl
def sp_st8_1 (rr : Int64) (b0 : Int32) (b1 : Int32) (b2 : Int32) (b3 : Int32) (b4 : Int32) (b5 : Int32) (b6 : Int32) (b7 : Int32) : Int64 := ((rr <<< (Int32.toInt64 (8 : Int32) &&& 63)) ||| ((Int32.toInt64 b1) &&& (255 : Int64)))
set_option maxRecDepth 65536 in
set_option maxHeartbeats 40000000 in
theorem rm_st8_1 (l : Launch) (Z : State) (a0 : Array Value) (hw : ∀ d ∈ tables_1, d.before a0 Z = true) (ws : List Jvm.Cond) (n0 : Nat) (rr : Int64) (b0 : Int32) (b1 : Int32) (b2 : Int32) (b3 : Int32) (b4 : Int32) (b5 : Int32) (b6 : Int32) (b7 : Int32) (k0 : ClassId) (hk0 : IsA Z k0 .byte) (h0 : Heap) (P0 : HP n0 h0 [AC k0 [.int b0, .int b1, .int b2, .int b3, .int b4, .int b5, .int b6, .int b7]]) :
    MetFree l (⟨"com/example/protomata/protomata/BytesUintPinLaw", "step", "(J[BI)J"⟩ : MethodName) (head1 (Jvm.Cond.code (⟨"com/example/protomata/protomata/BytesUintPinLaw", "step", "(J[BI)J"⟩ : MethodName) method_2_code 4 (some .long) :: ws) ({ frames := 0, cells := 0, slots := 0, locals := 0 } : Room)) (fun a U => a = #[.long rr, .ref (n0 + 0), .int (1 : Int32)] ∧ Z.Warmed39 U.vm ∧ U.heap = h0) (fun _ _ _ _ _ => True) (fun _ U o U' => ∃ v L, o = .returned v ∧ PureQ (.long (sp_st8_1 rr b0 b1 b2 b3 b4 b5 b6 b7)) h0 v U'.heap L ∧ FrameEnd U o U' L ({ frames := 0, cells := 0, slots := 0, locals := 0 } : Room).cells ({ frames := 0, cells := 0, slots := 0, locals := 0 } : Room).slots) := by
  refine own_body pn2 ?_
  intro p e s m below meth c T0 hx hby hml hret hlk hown hnm hZ X0 e0
  subst e0
  refine own_cast (ef_st8_1 m n0 rr b0 b1 b2 b3 b4 b5 b6 b7) ?_
  refine w_iloadN X0 hx (hb hby d2_0) rfl (pc' := 1) rfl ?_
  refine w_aloadN X0 hx (hb hby d2_1) rfl rfl (pc' := 2) rfl ?_
  refine w_arrlen (i := 0) X0 hx hZ P0 rfl hk0 (hb hby d2_2) (z := (8 : Int32)) rfl (pc' := 3) rfl ?_
  refine w_icmp_ge X0 hx (hb hby d2_3) (by decide) (pcY := 20) (by decide) (pc' := 6) rfl (fun h0 => absurd h0 (by decide)) (fun h0 => ?_)
  refine w_lloadN X0 hx (hb hby d2_6) rfl (pc' := 7) rfl ?_
  refine w_bipush (v := (8 : Int32)) X0 hx (hb hby d2_7) rfl (pc' := 9) rfl ?_
  refine w_lshl X0 hx (hb hby d2_9) (pc' := 10) rfl ?_
  refine w_aloadN X0 hx (hb hby d2_10) rfl rfl (pc' := 11) rfl ?_
  refine w_iloadN X0 hx (hb hby d2_11) rfl (pc' := 12) rfl ?_
  refine w_baload (i := 0) (jn := 1) (v := .int b1) X0 hx hZ P0 rfl hk0 (hb hby d2_12) (by decide) rfl (pc' := 13) rfl ?_
  refine w_i2l X0 hx (hb hby d2_13) (pc' := 14) rfl ?_
  refine w_ldc2 X0 hx (hb hby d2_14) hown (mvT hZ (wd10 hw)) (pc' := 17) rfl ?_
  refine w_land X0 hx (hb hby d2_17) (pc' := 18) rfl ?_
  refine w_lor X0 hx (hb hby d2_18) (pc' := 19) rfl ?_
  exact w_ret_l X0 hx hret hlk (hb hby d2_19) (by decide) (by decide) ⟨congrArg (fun q => some (Value.long q)) (show ((rr <<< (Int32.toInt64 (8 : Int32) &&& 63)) ||| ((Int32.toInt64 b1) &&& (255 : Int64))) = sp_st8_1 rr b0 b1 b2 b3 b4 b5 b6 b7 from by rw [sp_st8_1]), rfl, rfl⟩
theorem ef_st8_2 (m : MethodId) (n0 : Nat) (rr : Int64) (b0 : Int32) (b1 : Int32) (b2 : Int32) (b3 : Int32) (b4 : Int32) (b5 : Int32) (b6 : Int32) (b7 : Int32) : entryFrame m #[.long rr, .ref (n0 + 0), .int (2 : Int32)] 4 = mkF m 0 #[.val (.long rr), .second, .val (.ref (n0 + 0)), .val (.int (2 : Int32))] [] := by first | (simp [entryFrame, mkF, argsToLocals, Value.category]; done) | rfl
def sp_st8_2 (rr : Int64) (b0 : Int32) (b1 : Int32) (b2 : Int32) (b3 : Int32) (b4 : Int32) (b5 : Int32) (b6 : Int32) (b7 : Int32) : Int64 := ((rr <<< (Int32.toInt64 (8 : Int32) &&& 63)) ||| ((Int32.toInt64 b2) &&& (255 : Int64)))
set_option maxRecDepth 65536 in
set_option maxHeartbeats 40000000 in
theorem rm_st8_2 (l : Launch) (Z : State) (a0 : Array Value) (hw : ∀ d ∈ tables_1, d.before a0 Z = true) (ws : List Jvm.Cond) (n0 : Nat) (rr : Int64) (b0 : Int32) (b1 : Int32) (b2 : Int32) (b3 : Int32) (b4 : Int32) (b5 : Int32) (b6 : Int32) (b7 : Int32) (k0 : ClassId) (hk0 : IsA Z k0 .byte) (h0 : Heap) (P0 : HP n0 h0 [AC k0 [.int b0, .int b1, .int b2, .int b3, .int b4, .int b5, .int b6, .int b7]]) :
    MetFree l (⟨"com/example/protomata/protomata/BytesUintPinLaw", "step", "(J[BI)J"⟩ : MethodName) (head1 (Jvm.Cond.code (⟨"com/example/protomata/protomata/BytesUintPinLaw", "step", "(J[BI)J"⟩ : MethodName) method_2_code 4 (some .long) :: ws) ({ frames := 0, cells := 0, slots := 0, locals := 0 } : Room)) (fun a U => a = #[.long rr, .ref (n0 + 0), .int (2 : Int32)] ∧ Z.Warmed39 U.vm ∧ U.heap = h0) (fun _ _ _ _ _ => True) (fun _ U o U' => ∃ v L, o = .returned v ∧ PureQ (.long (sp_st8_2 rr b0 b1 b2 b3 b4 b5 b6 b7)) h0 v U'.heap L ∧ FrameEnd U o U' L ({ frames := 0, cells := 0, slots := 0, locals := 0 } : Room).cells ({ frames := 0, cells := 0, slots := 0, locals := 0 } : Room).slots) := by
  refine own_body pn2 ?_
  intro p e s m below meth c T0 hx hby hml hret hlk hown hnm hZ X0 e0
  subst e0
  refine own_cast (ef_st8_2 m n0 rr b0 b1 b2 b3 b4 b5 b6 b7) ?_
  refine w_iloadN X0 hx (hb hby d2_0) rfl (pc' := 1) rfl ?_
  refine w_aloadN X0 hx (hb hby d2_1) rfl rfl (pc' := 2) rfl ?_
  refine w_arrlen (i := 0) X0 hx hZ P0 rfl hk0 (hb hby d2_2) (z := (8 : Int32)) rfl (pc' := 3) rfl ?_
  refine w_icmp_ge X0 hx (hb hby d2_3) (by decide) (pcY := 20) (by decide) (pc' := 6) rfl (fun h0 => absurd h0 (by decide)) (fun h0 => ?_)
  refine w_lloadN X0 hx (hb hby d2_6) rfl (pc' := 7) rfl ?_
  refine w_bipush (v := (8 : Int32)) X0 hx (hb hby d2_7) rfl (pc' := 9) rfl ?_
  refine w_lshl X0 hx (hb hby d2_9) (pc' := 10) rfl ?_
  refine w_aloadN X0 hx (hb hby d2_10) rfl rfl (pc' := 11) rfl ?_
  refine w_iloadN X0 hx (hb hby d2_11) rfl (pc' := 12) rfl ?_
  refine w_baload (i := 0) (jn := 2) (v := .int b2) X0 hx hZ P0 rfl hk0 (hb hby d2_12) (by decide) rfl (pc' := 13) rfl ?_
  refine w_i2l X0 hx (hb hby d2_13) (pc' := 14) rfl ?_
  refine w_ldc2 X0 hx (hb hby d2_14) hown (mvT hZ (wd10 hw)) (pc' := 17) rfl ?_
  refine w_land X0 hx (hb hby d2_17) (pc' := 18) rfl ?_
  refine w_lor X0 hx (hb hby d2_18) (pc' := 19) rfl ?_
  exact w_ret_l X0 hx hret hlk (hb hby d2_19) (by decide) (by decide) ⟨congrArg (fun q => some (Value.long q)) (show ((rr <<< (Int32.toInt64 (8 : Int32) &&& 63)) ||| ((Int32.toInt64 b2) &&& (255 : Int64))) = sp_st8_2 rr b0 b1 b2 b3 b4 b5 b6 b7 from by rw [sp_st8_2]), rfl, rfl⟩
theorem ef_st8_3 (m : MethodId) (n0 : Nat) (rr : Int64) (b0 : Int32) (b1 : Int32) (b2 : Int32) (b3 : Int32) (b4 : Int32) (b5 : Int32) (b6 : Int32) (b7 : Int32) : entryFrame m #[.long rr, .ref (n0 + 0), .int (3 : Int32)] 4 = mkF m 0 #[.val (.long rr), .second, .val (.ref (n0 + 0)), .val (.int (3 : Int32))] [] := by first | (simp [entryFrame, mkF, argsToLocals, Value.category]; done) | rfl
def sp_st8_3 (rr : Int64) (b0 : Int32) (b1 : Int32) (b2 : Int32) (b3 : Int32) (b4 : Int32) (b5 : Int32) (b6 : Int32) (b7 : Int32) : Int64 := ((rr <<< (Int32.toInt64 (8 : Int32) &&& 63)) ||| ((Int32.toInt64 b3) &&& (255 : Int64)))
set_option maxRecDepth 65536 in
set_option maxHeartbeats 40000000 in
theorem rm_st8_3 (l : Launch) (Z : State) (a0 : Array Value) (hw : ∀ d ∈ tables_1, d.before a0 Z = true) (ws : List Jvm.Cond) (n0 : Nat) (rr : Int64) (b0 : Int32) (b1 : Int32) (b2 : Int32) (b3 : Int32) (b4 : Int32) (b5 : Int32) (b6 : Int32) (b7 : Int32) (k0 : ClassId) (hk0 : IsA Z k0 .byte) (h0 : Heap) (P0 : HP n0 h0 [AC k0 [.int b0, .int b1, .int b2, .int b3, .int b4, .int b5, .int b6, .int b7]]) :
    MetFree l (⟨"com/example/protomata/protomata/BytesUintPinLaw", "step", "(J[BI)J"⟩ : MethodName) (head1 (Jvm.Cond.code (⟨"com/example/protomata/protomata/BytesUintPinLaw", "step", "(J[BI)J"⟩ : MethodName) method_2_code 4 (some .long) :: ws) ({ frames := 0, cells := 0, slots := 0, locals := 0 } : Room)) (fun a U => a = #[.long rr, .ref (n0 + 0), .int (3 : Int32)] ∧ Z.Warmed39 U.vm ∧ U.heap = h0) (fun _ _ _ _ _ => True) (fun _ U o U' => ∃ v L, o = .returned v ∧ PureQ (.long (sp_st8_3 rr b0 b1 b2 b3 b4 b5 b6 b7)) h0 v U'.heap L ∧ FrameEnd U o U' L ({ frames := 0, cells := 0, slots := 0, locals := 0 } : Room).cells ({ frames := 0, cells := 0, slots := 0, locals := 0 } : Room).slots) := by
  refine own_body pn2 ?_
  intro p e s m below meth c T0 hx hby hml hret hlk hown hnm hZ X0 e0
  subst e0
  refine own_cast (ef_st8_3 m n0 rr b0 b1 b2 b3 b4 b5 b6 b7) ?_
  refine w_iloadN X0 hx (hb hby d2_0) rfl (pc' := 1) rfl ?_
  refine w_aloadN X0 hx (hb hby d2_1) rfl rfl (pc' := 2) rfl ?_
  refine w_arrlen (i := 0) X0 hx hZ P0 rfl hk0 (hb hby d2_2) (z := (8 : Int32)) rfl (pc' := 3) rfl ?_
  refine w_icmp_ge X0 hx (hb hby d2_3) (by decide) (pcY := 20) (by decide) (pc' := 6) rfl (fun h0 => absurd h0 (by decide)) (fun h0 => ?_)
  refine w_lloadN X0 hx (hb hby d2_6) rfl (pc' := 7) rfl ?_
  refine w_bipush (v := (8 : Int32)) X0 hx (hb hby d2_7) rfl (pc' := 9) rfl ?_
  refine w_lshl X0 hx (hb hby d2_9) (pc' := 10) rfl ?_
  refine w_aloadN X0 hx (hb hby d2_10) rfl rfl (pc' := 11) rfl ?_
  refine w_iloadN X0 hx (hb hby d2_11) rfl (pc' := 12) rfl ?_
  refine w_baload (i := 0) (jn := 3) (v := .int b3) X0 hx hZ P0 rfl hk0 (hb hby d2_12) (by decide) rfl (pc' := 13) rfl ?_
  refine w_i2l X0 hx (hb hby d2_13) (pc' := 14) rfl ?_
  refine w_ldc2 X0 hx (hb hby d2_14) hown (mvT hZ (wd10 hw)) (pc' := 17) rfl ?_
  refine w_land X0 hx (hb hby d2_17) (pc' := 18) rfl ?_
  refine w_lor X0 hx (hb hby d2_18) (pc' := 19) rfl ?_
  exact w_ret_l X0 hx hret hlk (hb hby d2_19) (by decide) (by decide) ⟨congrArg (fun q => some (Value.long q)) (show ((rr <<< (Int32.toInt64 (8 : Int32) &&& 63)) ||| ((Int32.toInt64 b3) &&& (255 : Int64))) = sp_st8_3 rr b0 b1 b2 b3 b4 b5 b6 b7 from by rw [sp_st8_3]), rfl, rfl⟩
theorem ef_st8_4 (m : MethodId) (n0 : Nat) (rr : Int64) (b0 : Int32) (b1 : Int32) (b2 : Int32) (b3 : Int32) (b4 : Int32) (b5 : Int32) (b6 : Int32) (b7 : Int32) : entryFrame m #[.long rr, .ref (n0 + 0), .int (4 : Int32)] 4 = mkF m 0 #[.val (.long rr), .second, .val (.ref (n0 + 0)), .val (.int (4 : Int32))] [] := by first | (simp [entryFrame, mkF, argsToLocals, Value.category]; done) | rfl
def sp_st8_4 (rr : Int64) (b0 : Int32) (b1 : Int32) (b2 : Int32) (b3 : Int32) (b4 : Int32) (b5 : Int32) (b6 : Int32) (b7 : Int32) : Int64 := ((rr <<< (Int32.toInt64 (8 : Int32) &&& 63)) ||| ((Int32.toInt64 b4) &&& (255 : Int64)))
set_option maxRecDepth 65536 in
set_option maxHeartbeats 40000000 in
theorem rm_st8_4 (l : Launch) (Z : State) (a0 : Array Value) (hw : ∀ d ∈ tables_1, d.before a0 Z = true) (ws : List Jvm.Cond) (n0 : Nat) (rr : Int64) (b0 : Int32) (b1 : Int32) (b2 : Int32) (b3 : Int32) (b4 : Int32) (b5 : Int32) (b6 : Int32) (b7 : Int32) (k0 : ClassId) (hk0 : IsA Z k0 .byte) (h0 : Heap) (P0 : HP n0 h0 [AC k0 [.int b0, .int b1, .int b2, .int b3, .int b4, .int b5, .int b6, .int b7]]) :
    MetFree l (⟨"com/example/protomata/protomata/BytesUintPinLaw", "step", "(J[BI)J"⟩ : MethodName) (head1 (Jvm.Cond.code (⟨"com/example/protomata/protomata/BytesUintPinLaw", "step", "(J[BI)J"⟩ : MethodName) method_2_code 4 (some .long) :: ws) ({ frames := 0, cells := 0, slots := 0, locals := 0 } : Room)) (fun a U => a = #[.long rr, .ref (n0 + 0), .int (4 : Int32)] ∧ Z.Warmed39 U.vm ∧ U.heap = h0) (fun _ _ _ _ _ => True) (fun _ U o U' => ∃ v L, o = .returned v ∧ PureQ (.long (sp_st8_4 rr b0 b1 b2 b3 b4 b5 b6 b7)) h0 v U'.heap L ∧ FrameEnd U o U' L ({ frames := 0, cells := 0, slots := 0, locals := 0 } : Room).cells ({ frames := 0, cells := 0, slots := 0, locals := 0 } : Room).slots) := by
  refine own_body pn2 ?_
  intro p e s m below meth c T0 hx hby hml hret hlk hown hnm hZ X0 e0
  subst e0
  refine own_cast (ef_st8_4 m n0 rr b0 b1 b2 b3 b4 b5 b6 b7) ?_
  refine w_iloadN X0 hx (hb hby d2_0) rfl (pc' := 1) rfl ?_
  refine w_aloadN X0 hx (hb hby d2_1) rfl rfl (pc' := 2) rfl ?_
  refine w_arrlen (i := 0) X0 hx hZ P0 rfl hk0 (hb hby d2_2) (z := (8 : Int32)) rfl (pc' := 3) rfl ?_
  refine w_icmp_ge X0 hx (hb hby d2_3) (by decide) (pcY := 20) (by decide) (pc' := 6) rfl (fun h0 => absurd h0 (by decide)) (fun h0 => ?_)
  refine w_lloadN X0 hx (hb hby d2_6) rfl (pc' := 7) rfl ?_
  refine w_bipush (v := (8 : Int32)) X0 hx (hb hby d2_7) rfl (pc' := 9) rfl ?_
  refine w_lshl X0 hx (hb hby d2_9) (pc' := 10) rfl ?_
  refine w_aloadN X0 hx (hb hby d2_10) rfl rfl (pc' := 11) rfl ?_
  refine w_iloadN X0 hx (hb hby d2_11) rfl (pc' := 12) rfl ?_
  refine w_baload (i := 0) (jn := 4) (v := .int b4) X0 hx hZ P0 rfl hk0 (hb hby d2_12) (by decide) rfl (pc' := 13) rfl ?_
  refine w_i2l X0 hx (hb hby d2_13) (pc' := 14) rfl ?_
  refine w_ldc2 X0 hx (hb hby d2_14) hown (mvT hZ (wd10 hw)) (pc' := 17) rfl ?_
  refine w_land X0 hx (hb hby d2_17) (pc' := 18) rfl ?_
  refine w_lor X0 hx (hb hby d2_18) (pc' := 19) rfl ?_
  exact w_ret_l X0 hx hret hlk (hb hby d2_19) (by decide) (by decide) ⟨congrArg (fun q => some (Value.long q)) (show ((rr <<< (Int32.toInt64 (8 : Int32) &&& 63)) ||| ((Int32.toInt64 b4) &&& (255 : Int64))) = sp_st8_4 rr b0 b1 b2 b3 b4 b5 b6 b7 from by rw [sp_st8_4]), rfl, rfl⟩
theorem ef_st8_5 (m : MethodId) (n0 : Nat) (rr : Int64) (b0 : Int32) (b1 : Int32) (b2 : Int32) (b3 : Int32) (b4 : Int32) (b5 : Int32) (b6 : Int32) (b7 : Int32) : entryFrame m #[.long rr, .ref (n0 + 0), .int (5 : Int32)] 4 = mkF m 0 #[.val (.long rr), .second, .val (.ref (n0 + 0)), .val (.int (5 : Int32))] [] := by first | (simp [entryFrame, mkF, argsToLocals, Value.category]; done) | rfl
def sp_st8_5 (rr : Int64) (b0 : Int32) (b1 : Int32) (b2 : Int32) (b3 : Int32) (b4 : Int32) (b5 : Int32) (b6 : Int32) (b7 : Int32) : Int64 := ((rr <<< (Int32.toInt64 (8 : Int32) &&& 63)) ||| ((Int32.toInt64 b5) &&& (255 : Int64)))
set_option maxRecDepth 65536 in
set_option maxHeartbeats 40000000 in
theorem rm_st8_5 (l : Launch) (Z : State) (a0 : Array Value) (hw : ∀ d ∈ tables_1, d.before a0 Z = true) (ws : List Jvm.Cond) (n0 : Nat) (rr : Int64) (b0 : Int32) (b1 : Int32) (b2 : Int32) (b3 : Int32) (b4 : Int32) (b5 : Int32) (b6 : Int32) (b7 : Int32) (k0 : ClassId) (hk0 : IsA Z k0 .byte) (h0 : Heap) (P0 : HP n0 h0 [AC k0 [.int b0, .int b1, .int b2, .int b3, .int b4, .int b5, .int b6, .int b7]]) :
    MetFree l (⟨"com/example/protomata/protomata/BytesUintPinLaw", "step", "(J[BI)J"⟩ : MethodName) (head1 (Jvm.Cond.code (⟨"com/example/protomata/protomata/BytesUintPinLaw", "step", "(J[BI)J"⟩ : MethodName) method_2_code 4 (some .long) :: ws) ({ frames := 0, cells := 0, slots := 0, locals := 0 } : Room)) (fun a U => a = #[.long rr, .ref (n0 + 0), .int (5 : Int32)] ∧ Z.Warmed39 U.vm ∧ U.heap = h0) (fun _ _ _ _ _ => True) (fun _ U o U' => ∃ v L, o = .returned v ∧ PureQ (.long (sp_st8_5 rr b0 b1 b2 b3 b4 b5 b6 b7)) h0 v U'.heap L ∧ FrameEnd U o U' L ({ frames := 0, cells := 0, slots := 0, locals := 0 } : Room).cells ({ frames := 0, cells := 0, slots := 0, locals := 0 } : Room).slots) := by
  refine own_body pn2 ?_
  intro p e s m below meth c T0 hx hby hml hret hlk hown hnm hZ X0 e0
  subst e0
  refine own_cast (ef_st8_5 m n0 rr b0 b1 b2 b3 b4 b5 b6 b7) ?_
  refine w_iloadN X0 hx (hb hby d2_0) rfl (pc' := 1) rfl ?_
  refine w_aloadN X0 hx (hb hby d2_1) rfl rfl (pc' := 2) rfl ?_
  refine w_arrlen (i := 0) X0 hx hZ P0 rfl hk0 (hb hby d2_2) (z := (8 : Int32)) rfl (pc' := 3) rfl ?_
  refine w_icmp_ge X0 hx (hb hby d2_3) (by decide) (pcY := 20) (by decide) (pc' := 6) rfl (fun h0 => absurd h0 (by decide)) (fun h0 => ?_)
  refine w_lloadN X0 hx (hb hby d2_6) rfl (pc' := 7) rfl ?_
  refine w_bipush (v := (8 : Int32)) X0 hx (hb hby d2_7) rfl (pc' := 9) rfl ?_
  refine w_lshl X0 hx (hb hby d2_9) (pc' := 10) rfl ?_
  refine w_aloadN X0 hx (hb hby d2_10) rfl rfl (pc' := 11) rfl ?_
  refine w_iloadN X0 hx (hb hby d2_11) rfl (pc' := 12) rfl ?_
  refine w_baload (i := 0) (jn := 5) (v := .int b5) X0 hx hZ P0 rfl hk0 (hb hby d2_12) (by decide) rfl (pc' := 13) rfl ?_
  refine w_i2l X0 hx (hb hby d2_13) (pc' := 14) rfl ?_
  refine w_ldc2 X0 hx (hb hby d2_14) hown (mvT hZ (wd10 hw)) (pc' := 17) rfl ?_
  refine w_land X0 hx (hb hby d2_17) (pc' := 18) rfl ?_
  refine w_lor X0 hx (hb hby d2_18) (pc' := 19) rfl ?_
  exact w_ret_l X0 hx hret hlk (hb hby d2_19) (by decide) (by decide) ⟨congrArg (fun q => some (Value.long q)) (show ((rr <<< (Int32.toInt64 (8 : Int32) &&& 63)) ||| ((Int32.toInt64 b5) &&& (255 : Int64))) = sp_st8_5 rr b0 b1 b2 b3 b4 b5 b6 b7 from by rw [sp_st8_5]), rfl, rfl⟩
theorem ef_st8_6 (m : MethodId) (n0 : Nat) (rr : Int64) (b0 : Int32) (b1 : Int32) (b2 : Int32) (b3 : Int32) (b4 : Int32) (b5 : Int32) (b6 : Int32) (b7 : Int32) : entryFrame m #[.long rr, .ref (n0 + 0), .int (6 : Int32)] 4 = mkF m 0 #[.val (.long rr), .second, .val (.ref (n0 + 0)), .val (.int (6 : Int32))] [] := by first | (simp [entryFrame, mkF, argsToLocals, Value.category]; done) | rfl
def sp_st8_6 (rr : Int64) (b0 : Int32) (b1 : Int32) (b2 : Int32) (b3 : Int32) (b4 : Int32) (b5 : Int32) (b6 : Int32) (b7 : Int32) : Int64 := ((rr <<< (Int32.toInt64 (8 : Int32) &&& 63)) ||| ((Int32.toInt64 b6) &&& (255 : Int64)))
set_option maxRecDepth 65536 in
set_option maxHeartbeats 40000000 in
theorem rm_st8_6 (l : Launch) (Z : State) (a0 : Array Value) (hw : ∀ d ∈ tables_1, d.before a0 Z = true) (ws : List Jvm.Cond) (n0 : Nat) (rr : Int64) (b0 : Int32) (b1 : Int32) (b2 : Int32) (b3 : Int32) (b4 : Int32) (b5 : Int32) (b6 : Int32) (b7 : Int32) (k0 : ClassId) (hk0 : IsA Z k0 .byte) (h0 : Heap) (P0 : HP n0 h0 [AC k0 [.int b0, .int b1, .int b2, .int b3, .int b4, .int b5, .int b6, .int b7]]) :
    MetFree l (⟨"com/example/protomata/protomata/BytesUintPinLaw", "step", "(J[BI)J"⟩ : MethodName) (head1 (Jvm.Cond.code (⟨"com/example/protomata/protomata/BytesUintPinLaw", "step", "(J[BI)J"⟩ : MethodName) method_2_code 4 (some .long) :: ws) ({ frames := 0, cells := 0, slots := 0, locals := 0 } : Room)) (fun a U => a = #[.long rr, .ref (n0 + 0), .int (6 : Int32)] ∧ Z.Warmed39 U.vm ∧ U.heap = h0) (fun _ _ _ _ _ => True) (fun _ U o U' => ∃ v L, o = .returned v ∧ PureQ (.long (sp_st8_6 rr b0 b1 b2 b3 b4 b5 b6 b7)) h0 v U'.heap L ∧ FrameEnd U o U' L ({ frames := 0, cells := 0, slots := 0, locals := 0 } : Room).cells ({ frames := 0, cells := 0, slots := 0, locals := 0 } : Room).slots) := by
  refine own_body pn2 ?_
  intro p e s m below meth c T0 hx hby hml hret hlk hown hnm hZ X0 e0
  subst e0
  refine own_cast (ef_st8_6 m n0 rr b0 b1 b2 b3 b4 b5 b6 b7) ?_
  refine w_iloadN X0 hx (hb hby d2_0) rfl (pc' := 1) rfl ?_
  refine w_aloadN X0 hx (hb hby d2_1) rfl rfl (pc' := 2) rfl ?_
  refine w_arrlen (i := 0) X0 hx hZ P0 rfl hk0 (hb hby d2_2) (z := (8 : Int32)) rfl (pc' := 3) rfl ?_
  refine w_icmp_ge X0 hx (hb hby d2_3) (by decide) (pcY := 20) (by decide) (pc' := 6) rfl (fun h0 => absurd h0 (by decide)) (fun h0 => ?_)
  refine w_lloadN X0 hx (hb hby d2_6) rfl (pc' := 7) rfl ?_
  refine w_bipush (v := (8 : Int32)) X0 hx (hb hby d2_7) rfl (pc' := 9) rfl ?_
  refine w_lshl X0 hx (hb hby d2_9) (pc' := 10) rfl ?_
  refine w_aloadN X0 hx (hb hby d2_10) rfl rfl (pc' := 11) rfl ?_
  refine w_iloadN X0 hx (hb hby d2_11) rfl (pc' := 12) rfl ?_
  refine w_baload (i := 0) (jn := 6) (v := .int b6) X0 hx hZ P0 rfl hk0 (hb hby d2_12) (by decide) rfl (pc' := 13) rfl ?_
  refine w_i2l X0 hx (hb hby d2_13) (pc' := 14) rfl ?_
  refine w_ldc2 X0 hx (hb hby d2_14) hown (mvT hZ (wd10 hw)) (pc' := 17) rfl ?_
  refine w_land X0 hx (hb hby d2_17) (pc' := 18) rfl ?_
  refine w_lor X0 hx (hb hby d2_18) (pc' := 19) rfl ?_
  exact w_ret_l X0 hx hret hlk (hb hby d2_19) (by decide) (by decide) ⟨congrArg (fun q => some (Value.long q)) (show ((rr <<< (Int32.toInt64 (8 : Int32) &&& 63)) ||| ((Int32.toInt64 b6) &&& (255 : Int64))) = sp_st8_6 rr b0 b1 b2 b3 b4 b5 b6 b7 from by rw [sp_st8_6]), rfl, rfl⟩
theorem ef_st8_7 (m : MethodId) (n0 : Nat) (rr : Int64) (b0 : Int32) (b1 : Int32) (b2 : Int32) (b3 : Int32) (b4 : Int32) (b5 : Int32) (b6 : Int32) (b7 : Int32) : entryFrame m #[.long rr, .ref (n0 + 0), .int (7 : Int32)] 4 = mkF m 0 #[.val (.long rr), .second, .val (.ref (n0 + 0)), .val (.int (7 : Int32))] [] := by first | (simp [entryFrame, mkF, argsToLocals, Value.category]; done) | rfl
def sp_st8_7 (rr : Int64) (b0 : Int32) (b1 : Int32) (b2 : Int32) (b3 : Int32) (b4 : Int32) (b5 : Int32) (b6 : Int32) (b7 : Int32) : Int64 := ((rr <<< (Int32.toInt64 (8 : Int32) &&& 63)) ||| ((Int32.toInt64 b7) &&& (255 : Int64)))
set_option maxRecDepth 65536 in
set_option maxHeartbeats 40000000 in
theorem rm_st8_7 (l : Launch) (Z : State) (a0 : Array Value) (hw : ∀ d ∈ tables_1, d.before a0 Z = true) (ws : List Jvm.Cond) (n0 : Nat) (rr : Int64) (b0 : Int32) (b1 : Int32) (b2 : Int32) (b3 : Int32) (b4 : Int32) (b5 : Int32) (b6 : Int32) (b7 : Int32) (k0 : ClassId) (hk0 : IsA Z k0 .byte) (h0 : Heap) (P0 : HP n0 h0 [AC k0 [.int b0, .int b1, .int b2, .int b3, .int b4, .int b5, .int b6, .int b7]]) :
    MetFree l (⟨"com/example/protomata/protomata/BytesUintPinLaw", "step", "(J[BI)J"⟩ : MethodName) (head1 (Jvm.Cond.code (⟨"com/example/protomata/protomata/BytesUintPinLaw", "step", "(J[BI)J"⟩ : MethodName) method_2_code 4 (some .long) :: ws) ({ frames := 0, cells := 0, slots := 0, locals := 0 } : Room)) (fun a U => a = #[.long rr, .ref (n0 + 0), .int (7 : Int32)] ∧ Z.Warmed39 U.vm ∧ U.heap = h0) (fun _ _ _ _ _ => True) (fun _ U o U' => ∃ v L, o = .returned v ∧ PureQ (.long (sp_st8_7 rr b0 b1 b2 b3 b4 b5 b6 b7)) h0 v U'.heap L ∧ FrameEnd U o U' L ({ frames := 0, cells := 0, slots := 0, locals := 0 } : Room).cells ({ frames := 0, cells := 0, slots := 0, locals := 0 } : Room).slots) := by
  refine own_body pn2 ?_
  intro p e s m below meth c T0 hx hby hml hret hlk hown hnm hZ X0 e0
  subst e0
  refine own_cast (ef_st8_7 m n0 rr b0 b1 b2 b3 b4 b5 b6 b7) ?_
  refine w_iloadN X0 hx (hb hby d2_0) rfl (pc' := 1) rfl ?_
  refine w_aloadN X0 hx (hb hby d2_1) rfl rfl (pc' := 2) rfl ?_
  refine w_arrlen (i := 0) X0 hx hZ P0 rfl hk0 (hb hby d2_2) (z := (8 : Int32)) rfl (pc' := 3) rfl ?_
  refine w_icmp_ge X0 hx (hb hby d2_3) (by decide) (pcY := 20) (by decide) (pc' := 6) rfl (fun h0 => absurd h0 (by decide)) (fun h0 => ?_)
  refine w_lloadN X0 hx (hb hby d2_6) rfl (pc' := 7) rfl ?_
  refine w_bipush (v := (8 : Int32)) X0 hx (hb hby d2_7) rfl (pc' := 9) rfl ?_
  refine w_lshl X0 hx (hb hby d2_9) (pc' := 10) rfl ?_
  refine w_aloadN X0 hx (hb hby d2_10) rfl rfl (pc' := 11) rfl ?_
  refine w_iloadN X0 hx (hb hby d2_11) rfl (pc' := 12) rfl ?_
  refine w_baload (i := 0) (jn := 7) (v := .int b7) X0 hx hZ P0 rfl hk0 (hb hby d2_12) (by decide) rfl (pc' := 13) rfl ?_
  refine w_i2l X0 hx (hb hby d2_13) (pc' := 14) rfl ?_
  refine w_ldc2 X0 hx (hb hby d2_14) hown (mvT hZ (wd10 hw)) (pc' := 17) rfl ?_
  refine w_land X0 hx (hb hby d2_17) (pc' := 18) rfl ?_
  refine w_lor X0 hx (hb hby d2_18) (pc' := 19) rfl ?_
  exact w_ret_l X0 hx hret hlk (hb hby d2_19) (by decide) (by decide) ⟨congrArg (fun q => some (Value.long q)) (show ((rr <<< (Int32.toInt64 (8 : Int32) &&& 63)) ||| ((Int32.toInt64 b7) &&& (255 : Int64))) = sp_st8_7 rr b0 b1 b2 b3 b4 b5 b6 b7 from by rw [sp_st8_7]), rfl, rfl⟩
theorem own_stp (r y : Int64) (h0 : 0 ≤ y.toInt) (h1 : y.toInt < 256) : (((r <<< ((Int32.toInt64 (8 : Int32)) &&& 63)) ||| y).toInt - (r.toInt * 256 + y.toInt)) % 18446744073709551616 = 0 := by
  have e : ((Int32.toInt64 (8 : Int32)) &&& 63) = (((8 : Int32) &&& 0x3f).toInt64) := by decide
  rw [e]
  have a := c_lshl r 8 8 (by decide)
  have b := c_orL (r <<< ((8 : Int32) &&& 0x3f).toInt64) y 8 (by decide) 256 (by decide) (by omega) h0 h1
  omega
theorem own_bt (x : Int64) (q : Int32) (K : Nat) (hq : (q.toInt64.toUInt64 &&& Int64.toUInt64 63) = (q &&& 0x3f).toInt64.toUInt64) (hk : q.toBitVec.toNat % 64 = K) (h0 : 0 < K) : ((Int32.toInt64 (nar .byte (Int8.toInt32 (Int32.toInt8 (Int64.toInt32 (XT.ushrL x q)))))) &&& (255 : Int64)).toInt = (x.toInt % 18446744073709551616) / (2 ^ K : Nat) % 256 := by
  have a := c_lushr x q K hk h0
  have e : XT.ushrL x q = (x.toUInt64 >>> (q &&& 0x3f).toInt64.toUInt64).toInt64 := by unfold XT.ushrL; rw [hq]
  rw [← e] at a
  generalize XT.ushrL x q = w at a ⊢
  have b := c_l2i w
  have c := c_i2b w.toInt32
  have d := c_i2b w.toInt32.toInt8.toInt32
  have f := c_i2l (nar .byte w.toInt32.toInt8.toInt32)
  have g := c_maskL (nar .byte w.toInt32.toInt8.toInt32).toInt64 255 8 (by decide) (by decide)
  have hn : nar .byte w.toInt32.toInt8.toInt32 = w.toInt32.toInt8.toInt32.toInt8.toInt32 := rfl
  rw [g, f, hn]
  generalize (x.toInt % 18446744073709551616) / ((2 ^ K : Nat) : Int) = Y at a ⊢
  have : ((2 ^ 8 : Nat) : Int) = 256 := by decide
  rw [this]
  omega
theorem own_bt0 (x : Int64) : ((Int32.toInt64 (nar .byte (Int8.toInt32 (Int32.toInt8 (Int64.toInt32 (XT.ushrL x 0)))))) &&& (255 : Int64)).toInt = x.toInt % 18446744073709551616 % 256 := by
  have e : XT.ushrL x 0 = x := by
    unfold XT.ushrL
    have : ((0 : Int32).toInt64.toUInt64 &&& Int64.toUInt64 63) = 0 := by decide
    rw [this]; simp
  rw [e]
  have b := c_l2i x
  have c := c_i2b x.toInt32
  have d := c_i2b x.toInt32.toInt8.toInt32
  have f := c_i2l (nar .byte x.toInt32.toInt8.toInt32)
  have g := c_maskL (nar .byte x.toInt32.toInt8.toInt32).toInt64 255 8 (by decide) (by decide)
  have hn : nar .byte x.toInt32.toInt8.toInt32 = x.toInt32.toInt8.toInt32.toInt8.toInt32 := rfl
  rw [g, f, hn]
  have : ((2 ^ 8 : Nat) : Int) = 256 := by decide
  rw [this]
  omega
theorem own_join (A Y r r' y : Int) (P : Int) (h : r = A % P) (hA : A = Y / 256) (hy : y = Y % 256) (e : r' = r * 256 + y) (hP : 0 < P) : r' = Y % (256 * P) := by
  subst hA h hy e
  have h1 := Int.mul_ediv_add_emod Y 256
  have h2 := Int.mul_ediv_add_emod (Y / 256) P
  have h3 := Int.emod_nonneg (Y / 256) (b := P) (by omega)
  have h4 := Int.emod_lt_of_pos (Y / 256) hP
  have h5 := Int.emod_nonneg Y (b := 256) (by omega)
  have h6 := Int.emod_lt_of_pos Y (b := 256) (by omega)
  have e1 : Y = (Y / 256 % P * 256 + Y % 256) + (256 * P) * (Y / 256 / P) := by
    have : (256 * P) * (Y / 256 / P) = 256 * (P * (Y / 256 / P)) := Int.mul_assoc ..
    omega
  have e2 : Y % (256 * P) = (Y / 256 % P * 256 + Y % 256) % (256 * P) := by
    conv => lhs; rw [e1]
    rw [Int.add_mul_emod_self_left]
  rw [e2]
  refine (Int.emod_eq_of_lt (by omega) ?_).symm
  have : (Y / 256 % P) * 256 + 256 ≤ 256 * P := by omega
  omega
theorem own_u0 (x1 : Int64) (r1 r2 r3 r4 r5 r6 r7 r8 : Int64) (er1 : r1 = sp_st0_0 (0 : Int64) ) (er2 : r2 = sp_st0_1 r1 ) (er3 : r3 = sp_st0_2 r2 ) (er4 : r4 = sp_st0_3 r3 ) (er5 : r5 = sp_st0_4 r4 ) (er6 : r6 = sp_st0_5 r5 ) (er7 : r7 = sp_st0_6 r6 ) (er8 : r8 = sp_st0_7 r7 ) : r8 = (x1 &&& (0 : Int64)) := by
  have hX := rng64 x1
  have w0 : r1 = (0 : Int64) := er1
  have w1 : r2 = r1 := er2
  have w2 : r3 = r2 := er3
  have w3 : r4 = r3 := er4
  have w4 : r5 = r4 := er5
  have w5 : r6 = r5 := er6
  have w6 : r7 = r6 := er7
  have w7 : r8 = r7 := er8
  have m := c_maskL x1 0 0 (by decide) (by decide)
  have me : ((2 ^ 0 : Nat) : Int) = 1 := by decide
  rw [me] at m
  apply Int64.toInt_inj.mp
  rw [w7, w6, w5, w4, w3, w2, w1, w0, m]
  show (0 : Int) = _
  omega
theorem own_u1 (x1 : Int64) (b0 : Int32) (r1 r2 r3 r4 r5 r6 r7 r8 : Int64) (eb0 : b0 = (nar .byte (Int8.toInt32 (Int32.toInt8 (Int64.toInt32 (XT.ushrL x1 (0 : Int32))))))) (er1 : r1 = sp_st1_0 (0 : Int64) b0) (er2 : r2 = sp_st1_1 r1 b0) (er3 : r3 = sp_st1_2 r2 b0) (er4 : r4 = sp_st1_3 r3 b0) (er5 : r5 = sp_st1_4 r4 b0) (er6 : r6 = sp_st1_5 r5 b0) (er7 : r7 = sp_st1_6 r6 b0) (er8 : r8 = sp_st1_7 r7 b0) : r8 = (x1 &&& (255 : Int64)) := by
  have hX := rng64 x1
  have y0 : (Int32.toInt64 b0 &&& (255 : Int64)).toInt = x1.toInt % 18446744073709551616 / 1 % 256 := by
    rw [eb0, own_bt0]
    omega
  have t0 := own_stp (0 : Int64) (Int32.toInt64 b0 &&& (255 : Int64)) (by omega) (by omega)
  have u0 : (0 : Int64) <<< ((Int32.toInt64 (8 : Int32)) &&& 63) ||| (Int32.toInt64 b0 &&& (255 : Int64)) = r1 := er1.symm
  rw [u0, y0] at t0
  have g0 := rng64 r1
  have v0 : r1.toInt = x1.toInt % 18446744073709551616 / 1 % 256 := by have zz : (0 : Int64).toInt = 0 := rfl; omega
  clear y0 t0 u0
  have w1 : r2 = r1 := er2
  have w2 : r3 = r2 := er3
  have w3 : r4 = r3 := er4
  have w4 : r5 = r4 := er5
  have w5 : r6 = r5 := er6
  have w6 : r7 = r6 := er7
  have w7 : r8 = r7 := er8
  have m := c_maskL x1 255 8 (by decide) (by decide)
  have me : ((2 ^ 8 : Nat) : Int) = 256 := by decide
  rw [me] at m
  apply Int64.toInt_inj.mp
  rw [w7, w6, w5, w4, w3, w2, w1, m]
  omega
theorem own_u2 (x1 : Int64) (b0 b1 : Int32) (r1 r2 r3 r4 r5 r6 r7 r8 : Int64) (eb0 : b0 = (nar .byte (Int8.toInt32 (Int32.toInt8 (Int64.toInt32 (XT.ushrL x1 (8 : Int32))))))) (eb1 : b1 = (nar .byte (Int8.toInt32 (Int32.toInt8 (Int64.toInt32 (XT.ushrL x1 (0 : Int32))))))) (er1 : r1 = sp_st2_0 (0 : Int64) b0 b1) (er2 : r2 = sp_st2_1 r1 b0 b1) (er3 : r3 = sp_st2_2 r2 b0 b1) (er4 : r4 = sp_st2_3 r3 b0 b1) (er5 : r5 = sp_st2_4 r4 b0 b1) (er6 : r6 = sp_st2_5 r5 b0 b1) (er7 : r7 = sp_st2_6 r6 b0 b1) (er8 : r8 = sp_st2_7 r7 b0 b1) : r8 = (x1 &&& (65535 : Int64)) := by
  have hX := rng64 x1
  have y0 : (Int32.toInt64 b0 &&& (255 : Int64)).toInt = x1.toInt % 18446744073709551616 / 256 % 256 := by
    rw [eb0, own_bt x1 8 8 (by decide) (by decide) (by decide)]
    rfl
  have t0 := own_stp (0 : Int64) (Int32.toInt64 b0 &&& (255 : Int64)) (by omega) (by omega)
  have u0 : (0 : Int64) <<< ((Int32.toInt64 (8 : Int32)) &&& 63) ||| (Int32.toInt64 b0 &&& (255 : Int64)) = r1 := er1.symm
  rw [u0, y0] at t0
  have g0 := rng64 r1
  have v0 : r1.toInt = x1.toInt % 18446744073709551616 / 256 % 256 := by have zz : (0 : Int64).toInt = 0 := rfl; omega
  clear y0 t0 u0
  have y1 : (Int32.toInt64 b1 &&& (255 : Int64)).toInt = x1.toInt % 18446744073709551616 / 1 % 256 := by
    rw [eb1, own_bt0]
    omega
  have t1 := own_stp r1 (Int32.toInt64 b1 &&& (255 : Int64)) (by omega) (by omega)
  have u1 : r1 <<< ((Int32.toInt64 (8 : Int32)) &&& 63) ||| (Int32.toInt64 b1 &&& (255 : Int64)) = r2 := er2.symm
  rw [u1, y1] at t1
  have g1 := rng64 r2
  have v1 : r2.toInt = x1.toInt % 18446744073709551616 / 1 % 65536 := by omega
  clear y1 t1 u1 v0 g0
  have w2 : r3 = r2 := er3
  have w3 : r4 = r3 := er4
  have w4 : r5 = r4 := er5
  have w5 : r6 = r5 := er6
  have w6 : r7 = r6 := er7
  have w7 : r8 = r7 := er8
  have m := c_maskL x1 65535 16 (by decide) (by decide)
  have me : ((2 ^ 16 : Nat) : Int) = 65536 := by decide
  rw [me] at m
  apply Int64.toInt_inj.mp
  rw [w7, w6, w5, w4, w3, w2, m]
  omega
theorem own_u3 (x1 : Int64) (b0 b1 b2 : Int32) (r1 r2 r3 r4 r5 r6 r7 r8 : Int64) (eb0 : b0 = (nar .byte (Int8.toInt32 (Int32.toInt8 (Int64.toInt32 (XT.ushrL x1 (16 : Int32))))))) (eb1 : b1 = (nar .byte (Int8.toInt32 (Int32.toInt8 (Int64.toInt32 (XT.ushrL x1 (8 : Int32))))))) (eb2 : b2 = (nar .byte (Int8.toInt32 (Int32.toInt8 (Int64.toInt32 (XT.ushrL x1 (0 : Int32))))))) (er1 : r1 = sp_st3_0 (0 : Int64) b0 b1 b2) (er2 : r2 = sp_st3_1 r1 b0 b1 b2) (er3 : r3 = sp_st3_2 r2 b0 b1 b2) (er4 : r4 = sp_st3_3 r3 b0 b1 b2) (er5 : r5 = sp_st3_4 r4 b0 b1 b2) (er6 : r6 = sp_st3_5 r5 b0 b1 b2) (er7 : r7 = sp_st3_6 r6 b0 b1 b2) (er8 : r8 = sp_st3_7 r7 b0 b1 b2) : r8 = (x1 &&& (16777215 : Int64)) := by
  have hX := rng64 x1
  have y0 : (Int32.toInt64 b0 &&& (255 : Int64)).toInt = x1.toInt % 18446744073709551616 / 65536 % 256 := by
    rw [eb0, own_bt x1 16 16 (by decide) (by decide) (by decide)]
    rfl
  have t0 := own_stp (0 : Int64) (Int32.toInt64 b0 &&& (255 : Int64)) (by omega) (by omega)
  have u0 : (0 : Int64) <<< ((Int32.toInt64 (8 : Int32)) &&& 63) ||| (Int32.toInt64 b0 &&& (255 : Int64)) = r1 := er1.symm
  rw [u0, y0] at t0
  have g0 := rng64 r1
  have v0 : r1.toInt = x1.toInt % 18446744073709551616 / 65536 % 256 := by have zz : (0 : Int64).toInt = 0 := rfl; omega
  clear y0 t0 u0
  have y1 : (Int32.toInt64 b1 &&& (255 : Int64)).toInt = x1.toInt % 18446744073709551616 / 256 % 256 := by
    rw [eb1, own_bt x1 8 8 (by decide) (by decide) (by decide)]
    rfl
  have t1 := own_stp r1 (Int32.toInt64 b1 &&& (255 : Int64)) (by omega) (by omega)
  have u1 : r1 <<< ((Int32.toInt64 (8 : Int32)) &&& 63) ||| (Int32.toInt64 b1 &&& (255 : Int64)) = r2 := er2.symm
  rw [u1, y1] at t1
  have g1 := rng64 r2
  have v1 : r2.toInt = x1.toInt % 18446744073709551616 / 256 % 65536 := by omega
  clear y1 t1 u1 v0 g0
  have y2 : (Int32.toInt64 b2 &&& (255 : Int64)).toInt = x1.toInt % 18446744073709551616 / 1 % 256 := by
    rw [eb2, own_bt0]
    omega
  have t2 := own_stp r2 (Int32.toInt64 b2 &&& (255 : Int64)) (by omega) (by omega)
  have u2 : r2 <<< ((Int32.toInt64 (8 : Int32)) &&& 63) ||| (Int32.toInt64 b2 &&& (255 : Int64)) = r3 := er3.symm
  rw [u2, y2] at t2
  have g2 := rng64 r3
  have v2 : r3.toInt = x1.toInt % 18446744073709551616 / 1 % 16777216 := by omega
  clear y2 t2 u2 v1 g1
  have w3 : r4 = r3 := er4
  have w4 : r5 = r4 := er5
  have w5 : r6 = r5 := er6
  have w6 : r7 = r6 := er7
  have w7 : r8 = r7 := er8
  have m := c_maskL x1 16777215 24 (by decide) (by decide)
  have me : ((2 ^ 24 : Nat) : Int) = 16777216 := by decide
  rw [me] at m
  apply Int64.toInt_inj.mp
  rw [w7, w6, w5, w4, w3, m]
  omega
theorem own_u4 (x1 : Int64) (b0 b1 b2 b3 : Int32) (r1 r2 r3 r4 r5 r6 r7 r8 : Int64) (eb0 : b0 = (nar .byte (Int8.toInt32 (Int32.toInt8 (Int64.toInt32 (XT.ushrL x1 (24 : Int32))))))) (eb1 : b1 = (nar .byte (Int8.toInt32 (Int32.toInt8 (Int64.toInt32 (XT.ushrL x1 (16 : Int32))))))) (eb2 : b2 = (nar .byte (Int8.toInt32 (Int32.toInt8 (Int64.toInt32 (XT.ushrL x1 (8 : Int32))))))) (eb3 : b3 = (nar .byte (Int8.toInt32 (Int32.toInt8 (Int64.toInt32 (XT.ushrL x1 (0 : Int32))))))) (er1 : r1 = sp_st4_0 (0 : Int64) b0 b1 b2 b3) (er2 : r2 = sp_st4_1 r1 b0 b1 b2 b3) (er3 : r3 = sp_st4_2 r2 b0 b1 b2 b3) (er4 : r4 = sp_st4_3 r3 b0 b1 b2 b3) (er5 : r5 = sp_st4_4 r4 b0 b1 b2 b3) (er6 : r6 = sp_st4_5 r5 b0 b1 b2 b3) (er7 : r7 = sp_st4_6 r6 b0 b1 b2 b3) (er8 : r8 = sp_st4_7 r7 b0 b1 b2 b3) : r8 = (x1 &&& (4294967295 : Int64)) := by
  have hX := rng64 x1
  have y0 : (Int32.toInt64 b0 &&& (255 : Int64)).toInt = x1.toInt % 18446744073709551616 / 16777216 % 256 := by
    rw [eb0, own_bt x1 24 24 (by decide) (by decide) (by decide)]
    rfl
  have t0 := own_stp (0 : Int64) (Int32.toInt64 b0 &&& (255 : Int64)) (by omega) (by omega)
  have u0 : (0 : Int64) <<< ((Int32.toInt64 (8 : Int32)) &&& 63) ||| (Int32.toInt64 b0 &&& (255 : Int64)) = r1 := er1.symm
  rw [u0, y0] at t0
  have g0 := rng64 r1
  have v0 : r1.toInt = x1.toInt % 18446744073709551616 / 16777216 % 256 := by have zz : (0 : Int64).toInt = 0 := rfl; omega
  clear y0 t0 u0
  have y1 : (Int32.toInt64 b1 &&& (255 : Int64)).toInt = x1.toInt % 18446744073709551616 / 65536 % 256 := by
    rw [eb1, own_bt x1 16 16 (by decide) (by decide) (by decide)]
    rfl
  have t1 := own_stp r1 (Int32.toInt64 b1 &&& (255 : Int64)) (by omega) (by omega)
  have u1 : r1 <<< ((Int32.toInt64 (8 : Int32)) &&& 63) ||| (Int32.toInt64 b1 &&& (255 : Int64)) = r2 := er2.symm
  rw [u1, y1] at t1
  have g1 := rng64 r2
  have v1 : r2.toInt = x1.toInt % 18446744073709551616 / 65536 % 65536 := by omega
  clear y1 t1 u1 v0 g0
  have y2 : (Int32.toInt64 b2 &&& (255 : Int64)).toInt = x1.toInt % 18446744073709551616 / 256 % 256 := by
    rw [eb2, own_bt x1 8 8 (by decide) (by decide) (by decide)]
    rfl
  have t2 := own_stp r2 (Int32.toInt64 b2 &&& (255 : Int64)) (by omega) (by omega)
  have u2 : r2 <<< ((Int32.toInt64 (8 : Int32)) &&& 63) ||| (Int32.toInt64 b2 &&& (255 : Int64)) = r3 := er3.symm
  rw [u2, y2] at t2
  have g2 := rng64 r3
  have v2 : r3.toInt = x1.toInt % 18446744073709551616 / 256 % 16777216 := by omega
  clear y2 t2 u2 v1 g1
  have y3 : (Int32.toInt64 b3 &&& (255 : Int64)).toInt = x1.toInt % 18446744073709551616 / 1 % 256 := by
    rw [eb3, own_bt0]
    omega
  have t3 := own_stp r3 (Int32.toInt64 b3 &&& (255 : Int64)) (by omega) (by omega)
  have u3 : r3 <<< ((Int32.toInt64 (8 : Int32)) &&& 63) ||| (Int32.toInt64 b3 &&& (255 : Int64)) = r4 := er4.symm
  rw [u3, y3] at t3
  have g3 := rng64 r4
  have v3 : r4.toInt = x1.toInt % 18446744073709551616 / 1 % 4294967296 := by omega
  clear y3 t3 u3 v2 g2
  have w4 : r5 = r4 := er5
  have w5 : r6 = r5 := er6
  have w6 : r7 = r6 := er7
  have w7 : r8 = r7 := er8
  have m := c_maskL x1 4294967295 32 (by decide) (by decide)
  have me : ((2 ^ 32 : Nat) : Int) = 4294967296 := by decide
  rw [me] at m
  apply Int64.toInt_inj.mp
  rw [w7, w6, w5, w4, m]
  omega
theorem own_u5 (x1 : Int64) (b0 b1 b2 b3 b4 : Int32) (r1 r2 r3 r4 r5 r6 r7 r8 : Int64) (eb0 : b0 = (nar .byte (Int8.toInt32 (Int32.toInt8 (Int64.toInt32 (XT.ushrL x1 (32 : Int32))))))) (eb1 : b1 = (nar .byte (Int8.toInt32 (Int32.toInt8 (Int64.toInt32 (XT.ushrL x1 (24 : Int32))))))) (eb2 : b2 = (nar .byte (Int8.toInt32 (Int32.toInt8 (Int64.toInt32 (XT.ushrL x1 (16 : Int32))))))) (eb3 : b3 = (nar .byte (Int8.toInt32 (Int32.toInt8 (Int64.toInt32 (XT.ushrL x1 (8 : Int32))))))) (eb4 : b4 = (nar .byte (Int8.toInt32 (Int32.toInt8 (Int64.toInt32 (XT.ushrL x1 (0 : Int32))))))) (er1 : r1 = sp_st5_0 (0 : Int64) b0 b1 b2 b3 b4) (er2 : r2 = sp_st5_1 r1 b0 b1 b2 b3 b4) (er3 : r3 = sp_st5_2 r2 b0 b1 b2 b3 b4) (er4 : r4 = sp_st5_3 r3 b0 b1 b2 b3 b4) (er5 : r5 = sp_st5_4 r4 b0 b1 b2 b3 b4) (er6 : r6 = sp_st5_5 r5 b0 b1 b2 b3 b4) (er7 : r7 = sp_st5_6 r6 b0 b1 b2 b3 b4) (er8 : r8 = sp_st5_7 r7 b0 b1 b2 b3 b4) : r8 = (x1 &&& (1099511627775 : Int64)) := by
  have hX := rng64 x1
  have y0 : (Int32.toInt64 b0 &&& (255 : Int64)).toInt = x1.toInt % 18446744073709551616 / 4294967296 % 256 := by
    rw [eb0, own_bt x1 32 32 (by decide) (by decide) (by decide)]
    rfl
  have t0 := own_stp (0 : Int64) (Int32.toInt64 b0 &&& (255 : Int64)) (by omega) (by omega)
  have u0 : (0 : Int64) <<< ((Int32.toInt64 (8 : Int32)) &&& 63) ||| (Int32.toInt64 b0 &&& (255 : Int64)) = r1 := er1.symm
  rw [u0, y0] at t0
  have g0 := rng64 r1
  have v0 : r1.toInt = x1.toInt % 18446744073709551616 / 4294967296 % 256 := by have zz : (0 : Int64).toInt = 0 := rfl; omega
  clear y0 t0 u0
  have y1 : (Int32.toInt64 b1 &&& (255 : Int64)).toInt = x1.toInt % 18446744073709551616 / 16777216 % 256 := by
    rw [eb1, own_bt x1 24 24 (by decide) (by decide) (by decide)]
    rfl
  have t1 := own_stp r1 (Int32.toInt64 b1 &&& (255 : Int64)) (by omega) (by omega)
  have u1 : r1 <<< ((Int32.toInt64 (8 : Int32)) &&& 63) ||| (Int32.toInt64 b1 &&& (255 : Int64)) = r2 := er2.symm
  rw [u1, y1] at t1
  have g1 := rng64 r2
  have v1 : r2.toInt = x1.toInt % 18446744073709551616 / 16777216 % 65536 := by omega
  clear y1 t1 u1 v0 g0
  have y2 : (Int32.toInt64 b2 &&& (255 : Int64)).toInt = x1.toInt % 18446744073709551616 / 65536 % 256 := by
    rw [eb2, own_bt x1 16 16 (by decide) (by decide) (by decide)]
    rfl
  have t2 := own_stp r2 (Int32.toInt64 b2 &&& (255 : Int64)) (by omega) (by omega)
  have u2 : r2 <<< ((Int32.toInt64 (8 : Int32)) &&& 63) ||| (Int32.toInt64 b2 &&& (255 : Int64)) = r3 := er3.symm
  rw [u2, y2] at t2
  have g2 := rng64 r3
  have v2 : r3.toInt = x1.toInt % 18446744073709551616 / 65536 % 16777216 := by omega
  clear y2 t2 u2 v1 g1
  have y3 : (Int32.toInt64 b3 &&& (255 : Int64)).toInt = x1.toInt % 18446744073709551616 / 256 % 256 := by
    rw [eb3, own_bt x1 8 8 (by decide) (by decide) (by decide)]
    rfl
  have t3 := own_stp r3 (Int32.toInt64 b3 &&& (255 : Int64)) (by omega) (by omega)
  have u3 : r3 <<< ((Int32.toInt64 (8 : Int32)) &&& 63) ||| (Int32.toInt64 b3 &&& (255 : Int64)) = r4 := er4.symm
  rw [u3, y3] at t3
  have g3 := rng64 r4
  have v3 : r4.toInt = x1.toInt % 18446744073709551616 / 256 % 4294967296 := by omega
  clear y3 t3 u3 v2 g2
  have y4 : (Int32.toInt64 b4 &&& (255 : Int64)).toInt = x1.toInt % 18446744073709551616 / 1 % 256 := by
    rw [eb4, own_bt0]
    omega
  have t4 := own_stp r4 (Int32.toInt64 b4 &&& (255 : Int64)) (by omega) (by omega)
  have u4 : r4 <<< ((Int32.toInt64 (8 : Int32)) &&& 63) ||| (Int32.toInt64 b4 &&& (255 : Int64)) = r5 := er5.symm
  rw [u4, y4] at t4
  have g4 := rng64 r5
  have v4 : r5.toInt = x1.toInt % 18446744073709551616 / 1 % 1099511627776 := by omega
  clear y4 t4 u4 v3 g3
  have w5 : r6 = r5 := er6
  have w6 : r7 = r6 := er7
  have w7 : r8 = r7 := er8
  have m := c_maskL x1 1099511627775 40 (by decide) (by decide)
  have me : ((2 ^ 40 : Nat) : Int) = 1099511627776 := by decide
  rw [me] at m
  apply Int64.toInt_inj.mp
  rw [w7, w6, w5, m]
  omega
theorem own_u6 (x1 : Int64) (b0 b1 b2 b3 b4 b5 : Int32) (r1 r2 r3 r4 r5 r6 r7 r8 : Int64) (eb0 : b0 = (nar .byte (Int8.toInt32 (Int32.toInt8 (Int64.toInt32 (XT.ushrL x1 (40 : Int32))))))) (eb1 : b1 = (nar .byte (Int8.toInt32 (Int32.toInt8 (Int64.toInt32 (XT.ushrL x1 (32 : Int32))))))) (eb2 : b2 = (nar .byte (Int8.toInt32 (Int32.toInt8 (Int64.toInt32 (XT.ushrL x1 (24 : Int32))))))) (eb3 : b3 = (nar .byte (Int8.toInt32 (Int32.toInt8 (Int64.toInt32 (XT.ushrL x1 (16 : Int32))))))) (eb4 : b4 = (nar .byte (Int8.toInt32 (Int32.toInt8 (Int64.toInt32 (XT.ushrL x1 (8 : Int32))))))) (eb5 : b5 = (nar .byte (Int8.toInt32 (Int32.toInt8 (Int64.toInt32 (XT.ushrL x1 (0 : Int32))))))) (er1 : r1 = sp_st6_0 (0 : Int64) b0 b1 b2 b3 b4 b5) (er2 : r2 = sp_st6_1 r1 b0 b1 b2 b3 b4 b5) (er3 : r3 = sp_st6_2 r2 b0 b1 b2 b3 b4 b5) (er4 : r4 = sp_st6_3 r3 b0 b1 b2 b3 b4 b5) (er5 : r5 = sp_st6_4 r4 b0 b1 b2 b3 b4 b5) (er6 : r6 = sp_st6_5 r5 b0 b1 b2 b3 b4 b5) (er7 : r7 = sp_st6_6 r6 b0 b1 b2 b3 b4 b5) (er8 : r8 = sp_st6_7 r7 b0 b1 b2 b3 b4 b5) : r8 = (x1 &&& (281474976710655 : Int64)) := by
  have hX := rng64 x1
  have y0 : (Int32.toInt64 b0 &&& (255 : Int64)).toInt = x1.toInt % 18446744073709551616 / 1099511627776 % 256 := by
    rw [eb0, own_bt x1 40 40 (by decide) (by decide) (by decide)]
    rfl
  have t0 := own_stp (0 : Int64) (Int32.toInt64 b0 &&& (255 : Int64)) (by omega) (by omega)
  have u0 : (0 : Int64) <<< ((Int32.toInt64 (8 : Int32)) &&& 63) ||| (Int32.toInt64 b0 &&& (255 : Int64)) = r1 := er1.symm
  rw [u0, y0] at t0
  have g0 := rng64 r1
  have v0 : r1.toInt = x1.toInt % 18446744073709551616 / 1099511627776 % 256 := by have zz : (0 : Int64).toInt = 0 := rfl; omega
  clear y0 t0 u0
  have y1 : (Int32.toInt64 b1 &&& (255 : Int64)).toInt = x1.toInt % 18446744073709551616 / 4294967296 % 256 := by
    rw [eb1, own_bt x1 32 32 (by decide) (by decide) (by decide)]
    rfl
  have t1 := own_stp r1 (Int32.toInt64 b1 &&& (255 : Int64)) (by omega) (by omega)
  have u1 : r1 <<< ((Int32.toInt64 (8 : Int32)) &&& 63) ||| (Int32.toInt64 b1 &&& (255 : Int64)) = r2 := er2.symm
  rw [u1, y1] at t1
  have g1 := rng64 r2
  have v1 : r2.toInt = x1.toInt % 18446744073709551616 / 4294967296 % 65536 := by omega
  clear y1 t1 u1 v0 g0
  have y2 : (Int32.toInt64 b2 &&& (255 : Int64)).toInt = x1.toInt % 18446744073709551616 / 16777216 % 256 := by
    rw [eb2, own_bt x1 24 24 (by decide) (by decide) (by decide)]
    rfl
  have t2 := own_stp r2 (Int32.toInt64 b2 &&& (255 : Int64)) (by omega) (by omega)
  have u2 : r2 <<< ((Int32.toInt64 (8 : Int32)) &&& 63) ||| (Int32.toInt64 b2 &&& (255 : Int64)) = r3 := er3.symm
  rw [u2, y2] at t2
  have g2 := rng64 r3
  have v2 : r3.toInt = x1.toInt % 18446744073709551616 / 16777216 % 16777216 := by omega
  clear y2 t2 u2 v1 g1
  have y3 : (Int32.toInt64 b3 &&& (255 : Int64)).toInt = x1.toInt % 18446744073709551616 / 65536 % 256 := by
    rw [eb3, own_bt x1 16 16 (by decide) (by decide) (by decide)]
    rfl
  have t3 := own_stp r3 (Int32.toInt64 b3 &&& (255 : Int64)) (by omega) (by omega)
  have u3 : r3 <<< ((Int32.toInt64 (8 : Int32)) &&& 63) ||| (Int32.toInt64 b3 &&& (255 : Int64)) = r4 := er4.symm
  rw [u3, y3] at t3
  have g3 := rng64 r4
  have v3 : r4.toInt = x1.toInt % 18446744073709551616 / 65536 % 4294967296 := by omega
  clear y3 t3 u3 v2 g2
  have y4 : (Int32.toInt64 b4 &&& (255 : Int64)).toInt = x1.toInt % 18446744073709551616 / 256 % 256 := by
    rw [eb4, own_bt x1 8 8 (by decide) (by decide) (by decide)]
    rfl
  have t4 := own_stp r4 (Int32.toInt64 b4 &&& (255 : Int64)) (by omega) (by omega)
  have u4 : r4 <<< ((Int32.toInt64 (8 : Int32)) &&& 63) ||| (Int32.toInt64 b4 &&& (255 : Int64)) = r5 := er5.symm
  rw [u4, y4] at t4
  have g4 := rng64 r5
  have v4 : r5.toInt = x1.toInt % 18446744073709551616 / 256 % 1099511627776 := by omega
  clear y4 t4 u4 v3 g3
  have y5 : (Int32.toInt64 b5 &&& (255 : Int64)).toInt = x1.toInt % 18446744073709551616 / 1 % 256 := by
    rw [eb5, own_bt0]
    omega
  have t5 := own_stp r5 (Int32.toInt64 b5 &&& (255 : Int64)) (by omega) (by omega)
  have u5 : r5 <<< ((Int32.toInt64 (8 : Int32)) &&& 63) ||| (Int32.toInt64 b5 &&& (255 : Int64)) = r6 := er6.symm
  rw [u5, y5] at t5
  have g5 := rng64 r6
  have v5 : r6.toInt = x1.toInt % 18446744073709551616 / 1 % 281474976710656 := by omega
  clear y5 t5 u5 v4 g4
  have w6 : r7 = r6 := er7
  have w7 : r8 = r7 := er8
  have m := c_maskL x1 281474976710655 48 (by decide) (by decide)
  have me : ((2 ^ 48 : Nat) : Int) = 281474976710656 := by decide
  rw [me] at m
  apply Int64.toInt_inj.mp
  rw [w7, w6, m]
  omega
theorem own_u7 (x1 : Int64) (b0 b1 b2 b3 b4 b5 b6 : Int32) (r1 r2 r3 r4 r5 r6 r7 r8 : Int64) (eb0 : b0 = (nar .byte (Int8.toInt32 (Int32.toInt8 (Int64.toInt32 (XT.ushrL x1 (48 : Int32))))))) (eb1 : b1 = (nar .byte (Int8.toInt32 (Int32.toInt8 (Int64.toInt32 (XT.ushrL x1 (40 : Int32))))))) (eb2 : b2 = (nar .byte (Int8.toInt32 (Int32.toInt8 (Int64.toInt32 (XT.ushrL x1 (32 : Int32))))))) (eb3 : b3 = (nar .byte (Int8.toInt32 (Int32.toInt8 (Int64.toInt32 (XT.ushrL x1 (24 : Int32))))))) (eb4 : b4 = (nar .byte (Int8.toInt32 (Int32.toInt8 (Int64.toInt32 (XT.ushrL x1 (16 : Int32))))))) (eb5 : b5 = (nar .byte (Int8.toInt32 (Int32.toInt8 (Int64.toInt32 (XT.ushrL x1 (8 : Int32))))))) (eb6 : b6 = (nar .byte (Int8.toInt32 (Int32.toInt8 (Int64.toInt32 (XT.ushrL x1 (0 : Int32))))))) (er1 : r1 = sp_st7_0 (0 : Int64) b0 b1 b2 b3 b4 b5 b6) (er2 : r2 = sp_st7_1 r1 b0 b1 b2 b3 b4 b5 b6) (er3 : r3 = sp_st7_2 r2 b0 b1 b2 b3 b4 b5 b6) (er4 : r4 = sp_st7_3 r3 b0 b1 b2 b3 b4 b5 b6) (er5 : r5 = sp_st7_4 r4 b0 b1 b2 b3 b4 b5 b6) (er6 : r6 = sp_st7_5 r5 b0 b1 b2 b3 b4 b5 b6) (er7 : r7 = sp_st7_6 r6 b0 b1 b2 b3 b4 b5 b6) (er8 : r8 = sp_st7_7 r7 b0 b1 b2 b3 b4 b5 b6) : r8 = (x1 &&& (72057594037927935 : Int64)) := by
  have hX := rng64 x1
  have y0 : (Int32.toInt64 b0 &&& (255 : Int64)).toInt = x1.toInt % 18446744073709551616 / 281474976710656 % 256 := by
    rw [eb0, own_bt x1 48 48 (by decide) (by decide) (by decide)]
    rfl
  have t0 := own_stp (0 : Int64) (Int32.toInt64 b0 &&& (255 : Int64)) (by omega) (by omega)
  have u0 : (0 : Int64) <<< ((Int32.toInt64 (8 : Int32)) &&& 63) ||| (Int32.toInt64 b0 &&& (255 : Int64)) = r1 := er1.symm
  rw [u0, y0] at t0
  have g0 := rng64 r1
  have v0 : r1.toInt = x1.toInt % 18446744073709551616 / 281474976710656 % 256 := by have zz : (0 : Int64).toInt = 0 := rfl; omega
  clear y0 t0 u0
  have y1 : (Int32.toInt64 b1 &&& (255 : Int64)).toInt = x1.toInt % 18446744073709551616 / 1099511627776 % 256 := by
    rw [eb1, own_bt x1 40 40 (by decide) (by decide) (by decide)]
    rfl
  have t1 := own_stp r1 (Int32.toInt64 b1 &&& (255 : Int64)) (by omega) (by omega)
  have u1 : r1 <<< ((Int32.toInt64 (8 : Int32)) &&& 63) ||| (Int32.toInt64 b1 &&& (255 : Int64)) = r2 := er2.symm
  rw [u1, y1] at t1
  have g1 := rng64 r2
  have v1 : r2.toInt = x1.toInt % 18446744073709551616 / 1099511627776 % 65536 := by omega
  clear y1 t1 u1 v0 g0
  have y2 : (Int32.toInt64 b2 &&& (255 : Int64)).toInt = x1.toInt % 18446744073709551616 / 4294967296 % 256 := by
    rw [eb2, own_bt x1 32 32 (by decide) (by decide) (by decide)]
    rfl
  have t2 := own_stp r2 (Int32.toInt64 b2 &&& (255 : Int64)) (by omega) (by omega)
  have u2 : r2 <<< ((Int32.toInt64 (8 : Int32)) &&& 63) ||| (Int32.toInt64 b2 &&& (255 : Int64)) = r3 := er3.symm
  rw [u2, y2] at t2
  have g2 := rng64 r3
  have v2 : r3.toInt = x1.toInt % 18446744073709551616 / 4294967296 % 16777216 := by omega
  clear y2 t2 u2 v1 g1
  have y3 : (Int32.toInt64 b3 &&& (255 : Int64)).toInt = x1.toInt % 18446744073709551616 / 16777216 % 256 := by
    rw [eb3, own_bt x1 24 24 (by decide) (by decide) (by decide)]
    rfl
  have t3 := own_stp r3 (Int32.toInt64 b3 &&& (255 : Int64)) (by omega) (by omega)
  have u3 : r3 <<< ((Int32.toInt64 (8 : Int32)) &&& 63) ||| (Int32.toInt64 b3 &&& (255 : Int64)) = r4 := er4.symm
  rw [u3, y3] at t3
  have g3 := rng64 r4
  have v3 : r4.toInt = x1.toInt % 18446744073709551616 / 16777216 % 4294967296 := by omega
  clear y3 t3 u3 v2 g2
  have y4 : (Int32.toInt64 b4 &&& (255 : Int64)).toInt = x1.toInt % 18446744073709551616 / 65536 % 256 := by
    rw [eb4, own_bt x1 16 16 (by decide) (by decide) (by decide)]
    rfl
  have t4 := own_stp r4 (Int32.toInt64 b4 &&& (255 : Int64)) (by omega) (by omega)
  have u4 : r4 <<< ((Int32.toInt64 (8 : Int32)) &&& 63) ||| (Int32.toInt64 b4 &&& (255 : Int64)) = r5 := er5.symm
  rw [u4, y4] at t4
  have g4 := rng64 r5
  have v4 : r5.toInt = x1.toInt % 18446744073709551616 / 65536 % 1099511627776 := by omega
  clear y4 t4 u4 v3 g3
  have y5 : (Int32.toInt64 b5 &&& (255 : Int64)).toInt = x1.toInt % 18446744073709551616 / 256 % 256 := by
    rw [eb5, own_bt x1 8 8 (by decide) (by decide) (by decide)]
    rfl
  have t5 := own_stp r5 (Int32.toInt64 b5 &&& (255 : Int64)) (by omega) (by omega)
  have u5 : r5 <<< ((Int32.toInt64 (8 : Int32)) &&& 63) ||| (Int32.toInt64 b5 &&& (255 : Int64)) = r6 := er6.symm
  rw [u5, y5] at t5
  have g5 := rng64 r6
  have v5 : r6.toInt = x1.toInt % 18446744073709551616 / 256 % 281474976710656 := by omega
  clear y5 t5 u5 v4 g4
  have y6 : (Int32.toInt64 b6 &&& (255 : Int64)).toInt = x1.toInt % 18446744073709551616 / 1 % 256 := by
    rw [eb6, own_bt0]
    omega
  have t6 := own_stp r6 (Int32.toInt64 b6 &&& (255 : Int64)) (by omega) (by omega)
  have u6 : r6 <<< ((Int32.toInt64 (8 : Int32)) &&& 63) ||| (Int32.toInt64 b6 &&& (255 : Int64)) = r7 := er7.symm
  rw [u6, y6] at t6
  have g6 := rng64 r7
  have v6 : r7.toInt = x1.toInt % 18446744073709551616 / 1 % 72057594037927936 := by omega
  clear y6 t6 u6 v5 g5
  have w7 : r8 = r7 := er8
  have m := c_maskL x1 72057594037927935 56 (by decide) (by decide)
  have me : ((2 ^ 56 : Nat) : Int) = 72057594037927936 := by decide
  rw [me] at m
  apply Int64.toInt_inj.mp
  rw [w7, m]
  omega
theorem own_u8 (x1 : Int64) (b0 b1 b2 b3 b4 b5 b6 b7 : Int32) (r1 r2 r3 r4 r5 r6 r7 r8 : Int64) (eb0 : b0 = (nar .byte (Int8.toInt32 (Int32.toInt8 (Int64.toInt32 (XT.ushrL x1 (56 : Int32))))))) (eb1 : b1 = (nar .byte (Int8.toInt32 (Int32.toInt8 (Int64.toInt32 (XT.ushrL x1 (48 : Int32))))))) (eb2 : b2 = (nar .byte (Int8.toInt32 (Int32.toInt8 (Int64.toInt32 (XT.ushrL x1 (40 : Int32))))))) (eb3 : b3 = (nar .byte (Int8.toInt32 (Int32.toInt8 (Int64.toInt32 (XT.ushrL x1 (32 : Int32))))))) (eb4 : b4 = (nar .byte (Int8.toInt32 (Int32.toInt8 (Int64.toInt32 (XT.ushrL x1 (24 : Int32))))))) (eb5 : b5 = (nar .byte (Int8.toInt32 (Int32.toInt8 (Int64.toInt32 (XT.ushrL x1 (16 : Int32))))))) (eb6 : b6 = (nar .byte (Int8.toInt32 (Int32.toInt8 (Int64.toInt32 (XT.ushrL x1 (8 : Int32))))))) (eb7 : b7 = (nar .byte (Int8.toInt32 (Int32.toInt8 (Int64.toInt32 (XT.ushrL x1 (0 : Int32))))))) (er1 : r1 = sp_st8_0 (0 : Int64) b0 b1 b2 b3 b4 b5 b6 b7) (er2 : r2 = sp_st8_1 r1 b0 b1 b2 b3 b4 b5 b6 b7) (er3 : r3 = sp_st8_2 r2 b0 b1 b2 b3 b4 b5 b6 b7) (er4 : r4 = sp_st8_3 r3 b0 b1 b2 b3 b4 b5 b6 b7) (er5 : r5 = sp_st8_4 r4 b0 b1 b2 b3 b4 b5 b6 b7) (er6 : r6 = sp_st8_5 r5 b0 b1 b2 b3 b4 b5 b6 b7) (er7 : r7 = sp_st8_6 r6 b0 b1 b2 b3 b4 b5 b6 b7) (er8 : r8 = sp_st8_7 r7 b0 b1 b2 b3 b4 b5 b6 b7) : r8 = x1 := by
  have hX := rng64 x1
  have y0 : (Int32.toInt64 b0 &&& (255 : Int64)).toInt = x1.toInt % 18446744073709551616 / 72057594037927936 % 256 := by
    rw [eb0, own_bt x1 56 56 (by decide) (by decide) (by decide)]
    rfl
  have t0 := own_stp (0 : Int64) (Int32.toInt64 b0 &&& (255 : Int64)) (by omega) (by omega)
  have u0 : (0 : Int64) <<< ((Int32.toInt64 (8 : Int32)) &&& 63) ||| (Int32.toInt64 b0 &&& (255 : Int64)) = r1 := er1.symm
  rw [u0, y0] at t0
  have g0 := rng64 r1
  have v0 : r1.toInt = x1.toInt % 18446744073709551616 / 72057594037927936 % 256 := by have zz : (0 : Int64).toInt = 0 := rfl; omega
  clear y0 t0 u0
  have y1 : (Int32.toInt64 b1 &&& (255 : Int64)).toInt = x1.toInt % 18446744073709551616 / 281474976710656 % 256 := by
    rw [eb1, own_bt x1 48 48 (by decide) (by decide) (by decide)]
    rfl
  have t1 := own_stp r1 (Int32.toInt64 b1 &&& (255 : Int64)) (by omega) (by omega)
  have u1 : r1 <<< ((Int32.toInt64 (8 : Int32)) &&& 63) ||| (Int32.toInt64 b1 &&& (255 : Int64)) = r2 := er2.symm
  rw [u1, y1] at t1
  have g1 := rng64 r2
  have v1 : r2.toInt = x1.toInt % 18446744073709551616 / 281474976710656 % 65536 := by omega
  clear y1 t1 u1 v0 g0
  have y2 : (Int32.toInt64 b2 &&& (255 : Int64)).toInt = x1.toInt % 18446744073709551616 / 1099511627776 % 256 := by
    rw [eb2, own_bt x1 40 40 (by decide) (by decide) (by decide)]
    rfl
  have t2 := own_stp r2 (Int32.toInt64 b2 &&& (255 : Int64)) (by omega) (by omega)
  have u2 : r2 <<< ((Int32.toInt64 (8 : Int32)) &&& 63) ||| (Int32.toInt64 b2 &&& (255 : Int64)) = r3 := er3.symm
  rw [u2, y2] at t2
  have g2 := rng64 r3
  have v2 : r3.toInt = x1.toInt % 18446744073709551616 / 1099511627776 % 16777216 := by omega
  clear y2 t2 u2 v1 g1
  have y3 : (Int32.toInt64 b3 &&& (255 : Int64)).toInt = x1.toInt % 18446744073709551616 / 4294967296 % 256 := by
    rw [eb3, own_bt x1 32 32 (by decide) (by decide) (by decide)]
    rfl
  have t3 := own_stp r3 (Int32.toInt64 b3 &&& (255 : Int64)) (by omega) (by omega)
  have u3 : r3 <<< ((Int32.toInt64 (8 : Int32)) &&& 63) ||| (Int32.toInt64 b3 &&& (255 : Int64)) = r4 := er4.symm
  rw [u3, y3] at t3
  have g3 := rng64 r4
  have v3 : r4.toInt = x1.toInt % 18446744073709551616 / 4294967296 % 4294967296 := by omega
  clear y3 t3 u3 v2 g2
  have y4 : (Int32.toInt64 b4 &&& (255 : Int64)).toInt = x1.toInt % 18446744073709551616 / 16777216 % 256 := by
    rw [eb4, own_bt x1 24 24 (by decide) (by decide) (by decide)]
    rfl
  have t4 := own_stp r4 (Int32.toInt64 b4 &&& (255 : Int64)) (by omega) (by omega)
  have u4 : r4 <<< ((Int32.toInt64 (8 : Int32)) &&& 63) ||| (Int32.toInt64 b4 &&& (255 : Int64)) = r5 := er5.symm
  rw [u4, y4] at t4
  have g4 := rng64 r5
  have v4 : r5.toInt = x1.toInt % 18446744073709551616 / 16777216 % 1099511627776 := by omega
  clear y4 t4 u4 v3 g3
  have y5 : (Int32.toInt64 b5 &&& (255 : Int64)).toInt = x1.toInt % 18446744073709551616 / 65536 % 256 := by
    rw [eb5, own_bt x1 16 16 (by decide) (by decide) (by decide)]
    rfl
  have t5 := own_stp r5 (Int32.toInt64 b5 &&& (255 : Int64)) (by omega) (by omega)
  have u5 : r5 <<< ((Int32.toInt64 (8 : Int32)) &&& 63) ||| (Int32.toInt64 b5 &&& (255 : Int64)) = r6 := er6.symm
  rw [u5, y5] at t5
  have g5 := rng64 r6
  have v5 : r6.toInt = x1.toInt % 18446744073709551616 / 65536 % 281474976710656 := by omega
  clear y5 t5 u5 v4 g4
  have y6 : (Int32.toInt64 b6 &&& (255 : Int64)).toInt = x1.toInt % 18446744073709551616 / 256 % 256 := by
    rw [eb6, own_bt x1 8 8 (by decide) (by decide) (by decide)]
    rfl
  have t6 := own_stp r6 (Int32.toInt64 b6 &&& (255 : Int64)) (by omega) (by omega)
  have u6 : r6 <<< ((Int32.toInt64 (8 : Int32)) &&& 63) ||| (Int32.toInt64 b6 &&& (255 : Int64)) = r7 := er7.symm
  rw [u6, y6] at t6
  have g6 := rng64 r7
  have v6 : r7.toInt = x1.toInt % 18446744073709551616 / 256 % 72057594037927936 := by omega
  clear y6 t6 u6 v5 g5
  have y7 : (Int32.toInt64 b7 &&& (255 : Int64)).toInt = x1.toInt % 18446744073709551616 / 1 % 256 := by
    rw [eb7, own_bt0]
    omega
  have t7 := own_stp r7 (Int32.toInt64 b7 &&& (255 : Int64)) (by omega) (by omega)
  have u7 : r7 <<< ((Int32.toInt64 (8 : Int32)) &&& 63) ||| (Int32.toInt64 b7 &&& (255 : Int64)) = r8 := er8.symm
  rw [u7, y7] at t7
  have g7 := rng64 r8
  have v7 : (r8.toInt - x1.toInt % 18446744073709551616) % 18446744073709551616 = 0 := by omega
  clear y7 t7 u7 v6 g6
  apply Int64.toInt_inj.mp
  omega
theorem d1_0 : decode prog_9_method_2_code 0 = .ok (.iload_n 0, 1) := by decide +kernel
theorem d1_1 : decode prog_9_method_2_code 1 = .ok (.newarray .byte, 2) := by decide +kernel
theorem d1_3 : decode prog_9_method_2_code 3 = .ok (.astore_n 3, 1) := by decide +kernel
theorem d1_4 : decode prog_9_method_2_code 4 = .ok (.iconst 0, 1) := by decide +kernel
theorem d1_5 : decode prog_9_method_2_code 5 = .ok (.istore 4, 2) := by decide +kernel
theorem d1_7 : decode prog_9_method_2_code 7 = .ok (.iload 4, 2) := by decide +kernel
theorem d1_9 : decode prog_9_method_2_code 9 = .ok (.iload_n 0, 1) := by decide +kernel
theorem d1_10 : decode prog_9_method_2_code 10 = .ok (.if_icmp .ge 26, 3) := by decide +kernel
theorem d1_13 : decode prog_9_method_2_code 13 = .ok (.aload_n 3, 1) := by decide +kernel
theorem d1_14 : decode prog_9_method_2_code 14 = .ok (.iload 4, 2) := by decide +kernel
theorem d1_16 : decode prog_9_method_2_code 16 = .ok (.lload_n 1, 1) := by decide +kernel
theorem d1_17 : decode prog_9_method_2_code 17 = .ok (.bipush 8, 2) := by decide +kernel
theorem d1_19 : decode prog_9_method_2_code 19 = .ok (.iload_n 0, 1) := by decide +kernel
theorem d1_20 : decode prog_9_method_2_code 20 = .ok (.iconst 1, 1) := by decide +kernel
theorem d1_21 : decode prog_9_method_2_code 21 = .ok (.isub, 1) := by decide +kernel
theorem d1_22 : decode prog_9_method_2_code 22 = .ok (.iload 4, 2) := by decide +kernel
theorem d1_24 : decode prog_9_method_2_code 24 = .ok (.isub, 1) := by decide +kernel
theorem d1_25 : decode prog_9_method_2_code 25 = .ok (.imul, 1) := by decide +kernel
theorem d1_26 : decode prog_9_method_2_code 26 = .ok (.lushr, 1) := by decide +kernel
theorem d1_27 : decode prog_9_method_2_code 27 = .ok (.l2i, 1) := by decide +kernel
theorem d1_28 : decode prog_9_method_2_code 28 = .ok (.i2b, 1) := by decide +kernel
theorem d1_29 : decode prog_9_method_2_code 29 = .ok (.bastore, 1) := by decide +kernel
theorem d1_30 : decode prog_9_method_2_code 30 = .ok (.iinc 4 1, 3) := by decide +kernel
theorem d1_33 : decode prog_9_method_2_code 33 = .ok (.goto (-26), 3) := by decide +kernel
theorem d1_36 : decode prog_9_method_2_code 36 = .ok (.aload_n 3, 1) := by decide +kernel
theorem d1_37 : decode prog_9_method_2_code 37 = .ok (.areturn, 1) := by decide +kernel
theorem pn1 : plainFor (⟨"com/example/protomata/protomata/Bytes", "uint", "(IJ)[B"⟩ : MethodName) = true := plainFor_of_name (by first | (simp [plainName, overriddenIn]; done) | decide +kernel)
theorem pd1 : parseMethodDescriptor (⟨"com/example/protomata/protomata/Bytes", "uint", "(IJ)[B"⟩ : MethodName).desc = some ⟨[.int, .long], some (.array .byte)⟩ := by decide +kernel
def Q_rm1_0 (Z : State) (n0 : Nat) (u0 : Int64) (v : Option Value) (h : Heap) (L : List Loc) : Prop := v = some (.ref (n0 + 0)) ∧ Fr n0 L ∧ ∃ kA1 : ClassId, IsA Z kA1 .byte ∧ HP n0 h [AC kA1 []]
theorem ef_rm1_0 (m : MethodId) (n0 : Nat) (u0 : Int64) : entryFrame m #[.int (0 : Int32), .long u0] 5 = mkF m 0 #[.val (.int (0 : Int32)), .val (.long u0), .second, .unset, .unset] [] := by first | (simp [entryFrame, mkF, argsToLocals, Value.category]; done) | rfl
set_option maxRecDepth 65536 in
set_option maxHeartbeats 40000000 in
theorem rm1_0 (l : Launch) (Z : State) (a0 : Array Value) (hw : ∀ d ∈ tables_1, d.before a0 Z = true) (ws : List Jvm.Cond) (n0 : Nat) (u0 : Int64) (h0 : Heap) (P0 : HP n0 h0 []) :
    MetFree l (⟨"com/example/protomata/protomata/Bytes", "uint", "(IJ)[B"⟩ : MethodName) (head1 (Jvm.Cond.code (⟨"com/example/protomata/protomata/Bytes", "uint", "(IJ)[B"⟩ : MethodName) prog_9_method_2_code 5 (some (.array .byte)) :: ws) ({ frames := 0, cells := 1, slots := 0, locals := 0 } : Room)) (fun a U => a = #[.int (0 : Int32), .long u0] ∧ Z.Warmed39 U.vm ∧ U.heap = h0) (fun _ _ _ _ _ => True) (fun _ U o U' => ∃ v L, o = .returned v ∧ Q_rm1_0 Z n0 u0 v U'.heap L ∧ FrameEnd U o U' L ({ frames := 0, cells := 1, slots := 0, locals := 0 } : Room).cells ({ frames := 0, cells := 1, slots := 0, locals := 0 } : Room).slots) := by
  refine own_body pn1 ?_
  intro p e s m below meth c T0 hx hby hml hret hlk hown hnm hZ X0 e0
  subst e0
  have N0 : Fr n0 [] := Fr.nil n0
  refine own_cast (ef_rm1_0 m n0 u0) ?_
  refine w_iloadN X0 hx (hb hby d1_0) rfl (pc' := 1) rfl ?_
  refine w_newarr (N := 0) (j := 0) X0 hx hZ P0 (ty := .byte) rfl (wd5 hw) (hb hby d1_1) (by decide) (by decide) (by decide) (by decide) rfl (pc' := 3) rfl ?_
  intro T1 kA1 X1 hk1 P1
  replace P1 : HP n0 T1.heap [AC kA1 []] := P1
  refine w_astoreN (l' := #[.val (.int (0 : Int32)), .val (.long u0), .second, .val (.ref (n0 + 0)), .unset]) X1 hx (hb hby d1_3) rfl rfl (pc' := 4) rfl ?_
  refine w_iconst (v := (0 : Int32)) X1 hx (hb hby d1_4) rfl (pc' := 5) rfl ?_
  refine w_istore (l' := #[.val (.int (0 : Int32)), .val (.long u0), .second, .val (.ref (n0 + 0)), .val (.int (0 : Int32))]) X1 hx (hb hby d1_5) rfl (pc' := 7) rfl ?_
  refine w_iload X1 hx (hb hby d1_7) rfl (pc' := 9) rfl ?_
  refine w_iloadN X1 hx (hb hby d1_9) rfl (pc' := 10) rfl ?_
  refine w_icmp_ge X1 hx (hb hby d1_10) (by decide) (pcY := 36) (by decide) (pc' := 13) rfl (fun h0 => ?_) (fun h0 => absurd h0 (by decide))
  refine w_aloadN X1 hx (hb hby d1_36) rfl rfl (pc' := 37) rfl ?_
  exact w_ret_a X1 hx rfl hret rfl hlk (hb hby d1_37) (by decide) (by decide) ⟨rfl, N0, kA1, hk1, P1⟩
def Q_rm1_1 (Z : State) (n0 : Nat) (u0 : Int64) (v : Option Value) (h : Heap) (L : List Loc) : Prop := v = some (.ref (n0 + 0)) ∧ Fr n0 L ∧ ∃ kA1 : ClassId, IsA Z kA1 .byte ∧ HP n0 h [AC kA1 [.int (nar .byte (Int8.toInt32 (Int32.toInt8 (Int64.toInt32 (XT.ushrL u0 (0 : Int32))))))]]
theorem ef_rm1_1 (m : MethodId) (n0 : Nat) (u0 : Int64) : entryFrame m #[.int (1 : Int32), .long u0] 5 = mkF m 0 #[.val (.int (1 : Int32)), .val (.long u0), .second, .unset, .unset] [] := by first | (simp [entryFrame, mkF, argsToLocals, Value.category]; done) | rfl
set_option maxRecDepth 65536 in
set_option maxHeartbeats 40000000 in
theorem rm1_1 (l : Launch) (Z : State) (a0 : Array Value) (hw : ∀ d ∈ tables_1, d.before a0 Z = true) (ws : List Jvm.Cond) (n0 : Nat) (u0 : Int64) (h0 : Heap) (P0 : HP n0 h0 []) :
    MetFree l (⟨"com/example/protomata/protomata/Bytes", "uint", "(IJ)[B"⟩ : MethodName) (head1 (Jvm.Cond.code (⟨"com/example/protomata/protomata/Bytes", "uint", "(IJ)[B"⟩ : MethodName) prog_9_method_2_code 5 (some (.array .byte)) :: ws) ({ frames := 0, cells := 1, slots := 1, locals := 0 } : Room)) (fun a U => a = #[.int (1 : Int32), .long u0] ∧ Z.Warmed39 U.vm ∧ U.heap = h0) (fun _ _ _ _ _ => True) (fun _ U o U' => ∃ v L, o = .returned v ∧ Q_rm1_1 Z n0 u0 v U'.heap L ∧ FrameEnd U o U' L ({ frames := 0, cells := 1, slots := 1, locals := 0 } : Room).cells ({ frames := 0, cells := 1, slots := 1, locals := 0 } : Room).slots) := by
  refine own_body pn1 ?_
  intro p e s m below meth c T0 hx hby hml hret hlk hown hnm hZ X0 e0
  subst e0
  have N0 : Fr n0 [] := Fr.nil n0
  refine own_cast (ef_rm1_1 m n0 u0) ?_
  refine w_iloadN X0 hx (hb hby d1_0) rfl (pc' := 1) rfl ?_
  refine w_newarr (N := 1) (j := 0) X0 hx hZ P0 (ty := .byte) rfl (wd5 hw) (hb hby d1_1) (by decide) (by decide) (by decide) (by decide) rfl (pc' := 3) rfl ?_
  intro T1 kA1 X1 hk1 P1
  replace P1 : HP n0 T1.heap [AC kA1 [.int (0 : Int32)]] := P1
  refine w_astoreN (l' := #[.val (.int (1 : Int32)), .val (.long u0), .second, .val (.ref (n0 + 0)), .unset]) X1 hx (hb hby d1_3) rfl rfl (pc' := 4) rfl ?_
  refine w_iconst (v := (0 : Int32)) X1 hx (hb hby d1_4) rfl (pc' := 5) rfl ?_
  refine w_istore (l' := #[.val (.int (1 : Int32)), .val (.long u0), .second, .val (.ref (n0 + 0)), .val (.int (0 : Int32))]) X1 hx (hb hby d1_5) rfl (pc' := 7) rfl ?_
  refine w_iload X1 hx (hb hby d1_7) rfl (pc' := 9) rfl ?_
  refine w_iloadN X1 hx (hb hby d1_9) rfl (pc' := 10) rfl ?_
  refine w_icmp_ge X1 hx (hb hby d1_10) (by decide) (pcY := 36) (by decide) (pc' := 13) rfl (fun h0 => absurd h0 (by decide)) (fun h0 => ?_)
  refine w_aloadN X1 hx (hb hby d1_13) rfl rfl (pc' := 14) rfl ?_
  refine w_iload X1 hx (hb hby d1_14) rfl (pc' := 16) rfl ?_
  refine w_lloadN X1 hx (hb hby d1_16) rfl (pc' := 17) rfl ?_
  refine w_bipush (v := (8 : Int32)) X1 hx (hb hby d1_17) rfl (pc' := 19) rfl ?_
  refine w_iloadN X1 hx (hb hby d1_19) rfl (pc' := 20) rfl ?_
  refine w_iconst (v := (1 : Int32)) X1 hx (hb hby d1_20) rfl (pc' := 21) rfl ?_
  refine w_isub X1 hx (hb hby d1_21) (pc' := 22) rfl ?_
  refine w_eqI (z := (0 : Int32)) (by decide) ?_
  refine w_iload X1 hx (hb hby d1_22) rfl (pc' := 24) rfl ?_
  refine w_isub X1 hx (hb hby d1_24) (pc' := 25) rfl ?_
  refine w_eqI (z := (0 : Int32)) (by decide) ?_
  refine w_imul X1 hx (hb hby d1_25) (pc' := 26) rfl ?_
  refine w_eqI (z := (0 : Int32)) (by decide) ?_
  refine w_lushr X1 hx (hb hby d1_26) (pc' := 27) rfl ?_
  refine w_l2i X1 hx (hb hby d1_27) (pc' := 28) rfl ?_
  refine w_i2b X1 hx (hb hby d1_28) (pc' := 29) rfl ?_
  refine w_bastore (i := 0) (jn := 0) X1 hx hZ N0 P1 rfl hk1 (hb hby d1_29) (by decide) (Nat.le_of_ble_eq_true rfl) (pc' := 30) rfl ?_
  intro T2 L1 N1 X2 P2
  replace P2 : HP n0 T2.heap [AC kA1 [.int (nar .byte (Int8.toInt32 (Int32.toInt8 (Int64.toInt32 (XT.ushrL u0 (0 : Int32))))))]] := P2
  refine w_iincE (z := (1 : Int32)) (l' := #[.val (.int (1 : Int32)), .val (.long u0), .second, .val (.ref (n0 + 0)), .val (.int (1 : Int32))]) X2 hx (hb hby d1_30) rfl (by decide) rfl (pc' := 33) rfl ?_
  refine w_goto X2 hx (hb hby d1_33) (by decide) (pc' := 7) (by decide) ?_
  refine w_iload X2 hx (hb hby d1_7) rfl (pc' := 9) rfl ?_
  refine w_iloadN X2 hx (hb hby d1_9) rfl (pc' := 10) rfl ?_
  refine w_icmp_ge X2 hx (hb hby d1_10) (by decide) (pcY := 36) (by decide) (pc' := 13) rfl (fun h1 => ?_) (fun h1 => absurd h1 (by decide))
  refine w_aloadN X2 hx (hb hby d1_36) rfl rfl (pc' := 37) rfl ?_
  exact w_ret_a X2 hx rfl hret rfl hlk (hb hby d1_37) (by decide) (by decide) ⟨rfl, N1, kA1, hk1, P2⟩
def Q_rm1_2 (Z : State) (n0 : Nat) (u0 : Int64) (v : Option Value) (h : Heap) (L : List Loc) : Prop := v = some (.ref (n0 + 0)) ∧ Fr n0 L ∧ ∃ kA1 : ClassId, IsA Z kA1 .byte ∧ HP n0 h [AC kA1 [.int (nar .byte (Int8.toInt32 (Int32.toInt8 (Int64.toInt32 (XT.ushrL u0 (8 : Int32)))))), .int (nar .byte (Int8.toInt32 (Int32.toInt8 (Int64.toInt32 (XT.ushrL u0 (0 : Int32))))))]]
theorem ef_rm1_2 (m : MethodId) (n0 : Nat) (u0 : Int64) : entryFrame m #[.int (2 : Int32), .long u0] 5 = mkF m 0 #[.val (.int (2 : Int32)), .val (.long u0), .second, .unset, .unset] [] := by first | (simp [entryFrame, mkF, argsToLocals, Value.category]; done) | rfl
set_option maxRecDepth 65536 in
set_option maxHeartbeats 40000000 in
theorem rm1_2 (l : Launch) (Z : State) (a0 : Array Value) (hw : ∀ d ∈ tables_1, d.before a0 Z = true) (ws : List Jvm.Cond) (n0 : Nat) (u0 : Int64) (h0 : Heap) (P0 : HP n0 h0 []) :
    MetFree l (⟨"com/example/protomata/protomata/Bytes", "uint", "(IJ)[B"⟩ : MethodName) (head1 (Jvm.Cond.code (⟨"com/example/protomata/protomata/Bytes", "uint", "(IJ)[B"⟩ : MethodName) prog_9_method_2_code 5 (some (.array .byte)) :: ws) ({ frames := 0, cells := 1, slots := 2, locals := 0 } : Room)) (fun a U => a = #[.int (2 : Int32), .long u0] ∧ Z.Warmed39 U.vm ∧ U.heap = h0) (fun _ _ _ _ _ => True) (fun _ U o U' => ∃ v L, o = .returned v ∧ Q_rm1_2 Z n0 u0 v U'.heap L ∧ FrameEnd U o U' L ({ frames := 0, cells := 1, slots := 2, locals := 0 } : Room).cells ({ frames := 0, cells := 1, slots := 2, locals := 0 } : Room).slots) := by
  refine own_body pn1 ?_
  intro p e s m below meth c T0 hx hby hml hret hlk hown hnm hZ X0 e0
  subst e0
  have N0 : Fr n0 [] := Fr.nil n0
  refine own_cast (ef_rm1_2 m n0 u0) ?_
  refine w_iloadN X0 hx (hb hby d1_0) rfl (pc' := 1) rfl ?_
  refine w_newarr (N := 2) (j := 0) X0 hx hZ P0 (ty := .byte) rfl (wd5 hw) (hb hby d1_1) (by decide) (by decide) (by decide) (by decide) rfl (pc' := 3) rfl ?_
  intro T1 kA1 X1 hk1 P1
  replace P1 : HP n0 T1.heap [AC kA1 [.int (0 : Int32), .int (0 : Int32)]] := P1
  refine w_astoreN (l' := #[.val (.int (2 : Int32)), .val (.long u0), .second, .val (.ref (n0 + 0)), .unset]) X1 hx (hb hby d1_3) rfl rfl (pc' := 4) rfl ?_
  refine w_iconst (v := (0 : Int32)) X1 hx (hb hby d1_4) rfl (pc' := 5) rfl ?_
  refine w_istore (l' := #[.val (.int (2 : Int32)), .val (.long u0), .second, .val (.ref (n0 + 0)), .val (.int (0 : Int32))]) X1 hx (hb hby d1_5) rfl (pc' := 7) rfl ?_
  refine w_iload X1 hx (hb hby d1_7) rfl (pc' := 9) rfl ?_
  refine w_iloadN X1 hx (hb hby d1_9) rfl (pc' := 10) rfl ?_
  refine w_icmp_ge X1 hx (hb hby d1_10) (by decide) (pcY := 36) (by decide) (pc' := 13) rfl (fun h0 => absurd h0 (by decide)) (fun h0 => ?_)
  refine w_aloadN X1 hx (hb hby d1_13) rfl rfl (pc' := 14) rfl ?_
  refine w_iload X1 hx (hb hby d1_14) rfl (pc' := 16) rfl ?_
  refine w_lloadN X1 hx (hb hby d1_16) rfl (pc' := 17) rfl ?_
  refine w_bipush (v := (8 : Int32)) X1 hx (hb hby d1_17) rfl (pc' := 19) rfl ?_
  refine w_iloadN X1 hx (hb hby d1_19) rfl (pc' := 20) rfl ?_
  refine w_iconst (v := (1 : Int32)) X1 hx (hb hby d1_20) rfl (pc' := 21) rfl ?_
  refine w_isub X1 hx (hb hby d1_21) (pc' := 22) rfl ?_
  refine w_eqI (z := (1 : Int32)) (by decide) ?_
  refine w_iload X1 hx (hb hby d1_22) rfl (pc' := 24) rfl ?_
  refine w_isub X1 hx (hb hby d1_24) (pc' := 25) rfl ?_
  refine w_eqI (z := (1 : Int32)) (by decide) ?_
  refine w_imul X1 hx (hb hby d1_25) (pc' := 26) rfl ?_
  refine w_eqI (z := (8 : Int32)) (by decide) ?_
  refine w_lushr X1 hx (hb hby d1_26) (pc' := 27) rfl ?_
  refine w_l2i X1 hx (hb hby d1_27) (pc' := 28) rfl ?_
  refine w_i2b X1 hx (hb hby d1_28) (pc' := 29) rfl ?_
  refine w_bastore (i := 0) (jn := 0) X1 hx hZ N0 P1 rfl hk1 (hb hby d1_29) (by decide) (Nat.le_of_ble_eq_true rfl) (pc' := 30) rfl ?_
  intro T2 L1 N1 X2 P2
  replace P2 : HP n0 T2.heap [AC kA1 [.int (nar .byte (Int8.toInt32 (Int32.toInt8 (Int64.toInt32 (XT.ushrL u0 (8 : Int32)))))), .int (0 : Int32)]] := P2
  refine w_iincE (z := (1 : Int32)) (l' := #[.val (.int (2 : Int32)), .val (.long u0), .second, .val (.ref (n0 + 0)), .val (.int (1 : Int32))]) X2 hx (hb hby d1_30) rfl (by decide) rfl (pc' := 33) rfl ?_
  refine w_goto X2 hx (hb hby d1_33) (by decide) (pc' := 7) (by decide) ?_
  refine w_iload X2 hx (hb hby d1_7) rfl (pc' := 9) rfl ?_
  refine w_iloadN X2 hx (hb hby d1_9) rfl (pc' := 10) rfl ?_
  refine w_icmp_ge X2 hx (hb hby d1_10) (by decide) (pcY := 36) (by decide) (pc' := 13) rfl (fun h1 => absurd h1 (by decide)) (fun h1 => ?_)
  refine w_aloadN X2 hx (hb hby d1_13) rfl rfl (pc' := 14) rfl ?_
  refine w_iload X2 hx (hb hby d1_14) rfl (pc' := 16) rfl ?_
  refine w_lloadN X2 hx (hb hby d1_16) rfl (pc' := 17) rfl ?_
  refine w_bipush (v := (8 : Int32)) X2 hx (hb hby d1_17) rfl (pc' := 19) rfl ?_
  refine w_iloadN X2 hx (hb hby d1_19) rfl (pc' := 20) rfl ?_
  refine w_iconst (v := (1 : Int32)) X2 hx (hb hby d1_20) rfl (pc' := 21) rfl ?_
  refine w_isub X2 hx (hb hby d1_21) (pc' := 22) rfl ?_
  refine w_eqI (z := (1 : Int32)) (by decide) ?_
  refine w_iload X2 hx (hb hby d1_22) rfl (pc' := 24) rfl ?_
  refine w_isub X2 hx (hb hby d1_24) (pc' := 25) rfl ?_
  refine w_eqI (z := (0 : Int32)) (by decide) ?_
  refine w_imul X2 hx (hb hby d1_25) (pc' := 26) rfl ?_
  refine w_eqI (z := (0 : Int32)) (by decide) ?_
  refine w_lushr X2 hx (hb hby d1_26) (pc' := 27) rfl ?_
  refine w_l2i X2 hx (hb hby d1_27) (pc' := 28) rfl ?_
  refine w_i2b X2 hx (hb hby d1_28) (pc' := 29) rfl ?_
  refine w_bastore (i := 0) (jn := 1) X2 hx hZ N1 P2 rfl hk1 (hb hby d1_29) (by decide) (Nat.le_of_ble_eq_true rfl) (pc' := 30) rfl ?_
  intro T3 L2 N2 X3 P3
  replace P3 : HP n0 T3.heap [AC kA1 [.int (nar .byte (Int8.toInt32 (Int32.toInt8 (Int64.toInt32 (XT.ushrL u0 (8 : Int32)))))), .int (nar .byte (Int8.toInt32 (Int32.toInt8 (Int64.toInt32 (XT.ushrL u0 (0 : Int32))))))]] := P3
  refine w_iincE (z := (2 : Int32)) (l' := #[.val (.int (2 : Int32)), .val (.long u0), .second, .val (.ref (n0 + 0)), .val (.int (2 : Int32))]) X3 hx (hb hby d1_30) rfl (by decide) rfl (pc' := 33) rfl ?_
  refine w_goto X3 hx (hb hby d1_33) (by decide) (pc' := 7) (by decide) ?_
  refine w_iload X3 hx (hb hby d1_7) rfl (pc' := 9) rfl ?_
  refine w_iloadN X3 hx (hb hby d1_9) rfl (pc' := 10) rfl ?_
  refine w_icmp_ge X3 hx (hb hby d1_10) (by decide) (pcY := 36) (by decide) (pc' := 13) rfl (fun h2 => ?_) (fun h2 => absurd h2 (by decide))
  refine w_aloadN X3 hx (hb hby d1_36) rfl rfl (pc' := 37) rfl ?_
  exact w_ret_a X3 hx rfl hret rfl hlk (hb hby d1_37) (by decide) (by decide) ⟨rfl, N2, kA1, hk1, P3⟩
def Q_rm1_3 (Z : State) (n0 : Nat) (u0 : Int64) (v : Option Value) (h : Heap) (L : List Loc) : Prop := v = some (.ref (n0 + 0)) ∧ Fr n0 L ∧ ∃ kA1 : ClassId, IsA Z kA1 .byte ∧ HP n0 h [AC kA1 [.int (nar .byte (Int8.toInt32 (Int32.toInt8 (Int64.toInt32 (XT.ushrL u0 (16 : Int32)))))), .int (nar .byte (Int8.toInt32 (Int32.toInt8 (Int64.toInt32 (XT.ushrL u0 (8 : Int32)))))), .int (nar .byte (Int8.toInt32 (Int32.toInt8 (Int64.toInt32 (XT.ushrL u0 (0 : Int32))))))]]
theorem ef_rm1_3 (m : MethodId) (n0 : Nat) (u0 : Int64) : entryFrame m #[.int (3 : Int32), .long u0] 5 = mkF m 0 #[.val (.int (3 : Int32)), .val (.long u0), .second, .unset, .unset] [] := by first | (simp [entryFrame, mkF, argsToLocals, Value.category]; done) | rfl
set_option maxRecDepth 65536 in
set_option maxHeartbeats 40000000 in
theorem rm1_3 (l : Launch) (Z : State) (a0 : Array Value) (hw : ∀ d ∈ tables_1, d.before a0 Z = true) (ws : List Jvm.Cond) (n0 : Nat) (u0 : Int64) (h0 : Heap) (P0 : HP n0 h0 []) :
    MetFree l (⟨"com/example/protomata/protomata/Bytes", "uint", "(IJ)[B"⟩ : MethodName) (head1 (Jvm.Cond.code (⟨"com/example/protomata/protomata/Bytes", "uint", "(IJ)[B"⟩ : MethodName) prog_9_method_2_code 5 (some (.array .byte)) :: ws) ({ frames := 0, cells := 1, slots := 3, locals := 0 } : Room)) (fun a U => a = #[.int (3 : Int32), .long u0] ∧ Z.Warmed39 U.vm ∧ U.heap = h0) (fun _ _ _ _ _ => True) (fun _ U o U' => ∃ v L, o = .returned v ∧ Q_rm1_3 Z n0 u0 v U'.heap L ∧ FrameEnd U o U' L ({ frames := 0, cells := 1, slots := 3, locals := 0 } : Room).cells ({ frames := 0, cells := 1, slots := 3, locals := 0 } : Room).slots) := by
  refine own_body pn1 ?_
  intro p e s m below meth c T0 hx hby hml hret hlk hown hnm hZ X0 e0
  subst e0
  have N0 : Fr n0 [] := Fr.nil n0
  refine own_cast (ef_rm1_3 m n0 u0) ?_
  refine w_iloadN X0 hx (hb hby d1_0) rfl (pc' := 1) rfl ?_
  refine w_newarr (N := 3) (j := 0) X0 hx hZ P0 (ty := .byte) rfl (wd5 hw) (hb hby d1_1) (by decide) (by decide) (by decide) (by decide) rfl (pc' := 3) rfl ?_
  intro T1 kA1 X1 hk1 P1
  replace P1 : HP n0 T1.heap [AC kA1 [.int (0 : Int32), .int (0 : Int32), .int (0 : Int32)]] := P1
  refine w_astoreN (l' := #[.val (.int (3 : Int32)), .val (.long u0), .second, .val (.ref (n0 + 0)), .unset]) X1 hx (hb hby d1_3) rfl rfl (pc' := 4) rfl ?_
  refine w_iconst (v := (0 : Int32)) X1 hx (hb hby d1_4) rfl (pc' := 5) rfl ?_
  refine w_istore (l' := #[.val (.int (3 : Int32)), .val (.long u0), .second, .val (.ref (n0 + 0)), .val (.int (0 : Int32))]) X1 hx (hb hby d1_5) rfl (pc' := 7) rfl ?_
  refine w_iload X1 hx (hb hby d1_7) rfl (pc' := 9) rfl ?_
  refine w_iloadN X1 hx (hb hby d1_9) rfl (pc' := 10) rfl ?_
  refine w_icmp_ge X1 hx (hb hby d1_10) (by decide) (pcY := 36) (by decide) (pc' := 13) rfl (fun h0 => absurd h0 (by decide)) (fun h0 => ?_)
  refine w_aloadN X1 hx (hb hby d1_13) rfl rfl (pc' := 14) rfl ?_
  refine w_iload X1 hx (hb hby d1_14) rfl (pc' := 16) rfl ?_
  refine w_lloadN X1 hx (hb hby d1_16) rfl (pc' := 17) rfl ?_
  refine w_bipush (v := (8 : Int32)) X1 hx (hb hby d1_17) rfl (pc' := 19) rfl ?_
  refine w_iloadN X1 hx (hb hby d1_19) rfl (pc' := 20) rfl ?_
  refine w_iconst (v := (1 : Int32)) X1 hx (hb hby d1_20) rfl (pc' := 21) rfl ?_
  refine w_isub X1 hx (hb hby d1_21) (pc' := 22) rfl ?_
  refine w_eqI (z := (2 : Int32)) (by decide) ?_
  refine w_iload X1 hx (hb hby d1_22) rfl (pc' := 24) rfl ?_
  refine w_isub X1 hx (hb hby d1_24) (pc' := 25) rfl ?_
  refine w_eqI (z := (2 : Int32)) (by decide) ?_
  refine w_imul X1 hx (hb hby d1_25) (pc' := 26) rfl ?_
  refine w_eqI (z := (16 : Int32)) (by decide) ?_
  refine w_lushr X1 hx (hb hby d1_26) (pc' := 27) rfl ?_
  refine w_l2i X1 hx (hb hby d1_27) (pc' := 28) rfl ?_
  refine w_i2b X1 hx (hb hby d1_28) (pc' := 29) rfl ?_
  refine w_bastore (i := 0) (jn := 0) X1 hx hZ N0 P1 rfl hk1 (hb hby d1_29) (by decide) (Nat.le_of_ble_eq_true rfl) (pc' := 30) rfl ?_
  intro T2 L1 N1 X2 P2
  replace P2 : HP n0 T2.heap [AC kA1 [.int (nar .byte (Int8.toInt32 (Int32.toInt8 (Int64.toInt32 (XT.ushrL u0 (16 : Int32)))))), .int (0 : Int32), .int (0 : Int32)]] := P2
  refine w_iincE (z := (1 : Int32)) (l' := #[.val (.int (3 : Int32)), .val (.long u0), .second, .val (.ref (n0 + 0)), .val (.int (1 : Int32))]) X2 hx (hb hby d1_30) rfl (by decide) rfl (pc' := 33) rfl ?_
  refine w_goto X2 hx (hb hby d1_33) (by decide) (pc' := 7) (by decide) ?_
  refine w_iload X2 hx (hb hby d1_7) rfl (pc' := 9) rfl ?_
  refine w_iloadN X2 hx (hb hby d1_9) rfl (pc' := 10) rfl ?_
  refine w_icmp_ge X2 hx (hb hby d1_10) (by decide) (pcY := 36) (by decide) (pc' := 13) rfl (fun h1 => absurd h1 (by decide)) (fun h1 => ?_)
  refine w_aloadN X2 hx (hb hby d1_13) rfl rfl (pc' := 14) rfl ?_
  refine w_iload X2 hx (hb hby d1_14) rfl (pc' := 16) rfl ?_
  refine w_lloadN X2 hx (hb hby d1_16) rfl (pc' := 17) rfl ?_
  refine w_bipush (v := (8 : Int32)) X2 hx (hb hby d1_17) rfl (pc' := 19) rfl ?_
  refine w_iloadN X2 hx (hb hby d1_19) rfl (pc' := 20) rfl ?_
  refine w_iconst (v := (1 : Int32)) X2 hx (hb hby d1_20) rfl (pc' := 21) rfl ?_
  refine w_isub X2 hx (hb hby d1_21) (pc' := 22) rfl ?_
  refine w_eqI (z := (2 : Int32)) (by decide) ?_
  refine w_iload X2 hx (hb hby d1_22) rfl (pc' := 24) rfl ?_
  refine w_isub X2 hx (hb hby d1_24) (pc' := 25) rfl ?_
  refine w_eqI (z := (1 : Int32)) (by decide) ?_
  refine w_imul X2 hx (hb hby d1_25) (pc' := 26) rfl ?_
  refine w_eqI (z := (8 : Int32)) (by decide) ?_
  refine w_lushr X2 hx (hb hby d1_26) (pc' := 27) rfl ?_
  refine w_l2i X2 hx (hb hby d1_27) (pc' := 28) rfl ?_
  refine w_i2b X2 hx (hb hby d1_28) (pc' := 29) rfl ?_
  refine w_bastore (i := 0) (jn := 1) X2 hx hZ N1 P2 rfl hk1 (hb hby d1_29) (by decide) (Nat.le_of_ble_eq_true rfl) (pc' := 30) rfl ?_
  intro T3 L2 N2 X3 P3
  replace P3 : HP n0 T3.heap [AC kA1 [.int (nar .byte (Int8.toInt32 (Int32.toInt8 (Int64.toInt32 (XT.ushrL u0 (16 : Int32)))))), .int (nar .byte (Int8.toInt32 (Int32.toInt8 (Int64.toInt32 (XT.ushrL u0 (8 : Int32)))))), .int (0 : Int32)]] := P3
  refine w_iincE (z := (2 : Int32)) (l' := #[.val (.int (3 : Int32)), .val (.long u0), .second, .val (.ref (n0 + 0)), .val (.int (2 : Int32))]) X3 hx (hb hby d1_30) rfl (by decide) rfl (pc' := 33) rfl ?_
  refine w_goto X3 hx (hb hby d1_33) (by decide) (pc' := 7) (by decide) ?_
  refine w_iload X3 hx (hb hby d1_7) rfl (pc' := 9) rfl ?_
  refine w_iloadN X3 hx (hb hby d1_9) rfl (pc' := 10) rfl ?_
  refine w_icmp_ge X3 hx (hb hby d1_10) (by decide) (pcY := 36) (by decide) (pc' := 13) rfl (fun h2 => absurd h2 (by decide)) (fun h2 => ?_)
  refine w_aloadN X3 hx (hb hby d1_13) rfl rfl (pc' := 14) rfl ?_
  refine w_iload X3 hx (hb hby d1_14) rfl (pc' := 16) rfl ?_
  refine w_lloadN X3 hx (hb hby d1_16) rfl (pc' := 17) rfl ?_
  refine w_bipush (v := (8 : Int32)) X3 hx (hb hby d1_17) rfl (pc' := 19) rfl ?_
  refine w_iloadN X3 hx (hb hby d1_19) rfl (pc' := 20) rfl ?_
  refine w_iconst (v := (1 : Int32)) X3 hx (hb hby d1_20) rfl (pc' := 21) rfl ?_
  refine w_isub X3 hx (hb hby d1_21) (pc' := 22) rfl ?_
  refine w_eqI (z := (2 : Int32)) (by decide) ?_
  refine w_iload X3 hx (hb hby d1_22) rfl (pc' := 24) rfl ?_
  refine w_isub X3 hx (hb hby d1_24) (pc' := 25) rfl ?_
  refine w_eqI (z := (0 : Int32)) (by decide) ?_
  refine w_imul X3 hx (hb hby d1_25) (pc' := 26) rfl ?_
  refine w_eqI (z := (0 : Int32)) (by decide) ?_
  refine w_lushr X3 hx (hb hby d1_26) (pc' := 27) rfl ?_
  refine w_l2i X3 hx (hb hby d1_27) (pc' := 28) rfl ?_
  refine w_i2b X3 hx (hb hby d1_28) (pc' := 29) rfl ?_
  refine w_bastore (i := 0) (jn := 2) X3 hx hZ N2 P3 rfl hk1 (hb hby d1_29) (by decide) (Nat.le_of_ble_eq_true rfl) (pc' := 30) rfl ?_
  intro T4 L3 N3 X4 P4
  replace P4 : HP n0 T4.heap [AC kA1 [.int (nar .byte (Int8.toInt32 (Int32.toInt8 (Int64.toInt32 (XT.ushrL u0 (16 : Int32)))))), .int (nar .byte (Int8.toInt32 (Int32.toInt8 (Int64.toInt32 (XT.ushrL u0 (8 : Int32)))))), .int (nar .byte (Int8.toInt32 (Int32.toInt8 (Int64.toInt32 (XT.ushrL u0 (0 : Int32))))))]] := P4
  refine w_iincE (z := (3 : Int32)) (l' := #[.val (.int (3 : Int32)), .val (.long u0), .second, .val (.ref (n0 + 0)), .val (.int (3 : Int32))]) X4 hx (hb hby d1_30) rfl (by decide) rfl (pc' := 33) rfl ?_
  refine w_goto X4 hx (hb hby d1_33) (by decide) (pc' := 7) (by decide) ?_
  refine w_iload X4 hx (hb hby d1_7) rfl (pc' := 9) rfl ?_
  refine w_iloadN X4 hx (hb hby d1_9) rfl (pc' := 10) rfl ?_
  refine w_icmp_ge X4 hx (hb hby d1_10) (by decide) (pcY := 36) (by decide) (pc' := 13) rfl (fun h3 => ?_) (fun h3 => absurd h3 (by decide))
  refine w_aloadN X4 hx (hb hby d1_36) rfl rfl (pc' := 37) rfl ?_
  exact w_ret_a X4 hx rfl hret rfl hlk (hb hby d1_37) (by decide) (by decide) ⟨rfl, N3, kA1, hk1, P4⟩
def Q_rm1_4 (Z : State) (n0 : Nat) (u0 : Int64) (v : Option Value) (h : Heap) (L : List Loc) : Prop := v = some (.ref (n0 + 0)) ∧ Fr n0 L ∧ ∃ kA1 : ClassId, IsA Z kA1 .byte ∧ HP n0 h [AC kA1 [.int (nar .byte (Int8.toInt32 (Int32.toInt8 (Int64.toInt32 (XT.ushrL u0 (24 : Int32)))))), .int (nar .byte (Int8.toInt32 (Int32.toInt8 (Int64.toInt32 (XT.ushrL u0 (16 : Int32)))))), .int (nar .byte (Int8.toInt32 (Int32.toInt8 (Int64.toInt32 (XT.ushrL u0 (8 : Int32)))))), .int (nar .byte (Int8.toInt32 (Int32.toInt8 (Int64.toInt32 (XT.ushrL u0 (0 : Int32))))))]]
theorem ef_rm1_4 (m : MethodId) (n0 : Nat) (u0 : Int64) : entryFrame m #[.int (4 : Int32), .long u0] 5 = mkF m 0 #[.val (.int (4 : Int32)), .val (.long u0), .second, .unset, .unset] [] := by first | (simp [entryFrame, mkF, argsToLocals, Value.category]; done) | rfl
set_option maxRecDepth 65536 in
set_option maxHeartbeats 40000000 in
theorem rm1_4 (l : Launch) (Z : State) (a0 : Array Value) (hw : ∀ d ∈ tables_1, d.before a0 Z = true) (ws : List Jvm.Cond) (n0 : Nat) (u0 : Int64) (h0 : Heap) (P0 : HP n0 h0 []) :
    MetFree l (⟨"com/example/protomata/protomata/Bytes", "uint", "(IJ)[B"⟩ : MethodName) (head1 (Jvm.Cond.code (⟨"com/example/protomata/protomata/Bytes", "uint", "(IJ)[B"⟩ : MethodName) prog_9_method_2_code 5 (some (.array .byte)) :: ws) ({ frames := 0, cells := 1, slots := 4, locals := 0 } : Room)) (fun a U => a = #[.int (4 : Int32), .long u0] ∧ Z.Warmed39 U.vm ∧ U.heap = h0) (fun _ _ _ _ _ => True) (fun _ U o U' => ∃ v L, o = .returned v ∧ Q_rm1_4 Z n0 u0 v U'.heap L ∧ FrameEnd U o U' L ({ frames := 0, cells := 1, slots := 4, locals := 0 } : Room).cells ({ frames := 0, cells := 1, slots := 4, locals := 0 } : Room).slots) := by
  refine own_body pn1 ?_
  intro p e s m below meth c T0 hx hby hml hret hlk hown hnm hZ X0 e0
  subst e0
  have N0 : Fr n0 [] := Fr.nil n0
  refine own_cast (ef_rm1_4 m n0 u0) ?_
  refine w_iloadN X0 hx (hb hby d1_0) rfl (pc' := 1) rfl ?_
  refine w_newarr (N := 4) (j := 0) X0 hx hZ P0 (ty := .byte) rfl (wd5 hw) (hb hby d1_1) (by decide) (by decide) (by decide) (by decide) rfl (pc' := 3) rfl ?_
  intro T1 kA1 X1 hk1 P1
  replace P1 : HP n0 T1.heap [AC kA1 [.int (0 : Int32), .int (0 : Int32), .int (0 : Int32), .int (0 : Int32)]] := P1
  refine w_astoreN (l' := #[.val (.int (4 : Int32)), .val (.long u0), .second, .val (.ref (n0 + 0)), .unset]) X1 hx (hb hby d1_3) rfl rfl (pc' := 4) rfl ?_
  refine w_iconst (v := (0 : Int32)) X1 hx (hb hby d1_4) rfl (pc' := 5) rfl ?_
  refine w_istore (l' := #[.val (.int (4 : Int32)), .val (.long u0), .second, .val (.ref (n0 + 0)), .val (.int (0 : Int32))]) X1 hx (hb hby d1_5) rfl (pc' := 7) rfl ?_
  refine w_iload X1 hx (hb hby d1_7) rfl (pc' := 9) rfl ?_
  refine w_iloadN X1 hx (hb hby d1_9) rfl (pc' := 10) rfl ?_
  refine w_icmp_ge X1 hx (hb hby d1_10) (by decide) (pcY := 36) (by decide) (pc' := 13) rfl (fun h0 => absurd h0 (by decide)) (fun h0 => ?_)
  refine w_aloadN X1 hx (hb hby d1_13) rfl rfl (pc' := 14) rfl ?_
  refine w_iload X1 hx (hb hby d1_14) rfl (pc' := 16) rfl ?_
  refine w_lloadN X1 hx (hb hby d1_16) rfl (pc' := 17) rfl ?_
  refine w_bipush (v := (8 : Int32)) X1 hx (hb hby d1_17) rfl (pc' := 19) rfl ?_
  refine w_iloadN X1 hx (hb hby d1_19) rfl (pc' := 20) rfl ?_
  refine w_iconst (v := (1 : Int32)) X1 hx (hb hby d1_20) rfl (pc' := 21) rfl ?_
  refine w_isub X1 hx (hb hby d1_21) (pc' := 22) rfl ?_
  refine w_eqI (z := (3 : Int32)) (by decide) ?_
  refine w_iload X1 hx (hb hby d1_22) rfl (pc' := 24) rfl ?_
  refine w_isub X1 hx (hb hby d1_24) (pc' := 25) rfl ?_
  refine w_eqI (z := (3 : Int32)) (by decide) ?_
  refine w_imul X1 hx (hb hby d1_25) (pc' := 26) rfl ?_
  refine w_eqI (z := (24 : Int32)) (by decide) ?_
  refine w_lushr X1 hx (hb hby d1_26) (pc' := 27) rfl ?_
  refine w_l2i X1 hx (hb hby d1_27) (pc' := 28) rfl ?_
  refine w_i2b X1 hx (hb hby d1_28) (pc' := 29) rfl ?_
  refine w_bastore (i := 0) (jn := 0) X1 hx hZ N0 P1 rfl hk1 (hb hby d1_29) (by decide) (Nat.le_of_ble_eq_true rfl) (pc' := 30) rfl ?_
  intro T2 L1 N1 X2 P2
  replace P2 : HP n0 T2.heap [AC kA1 [.int (nar .byte (Int8.toInt32 (Int32.toInt8 (Int64.toInt32 (XT.ushrL u0 (24 : Int32)))))), .int (0 : Int32), .int (0 : Int32), .int (0 : Int32)]] := P2
  refine w_iincE (z := (1 : Int32)) (l' := #[.val (.int (4 : Int32)), .val (.long u0), .second, .val (.ref (n0 + 0)), .val (.int (1 : Int32))]) X2 hx (hb hby d1_30) rfl (by decide) rfl (pc' := 33) rfl ?_
  refine w_goto X2 hx (hb hby d1_33) (by decide) (pc' := 7) (by decide) ?_
  refine w_iload X2 hx (hb hby d1_7) rfl (pc' := 9) rfl ?_
  refine w_iloadN X2 hx (hb hby d1_9) rfl (pc' := 10) rfl ?_
  refine w_icmp_ge X2 hx (hb hby d1_10) (by decide) (pcY := 36) (by decide) (pc' := 13) rfl (fun h1 => absurd h1 (by decide)) (fun h1 => ?_)
  refine w_aloadN X2 hx (hb hby d1_13) rfl rfl (pc' := 14) rfl ?_
  refine w_iload X2 hx (hb hby d1_14) rfl (pc' := 16) rfl ?_
  refine w_lloadN X2 hx (hb hby d1_16) rfl (pc' := 17) rfl ?_
  refine w_bipush (v := (8 : Int32)) X2 hx (hb hby d1_17) rfl (pc' := 19) rfl ?_
  refine w_iloadN X2 hx (hb hby d1_19) rfl (pc' := 20) rfl ?_
  refine w_iconst (v := (1 : Int32)) X2 hx (hb hby d1_20) rfl (pc' := 21) rfl ?_
  refine w_isub X2 hx (hb hby d1_21) (pc' := 22) rfl ?_
  refine w_eqI (z := (3 : Int32)) (by decide) ?_
  refine w_iload X2 hx (hb hby d1_22) rfl (pc' := 24) rfl ?_
  refine w_isub X2 hx (hb hby d1_24) (pc' := 25) rfl ?_
  refine w_eqI (z := (2 : Int32)) (by decide) ?_
  refine w_imul X2 hx (hb hby d1_25) (pc' := 26) rfl ?_
  refine w_eqI (z := (16 : Int32)) (by decide) ?_
  refine w_lushr X2 hx (hb hby d1_26) (pc' := 27) rfl ?_
  refine w_l2i X2 hx (hb hby d1_27) (pc' := 28) rfl ?_
  refine w_i2b X2 hx (hb hby d1_28) (pc' := 29) rfl ?_
  refine w_bastore (i := 0) (jn := 1) X2 hx hZ N1 P2 rfl hk1 (hb hby d1_29) (by decide) (Nat.le_of_ble_eq_true rfl) (pc' := 30) rfl ?_
  intro T3 L2 N2 X3 P3
  replace P3 : HP n0 T3.heap [AC kA1 [.int (nar .byte (Int8.toInt32 (Int32.toInt8 (Int64.toInt32 (XT.ushrL u0 (24 : Int32)))))), .int (nar .byte (Int8.toInt32 (Int32.toInt8 (Int64.toInt32 (XT.ushrL u0 (16 : Int32)))))), .int (0 : Int32), .int (0 : Int32)]] := P3
  refine w_iincE (z := (2 : Int32)) (l' := #[.val (.int (4 : Int32)), .val (.long u0), .second, .val (.ref (n0 + 0)), .val (.int (2 : Int32))]) X3 hx (hb hby d1_30) rfl (by decide) rfl (pc' := 33) rfl ?_
  refine w_goto X3 hx (hb hby d1_33) (by decide) (pc' := 7) (by decide) ?_
  refine w_iload X3 hx (hb hby d1_7) rfl (pc' := 9) rfl ?_
  refine w_iloadN X3 hx (hb hby d1_9) rfl (pc' := 10) rfl ?_
  refine w_icmp_ge X3 hx (hb hby d1_10) (by decide) (pcY := 36) (by decide) (pc' := 13) rfl (fun h2 => absurd h2 (by decide)) (fun h2 => ?_)
  refine w_aloadN X3 hx (hb hby d1_13) rfl rfl (pc' := 14) rfl ?_
  refine w_iload X3 hx (hb hby d1_14) rfl (pc' := 16) rfl ?_
  refine w_lloadN X3 hx (hb hby d1_16) rfl (pc' := 17) rfl ?_
  refine w_bipush (v := (8 : Int32)) X3 hx (hb hby d1_17) rfl (pc' := 19) rfl ?_
  refine w_iloadN X3 hx (hb hby d1_19) rfl (pc' := 20) rfl ?_
  refine w_iconst (v := (1 : Int32)) X3 hx (hb hby d1_20) rfl (pc' := 21) rfl ?_
  refine w_isub X3 hx (hb hby d1_21) (pc' := 22) rfl ?_
  refine w_eqI (z := (3 : Int32)) (by decide) ?_
  refine w_iload X3 hx (hb hby d1_22) rfl (pc' := 24) rfl ?_
  refine w_isub X3 hx (hb hby d1_24) (pc' := 25) rfl ?_
  refine w_eqI (z := (1 : Int32)) (by decide) ?_
  refine w_imul X3 hx (hb hby d1_25) (pc' := 26) rfl ?_
  refine w_eqI (z := (8 : Int32)) (by decide) ?_
  refine w_lushr X3 hx (hb hby d1_26) (pc' := 27) rfl ?_
  refine w_l2i X3 hx (hb hby d1_27) (pc' := 28) rfl ?_
  refine w_i2b X3 hx (hb hby d1_28) (pc' := 29) rfl ?_
  refine w_bastore (i := 0) (jn := 2) X3 hx hZ N2 P3 rfl hk1 (hb hby d1_29) (by decide) (Nat.le_of_ble_eq_true rfl) (pc' := 30) rfl ?_
  intro T4 L3 N3 X4 P4
  replace P4 : HP n0 T4.heap [AC kA1 [.int (nar .byte (Int8.toInt32 (Int32.toInt8 (Int64.toInt32 (XT.ushrL u0 (24 : Int32)))))), .int (nar .byte (Int8.toInt32 (Int32.toInt8 (Int64.toInt32 (XT.ushrL u0 (16 : Int32)))))), .int (nar .byte (Int8.toInt32 (Int32.toInt8 (Int64.toInt32 (XT.ushrL u0 (8 : Int32)))))), .int (0 : Int32)]] := P4
  refine w_iincE (z := (3 : Int32)) (l' := #[.val (.int (4 : Int32)), .val (.long u0), .second, .val (.ref (n0 + 0)), .val (.int (3 : Int32))]) X4 hx (hb hby d1_30) rfl (by decide) rfl (pc' := 33) rfl ?_
  refine w_goto X4 hx (hb hby d1_33) (by decide) (pc' := 7) (by decide) ?_
  refine w_iload X4 hx (hb hby d1_7) rfl (pc' := 9) rfl ?_
  refine w_iloadN X4 hx (hb hby d1_9) rfl (pc' := 10) rfl ?_
  refine w_icmp_ge X4 hx (hb hby d1_10) (by decide) (pcY := 36) (by decide) (pc' := 13) rfl (fun h3 => absurd h3 (by decide)) (fun h3 => ?_)
  refine w_aloadN X4 hx (hb hby d1_13) rfl rfl (pc' := 14) rfl ?_
  refine w_iload X4 hx (hb hby d1_14) rfl (pc' := 16) rfl ?_
  refine w_lloadN X4 hx (hb hby d1_16) rfl (pc' := 17) rfl ?_
  refine w_bipush (v := (8 : Int32)) X4 hx (hb hby d1_17) rfl (pc' := 19) rfl ?_
  refine w_iloadN X4 hx (hb hby d1_19) rfl (pc' := 20) rfl ?_
  refine w_iconst (v := (1 : Int32)) X4 hx (hb hby d1_20) rfl (pc' := 21) rfl ?_
  refine w_isub X4 hx (hb hby d1_21) (pc' := 22) rfl ?_
  refine w_eqI (z := (3 : Int32)) (by decide) ?_
  refine w_iload X4 hx (hb hby d1_22) rfl (pc' := 24) rfl ?_
  refine w_isub X4 hx (hb hby d1_24) (pc' := 25) rfl ?_
  refine w_eqI (z := (0 : Int32)) (by decide) ?_
  refine w_imul X4 hx (hb hby d1_25) (pc' := 26) rfl ?_
  refine w_eqI (z := (0 : Int32)) (by decide) ?_
  refine w_lushr X4 hx (hb hby d1_26) (pc' := 27) rfl ?_
  refine w_l2i X4 hx (hb hby d1_27) (pc' := 28) rfl ?_
  refine w_i2b X4 hx (hb hby d1_28) (pc' := 29) rfl ?_
  refine w_bastore (i := 0) (jn := 3) X4 hx hZ N3 P4 rfl hk1 (hb hby d1_29) (by decide) (Nat.le_of_ble_eq_true rfl) (pc' := 30) rfl ?_
  intro T5 L4 N4 X5 P5
  replace P5 : HP n0 T5.heap [AC kA1 [.int (nar .byte (Int8.toInt32 (Int32.toInt8 (Int64.toInt32 (XT.ushrL u0 (24 : Int32)))))), .int (nar .byte (Int8.toInt32 (Int32.toInt8 (Int64.toInt32 (XT.ushrL u0 (16 : Int32)))))), .int (nar .byte (Int8.toInt32 (Int32.toInt8 (Int64.toInt32 (XT.ushrL u0 (8 : Int32)))))), .int (nar .byte (Int8.toInt32 (Int32.toInt8 (Int64.toInt32 (XT.ushrL u0 (0 : Int32))))))]] := P5
  refine w_iincE (z := (4 : Int32)) (l' := #[.val (.int (4 : Int32)), .val (.long u0), .second, .val (.ref (n0 + 0)), .val (.int (4 : Int32))]) X5 hx (hb hby d1_30) rfl (by decide) rfl (pc' := 33) rfl ?_
  refine w_goto X5 hx (hb hby d1_33) (by decide) (pc' := 7) (by decide) ?_
  refine w_iload X5 hx (hb hby d1_7) rfl (pc' := 9) rfl ?_
  refine w_iloadN X5 hx (hb hby d1_9) rfl (pc' := 10) rfl ?_
  refine w_icmp_ge X5 hx (hb hby d1_10) (by decide) (pcY := 36) (by decide) (pc' := 13) rfl (fun h4 => ?_) (fun h4 => absurd h4 (by decide))
  refine w_aloadN X5 hx (hb hby d1_36) rfl rfl (pc' := 37) rfl ?_
  exact w_ret_a X5 hx rfl hret rfl hlk (hb hby d1_37) (by decide) (by decide) ⟨rfl, N4, kA1, hk1, P5⟩
def Q_rm1_5 (Z : State) (n0 : Nat) (u0 : Int64) (v : Option Value) (h : Heap) (L : List Loc) : Prop := v = some (.ref (n0 + 0)) ∧ Fr n0 L ∧ ∃ kA1 : ClassId, IsA Z kA1 .byte ∧ HP n0 h [AC kA1 [.int (nar .byte (Int8.toInt32 (Int32.toInt8 (Int64.toInt32 (XT.ushrL u0 (32 : Int32)))))), .int (nar .byte (Int8.toInt32 (Int32.toInt8 (Int64.toInt32 (XT.ushrL u0 (24 : Int32)))))), .int (nar .byte (Int8.toInt32 (Int32.toInt8 (Int64.toInt32 (XT.ushrL u0 (16 : Int32)))))), .int (nar .byte (Int8.toInt32 (Int32.toInt8 (Int64.toInt32 (XT.ushrL u0 (8 : Int32)))))), .int (nar .byte (Int8.toInt32 (Int32.toInt8 (Int64.toInt32 (XT.ushrL u0 (0 : Int32))))))]]
theorem ef_rm1_5 (m : MethodId) (n0 : Nat) (u0 : Int64) : entryFrame m #[.int (5 : Int32), .long u0] 5 = mkF m 0 #[.val (.int (5 : Int32)), .val (.long u0), .second, .unset, .unset] [] := by first | (simp [entryFrame, mkF, argsToLocals, Value.category]; done) | rfl
set_option maxRecDepth 65536 in
set_option maxHeartbeats 40000000 in
theorem rm1_5 (l : Launch) (Z : State) (a0 : Array Value) (hw : ∀ d ∈ tables_1, d.before a0 Z = true) (ws : List Jvm.Cond) (n0 : Nat) (u0 : Int64) (h0 : Heap) (P0 : HP n0 h0 []) :
    MetFree l (⟨"com/example/protomata/protomata/Bytes", "uint", "(IJ)[B"⟩ : MethodName) (head1 (Jvm.Cond.code (⟨"com/example/protomata/protomata/Bytes", "uint", "(IJ)[B"⟩ : MethodName) prog_9_method_2_code 5 (some (.array .byte)) :: ws) ({ frames := 0, cells := 1, slots := 5, locals := 0 } : Room)) (fun a U => a = #[.int (5 : Int32), .long u0] ∧ Z.Warmed39 U.vm ∧ U.heap = h0) (fun _ _ _ _ _ => True) (fun _ U o U' => ∃ v L, o = .returned v ∧ Q_rm1_5 Z n0 u0 v U'.heap L ∧ FrameEnd U o U' L ({ frames := 0, cells := 1, slots := 5, locals := 0 } : Room).cells ({ frames := 0, cells := 1, slots := 5, locals := 0 } : Room).slots) := by
  refine own_body pn1 ?_
  intro p e s m below meth c T0 hx hby hml hret hlk hown hnm hZ X0 e0
  subst e0
  have N0 : Fr n0 [] := Fr.nil n0
  refine own_cast (ef_rm1_5 m n0 u0) ?_
  refine w_iloadN X0 hx (hb hby d1_0) rfl (pc' := 1) rfl ?_
  refine w_newarr (N := 5) (j := 0) X0 hx hZ P0 (ty := .byte) rfl (wd5 hw) (hb hby d1_1) (by decide) (by decide) (by decide) (by decide) rfl (pc' := 3) rfl ?_
  intro T1 kA1 X1 hk1 P1
  replace P1 : HP n0 T1.heap [AC kA1 [.int (0 : Int32), .int (0 : Int32), .int (0 : Int32), .int (0 : Int32), .int (0 : Int32)]] := P1
  refine w_astoreN (l' := #[.val (.int (5 : Int32)), .val (.long u0), .second, .val (.ref (n0 + 0)), .unset]) X1 hx (hb hby d1_3) rfl rfl (pc' := 4) rfl ?_
  refine w_iconst (v := (0 : Int32)) X1 hx (hb hby d1_4) rfl (pc' := 5) rfl ?_
  refine w_istore (l' := #[.val (.int (5 : Int32)), .val (.long u0), .second, .val (.ref (n0 + 0)), .val (.int (0 : Int32))]) X1 hx (hb hby d1_5) rfl (pc' := 7) rfl ?_
  refine w_iload X1 hx (hb hby d1_7) rfl (pc' := 9) rfl ?_
  refine w_iloadN X1 hx (hb hby d1_9) rfl (pc' := 10) rfl ?_
  refine w_icmp_ge X1 hx (hb hby d1_10) (by decide) (pcY := 36) (by decide) (pc' := 13) rfl (fun h0 => absurd h0 (by decide)) (fun h0 => ?_)
  refine w_aloadN X1 hx (hb hby d1_13) rfl rfl (pc' := 14) rfl ?_
  refine w_iload X1 hx (hb hby d1_14) rfl (pc' := 16) rfl ?_
  refine w_lloadN X1 hx (hb hby d1_16) rfl (pc' := 17) rfl ?_
  refine w_bipush (v := (8 : Int32)) X1 hx (hb hby d1_17) rfl (pc' := 19) rfl ?_
  refine w_iloadN X1 hx (hb hby d1_19) rfl (pc' := 20) rfl ?_
  refine w_iconst (v := (1 : Int32)) X1 hx (hb hby d1_20) rfl (pc' := 21) rfl ?_
  refine w_isub X1 hx (hb hby d1_21) (pc' := 22) rfl ?_
  refine w_eqI (z := (4 : Int32)) (by decide) ?_
  refine w_iload X1 hx (hb hby d1_22) rfl (pc' := 24) rfl ?_
  refine w_isub X1 hx (hb hby d1_24) (pc' := 25) rfl ?_
  refine w_eqI (z := (4 : Int32)) (by decide) ?_
  refine w_imul X1 hx (hb hby d1_25) (pc' := 26) rfl ?_
  refine w_eqI (z := (32 : Int32)) (by decide) ?_
  refine w_lushr X1 hx (hb hby d1_26) (pc' := 27) rfl ?_
  refine w_l2i X1 hx (hb hby d1_27) (pc' := 28) rfl ?_
  refine w_i2b X1 hx (hb hby d1_28) (pc' := 29) rfl ?_
  refine w_bastore (i := 0) (jn := 0) X1 hx hZ N0 P1 rfl hk1 (hb hby d1_29) (by decide) (Nat.le_of_ble_eq_true rfl) (pc' := 30) rfl ?_
  intro T2 L1 N1 X2 P2
  replace P2 : HP n0 T2.heap [AC kA1 [.int (nar .byte (Int8.toInt32 (Int32.toInt8 (Int64.toInt32 (XT.ushrL u0 (32 : Int32)))))), .int (0 : Int32), .int (0 : Int32), .int (0 : Int32), .int (0 : Int32)]] := P2
  refine w_iincE (z := (1 : Int32)) (l' := #[.val (.int (5 : Int32)), .val (.long u0), .second, .val (.ref (n0 + 0)), .val (.int (1 : Int32))]) X2 hx (hb hby d1_30) rfl (by decide) rfl (pc' := 33) rfl ?_
  refine w_goto X2 hx (hb hby d1_33) (by decide) (pc' := 7) (by decide) ?_
  refine w_iload X2 hx (hb hby d1_7) rfl (pc' := 9) rfl ?_
  refine w_iloadN X2 hx (hb hby d1_9) rfl (pc' := 10) rfl ?_
  refine w_icmp_ge X2 hx (hb hby d1_10) (by decide) (pcY := 36) (by decide) (pc' := 13) rfl (fun h1 => absurd h1 (by decide)) (fun h1 => ?_)
  refine w_aloadN X2 hx (hb hby d1_13) rfl rfl (pc' := 14) rfl ?_
  refine w_iload X2 hx (hb hby d1_14) rfl (pc' := 16) rfl ?_
  refine w_lloadN X2 hx (hb hby d1_16) rfl (pc' := 17) rfl ?_
  refine w_bipush (v := (8 : Int32)) X2 hx (hb hby d1_17) rfl (pc' := 19) rfl ?_
  refine w_iloadN X2 hx (hb hby d1_19) rfl (pc' := 20) rfl ?_
  refine w_iconst (v := (1 : Int32)) X2 hx (hb hby d1_20) rfl (pc' := 21) rfl ?_
  refine w_isub X2 hx (hb hby d1_21) (pc' := 22) rfl ?_
  refine w_eqI (z := (4 : Int32)) (by decide) ?_
  refine w_iload X2 hx (hb hby d1_22) rfl (pc' := 24) rfl ?_
  refine w_isub X2 hx (hb hby d1_24) (pc' := 25) rfl ?_
  refine w_eqI (z := (3 : Int32)) (by decide) ?_
  refine w_imul X2 hx (hb hby d1_25) (pc' := 26) rfl ?_
  refine w_eqI (z := (24 : Int32)) (by decide) ?_
  refine w_lushr X2 hx (hb hby d1_26) (pc' := 27) rfl ?_
  refine w_l2i X2 hx (hb hby d1_27) (pc' := 28) rfl ?_
  refine w_i2b X2 hx (hb hby d1_28) (pc' := 29) rfl ?_
  refine w_bastore (i := 0) (jn := 1) X2 hx hZ N1 P2 rfl hk1 (hb hby d1_29) (by decide) (Nat.le_of_ble_eq_true rfl) (pc' := 30) rfl ?_
  intro T3 L2 N2 X3 P3
  replace P3 : HP n0 T3.heap [AC kA1 [.int (nar .byte (Int8.toInt32 (Int32.toInt8 (Int64.toInt32 (XT.ushrL u0 (32 : Int32)))))), .int (nar .byte (Int8.toInt32 (Int32.toInt8 (Int64.toInt32 (XT.ushrL u0 (24 : Int32)))))), .int (0 : Int32), .int (0 : Int32), .int (0 : Int32)]] := P3
  refine w_iincE (z := (2 : Int32)) (l' := #[.val (.int (5 : Int32)), .val (.long u0), .second, .val (.ref (n0 + 0)), .val (.int (2 : Int32))]) X3 hx (hb hby d1_30) rfl (by decide) rfl (pc' := 33) rfl ?_
  refine w_goto X3 hx (hb hby d1_33) (by decide) (pc' := 7) (by decide) ?_
  refine w_iload X3 hx (hb hby d1_7) rfl (pc' := 9) rfl ?_
  refine w_iloadN X3 hx (hb hby d1_9) rfl (pc' := 10) rfl ?_
  refine w_icmp_ge X3 hx (hb hby d1_10) (by decide) (pcY := 36) (by decide) (pc' := 13) rfl (fun h2 => absurd h2 (by decide)) (fun h2 => ?_)
  refine w_aloadN X3 hx (hb hby d1_13) rfl rfl (pc' := 14) rfl ?_
  refine w_iload X3 hx (hb hby d1_14) rfl (pc' := 16) rfl ?_
  refine w_lloadN X3 hx (hb hby d1_16) rfl (pc' := 17) rfl ?_
  refine w_bipush (v := (8 : Int32)) X3 hx (hb hby d1_17) rfl (pc' := 19) rfl ?_
  refine w_iloadN X3 hx (hb hby d1_19) rfl (pc' := 20) rfl ?_
  refine w_iconst (v := (1 : Int32)) X3 hx (hb hby d1_20) rfl (pc' := 21) rfl ?_
  refine w_isub X3 hx (hb hby d1_21) (pc' := 22) rfl ?_
  refine w_eqI (z := (4 : Int32)) (by decide) ?_
  refine w_iload X3 hx (hb hby d1_22) rfl (pc' := 24) rfl ?_
  refine w_isub X3 hx (hb hby d1_24) (pc' := 25) rfl ?_
  refine w_eqI (z := (2 : Int32)) (by decide) ?_
  refine w_imul X3 hx (hb hby d1_25) (pc' := 26) rfl ?_
  refine w_eqI (z := (16 : Int32)) (by decide) ?_
  refine w_lushr X3 hx (hb hby d1_26) (pc' := 27) rfl ?_
  refine w_l2i X3 hx (hb hby d1_27) (pc' := 28) rfl ?_
  refine w_i2b X3 hx (hb hby d1_28) (pc' := 29) rfl ?_
  refine w_bastore (i := 0) (jn := 2) X3 hx hZ N2 P3 rfl hk1 (hb hby d1_29) (by decide) (Nat.le_of_ble_eq_true rfl) (pc' := 30) rfl ?_
  intro T4 L3 N3 X4 P4
  replace P4 : HP n0 T4.heap [AC kA1 [.int (nar .byte (Int8.toInt32 (Int32.toInt8 (Int64.toInt32 (XT.ushrL u0 (32 : Int32)))))), .int (nar .byte (Int8.toInt32 (Int32.toInt8 (Int64.toInt32 (XT.ushrL u0 (24 : Int32)))))), .int (nar .byte (Int8.toInt32 (Int32.toInt8 (Int64.toInt32 (XT.ushrL u0 (16 : Int32)))))), .int (0 : Int32), .int (0 : Int32)]] := P4
  refine w_iincE (z := (3 : Int32)) (l' := #[.val (.int (5 : Int32)), .val (.long u0), .second, .val (.ref (n0 + 0)), .val (.int (3 : Int32))]) X4 hx (hb hby d1_30) rfl (by decide) rfl (pc' := 33) rfl ?_
  refine w_goto X4 hx (hb hby d1_33) (by decide) (pc' := 7) (by decide) ?_
  refine w_iload X4 hx (hb hby d1_7) rfl (pc' := 9) rfl ?_
  refine w_iloadN X4 hx (hb hby d1_9) rfl (pc' := 10) rfl ?_
  refine w_icmp_ge X4 hx (hb hby d1_10) (by decide) (pcY := 36) (by decide) (pc' := 13) rfl (fun h3 => absurd h3 (by decide)) (fun h3 => ?_)
  refine w_aloadN X4 hx (hb hby d1_13) rfl rfl (pc' := 14) rfl ?_
  refine w_iload X4 hx (hb hby d1_14) rfl (pc' := 16) rfl ?_
  refine w_lloadN X4 hx (hb hby d1_16) rfl (pc' := 17) rfl ?_
  refine w_bipush (v := (8 : Int32)) X4 hx (hb hby d1_17) rfl (pc' := 19) rfl ?_
  refine w_iloadN X4 hx (hb hby d1_19) rfl (pc' := 20) rfl ?_
  refine w_iconst (v := (1 : Int32)) X4 hx (hb hby d1_20) rfl (pc' := 21) rfl ?_
  refine w_isub X4 hx (hb hby d1_21) (pc' := 22) rfl ?_
  refine w_eqI (z := (4 : Int32)) (by decide) ?_
  refine w_iload X4 hx (hb hby d1_22) rfl (pc' := 24) rfl ?_
  refine w_isub X4 hx (hb hby d1_24) (pc' := 25) rfl ?_
  refine w_eqI (z := (1 : Int32)) (by decide) ?_
  refine w_imul X4 hx (hb hby d1_25) (pc' := 26) rfl ?_
  refine w_eqI (z := (8 : Int32)) (by decide) ?_
  refine w_lushr X4 hx (hb hby d1_26) (pc' := 27) rfl ?_
  refine w_l2i X4 hx (hb hby d1_27) (pc' := 28) rfl ?_
  refine w_i2b X4 hx (hb hby d1_28) (pc' := 29) rfl ?_
  refine w_bastore (i := 0) (jn := 3) X4 hx hZ N3 P4 rfl hk1 (hb hby d1_29) (by decide) (Nat.le_of_ble_eq_true rfl) (pc' := 30) rfl ?_
  intro T5 L4 N4 X5 P5
  replace P5 : HP n0 T5.heap [AC kA1 [.int (nar .byte (Int8.toInt32 (Int32.toInt8 (Int64.toInt32 (XT.ushrL u0 (32 : Int32)))))), .int (nar .byte (Int8.toInt32 (Int32.toInt8 (Int64.toInt32 (XT.ushrL u0 (24 : Int32)))))), .int (nar .byte (Int8.toInt32 (Int32.toInt8 (Int64.toInt32 (XT.ushrL u0 (16 : Int32)))))), .int (nar .byte (Int8.toInt32 (Int32.toInt8 (Int64.toInt32 (XT.ushrL u0 (8 : Int32)))))), .int (0 : Int32)]] := P5
  refine w_iincE (z := (4 : Int32)) (l' := #[.val (.int (5 : Int32)), .val (.long u0), .second, .val (.ref (n0 + 0)), .val (.int (4 : Int32))]) X5 hx (hb hby d1_30) rfl (by decide) rfl (pc' := 33) rfl ?_
  refine w_goto X5 hx (hb hby d1_33) (by decide) (pc' := 7) (by decide) ?_
  refine w_iload X5 hx (hb hby d1_7) rfl (pc' := 9) rfl ?_
  refine w_iloadN X5 hx (hb hby d1_9) rfl (pc' := 10) rfl ?_
  refine w_icmp_ge X5 hx (hb hby d1_10) (by decide) (pcY := 36) (by decide) (pc' := 13) rfl (fun h4 => absurd h4 (by decide)) (fun h4 => ?_)
  refine w_aloadN X5 hx (hb hby d1_13) rfl rfl (pc' := 14) rfl ?_
  refine w_iload X5 hx (hb hby d1_14) rfl (pc' := 16) rfl ?_
  refine w_lloadN X5 hx (hb hby d1_16) rfl (pc' := 17) rfl ?_
  refine w_bipush (v := (8 : Int32)) X5 hx (hb hby d1_17) rfl (pc' := 19) rfl ?_
  refine w_iloadN X5 hx (hb hby d1_19) rfl (pc' := 20) rfl ?_
  refine w_iconst (v := (1 : Int32)) X5 hx (hb hby d1_20) rfl (pc' := 21) rfl ?_
  refine w_isub X5 hx (hb hby d1_21) (pc' := 22) rfl ?_
  refine w_eqI (z := (4 : Int32)) (by decide) ?_
  refine w_iload X5 hx (hb hby d1_22) rfl (pc' := 24) rfl ?_
  refine w_isub X5 hx (hb hby d1_24) (pc' := 25) rfl ?_
  refine w_eqI (z := (0 : Int32)) (by decide) ?_
  refine w_imul X5 hx (hb hby d1_25) (pc' := 26) rfl ?_
  refine w_eqI (z := (0 : Int32)) (by decide) ?_
  refine w_lushr X5 hx (hb hby d1_26) (pc' := 27) rfl ?_
  refine w_l2i X5 hx (hb hby d1_27) (pc' := 28) rfl ?_
  refine w_i2b X5 hx (hb hby d1_28) (pc' := 29) rfl ?_
  refine w_bastore (i := 0) (jn := 4) X5 hx hZ N4 P5 rfl hk1 (hb hby d1_29) (by decide) (Nat.le_of_ble_eq_true rfl) (pc' := 30) rfl ?_
  intro T6 L5 N5 X6 P6
  replace P6 : HP n0 T6.heap [AC kA1 [.int (nar .byte (Int8.toInt32 (Int32.toInt8 (Int64.toInt32 (XT.ushrL u0 (32 : Int32)))))), .int (nar .byte (Int8.toInt32 (Int32.toInt8 (Int64.toInt32 (XT.ushrL u0 (24 : Int32)))))), .int (nar .byte (Int8.toInt32 (Int32.toInt8 (Int64.toInt32 (XT.ushrL u0 (16 : Int32)))))), .int (nar .byte (Int8.toInt32 (Int32.toInt8 (Int64.toInt32 (XT.ushrL u0 (8 : Int32)))))), .int (nar .byte (Int8.toInt32 (Int32.toInt8 (Int64.toInt32 (XT.ushrL u0 (0 : Int32))))))]] := P6
  refine w_iincE (z := (5 : Int32)) (l' := #[.val (.int (5 : Int32)), .val (.long u0), .second, .val (.ref (n0 + 0)), .val (.int (5 : Int32))]) X6 hx (hb hby d1_30) rfl (by decide) rfl (pc' := 33) rfl ?_
  refine w_goto X6 hx (hb hby d1_33) (by decide) (pc' := 7) (by decide) ?_
  refine w_iload X6 hx (hb hby d1_7) rfl (pc' := 9) rfl ?_
  refine w_iloadN X6 hx (hb hby d1_9) rfl (pc' := 10) rfl ?_
  refine w_icmp_ge X6 hx (hb hby d1_10) (by decide) (pcY := 36) (by decide) (pc' := 13) rfl (fun h5 => ?_) (fun h5 => absurd h5 (by decide))
  refine w_aloadN X6 hx (hb hby d1_36) rfl rfl (pc' := 37) rfl ?_
  exact w_ret_a X6 hx rfl hret rfl hlk (hb hby d1_37) (by decide) (by decide) ⟨rfl, N5, kA1, hk1, P6⟩
def Q_rm1_6 (Z : State) (n0 : Nat) (u0 : Int64) (v : Option Value) (h : Heap) (L : List Loc) : Prop := v = some (.ref (n0 + 0)) ∧ Fr n0 L ∧ ∃ kA1 : ClassId, IsA Z kA1 .byte ∧ HP n0 h [AC kA1 [.int (nar .byte (Int8.toInt32 (Int32.toInt8 (Int64.toInt32 (XT.ushrL u0 (40 : Int32)))))), .int (nar .byte (Int8.toInt32 (Int32.toInt8 (Int64.toInt32 (XT.ushrL u0 (32 : Int32)))))), .int (nar .byte (Int8.toInt32 (Int32.toInt8 (Int64.toInt32 (XT.ushrL u0 (24 : Int32)))))), .int (nar .byte (Int8.toInt32 (Int32.toInt8 (Int64.toInt32 (XT.ushrL u0 (16 : Int32)))))), .int (nar .byte (Int8.toInt32 (Int32.toInt8 (Int64.toInt32 (XT.ushrL u0 (8 : Int32)))))), .int (nar .byte (Int8.toInt32 (Int32.toInt8 (Int64.toInt32 (XT.ushrL u0 (0 : Int32))))))]]
theorem ef_rm1_6 (m : MethodId) (n0 : Nat) (u0 : Int64) : entryFrame m #[.int (6 : Int32), .long u0] 5 = mkF m 0 #[.val (.int (6 : Int32)), .val (.long u0), .second, .unset, .unset] [] := by first | (simp [entryFrame, mkF, argsToLocals, Value.category]; done) | rfl
set_option maxRecDepth 65536 in
set_option maxHeartbeats 40000000 in
theorem rm1_6 (l : Launch) (Z : State) (a0 : Array Value) (hw : ∀ d ∈ tables_1, d.before a0 Z = true) (ws : List Jvm.Cond) (n0 : Nat) (u0 : Int64) (h0 : Heap) (P0 : HP n0 h0 []) :
    MetFree l (⟨"com/example/protomata/protomata/Bytes", "uint", "(IJ)[B"⟩ : MethodName) (head1 (Jvm.Cond.code (⟨"com/example/protomata/protomata/Bytes", "uint", "(IJ)[B"⟩ : MethodName) prog_9_method_2_code 5 (some (.array .byte)) :: ws) ({ frames := 0, cells := 1, slots := 6, locals := 0 } : Room)) (fun a U => a = #[.int (6 : Int32), .long u0] ∧ Z.Warmed39 U.vm ∧ U.heap = h0) (fun _ _ _ _ _ => True) (fun _ U o U' => ∃ v L, o = .returned v ∧ Q_rm1_6 Z n0 u0 v U'.heap L ∧ FrameEnd U o U' L ({ frames := 0, cells := 1, slots := 6, locals := 0 } : Room).cells ({ frames := 0, cells := 1, slots := 6, locals := 0 } : Room).slots) := by
  refine own_body pn1 ?_
  intro p e s m below meth c T0 hx hby hml hret hlk hown hnm hZ X0 e0
  subst e0
  have N0 : Fr n0 [] := Fr.nil n0
  refine own_cast (ef_rm1_6 m n0 u0) ?_
  refine w_iloadN X0 hx (hb hby d1_0) rfl (pc' := 1) rfl ?_
  refine w_newarr (N := 6) (j := 0) X0 hx hZ P0 (ty := .byte) rfl (wd5 hw) (hb hby d1_1) (by decide) (by decide) (by decide) (by decide) rfl (pc' := 3) rfl ?_
  intro T1 kA1 X1 hk1 P1
  replace P1 : HP n0 T1.heap [AC kA1 [.int (0 : Int32), .int (0 : Int32), .int (0 : Int32), .int (0 : Int32), .int (0 : Int32), .int (0 : Int32)]] := P1
  refine w_astoreN (l' := #[.val (.int (6 : Int32)), .val (.long u0), .second, .val (.ref (n0 + 0)), .unset]) X1 hx (hb hby d1_3) rfl rfl (pc' := 4) rfl ?_
  refine w_iconst (v := (0 : Int32)) X1 hx (hb hby d1_4) rfl (pc' := 5) rfl ?_
  refine w_istore (l' := #[.val (.int (6 : Int32)), .val (.long u0), .second, .val (.ref (n0 + 0)), .val (.int (0 : Int32))]) X1 hx (hb hby d1_5) rfl (pc' := 7) rfl ?_
  refine w_iload X1 hx (hb hby d1_7) rfl (pc' := 9) rfl ?_
  refine w_iloadN X1 hx (hb hby d1_9) rfl (pc' := 10) rfl ?_
  refine w_icmp_ge X1 hx (hb hby d1_10) (by decide) (pcY := 36) (by decide) (pc' := 13) rfl (fun h0 => absurd h0 (by decide)) (fun h0 => ?_)
  refine w_aloadN X1 hx (hb hby d1_13) rfl rfl (pc' := 14) rfl ?_
  refine w_iload X1 hx (hb hby d1_14) rfl (pc' := 16) rfl ?_
  refine w_lloadN X1 hx (hb hby d1_16) rfl (pc' := 17) rfl ?_
  refine w_bipush (v := (8 : Int32)) X1 hx (hb hby d1_17) rfl (pc' := 19) rfl ?_
  refine w_iloadN X1 hx (hb hby d1_19) rfl (pc' := 20) rfl ?_
  refine w_iconst (v := (1 : Int32)) X1 hx (hb hby d1_20) rfl (pc' := 21) rfl ?_
  refine w_isub X1 hx (hb hby d1_21) (pc' := 22) rfl ?_
  refine w_eqI (z := (5 : Int32)) (by decide) ?_
  refine w_iload X1 hx (hb hby d1_22) rfl (pc' := 24) rfl ?_
  refine w_isub X1 hx (hb hby d1_24) (pc' := 25) rfl ?_
  refine w_eqI (z := (5 : Int32)) (by decide) ?_
  refine w_imul X1 hx (hb hby d1_25) (pc' := 26) rfl ?_
  refine w_eqI (z := (40 : Int32)) (by decide) ?_
  refine w_lushr X1 hx (hb hby d1_26) (pc' := 27) rfl ?_
  refine w_l2i X1 hx (hb hby d1_27) (pc' := 28) rfl ?_
  refine w_i2b X1 hx (hb hby d1_28) (pc' := 29) rfl ?_
  refine w_bastore (i := 0) (jn := 0) X1 hx hZ N0 P1 rfl hk1 (hb hby d1_29) (by decide) (Nat.le_of_ble_eq_true rfl) (pc' := 30) rfl ?_
  intro T2 L1 N1 X2 P2
  replace P2 : HP n0 T2.heap [AC kA1 [.int (nar .byte (Int8.toInt32 (Int32.toInt8 (Int64.toInt32 (XT.ushrL u0 (40 : Int32)))))), .int (0 : Int32), .int (0 : Int32), .int (0 : Int32), .int (0 : Int32), .int (0 : Int32)]] := P2
  refine w_iincE (z := (1 : Int32)) (l' := #[.val (.int (6 : Int32)), .val (.long u0), .second, .val (.ref (n0 + 0)), .val (.int (1 : Int32))]) X2 hx (hb hby d1_30) rfl (by decide) rfl (pc' := 33) rfl ?_
  refine w_goto X2 hx (hb hby d1_33) (by decide) (pc' := 7) (by decide) ?_
  refine w_iload X2 hx (hb hby d1_7) rfl (pc' := 9) rfl ?_
  refine w_iloadN X2 hx (hb hby d1_9) rfl (pc' := 10) rfl ?_
  refine w_icmp_ge X2 hx (hb hby d1_10) (by decide) (pcY := 36) (by decide) (pc' := 13) rfl (fun h1 => absurd h1 (by decide)) (fun h1 => ?_)
  refine w_aloadN X2 hx (hb hby d1_13) rfl rfl (pc' := 14) rfl ?_
  refine w_iload X2 hx (hb hby d1_14) rfl (pc' := 16) rfl ?_
  refine w_lloadN X2 hx (hb hby d1_16) rfl (pc' := 17) rfl ?_
  refine w_bipush (v := (8 : Int32)) X2 hx (hb hby d1_17) rfl (pc' := 19) rfl ?_
  refine w_iloadN X2 hx (hb hby d1_19) rfl (pc' := 20) rfl ?_
  refine w_iconst (v := (1 : Int32)) X2 hx (hb hby d1_20) rfl (pc' := 21) rfl ?_
  refine w_isub X2 hx (hb hby d1_21) (pc' := 22) rfl ?_
  refine w_eqI (z := (5 : Int32)) (by decide) ?_
  refine w_iload X2 hx (hb hby d1_22) rfl (pc' := 24) rfl ?_
  refine w_isub X2 hx (hb hby d1_24) (pc' := 25) rfl ?_
  refine w_eqI (z := (4 : Int32)) (by decide) ?_
  refine w_imul X2 hx (hb hby d1_25) (pc' := 26) rfl ?_
  refine w_eqI (z := (32 : Int32)) (by decide) ?_
  refine w_lushr X2 hx (hb hby d1_26) (pc' := 27) rfl ?_
  refine w_l2i X2 hx (hb hby d1_27) (pc' := 28) rfl ?_
  refine w_i2b X2 hx (hb hby d1_28) (pc' := 29) rfl ?_
  refine w_bastore (i := 0) (jn := 1) X2 hx hZ N1 P2 rfl hk1 (hb hby d1_29) (by decide) (Nat.le_of_ble_eq_true rfl) (pc' := 30) rfl ?_
  intro T3 L2 N2 X3 P3
  replace P3 : HP n0 T3.heap [AC kA1 [.int (nar .byte (Int8.toInt32 (Int32.toInt8 (Int64.toInt32 (XT.ushrL u0 (40 : Int32)))))), .int (nar .byte (Int8.toInt32 (Int32.toInt8 (Int64.toInt32 (XT.ushrL u0 (32 : Int32)))))), .int (0 : Int32), .int (0 : Int32), .int (0 : Int32), .int (0 : Int32)]] := P3
  refine w_iincE (z := (2 : Int32)) (l' := #[.val (.int (6 : Int32)), .val (.long u0), .second, .val (.ref (n0 + 0)), .val (.int (2 : Int32))]) X3 hx (hb hby d1_30) rfl (by decide) rfl (pc' := 33) rfl ?_
  refine w_goto X3 hx (hb hby d1_33) (by decide) (pc' := 7) (by decide) ?_
  refine w_iload X3 hx (hb hby d1_7) rfl (pc' := 9) rfl ?_
  refine w_iloadN X3 hx (hb hby d1_9) rfl (pc' := 10) rfl ?_
  refine w_icmp_ge X3 hx (hb hby d1_10) (by decide) (pcY := 36) (by decide) (pc' := 13) rfl (fun h2 => absurd h2 (by decide)) (fun h2 => ?_)
  refine w_aloadN X3 hx (hb hby d1_13) rfl rfl (pc' := 14) rfl ?_
  refine w_iload X3 hx (hb hby d1_14) rfl (pc' := 16) rfl ?_
  refine w_lloadN X3 hx (hb hby d1_16) rfl (pc' := 17) rfl ?_
  refine w_bipush (v := (8 : Int32)) X3 hx (hb hby d1_17) rfl (pc' := 19) rfl ?_
  refine w_iloadN X3 hx (hb hby d1_19) rfl (pc' := 20) rfl ?_
  refine w_iconst (v := (1 : Int32)) X3 hx (hb hby d1_20) rfl (pc' := 21) rfl ?_
  refine w_isub X3 hx (hb hby d1_21) (pc' := 22) rfl ?_
  refine w_eqI (z := (5 : Int32)) (by decide) ?_
  refine w_iload X3 hx (hb hby d1_22) rfl (pc' := 24) rfl ?_
  refine w_isub X3 hx (hb hby d1_24) (pc' := 25) rfl ?_
  refine w_eqI (z := (3 : Int32)) (by decide) ?_
  refine w_imul X3 hx (hb hby d1_25) (pc' := 26) rfl ?_
  refine w_eqI (z := (24 : Int32)) (by decide) ?_
  refine w_lushr X3 hx (hb hby d1_26) (pc' := 27) rfl ?_
  refine w_l2i X3 hx (hb hby d1_27) (pc' := 28) rfl ?_
  refine w_i2b X3 hx (hb hby d1_28) (pc' := 29) rfl ?_
  refine w_bastore (i := 0) (jn := 2) X3 hx hZ N2 P3 rfl hk1 (hb hby d1_29) (by decide) (Nat.le_of_ble_eq_true rfl) (pc' := 30) rfl ?_
  intro T4 L3 N3 X4 P4
  replace P4 : HP n0 T4.heap [AC kA1 [.int (nar .byte (Int8.toInt32 (Int32.toInt8 (Int64.toInt32 (XT.ushrL u0 (40 : Int32)))))), .int (nar .byte (Int8.toInt32 (Int32.toInt8 (Int64.toInt32 (XT.ushrL u0 (32 : Int32)))))), .int (nar .byte (Int8.toInt32 (Int32.toInt8 (Int64.toInt32 (XT.ushrL u0 (24 : Int32)))))), .int (0 : Int32), .int (0 : Int32), .int (0 : Int32)]] := P4
  refine w_iincE (z := (3 : Int32)) (l' := #[.val (.int (6 : Int32)), .val (.long u0), .second, .val (.ref (n0 + 0)), .val (.int (3 : Int32))]) X4 hx (hb hby d1_30) rfl (by decide) rfl (pc' := 33) rfl ?_
  refine w_goto X4 hx (hb hby d1_33) (by decide) (pc' := 7) (by decide) ?_
  refine w_iload X4 hx (hb hby d1_7) rfl (pc' := 9) rfl ?_
  refine w_iloadN X4 hx (hb hby d1_9) rfl (pc' := 10) rfl ?_
  refine w_icmp_ge X4 hx (hb hby d1_10) (by decide) (pcY := 36) (by decide) (pc' := 13) rfl (fun h3 => absurd h3 (by decide)) (fun h3 => ?_)
  refine w_aloadN X4 hx (hb hby d1_13) rfl rfl (pc' := 14) rfl ?_
  refine w_iload X4 hx (hb hby d1_14) rfl (pc' := 16) rfl ?_
  refine w_lloadN X4 hx (hb hby d1_16) rfl (pc' := 17) rfl ?_
  refine w_bipush (v := (8 : Int32)) X4 hx (hb hby d1_17) rfl (pc' := 19) rfl ?_
  refine w_iloadN X4 hx (hb hby d1_19) rfl (pc' := 20) rfl ?_
  refine w_iconst (v := (1 : Int32)) X4 hx (hb hby d1_20) rfl (pc' := 21) rfl ?_
  refine w_isub X4 hx (hb hby d1_21) (pc' := 22) rfl ?_
  refine w_eqI (z := (5 : Int32)) (by decide) ?_
  refine w_iload X4 hx (hb hby d1_22) rfl (pc' := 24) rfl ?_
  refine w_isub X4 hx (hb hby d1_24) (pc' := 25) rfl ?_
  refine w_eqI (z := (2 : Int32)) (by decide) ?_
  refine w_imul X4 hx (hb hby d1_25) (pc' := 26) rfl ?_
  refine w_eqI (z := (16 : Int32)) (by decide) ?_
  refine w_lushr X4 hx (hb hby d1_26) (pc' := 27) rfl ?_
  refine w_l2i X4 hx (hb hby d1_27) (pc' := 28) rfl ?_
  refine w_i2b X4 hx (hb hby d1_28) (pc' := 29) rfl ?_
  refine w_bastore (i := 0) (jn := 3) X4 hx hZ N3 P4 rfl hk1 (hb hby d1_29) (by decide) (Nat.le_of_ble_eq_true rfl) (pc' := 30) rfl ?_
  intro T5 L4 N4 X5 P5
  replace P5 : HP n0 T5.heap [AC kA1 [.int (nar .byte (Int8.toInt32 (Int32.toInt8 (Int64.toInt32 (XT.ushrL u0 (40 : Int32)))))), .int (nar .byte (Int8.toInt32 (Int32.toInt8 (Int64.toInt32 (XT.ushrL u0 (32 : Int32)))))), .int (nar .byte (Int8.toInt32 (Int32.toInt8 (Int64.toInt32 (XT.ushrL u0 (24 : Int32)))))), .int (nar .byte (Int8.toInt32 (Int32.toInt8 (Int64.toInt32 (XT.ushrL u0 (16 : Int32)))))), .int (0 : Int32), .int (0 : Int32)]] := P5
  refine w_iincE (z := (4 : Int32)) (l' := #[.val (.int (6 : Int32)), .val (.long u0), .second, .val (.ref (n0 + 0)), .val (.int (4 : Int32))]) X5 hx (hb hby d1_30) rfl (by decide) rfl (pc' := 33) rfl ?_
  refine w_goto X5 hx (hb hby d1_33) (by decide) (pc' := 7) (by decide) ?_
  refine w_iload X5 hx (hb hby d1_7) rfl (pc' := 9) rfl ?_
  refine w_iloadN X5 hx (hb hby d1_9) rfl (pc' := 10) rfl ?_
  refine w_icmp_ge X5 hx (hb hby d1_10) (by decide) (pcY := 36) (by decide) (pc' := 13) rfl (fun h4 => absurd h4 (by decide)) (fun h4 => ?_)
  refine w_aloadN X5 hx (hb hby d1_13) rfl rfl (pc' := 14) rfl ?_
  refine w_iload X5 hx (hb hby d1_14) rfl (pc' := 16) rfl ?_
  refine w_lloadN X5 hx (hb hby d1_16) rfl (pc' := 17) rfl ?_
  refine w_bipush (v := (8 : Int32)) X5 hx (hb hby d1_17) rfl (pc' := 19) rfl ?_
  refine w_iloadN X5 hx (hb hby d1_19) rfl (pc' := 20) rfl ?_
  refine w_iconst (v := (1 : Int32)) X5 hx (hb hby d1_20) rfl (pc' := 21) rfl ?_
  refine w_isub X5 hx (hb hby d1_21) (pc' := 22) rfl ?_
  refine w_eqI (z := (5 : Int32)) (by decide) ?_
  refine w_iload X5 hx (hb hby d1_22) rfl (pc' := 24) rfl ?_
  refine w_isub X5 hx (hb hby d1_24) (pc' := 25) rfl ?_
  refine w_eqI (z := (1 : Int32)) (by decide) ?_
  refine w_imul X5 hx (hb hby d1_25) (pc' := 26) rfl ?_
  refine w_eqI (z := (8 : Int32)) (by decide) ?_
  refine w_lushr X5 hx (hb hby d1_26) (pc' := 27) rfl ?_
  refine w_l2i X5 hx (hb hby d1_27) (pc' := 28) rfl ?_
  refine w_i2b X5 hx (hb hby d1_28) (pc' := 29) rfl ?_
  refine w_bastore (i := 0) (jn := 4) X5 hx hZ N4 P5 rfl hk1 (hb hby d1_29) (by decide) (Nat.le_of_ble_eq_true rfl) (pc' := 30) rfl ?_
  intro T6 L5 N5 X6 P6
  replace P6 : HP n0 T6.heap [AC kA1 [.int (nar .byte (Int8.toInt32 (Int32.toInt8 (Int64.toInt32 (XT.ushrL u0 (40 : Int32)))))), .int (nar .byte (Int8.toInt32 (Int32.toInt8 (Int64.toInt32 (XT.ushrL u0 (32 : Int32)))))), .int (nar .byte (Int8.toInt32 (Int32.toInt8 (Int64.toInt32 (XT.ushrL u0 (24 : Int32)))))), .int (nar .byte (Int8.toInt32 (Int32.toInt8 (Int64.toInt32 (XT.ushrL u0 (16 : Int32)))))), .int (nar .byte (Int8.toInt32 (Int32.toInt8 (Int64.toInt32 (XT.ushrL u0 (8 : Int32)))))), .int (0 : Int32)]] := P6
  refine w_iincE (z := (5 : Int32)) (l' := #[.val (.int (6 : Int32)), .val (.long u0), .second, .val (.ref (n0 + 0)), .val (.int (5 : Int32))]) X6 hx (hb hby d1_30) rfl (by decide) rfl (pc' := 33) rfl ?_
  refine w_goto X6 hx (hb hby d1_33) (by decide) (pc' := 7) (by decide) ?_
  refine w_iload X6 hx (hb hby d1_7) rfl (pc' := 9) rfl ?_
  refine w_iloadN X6 hx (hb hby d1_9) rfl (pc' := 10) rfl ?_
  refine w_icmp_ge X6 hx (hb hby d1_10) (by decide) (pcY := 36) (by decide) (pc' := 13) rfl (fun h5 => absurd h5 (by decide)) (fun h5 => ?_)
  refine w_aloadN X6 hx (hb hby d1_13) rfl rfl (pc' := 14) rfl ?_
  refine w_iload X6 hx (hb hby d1_14) rfl (pc' := 16) rfl ?_
  refine w_lloadN X6 hx (hb hby d1_16) rfl (pc' := 17) rfl ?_
  refine w_bipush (v := (8 : Int32)) X6 hx (hb hby d1_17) rfl (pc' := 19) rfl ?_
  refine w_iloadN X6 hx (hb hby d1_19) rfl (pc' := 20) rfl ?_
  refine w_iconst (v := (1 : Int32)) X6 hx (hb hby d1_20) rfl (pc' := 21) rfl ?_
  refine w_isub X6 hx (hb hby d1_21) (pc' := 22) rfl ?_
  refine w_eqI (z := (5 : Int32)) (by decide) ?_
  refine w_iload X6 hx (hb hby d1_22) rfl (pc' := 24) rfl ?_
  refine w_isub X6 hx (hb hby d1_24) (pc' := 25) rfl ?_
  refine w_eqI (z := (0 : Int32)) (by decide) ?_
  refine w_imul X6 hx (hb hby d1_25) (pc' := 26) rfl ?_
  refine w_eqI (z := (0 : Int32)) (by decide) ?_
  refine w_lushr X6 hx (hb hby d1_26) (pc' := 27) rfl ?_
  refine w_l2i X6 hx (hb hby d1_27) (pc' := 28) rfl ?_
  refine w_i2b X6 hx (hb hby d1_28) (pc' := 29) rfl ?_
  refine w_bastore (i := 0) (jn := 5) X6 hx hZ N5 P6 rfl hk1 (hb hby d1_29) (by decide) (Nat.le_of_ble_eq_true rfl) (pc' := 30) rfl ?_
  intro T7 L6 N6 X7 P7
  replace P7 : HP n0 T7.heap [AC kA1 [.int (nar .byte (Int8.toInt32 (Int32.toInt8 (Int64.toInt32 (XT.ushrL u0 (40 : Int32)))))), .int (nar .byte (Int8.toInt32 (Int32.toInt8 (Int64.toInt32 (XT.ushrL u0 (32 : Int32)))))), .int (nar .byte (Int8.toInt32 (Int32.toInt8 (Int64.toInt32 (XT.ushrL u0 (24 : Int32)))))), .int (nar .byte (Int8.toInt32 (Int32.toInt8 (Int64.toInt32 (XT.ushrL u0 (16 : Int32)))))), .int (nar .byte (Int8.toInt32 (Int32.toInt8 (Int64.toInt32 (XT.ushrL u0 (8 : Int32)))))), .int (nar .byte (Int8.toInt32 (Int32.toInt8 (Int64.toInt32 (XT.ushrL u0 (0 : Int32))))))]] := P7
  refine w_iincE (z := (6 : Int32)) (l' := #[.val (.int (6 : Int32)), .val (.long u0), .second, .val (.ref (n0 + 0)), .val (.int (6 : Int32))]) X7 hx (hb hby d1_30) rfl (by decide) rfl (pc' := 33) rfl ?_
  refine w_goto X7 hx (hb hby d1_33) (by decide) (pc' := 7) (by decide) ?_
  refine w_iload X7 hx (hb hby d1_7) rfl (pc' := 9) rfl ?_
  refine w_iloadN X7 hx (hb hby d1_9) rfl (pc' := 10) rfl ?_
  refine w_icmp_ge X7 hx (hb hby d1_10) (by decide) (pcY := 36) (by decide) (pc' := 13) rfl (fun h6 => ?_) (fun h6 => absurd h6 (by decide))
  refine w_aloadN X7 hx (hb hby d1_36) rfl rfl (pc' := 37) rfl ?_
  exact w_ret_a X7 hx rfl hret rfl hlk (hb hby d1_37) (by decide) (by decide) ⟨rfl, N6, kA1, hk1, P7⟩
def Q_rm1_7 (Z : State) (n0 : Nat) (u0 : Int64) (v : Option Value) (h : Heap) (L : List Loc) : Prop := v = some (.ref (n0 + 0)) ∧ Fr n0 L ∧ ∃ kA1 : ClassId, IsA Z kA1 .byte ∧ HP n0 h [AC kA1 [.int (nar .byte (Int8.toInt32 (Int32.toInt8 (Int64.toInt32 (XT.ushrL u0 (48 : Int32)))))), .int (nar .byte (Int8.toInt32 (Int32.toInt8 (Int64.toInt32 (XT.ushrL u0 (40 : Int32)))))), .int (nar .byte (Int8.toInt32 (Int32.toInt8 (Int64.toInt32 (XT.ushrL u0 (32 : Int32)))))), .int (nar .byte (Int8.toInt32 (Int32.toInt8 (Int64.toInt32 (XT.ushrL u0 (24 : Int32)))))), .int (nar .byte (Int8.toInt32 (Int32.toInt8 (Int64.toInt32 (XT.ushrL u0 (16 : Int32)))))), .int (nar .byte (Int8.toInt32 (Int32.toInt8 (Int64.toInt32 (XT.ushrL u0 (8 : Int32)))))), .int (nar .byte (Int8.toInt32 (Int32.toInt8 (Int64.toInt32 (XT.ushrL u0 (0 : Int32))))))]]
theorem ef_rm1_7 (m : MethodId) (n0 : Nat) (u0 : Int64) : entryFrame m #[.int (7 : Int32), .long u0] 5 = mkF m 0 #[.val (.int (7 : Int32)), .val (.long u0), .second, .unset, .unset] [] := by first | (simp [entryFrame, mkF, argsToLocals, Value.category]; done) | rfl
set_option maxRecDepth 65536 in
set_option maxHeartbeats 40000000 in
theorem rm1_7 (l : Launch) (Z : State) (a0 : Array Value) (hw : ∀ d ∈ tables_1, d.before a0 Z = true) (ws : List Jvm.Cond) (n0 : Nat) (u0 : Int64) (h0 : Heap) (P0 : HP n0 h0 []) :
    MetFree l (⟨"com/example/protomata/protomata/Bytes", "uint", "(IJ)[B"⟩ : MethodName) (head1 (Jvm.Cond.code (⟨"com/example/protomata/protomata/Bytes", "uint", "(IJ)[B"⟩ : MethodName) prog_9_method_2_code 5 (some (.array .byte)) :: ws) ({ frames := 0, cells := 1, slots := 7, locals := 0 } : Room)) (fun a U => a = #[.int (7 : Int32), .long u0] ∧ Z.Warmed39 U.vm ∧ U.heap = h0) (fun _ _ _ _ _ => True) (fun _ U o U' => ∃ v L, o = .returned v ∧ Q_rm1_7 Z n0 u0 v U'.heap L ∧ FrameEnd U o U' L ({ frames := 0, cells := 1, slots := 7, locals := 0 } : Room).cells ({ frames := 0, cells := 1, slots := 7, locals := 0 } : Room).slots) := by
  refine own_body pn1 ?_
  intro p e s m below meth c T0 hx hby hml hret hlk hown hnm hZ X0 e0
  subst e0
  have N0 : Fr n0 [] := Fr.nil n0
  refine own_cast (ef_rm1_7 m n0 u0) ?_
  refine w_iloadN X0 hx (hb hby d1_0) rfl (pc' := 1) rfl ?_
  refine w_newarr (N := 7) (j := 0) X0 hx hZ P0 (ty := .byte) rfl (wd5 hw) (hb hby d1_1) (by decide) (by decide) (by decide) (by decide) rfl (pc' := 3) rfl ?_
  intro T1 kA1 X1 hk1 P1
  replace P1 : HP n0 T1.heap [AC kA1 [.int (0 : Int32), .int (0 : Int32), .int (0 : Int32), .int (0 : Int32), .int (0 : Int32), .int (0 : Int32), .int (0 : Int32)]] := P1
  refine w_astoreN (l' := #[.val (.int (7 : Int32)), .val (.long u0), .second, .val (.ref (n0 + 0)), .unset]) X1 hx (hb hby d1_3) rfl rfl (pc' := 4) rfl ?_
  refine w_iconst (v := (0 : Int32)) X1 hx (hb hby d1_4) rfl (pc' := 5) rfl ?_
  refine w_istore (l' := #[.val (.int (7 : Int32)), .val (.long u0), .second, .val (.ref (n0 + 0)), .val (.int (0 : Int32))]) X1 hx (hb hby d1_5) rfl (pc' := 7) rfl ?_
  refine w_iload X1 hx (hb hby d1_7) rfl (pc' := 9) rfl ?_
  refine w_iloadN X1 hx (hb hby d1_9) rfl (pc' := 10) rfl ?_
  refine w_icmp_ge X1 hx (hb hby d1_10) (by decide) (pcY := 36) (by decide) (pc' := 13) rfl (fun h0 => absurd h0 (by decide)) (fun h0 => ?_)
  refine w_aloadN X1 hx (hb hby d1_13) rfl rfl (pc' := 14) rfl ?_
  refine w_iload X1 hx (hb hby d1_14) rfl (pc' := 16) rfl ?_
  refine w_lloadN X1 hx (hb hby d1_16) rfl (pc' := 17) rfl ?_
  refine w_bipush (v := (8 : Int32)) X1 hx (hb hby d1_17) rfl (pc' := 19) rfl ?_
  refine w_iloadN X1 hx (hb hby d1_19) rfl (pc' := 20) rfl ?_
  refine w_iconst (v := (1 : Int32)) X1 hx (hb hby d1_20) rfl (pc' := 21) rfl ?_
  refine w_isub X1 hx (hb hby d1_21) (pc' := 22) rfl ?_
  refine w_eqI (z := (6 : Int32)) (by decide) ?_
  refine w_iload X1 hx (hb hby d1_22) rfl (pc' := 24) rfl ?_
  refine w_isub X1 hx (hb hby d1_24) (pc' := 25) rfl ?_
  refine w_eqI (z := (6 : Int32)) (by decide) ?_
  refine w_imul X1 hx (hb hby d1_25) (pc' := 26) rfl ?_
  refine w_eqI (z := (48 : Int32)) (by decide) ?_
  refine w_lushr X1 hx (hb hby d1_26) (pc' := 27) rfl ?_
  refine w_l2i X1 hx (hb hby d1_27) (pc' := 28) rfl ?_
  refine w_i2b X1 hx (hb hby d1_28) (pc' := 29) rfl ?_
  refine w_bastore (i := 0) (jn := 0) X1 hx hZ N0 P1 rfl hk1 (hb hby d1_29) (by decide) (Nat.le_of_ble_eq_true rfl) (pc' := 30) rfl ?_
  intro T2 L1 N1 X2 P2
  replace P2 : HP n0 T2.heap [AC kA1 [.int (nar .byte (Int8.toInt32 (Int32.toInt8 (Int64.toInt32 (XT.ushrL u0 (48 : Int32)))))), .int (0 : Int32), .int (0 : Int32), .int (0 : Int32), .int (0 : Int32), .int (0 : Int32), .int (0 : Int32)]] := P2
  refine w_iincE (z := (1 : Int32)) (l' := #[.val (.int (7 : Int32)), .val (.long u0), .second, .val (.ref (n0 + 0)), .val (.int (1 : Int32))]) X2 hx (hb hby d1_30) rfl (by decide) rfl (pc' := 33) rfl ?_
  refine w_goto X2 hx (hb hby d1_33) (by decide) (pc' := 7) (by decide) ?_
  refine w_iload X2 hx (hb hby d1_7) rfl (pc' := 9) rfl ?_
  refine w_iloadN X2 hx (hb hby d1_9) rfl (pc' := 10) rfl ?_
  refine w_icmp_ge X2 hx (hb hby d1_10) (by decide) (pcY := 36) (by decide) (pc' := 13) rfl (fun h1 => absurd h1 (by decide)) (fun h1 => ?_)
  refine w_aloadN X2 hx (hb hby d1_13) rfl rfl (pc' := 14) rfl ?_
  refine w_iload X2 hx (hb hby d1_14) rfl (pc' := 16) rfl ?_
  refine w_lloadN X2 hx (hb hby d1_16) rfl (pc' := 17) rfl ?_
  refine w_bipush (v := (8 : Int32)) X2 hx (hb hby d1_17) rfl (pc' := 19) rfl ?_
  refine w_iloadN X2 hx (hb hby d1_19) rfl (pc' := 20) rfl ?_
  refine w_iconst (v := (1 : Int32)) X2 hx (hb hby d1_20) rfl (pc' := 21) rfl ?_
  refine w_isub X2 hx (hb hby d1_21) (pc' := 22) rfl ?_
  refine w_eqI (z := (6 : Int32)) (by decide) ?_
  refine w_iload X2 hx (hb hby d1_22) rfl (pc' := 24) rfl ?_
  refine w_isub X2 hx (hb hby d1_24) (pc' := 25) rfl ?_
  refine w_eqI (z := (5 : Int32)) (by decide) ?_
  refine w_imul X2 hx (hb hby d1_25) (pc' := 26) rfl ?_
  refine w_eqI (z := (40 : Int32)) (by decide) ?_
  refine w_lushr X2 hx (hb hby d1_26) (pc' := 27) rfl ?_
  refine w_l2i X2 hx (hb hby d1_27) (pc' := 28) rfl ?_
  refine w_i2b X2 hx (hb hby d1_28) (pc' := 29) rfl ?_
  refine w_bastore (i := 0) (jn := 1) X2 hx hZ N1 P2 rfl hk1 (hb hby d1_29) (by decide) (Nat.le_of_ble_eq_true rfl) (pc' := 30) rfl ?_
  intro T3 L2 N2 X3 P3
  replace P3 : HP n0 T3.heap [AC kA1 [.int (nar .byte (Int8.toInt32 (Int32.toInt8 (Int64.toInt32 (XT.ushrL u0 (48 : Int32)))))), .int (nar .byte (Int8.toInt32 (Int32.toInt8 (Int64.toInt32 (XT.ushrL u0 (40 : Int32)))))), .int (0 : Int32), .int (0 : Int32), .int (0 : Int32), .int (0 : Int32), .int (0 : Int32)]] := P3
  refine w_iincE (z := (2 : Int32)) (l' := #[.val (.int (7 : Int32)), .val (.long u0), .second, .val (.ref (n0 + 0)), .val (.int (2 : Int32))]) X3 hx (hb hby d1_30) rfl (by decide) rfl (pc' := 33) rfl ?_
  refine w_goto X3 hx (hb hby d1_33) (by decide) (pc' := 7) (by decide) ?_
  refine w_iload X3 hx (hb hby d1_7) rfl (pc' := 9) rfl ?_
  refine w_iloadN X3 hx (hb hby d1_9) rfl (pc' := 10) rfl ?_
  refine w_icmp_ge X3 hx (hb hby d1_10) (by decide) (pcY := 36) (by decide) (pc' := 13) rfl (fun h2 => absurd h2 (by decide)) (fun h2 => ?_)
  refine w_aloadN X3 hx (hb hby d1_13) rfl rfl (pc' := 14) rfl ?_
  refine w_iload X3 hx (hb hby d1_14) rfl (pc' := 16) rfl ?_
  refine w_lloadN X3 hx (hb hby d1_16) rfl (pc' := 17) rfl ?_
  refine w_bipush (v := (8 : Int32)) X3 hx (hb hby d1_17) rfl (pc' := 19) rfl ?_
  refine w_iloadN X3 hx (hb hby d1_19) rfl (pc' := 20) rfl ?_
  refine w_iconst (v := (1 : Int32)) X3 hx (hb hby d1_20) rfl (pc' := 21) rfl ?_
  refine w_isub X3 hx (hb hby d1_21) (pc' := 22) rfl ?_
  refine w_eqI (z := (6 : Int32)) (by decide) ?_
  refine w_iload X3 hx (hb hby d1_22) rfl (pc' := 24) rfl ?_
  refine w_isub X3 hx (hb hby d1_24) (pc' := 25) rfl ?_
  refine w_eqI (z := (4 : Int32)) (by decide) ?_
  refine w_imul X3 hx (hb hby d1_25) (pc' := 26) rfl ?_
  refine w_eqI (z := (32 : Int32)) (by decide) ?_
  refine w_lushr X3 hx (hb hby d1_26) (pc' := 27) rfl ?_
  refine w_l2i X3 hx (hb hby d1_27) (pc' := 28) rfl ?_
  refine w_i2b X3 hx (hb hby d1_28) (pc' := 29) rfl ?_
  refine w_bastore (i := 0) (jn := 2) X3 hx hZ N2 P3 rfl hk1 (hb hby d1_29) (by decide) (Nat.le_of_ble_eq_true rfl) (pc' := 30) rfl ?_
  intro T4 L3 N3 X4 P4
  replace P4 : HP n0 T4.heap [AC kA1 [.int (nar .byte (Int8.toInt32 (Int32.toInt8 (Int64.toInt32 (XT.ushrL u0 (48 : Int32)))))), .int (nar .byte (Int8.toInt32 (Int32.toInt8 (Int64.toInt32 (XT.ushrL u0 (40 : Int32)))))), .int (nar .byte (Int8.toInt32 (Int32.toInt8 (Int64.toInt32 (XT.ushrL u0 (32 : Int32)))))), .int (0 : Int32), .int (0 : Int32), .int (0 : Int32), .int (0 : Int32)]] := P4
  refine w_iincE (z := (3 : Int32)) (l' := #[.val (.int (7 : Int32)), .val (.long u0), .second, .val (.ref (n0 + 0)), .val (.int (3 : Int32))]) X4 hx (hb hby d1_30) rfl (by decide) rfl (pc' := 33) rfl ?_
  refine w_goto X4 hx (hb hby d1_33) (by decide) (pc' := 7) (by decide) ?_
  refine w_iload X4 hx (hb hby d1_7) rfl (pc' := 9) rfl ?_
  refine w_iloadN X4 hx (hb hby d1_9) rfl (pc' := 10) rfl ?_
  refine w_icmp_ge X4 hx (hb hby d1_10) (by decide) (pcY := 36) (by decide) (pc' := 13) rfl (fun h3 => absurd h3 (by decide)) (fun h3 => ?_)
  refine w_aloadN X4 hx (hb hby d1_13) rfl rfl (pc' := 14) rfl ?_
  refine w_iload X4 hx (hb hby d1_14) rfl (pc' := 16) rfl ?_
  refine w_lloadN X4 hx (hb hby d1_16) rfl (pc' := 17) rfl ?_
  refine w_bipush (v := (8 : Int32)) X4 hx (hb hby d1_17) rfl (pc' := 19) rfl ?_
  refine w_iloadN X4 hx (hb hby d1_19) rfl (pc' := 20) rfl ?_
  refine w_iconst (v := (1 : Int32)) X4 hx (hb hby d1_20) rfl (pc' := 21) rfl ?_
  refine w_isub X4 hx (hb hby d1_21) (pc' := 22) rfl ?_
  refine w_eqI (z := (6 : Int32)) (by decide) ?_
  refine w_iload X4 hx (hb hby d1_22) rfl (pc' := 24) rfl ?_
  refine w_isub X4 hx (hb hby d1_24) (pc' := 25) rfl ?_
  refine w_eqI (z := (3 : Int32)) (by decide) ?_
  refine w_imul X4 hx (hb hby d1_25) (pc' := 26) rfl ?_
  refine w_eqI (z := (24 : Int32)) (by decide) ?_
  refine w_lushr X4 hx (hb hby d1_26) (pc' := 27) rfl ?_
  refine w_l2i X4 hx (hb hby d1_27) (pc' := 28) rfl ?_
  refine w_i2b X4 hx (hb hby d1_28) (pc' := 29) rfl ?_
  refine w_bastore (i := 0) (jn := 3) X4 hx hZ N3 P4 rfl hk1 (hb hby d1_29) (by decide) (Nat.le_of_ble_eq_true rfl) (pc' := 30) rfl ?_
  intro T5 L4 N4 X5 P5
  replace P5 : HP n0 T5.heap [AC kA1 [.int (nar .byte (Int8.toInt32 (Int32.toInt8 (Int64.toInt32 (XT.ushrL u0 (48 : Int32)))))), .int (nar .byte (Int8.toInt32 (Int32.toInt8 (Int64.toInt32 (XT.ushrL u0 (40 : Int32)))))), .int (nar .byte (Int8.toInt32 (Int32.toInt8 (Int64.toInt32 (XT.ushrL u0 (32 : Int32)))))), .int (nar .byte (Int8.toInt32 (Int32.toInt8 (Int64.toInt32 (XT.ushrL u0 (24 : Int32)))))), .int (0 : Int32), .int (0 : Int32), .int (0 : Int32)]] := P5
  refine w_iincE (z := (4 : Int32)) (l' := #[.val (.int (7 : Int32)), .val (.long u0), .second, .val (.ref (n0 + 0)), .val (.int (4 : Int32))]) X5 hx (hb hby d1_30) rfl (by decide) rfl (pc' := 33) rfl ?_
  refine w_goto X5 hx (hb hby d1_33) (by decide) (pc' := 7) (by decide) ?_
  refine w_iload X5 hx (hb hby d1_7) rfl (pc' := 9) rfl ?_
  refine w_iloadN X5 hx (hb hby d1_9) rfl (pc' := 10) rfl ?_
  refine w_icmp_ge X5 hx (hb hby d1_10) (by decide) (pcY := 36) (by decide) (pc' := 13) rfl (fun h4 => absurd h4 (by decide)) (fun h4 => ?_)
  refine w_aloadN X5 hx (hb hby d1_13) rfl rfl (pc' := 14) rfl ?_
  refine w_iload X5 hx (hb hby d1_14) rfl (pc' := 16) rfl ?_
  refine w_lloadN X5 hx (hb hby d1_16) rfl (pc' := 17) rfl ?_
  refine w_bipush (v := (8 : Int32)) X5 hx (hb hby d1_17) rfl (pc' := 19) rfl ?_
  refine w_iloadN X5 hx (hb hby d1_19) rfl (pc' := 20) rfl ?_
  refine w_iconst (v := (1 : Int32)) X5 hx (hb hby d1_20) rfl (pc' := 21) rfl ?_
  refine w_isub X5 hx (hb hby d1_21) (pc' := 22) rfl ?_
  refine w_eqI (z := (6 : Int32)) (by decide) ?_
  refine w_iload X5 hx (hb hby d1_22) rfl (pc' := 24) rfl ?_
  refine w_isub X5 hx (hb hby d1_24) (pc' := 25) rfl ?_
  refine w_eqI (z := (2 : Int32)) (by decide) ?_
  refine w_imul X5 hx (hb hby d1_25) (pc' := 26) rfl ?_
  refine w_eqI (z := (16 : Int32)) (by decide) ?_
  refine w_lushr X5 hx (hb hby d1_26) (pc' := 27) rfl ?_
  refine w_l2i X5 hx (hb hby d1_27) (pc' := 28) rfl ?_
  refine w_i2b X5 hx (hb hby d1_28) (pc' := 29) rfl ?_
  refine w_bastore (i := 0) (jn := 4) X5 hx hZ N4 P5 rfl hk1 (hb hby d1_29) (by decide) (Nat.le_of_ble_eq_true rfl) (pc' := 30) rfl ?_
  intro T6 L5 N5 X6 P6
  replace P6 : HP n0 T6.heap [AC kA1 [.int (nar .byte (Int8.toInt32 (Int32.toInt8 (Int64.toInt32 (XT.ushrL u0 (48 : Int32)))))), .int (nar .byte (Int8.toInt32 (Int32.toInt8 (Int64.toInt32 (XT.ushrL u0 (40 : Int32)))))), .int (nar .byte (Int8.toInt32 (Int32.toInt8 (Int64.toInt32 (XT.ushrL u0 (32 : Int32)))))), .int (nar .byte (Int8.toInt32 (Int32.toInt8 (Int64.toInt32 (XT.ushrL u0 (24 : Int32)))))), .int (nar .byte (Int8.toInt32 (Int32.toInt8 (Int64.toInt32 (XT.ushrL u0 (16 : Int32)))))), .int (0 : Int32), .int (0 : Int32)]] := P6
  refine w_iincE (z := (5 : Int32)) (l' := #[.val (.int (7 : Int32)), .val (.long u0), .second, .val (.ref (n0 + 0)), .val (.int (5 : Int32))]) X6 hx (hb hby d1_30) rfl (by decide) rfl (pc' := 33) rfl ?_
  refine w_goto X6 hx (hb hby d1_33) (by decide) (pc' := 7) (by decide) ?_
  refine w_iload X6 hx (hb hby d1_7) rfl (pc' := 9) rfl ?_
  refine w_iloadN X6 hx (hb hby d1_9) rfl (pc' := 10) rfl ?_
  refine w_icmp_ge X6 hx (hb hby d1_10) (by decide) (pcY := 36) (by decide) (pc' := 13) rfl (fun h5 => absurd h5 (by decide)) (fun h5 => ?_)
  refine w_aloadN X6 hx (hb hby d1_13) rfl rfl (pc' := 14) rfl ?_
  refine w_iload X6 hx (hb hby d1_14) rfl (pc' := 16) rfl ?_
  refine w_lloadN X6 hx (hb hby d1_16) rfl (pc' := 17) rfl ?_
  refine w_bipush (v := (8 : Int32)) X6 hx (hb hby d1_17) rfl (pc' := 19) rfl ?_
  refine w_iloadN X6 hx (hb hby d1_19) rfl (pc' := 20) rfl ?_
  refine w_iconst (v := (1 : Int32)) X6 hx (hb hby d1_20) rfl (pc' := 21) rfl ?_
  refine w_isub X6 hx (hb hby d1_21) (pc' := 22) rfl ?_
  refine w_eqI (z := (6 : Int32)) (by decide) ?_
  refine w_iload X6 hx (hb hby d1_22) rfl (pc' := 24) rfl ?_
  refine w_isub X6 hx (hb hby d1_24) (pc' := 25) rfl ?_
  refine w_eqI (z := (1 : Int32)) (by decide) ?_
  refine w_imul X6 hx (hb hby d1_25) (pc' := 26) rfl ?_
  refine w_eqI (z := (8 : Int32)) (by decide) ?_
  refine w_lushr X6 hx (hb hby d1_26) (pc' := 27) rfl ?_
  refine w_l2i X6 hx (hb hby d1_27) (pc' := 28) rfl ?_
  refine w_i2b X6 hx (hb hby d1_28) (pc' := 29) rfl ?_
  refine w_bastore (i := 0) (jn := 5) X6 hx hZ N5 P6 rfl hk1 (hb hby d1_29) (by decide) (Nat.le_of_ble_eq_true rfl) (pc' := 30) rfl ?_
  intro T7 L6 N6 X7 P7
  replace P7 : HP n0 T7.heap [AC kA1 [.int (nar .byte (Int8.toInt32 (Int32.toInt8 (Int64.toInt32 (XT.ushrL u0 (48 : Int32)))))), .int (nar .byte (Int8.toInt32 (Int32.toInt8 (Int64.toInt32 (XT.ushrL u0 (40 : Int32)))))), .int (nar .byte (Int8.toInt32 (Int32.toInt8 (Int64.toInt32 (XT.ushrL u0 (32 : Int32)))))), .int (nar .byte (Int8.toInt32 (Int32.toInt8 (Int64.toInt32 (XT.ushrL u0 (24 : Int32)))))), .int (nar .byte (Int8.toInt32 (Int32.toInt8 (Int64.toInt32 (XT.ushrL u0 (16 : Int32)))))), .int (nar .byte (Int8.toInt32 (Int32.toInt8 (Int64.toInt32 (XT.ushrL u0 (8 : Int32)))))), .int (0 : Int32)]] := P7
  refine w_iincE (z := (6 : Int32)) (l' := #[.val (.int (7 : Int32)), .val (.long u0), .second, .val (.ref (n0 + 0)), .val (.int (6 : Int32))]) X7 hx (hb hby d1_30) rfl (by decide) rfl (pc' := 33) rfl ?_
  refine w_goto X7 hx (hb hby d1_33) (by decide) (pc' := 7) (by decide) ?_
  refine w_iload X7 hx (hb hby d1_7) rfl (pc' := 9) rfl ?_
  refine w_iloadN X7 hx (hb hby d1_9) rfl (pc' := 10) rfl ?_
  refine w_icmp_ge X7 hx (hb hby d1_10) (by decide) (pcY := 36) (by decide) (pc' := 13) rfl (fun h6 => absurd h6 (by decide)) (fun h6 => ?_)
  refine w_aloadN X7 hx (hb hby d1_13) rfl rfl (pc' := 14) rfl ?_
  refine w_iload X7 hx (hb hby d1_14) rfl (pc' := 16) rfl ?_
  refine w_lloadN X7 hx (hb hby d1_16) rfl (pc' := 17) rfl ?_
  refine w_bipush (v := (8 : Int32)) X7 hx (hb hby d1_17) rfl (pc' := 19) rfl ?_
  refine w_iloadN X7 hx (hb hby d1_19) rfl (pc' := 20) rfl ?_
  refine w_iconst (v := (1 : Int32)) X7 hx (hb hby d1_20) rfl (pc' := 21) rfl ?_
  refine w_isub X7 hx (hb hby d1_21) (pc' := 22) rfl ?_
  refine w_eqI (z := (6 : Int32)) (by decide) ?_
  refine w_iload X7 hx (hb hby d1_22) rfl (pc' := 24) rfl ?_
  refine w_isub X7 hx (hb hby d1_24) (pc' := 25) rfl ?_
  refine w_eqI (z := (0 : Int32)) (by decide) ?_
  refine w_imul X7 hx (hb hby d1_25) (pc' := 26) rfl ?_
  refine w_eqI (z := (0 : Int32)) (by decide) ?_
  refine w_lushr X7 hx (hb hby d1_26) (pc' := 27) rfl ?_
  refine w_l2i X7 hx (hb hby d1_27) (pc' := 28) rfl ?_
  refine w_i2b X7 hx (hb hby d1_28) (pc' := 29) rfl ?_
  refine w_bastore (i := 0) (jn := 6) X7 hx hZ N6 P7 rfl hk1 (hb hby d1_29) (by decide) (Nat.le_of_ble_eq_true rfl) (pc' := 30) rfl ?_
  intro T8 L7 N7 X8 P8
  replace P8 : HP n0 T8.heap [AC kA1 [.int (nar .byte (Int8.toInt32 (Int32.toInt8 (Int64.toInt32 (XT.ushrL u0 (48 : Int32)))))), .int (nar .byte (Int8.toInt32 (Int32.toInt8 (Int64.toInt32 (XT.ushrL u0 (40 : Int32)))))), .int (nar .byte (Int8.toInt32 (Int32.toInt8 (Int64.toInt32 (XT.ushrL u0 (32 : Int32)))))), .int (nar .byte (Int8.toInt32 (Int32.toInt8 (Int64.toInt32 (XT.ushrL u0 (24 : Int32)))))), .int (nar .byte (Int8.toInt32 (Int32.toInt8 (Int64.toInt32 (XT.ushrL u0 (16 : Int32)))))), .int (nar .byte (Int8.toInt32 (Int32.toInt8 (Int64.toInt32 (XT.ushrL u0 (8 : Int32)))))), .int (nar .byte (Int8.toInt32 (Int32.toInt8 (Int64.toInt32 (XT.ushrL u0 (0 : Int32))))))]] := P8
  refine w_iincE (z := (7 : Int32)) (l' := #[.val (.int (7 : Int32)), .val (.long u0), .second, .val (.ref (n0 + 0)), .val (.int (7 : Int32))]) X8 hx (hb hby d1_30) rfl (by decide) rfl (pc' := 33) rfl ?_
  refine w_goto X8 hx (hb hby d1_33) (by decide) (pc' := 7) (by decide) ?_
  refine w_iload X8 hx (hb hby d1_7) rfl (pc' := 9) rfl ?_
  refine w_iloadN X8 hx (hb hby d1_9) rfl (pc' := 10) rfl ?_
  refine w_icmp_ge X8 hx (hb hby d1_10) (by decide) (pcY := 36) (by decide) (pc' := 13) rfl (fun h7 => ?_) (fun h7 => absurd h7 (by decide))
  refine w_aloadN X8 hx (hb hby d1_36) rfl rfl (pc' := 37) rfl ?_
  exact w_ret_a X8 hx rfl hret rfl hlk (hb hby d1_37) (by decide) (by decide) ⟨rfl, N7, kA1, hk1, P8⟩
def Q_rm1_8 (Z : State) (n0 : Nat) (u0 : Int64) (v : Option Value) (h : Heap) (L : List Loc) : Prop := v = some (.ref (n0 + 0)) ∧ Fr n0 L ∧ ∃ kA1 : ClassId, IsA Z kA1 .byte ∧ HP n0 h [AC kA1 [.int (nar .byte (Int8.toInt32 (Int32.toInt8 (Int64.toInt32 (XT.ushrL u0 (56 : Int32)))))), .int (nar .byte (Int8.toInt32 (Int32.toInt8 (Int64.toInt32 (XT.ushrL u0 (48 : Int32)))))), .int (nar .byte (Int8.toInt32 (Int32.toInt8 (Int64.toInt32 (XT.ushrL u0 (40 : Int32)))))), .int (nar .byte (Int8.toInt32 (Int32.toInt8 (Int64.toInt32 (XT.ushrL u0 (32 : Int32)))))), .int (nar .byte (Int8.toInt32 (Int32.toInt8 (Int64.toInt32 (XT.ushrL u0 (24 : Int32)))))), .int (nar .byte (Int8.toInt32 (Int32.toInt8 (Int64.toInt32 (XT.ushrL u0 (16 : Int32)))))), .int (nar .byte (Int8.toInt32 (Int32.toInt8 (Int64.toInt32 (XT.ushrL u0 (8 : Int32)))))), .int (nar .byte (Int8.toInt32 (Int32.toInt8 (Int64.toInt32 (XT.ushrL u0 (0 : Int32))))))]]
theorem ef_rm1_8 (m : MethodId) (n0 : Nat) (u0 : Int64) : entryFrame m #[.int (8 : Int32), .long u0] 5 = mkF m 0 #[.val (.int (8 : Int32)), .val (.long u0), .second, .unset, .unset] [] := by first | (simp [entryFrame, mkF, argsToLocals, Value.category]; done) | rfl
set_option maxRecDepth 65536 in
set_option maxHeartbeats 40000000 in
theorem rm1_8 (l : Launch) (Z : State) (a0 : Array Value) (hw : ∀ d ∈ tables_1, d.before a0 Z = true) (ws : List Jvm.Cond) (n0 : Nat) (u0 : Int64) (h0 : Heap) (P0 : HP n0 h0 []) :
    MetFree l (⟨"com/example/protomata/protomata/Bytes", "uint", "(IJ)[B"⟩ : MethodName) (head1 (Jvm.Cond.code (⟨"com/example/protomata/protomata/Bytes", "uint", "(IJ)[B"⟩ : MethodName) prog_9_method_2_code 5 (some (.array .byte)) :: ws) ({ frames := 0, cells := 1, slots := 8, locals := 0 } : Room)) (fun a U => a = #[.int (8 : Int32), .long u0] ∧ Z.Warmed39 U.vm ∧ U.heap = h0) (fun _ _ _ _ _ => True) (fun _ U o U' => ∃ v L, o = .returned v ∧ Q_rm1_8 Z n0 u0 v U'.heap L ∧ FrameEnd U o U' L ({ frames := 0, cells := 1, slots := 8, locals := 0 } : Room).cells ({ frames := 0, cells := 1, slots := 8, locals := 0 } : Room).slots) := by
  refine own_body pn1 ?_
  intro p e s m below meth c T0 hx hby hml hret hlk hown hnm hZ X0 e0
  subst e0
  have N0 : Fr n0 [] := Fr.nil n0
  refine own_cast (ef_rm1_8 m n0 u0) ?_
  refine w_iloadN X0 hx (hb hby d1_0) rfl (pc' := 1) rfl ?_
  refine w_newarr (N := 8) (j := 0) X0 hx hZ P0 (ty := .byte) rfl (wd5 hw) (hb hby d1_1) (by decide) (by decide) (by decide) (by decide) rfl (pc' := 3) rfl ?_
  intro T1 kA1 X1 hk1 P1
  replace P1 : HP n0 T1.heap [AC kA1 [.int (0 : Int32), .int (0 : Int32), .int (0 : Int32), .int (0 : Int32), .int (0 : Int32), .int (0 : Int32), .int (0 : Int32), .int (0 : Int32)]] := P1
  refine w_astoreN (l' := #[.val (.int (8 : Int32)), .val (.long u0), .second, .val (.ref (n0 + 0)), .unset]) X1 hx (hb hby d1_3) rfl rfl (pc' := 4) rfl ?_
  refine w_iconst (v := (0 : Int32)) X1 hx (hb hby d1_4) rfl (pc' := 5) rfl ?_
  refine w_istore (l' := #[.val (.int (8 : Int32)), .val (.long u0), .second, .val (.ref (n0 + 0)), .val (.int (0 : Int32))]) X1 hx (hb hby d1_5) rfl (pc' := 7) rfl ?_
  refine w_iload X1 hx (hb hby d1_7) rfl (pc' := 9) rfl ?_
  refine w_iloadN X1 hx (hb hby d1_9) rfl (pc' := 10) rfl ?_
  refine w_icmp_ge X1 hx (hb hby d1_10) (by decide) (pcY := 36) (by decide) (pc' := 13) rfl (fun h0 => absurd h0 (by decide)) (fun h0 => ?_)
  refine w_aloadN X1 hx (hb hby d1_13) rfl rfl (pc' := 14) rfl ?_
  refine w_iload X1 hx (hb hby d1_14) rfl (pc' := 16) rfl ?_
  refine w_lloadN X1 hx (hb hby d1_16) rfl (pc' := 17) rfl ?_
  refine w_bipush (v := (8 : Int32)) X1 hx (hb hby d1_17) rfl (pc' := 19) rfl ?_
  refine w_iloadN X1 hx (hb hby d1_19) rfl (pc' := 20) rfl ?_
  refine w_iconst (v := (1 : Int32)) X1 hx (hb hby d1_20) rfl (pc' := 21) rfl ?_
  refine w_isub X1 hx (hb hby d1_21) (pc' := 22) rfl ?_
  refine w_eqI (z := (7 : Int32)) (by decide) ?_
  refine w_iload X1 hx (hb hby d1_22) rfl (pc' := 24) rfl ?_
  refine w_isub X1 hx (hb hby d1_24) (pc' := 25) rfl ?_
  refine w_eqI (z := (7 : Int32)) (by decide) ?_
  refine w_imul X1 hx (hb hby d1_25) (pc' := 26) rfl ?_
  refine w_eqI (z := (56 : Int32)) (by decide) ?_
  refine w_lushr X1 hx (hb hby d1_26) (pc' := 27) rfl ?_
  refine w_l2i X1 hx (hb hby d1_27) (pc' := 28) rfl ?_
  refine w_i2b X1 hx (hb hby d1_28) (pc' := 29) rfl ?_
  refine w_bastore (i := 0) (jn := 0) X1 hx hZ N0 P1 rfl hk1 (hb hby d1_29) (by decide) (Nat.le_of_ble_eq_true rfl) (pc' := 30) rfl ?_
  intro T2 L1 N1 X2 P2
  replace P2 : HP n0 T2.heap [AC kA1 [.int (nar .byte (Int8.toInt32 (Int32.toInt8 (Int64.toInt32 (XT.ushrL u0 (56 : Int32)))))), .int (0 : Int32), .int (0 : Int32), .int (0 : Int32), .int (0 : Int32), .int (0 : Int32), .int (0 : Int32), .int (0 : Int32)]] := P2
  refine w_iincE (z := (1 : Int32)) (l' := #[.val (.int (8 : Int32)), .val (.long u0), .second, .val (.ref (n0 + 0)), .val (.int (1 : Int32))]) X2 hx (hb hby d1_30) rfl (by decide) rfl (pc' := 33) rfl ?_
  refine w_goto X2 hx (hb hby d1_33) (by decide) (pc' := 7) (by decide) ?_
  refine w_iload X2 hx (hb hby d1_7) rfl (pc' := 9) rfl ?_
  refine w_iloadN X2 hx (hb hby d1_9) rfl (pc' := 10) rfl ?_
  refine w_icmp_ge X2 hx (hb hby d1_10) (by decide) (pcY := 36) (by decide) (pc' := 13) rfl (fun h1 => absurd h1 (by decide)) (fun h1 => ?_)
  refine w_aloadN X2 hx (hb hby d1_13) rfl rfl (pc' := 14) rfl ?_
  refine w_iload X2 hx (hb hby d1_14) rfl (pc' := 16) rfl ?_
  refine w_lloadN X2 hx (hb hby d1_16) rfl (pc' := 17) rfl ?_
  refine w_bipush (v := (8 : Int32)) X2 hx (hb hby d1_17) rfl (pc' := 19) rfl ?_
  refine w_iloadN X2 hx (hb hby d1_19) rfl (pc' := 20) rfl ?_
  refine w_iconst (v := (1 : Int32)) X2 hx (hb hby d1_20) rfl (pc' := 21) rfl ?_
  refine w_isub X2 hx (hb hby d1_21) (pc' := 22) rfl ?_
  refine w_eqI (z := (7 : Int32)) (by decide) ?_
  refine w_iload X2 hx (hb hby d1_22) rfl (pc' := 24) rfl ?_
  refine w_isub X2 hx (hb hby d1_24) (pc' := 25) rfl ?_
  refine w_eqI (z := (6 : Int32)) (by decide) ?_
  refine w_imul X2 hx (hb hby d1_25) (pc' := 26) rfl ?_
  refine w_eqI (z := (48 : Int32)) (by decide) ?_
  refine w_lushr X2 hx (hb hby d1_26) (pc' := 27) rfl ?_
  refine w_l2i X2 hx (hb hby d1_27) (pc' := 28) rfl ?_
  refine w_i2b X2 hx (hb hby d1_28) (pc' := 29) rfl ?_
  refine w_bastore (i := 0) (jn := 1) X2 hx hZ N1 P2 rfl hk1 (hb hby d1_29) (by decide) (Nat.le_of_ble_eq_true rfl) (pc' := 30) rfl ?_
  intro T3 L2 N2 X3 P3
  replace P3 : HP n0 T3.heap [AC kA1 [.int (nar .byte (Int8.toInt32 (Int32.toInt8 (Int64.toInt32 (XT.ushrL u0 (56 : Int32)))))), .int (nar .byte (Int8.toInt32 (Int32.toInt8 (Int64.toInt32 (XT.ushrL u0 (48 : Int32)))))), .int (0 : Int32), .int (0 : Int32), .int (0 : Int32), .int (0 : Int32), .int (0 : Int32), .int (0 : Int32)]] := P3
  refine w_iincE (z := (2 : Int32)) (l' := #[.val (.int (8 : Int32)), .val (.long u0), .second, .val (.ref (n0 + 0)), .val (.int (2 : Int32))]) X3 hx (hb hby d1_30) rfl (by decide) rfl (pc' := 33) rfl ?_
  refine w_goto X3 hx (hb hby d1_33) (by decide) (pc' := 7) (by decide) ?_
  refine w_iload X3 hx (hb hby d1_7) rfl (pc' := 9) rfl ?_
  refine w_iloadN X3 hx (hb hby d1_9) rfl (pc' := 10) rfl ?_
  refine w_icmp_ge X3 hx (hb hby d1_10) (by decide) (pcY := 36) (by decide) (pc' := 13) rfl (fun h2 => absurd h2 (by decide)) (fun h2 => ?_)
  refine w_aloadN X3 hx (hb hby d1_13) rfl rfl (pc' := 14) rfl ?_
  refine w_iload X3 hx (hb hby d1_14) rfl (pc' := 16) rfl ?_
  refine w_lloadN X3 hx (hb hby d1_16) rfl (pc' := 17) rfl ?_
  refine w_bipush (v := (8 : Int32)) X3 hx (hb hby d1_17) rfl (pc' := 19) rfl ?_
  refine w_iloadN X3 hx (hb hby d1_19) rfl (pc' := 20) rfl ?_
  refine w_iconst (v := (1 : Int32)) X3 hx (hb hby d1_20) rfl (pc' := 21) rfl ?_
  refine w_isub X3 hx (hb hby d1_21) (pc' := 22) rfl ?_
  refine w_eqI (z := (7 : Int32)) (by decide) ?_
  refine w_iload X3 hx (hb hby d1_22) rfl (pc' := 24) rfl ?_
  refine w_isub X3 hx (hb hby d1_24) (pc' := 25) rfl ?_
  refine w_eqI (z := (5 : Int32)) (by decide) ?_
  refine w_imul X3 hx (hb hby d1_25) (pc' := 26) rfl ?_
  refine w_eqI (z := (40 : Int32)) (by decide) ?_
  refine w_lushr X3 hx (hb hby d1_26) (pc' := 27) rfl ?_
  refine w_l2i X3 hx (hb hby d1_27) (pc' := 28) rfl ?_
  refine w_i2b X3 hx (hb hby d1_28) (pc' := 29) rfl ?_
  refine w_bastore (i := 0) (jn := 2) X3 hx hZ N2 P3 rfl hk1 (hb hby d1_29) (by decide) (Nat.le_of_ble_eq_true rfl) (pc' := 30) rfl ?_
  intro T4 L3 N3 X4 P4
  replace P4 : HP n0 T4.heap [AC kA1 [.int (nar .byte (Int8.toInt32 (Int32.toInt8 (Int64.toInt32 (XT.ushrL u0 (56 : Int32)))))), .int (nar .byte (Int8.toInt32 (Int32.toInt8 (Int64.toInt32 (XT.ushrL u0 (48 : Int32)))))), .int (nar .byte (Int8.toInt32 (Int32.toInt8 (Int64.toInt32 (XT.ushrL u0 (40 : Int32)))))), .int (0 : Int32), .int (0 : Int32), .int (0 : Int32), .int (0 : Int32), .int (0 : Int32)]] := P4
  refine w_iincE (z := (3 : Int32)) (l' := #[.val (.int (8 : Int32)), .val (.long u0), .second, .val (.ref (n0 + 0)), .val (.int (3 : Int32))]) X4 hx (hb hby d1_30) rfl (by decide) rfl (pc' := 33) rfl ?_
  refine w_goto X4 hx (hb hby d1_33) (by decide) (pc' := 7) (by decide) ?_
  refine w_iload X4 hx (hb hby d1_7) rfl (pc' := 9) rfl ?_
  refine w_iloadN X4 hx (hb hby d1_9) rfl (pc' := 10) rfl ?_
  refine w_icmp_ge X4 hx (hb hby d1_10) (by decide) (pcY := 36) (by decide) (pc' := 13) rfl (fun h3 => absurd h3 (by decide)) (fun h3 => ?_)
  refine w_aloadN X4 hx (hb hby d1_13) rfl rfl (pc' := 14) rfl ?_
  refine w_iload X4 hx (hb hby d1_14) rfl (pc' := 16) rfl ?_
  refine w_lloadN X4 hx (hb hby d1_16) rfl (pc' := 17) rfl ?_
  refine w_bipush (v := (8 : Int32)) X4 hx (hb hby d1_17) rfl (pc' := 19) rfl ?_
  refine w_iloadN X4 hx (hb hby d1_19) rfl (pc' := 20) rfl ?_
  refine w_iconst (v := (1 : Int32)) X4 hx (hb hby d1_20) rfl (pc' := 21) rfl ?_
  refine w_isub X4 hx (hb hby d1_21) (pc' := 22) rfl ?_
  refine w_eqI (z := (7 : Int32)) (by decide) ?_
  refine w_iload X4 hx (hb hby d1_22) rfl (pc' := 24) rfl ?_
  refine w_isub X4 hx (hb hby d1_24) (pc' := 25) rfl ?_
  refine w_eqI (z := (4 : Int32)) (by decide) ?_
  refine w_imul X4 hx (hb hby d1_25) (pc' := 26) rfl ?_
  refine w_eqI (z := (32 : Int32)) (by decide) ?_
  refine w_lushr X4 hx (hb hby d1_26) (pc' := 27) rfl ?_
  refine w_l2i X4 hx (hb hby d1_27) (pc' := 28) rfl ?_
  refine w_i2b X4 hx (hb hby d1_28) (pc' := 29) rfl ?_
  refine w_bastore (i := 0) (jn := 3) X4 hx hZ N3 P4 rfl hk1 (hb hby d1_29) (by decide) (Nat.le_of_ble_eq_true rfl) (pc' := 30) rfl ?_
  intro T5 L4 N4 X5 P5
  replace P5 : HP n0 T5.heap [AC kA1 [.int (nar .byte (Int8.toInt32 (Int32.toInt8 (Int64.toInt32 (XT.ushrL u0 (56 : Int32)))))), .int (nar .byte (Int8.toInt32 (Int32.toInt8 (Int64.toInt32 (XT.ushrL u0 (48 : Int32)))))), .int (nar .byte (Int8.toInt32 (Int32.toInt8 (Int64.toInt32 (XT.ushrL u0 (40 : Int32)))))), .int (nar .byte (Int8.toInt32 (Int32.toInt8 (Int64.toInt32 (XT.ushrL u0 (32 : Int32)))))), .int (0 : Int32), .int (0 : Int32), .int (0 : Int32), .int (0 : Int32)]] := P5
  refine w_iincE (z := (4 : Int32)) (l' := #[.val (.int (8 : Int32)), .val (.long u0), .second, .val (.ref (n0 + 0)), .val (.int (4 : Int32))]) X5 hx (hb hby d1_30) rfl (by decide) rfl (pc' := 33) rfl ?_
  refine w_goto X5 hx (hb hby d1_33) (by decide) (pc' := 7) (by decide) ?_
  refine w_iload X5 hx (hb hby d1_7) rfl (pc' := 9) rfl ?_
  refine w_iloadN X5 hx (hb hby d1_9) rfl (pc' := 10) rfl ?_
  refine w_icmp_ge X5 hx (hb hby d1_10) (by decide) (pcY := 36) (by decide) (pc' := 13) rfl (fun h4 => absurd h4 (by decide)) (fun h4 => ?_)
  refine w_aloadN X5 hx (hb hby d1_13) rfl rfl (pc' := 14) rfl ?_
  refine w_iload X5 hx (hb hby d1_14) rfl (pc' := 16) rfl ?_
  refine w_lloadN X5 hx (hb hby d1_16) rfl (pc' := 17) rfl ?_
  refine w_bipush (v := (8 : Int32)) X5 hx (hb hby d1_17) rfl (pc' := 19) rfl ?_
  refine w_iloadN X5 hx (hb hby d1_19) rfl (pc' := 20) rfl ?_
  refine w_iconst (v := (1 : Int32)) X5 hx (hb hby d1_20) rfl (pc' := 21) rfl ?_
  refine w_isub X5 hx (hb hby d1_21) (pc' := 22) rfl ?_
  refine w_eqI (z := (7 : Int32)) (by decide) ?_
  refine w_iload X5 hx (hb hby d1_22) rfl (pc' := 24) rfl ?_
  refine w_isub X5 hx (hb hby d1_24) (pc' := 25) rfl ?_
  refine w_eqI (z := (3 : Int32)) (by decide) ?_
  refine w_imul X5 hx (hb hby d1_25) (pc' := 26) rfl ?_
  refine w_eqI (z := (24 : Int32)) (by decide) ?_
  refine w_lushr X5 hx (hb hby d1_26) (pc' := 27) rfl ?_
  refine w_l2i X5 hx (hb hby d1_27) (pc' := 28) rfl ?_
  refine w_i2b X5 hx (hb hby d1_28) (pc' := 29) rfl ?_
  refine w_bastore (i := 0) (jn := 4) X5 hx hZ N4 P5 rfl hk1 (hb hby d1_29) (by decide) (Nat.le_of_ble_eq_true rfl) (pc' := 30) rfl ?_
  intro T6 L5 N5 X6 P6
  replace P6 : HP n0 T6.heap [AC kA1 [.int (nar .byte (Int8.toInt32 (Int32.toInt8 (Int64.toInt32 (XT.ushrL u0 (56 : Int32)))))), .int (nar .byte (Int8.toInt32 (Int32.toInt8 (Int64.toInt32 (XT.ushrL u0 (48 : Int32)))))), .int (nar .byte (Int8.toInt32 (Int32.toInt8 (Int64.toInt32 (XT.ushrL u0 (40 : Int32)))))), .int (nar .byte (Int8.toInt32 (Int32.toInt8 (Int64.toInt32 (XT.ushrL u0 (32 : Int32)))))), .int (nar .byte (Int8.toInt32 (Int32.toInt8 (Int64.toInt32 (XT.ushrL u0 (24 : Int32)))))), .int (0 : Int32), .int (0 : Int32), .int (0 : Int32)]] := P6
  refine w_iincE (z := (5 : Int32)) (l' := #[.val (.int (8 : Int32)), .val (.long u0), .second, .val (.ref (n0 + 0)), .val (.int (5 : Int32))]) X6 hx (hb hby d1_30) rfl (by decide) rfl (pc' := 33) rfl ?_
  refine w_goto X6 hx (hb hby d1_33) (by decide) (pc' := 7) (by decide) ?_
  refine w_iload X6 hx (hb hby d1_7) rfl (pc' := 9) rfl ?_
  refine w_iloadN X6 hx (hb hby d1_9) rfl (pc' := 10) rfl ?_
  refine w_icmp_ge X6 hx (hb hby d1_10) (by decide) (pcY := 36) (by decide) (pc' := 13) rfl (fun h5 => absurd h5 (by decide)) (fun h5 => ?_)
  refine w_aloadN X6 hx (hb hby d1_13) rfl rfl (pc' := 14) rfl ?_
  refine w_iload X6 hx (hb hby d1_14) rfl (pc' := 16) rfl ?_
  refine w_lloadN X6 hx (hb hby d1_16) rfl (pc' := 17) rfl ?_
  refine w_bipush (v := (8 : Int32)) X6 hx (hb hby d1_17) rfl (pc' := 19) rfl ?_
  refine w_iloadN X6 hx (hb hby d1_19) rfl (pc' := 20) rfl ?_
  refine w_iconst (v := (1 : Int32)) X6 hx (hb hby d1_20) rfl (pc' := 21) rfl ?_
  refine w_isub X6 hx (hb hby d1_21) (pc' := 22) rfl ?_
  refine w_eqI (z := (7 : Int32)) (by decide) ?_
  refine w_iload X6 hx (hb hby d1_22) rfl (pc' := 24) rfl ?_
  refine w_isub X6 hx (hb hby d1_24) (pc' := 25) rfl ?_
  refine w_eqI (z := (2 : Int32)) (by decide) ?_
  refine w_imul X6 hx (hb hby d1_25) (pc' := 26) rfl ?_
  refine w_eqI (z := (16 : Int32)) (by decide) ?_
  refine w_lushr X6 hx (hb hby d1_26) (pc' := 27) rfl ?_
  refine w_l2i X6 hx (hb hby d1_27) (pc' := 28) rfl ?_
  refine w_i2b X6 hx (hb hby d1_28) (pc' := 29) rfl ?_
  refine w_bastore (i := 0) (jn := 5) X6 hx hZ N5 P6 rfl hk1 (hb hby d1_29) (by decide) (Nat.le_of_ble_eq_true rfl) (pc' := 30) rfl ?_
  intro T7 L6 N6 X7 P7
  replace P7 : HP n0 T7.heap [AC kA1 [.int (nar .byte (Int8.toInt32 (Int32.toInt8 (Int64.toInt32 (XT.ushrL u0 (56 : Int32)))))), .int (nar .byte (Int8.toInt32 (Int32.toInt8 (Int64.toInt32 (XT.ushrL u0 (48 : Int32)))))), .int (nar .byte (Int8.toInt32 (Int32.toInt8 (Int64.toInt32 (XT.ushrL u0 (40 : Int32)))))), .int (nar .byte (Int8.toInt32 (Int32.toInt8 (Int64.toInt32 (XT.ushrL u0 (32 : Int32)))))), .int (nar .byte (Int8.toInt32 (Int32.toInt8 (Int64.toInt32 (XT.ushrL u0 (24 : Int32)))))), .int (nar .byte (Int8.toInt32 (Int32.toInt8 (Int64.toInt32 (XT.ushrL u0 (16 : Int32)))))), .int (0 : Int32), .int (0 : Int32)]] := P7
  refine w_iincE (z := (6 : Int32)) (l' := #[.val (.int (8 : Int32)), .val (.long u0), .second, .val (.ref (n0 + 0)), .val (.int (6 : Int32))]) X7 hx (hb hby d1_30) rfl (by decide) rfl (pc' := 33) rfl ?_
  refine w_goto X7 hx (hb hby d1_33) (by decide) (pc' := 7) (by decide) ?_
  refine w_iload X7 hx (hb hby d1_7) rfl (pc' := 9) rfl ?_
  refine w_iloadN X7 hx (hb hby d1_9) rfl (pc' := 10) rfl ?_
  refine w_icmp_ge X7 hx (hb hby d1_10) (by decide) (pcY := 36) (by decide) (pc' := 13) rfl (fun h6 => absurd h6 (by decide)) (fun h6 => ?_)
  refine w_aloadN X7 hx (hb hby d1_13) rfl rfl (pc' := 14) rfl ?_
  refine w_iload X7 hx (hb hby d1_14) rfl (pc' := 16) rfl ?_
  refine w_lloadN X7 hx (hb hby d1_16) rfl (pc' := 17) rfl ?_
  refine w_bipush (v := (8 : Int32)) X7 hx (hb hby d1_17) rfl (pc' := 19) rfl ?_
  refine w_iloadN X7 hx (hb hby d1_19) rfl (pc' := 20) rfl ?_
  refine w_iconst (v := (1 : Int32)) X7 hx (hb hby d1_20) rfl (pc' := 21) rfl ?_
  refine w_isub X7 hx (hb hby d1_21) (pc' := 22) rfl ?_
  refine w_eqI (z := (7 : Int32)) (by decide) ?_
  refine w_iload X7 hx (hb hby d1_22) rfl (pc' := 24) rfl ?_
  refine w_isub X7 hx (hb hby d1_24) (pc' := 25) rfl ?_
  refine w_eqI (z := (1 : Int32)) (by decide) ?_
  refine w_imul X7 hx (hb hby d1_25) (pc' := 26) rfl ?_
  refine w_eqI (z := (8 : Int32)) (by decide) ?_
  refine w_lushr X7 hx (hb hby d1_26) (pc' := 27) rfl ?_
  refine w_l2i X7 hx (hb hby d1_27) (pc' := 28) rfl ?_
  refine w_i2b X7 hx (hb hby d1_28) (pc' := 29) rfl ?_
  refine w_bastore (i := 0) (jn := 6) X7 hx hZ N6 P7 rfl hk1 (hb hby d1_29) (by decide) (Nat.le_of_ble_eq_true rfl) (pc' := 30) rfl ?_
  intro T8 L7 N7 X8 P8
  replace P8 : HP n0 T8.heap [AC kA1 [.int (nar .byte (Int8.toInt32 (Int32.toInt8 (Int64.toInt32 (XT.ushrL u0 (56 : Int32)))))), .int (nar .byte (Int8.toInt32 (Int32.toInt8 (Int64.toInt32 (XT.ushrL u0 (48 : Int32)))))), .int (nar .byte (Int8.toInt32 (Int32.toInt8 (Int64.toInt32 (XT.ushrL u0 (40 : Int32)))))), .int (nar .byte (Int8.toInt32 (Int32.toInt8 (Int64.toInt32 (XT.ushrL u0 (32 : Int32)))))), .int (nar .byte (Int8.toInt32 (Int32.toInt8 (Int64.toInt32 (XT.ushrL u0 (24 : Int32)))))), .int (nar .byte (Int8.toInt32 (Int32.toInt8 (Int64.toInt32 (XT.ushrL u0 (16 : Int32)))))), .int (nar .byte (Int8.toInt32 (Int32.toInt8 (Int64.toInt32 (XT.ushrL u0 (8 : Int32)))))), .int (0 : Int32)]] := P8
  refine w_iincE (z := (7 : Int32)) (l' := #[.val (.int (8 : Int32)), .val (.long u0), .second, .val (.ref (n0 + 0)), .val (.int (7 : Int32))]) X8 hx (hb hby d1_30) rfl (by decide) rfl (pc' := 33) rfl ?_
  refine w_goto X8 hx (hb hby d1_33) (by decide) (pc' := 7) (by decide) ?_
  refine w_iload X8 hx (hb hby d1_7) rfl (pc' := 9) rfl ?_
  refine w_iloadN X8 hx (hb hby d1_9) rfl (pc' := 10) rfl ?_
  refine w_icmp_ge X8 hx (hb hby d1_10) (by decide) (pcY := 36) (by decide) (pc' := 13) rfl (fun h7 => absurd h7 (by decide)) (fun h7 => ?_)
  refine w_aloadN X8 hx (hb hby d1_13) rfl rfl (pc' := 14) rfl ?_
  refine w_iload X8 hx (hb hby d1_14) rfl (pc' := 16) rfl ?_
  refine w_lloadN X8 hx (hb hby d1_16) rfl (pc' := 17) rfl ?_
  refine w_bipush (v := (8 : Int32)) X8 hx (hb hby d1_17) rfl (pc' := 19) rfl ?_
  refine w_iloadN X8 hx (hb hby d1_19) rfl (pc' := 20) rfl ?_
  refine w_iconst (v := (1 : Int32)) X8 hx (hb hby d1_20) rfl (pc' := 21) rfl ?_
  refine w_isub X8 hx (hb hby d1_21) (pc' := 22) rfl ?_
  refine w_eqI (z := (7 : Int32)) (by decide) ?_
  refine w_iload X8 hx (hb hby d1_22) rfl (pc' := 24) rfl ?_
  refine w_isub X8 hx (hb hby d1_24) (pc' := 25) rfl ?_
  refine w_eqI (z := (0 : Int32)) (by decide) ?_
  refine w_imul X8 hx (hb hby d1_25) (pc' := 26) rfl ?_
  refine w_eqI (z := (0 : Int32)) (by decide) ?_
  refine w_lushr X8 hx (hb hby d1_26) (pc' := 27) rfl ?_
  refine w_l2i X8 hx (hb hby d1_27) (pc' := 28) rfl ?_
  refine w_i2b X8 hx (hb hby d1_28) (pc' := 29) rfl ?_
  refine w_bastore (i := 0) (jn := 7) X8 hx hZ N7 P8 rfl hk1 (hb hby d1_29) (by decide) (Nat.le_of_ble_eq_true rfl) (pc' := 30) rfl ?_
  intro T9 L8 N8 X9 P9
  replace P9 : HP n0 T9.heap [AC kA1 [.int (nar .byte (Int8.toInt32 (Int32.toInt8 (Int64.toInt32 (XT.ushrL u0 (56 : Int32)))))), .int (nar .byte (Int8.toInt32 (Int32.toInt8 (Int64.toInt32 (XT.ushrL u0 (48 : Int32)))))), .int (nar .byte (Int8.toInt32 (Int32.toInt8 (Int64.toInt32 (XT.ushrL u0 (40 : Int32)))))), .int (nar .byte (Int8.toInt32 (Int32.toInt8 (Int64.toInt32 (XT.ushrL u0 (32 : Int32)))))), .int (nar .byte (Int8.toInt32 (Int32.toInt8 (Int64.toInt32 (XT.ushrL u0 (24 : Int32)))))), .int (nar .byte (Int8.toInt32 (Int32.toInt8 (Int64.toInt32 (XT.ushrL u0 (16 : Int32)))))), .int (nar .byte (Int8.toInt32 (Int32.toInt8 (Int64.toInt32 (XT.ushrL u0 (8 : Int32)))))), .int (nar .byte (Int8.toInt32 (Int32.toInt8 (Int64.toInt32 (XT.ushrL u0 (0 : Int32))))))]] := P9
  refine w_iincE (z := (8 : Int32)) (l' := #[.val (.int (8 : Int32)), .val (.long u0), .second, .val (.ref (n0 + 0)), .val (.int (8 : Int32))]) X9 hx (hb hby d1_30) rfl (by decide) rfl (pc' := 33) rfl ?_
  refine w_goto X9 hx (hb hby d1_33) (by decide) (pc' := 7) (by decide) ?_
  refine w_iload X9 hx (hb hby d1_7) rfl (pc' := 9) rfl ?_
  refine w_iloadN X9 hx (hb hby d1_9) rfl (pc' := 10) rfl ?_
  refine w_icmp_ge X9 hx (hb hby d1_10) (by decide) (pcY := 36) (by decide) (pc' := 13) rfl (fun h8 => ?_) (fun h8 => absurd h8 (by decide))
  refine w_aloadN X9 hx (hb hby d1_36) rfl rfl (pc' := 37) rfl ?_
  exact w_ret_a X9 hx rfl hret rfl hlk (hb hby d1_37) (by decide) (by decide) ⟨rfl, N8, kA1, hk1, P9⟩
theorem pn0 : plainFor (⟨"com/example/protomata/protomata/BytesUintPinLaw", "law", "(IJ)Z"⟩ : MethodName) = true := plainFor_of_name (by first | (simp [plainName, overriddenIn]; done) | decide +kernel)
theorem pd0 : parseMethodDescriptor (⟨"com/example/protomata/protomata/BytesUintPinLaw", "law", "(IJ)Z"⟩ : MethodName).desc = some ⟨[.int, .long], some .boolean⟩ := by decide +kernel
theorem ef0 (m : MethodId) (x0 : Int32) (x1 : Int64) : entryFrame m #[Value.int x0, Value.long x1] maxLocals = mkF m 0 #[.val (.int x0), .val (.long x1), .second, .unset, .unset, .unset, .unset, .unset, .unset] [] := by first | (simp [entryFrame, mkF, argsToLocals, Value.category, maxLocals]; done) | rfl
def LawQ (n0 : Nat) (v : Option Value) (h : Heap) (L : List Loc) : Prop := v = some (.int 1) ∧ Fr n0 L
set_option maxRecDepth 65536 in
set_option maxHeartbeats 40000000 in
theorem rm0 (l : Launch) (Z : State) (a0 : Array Value) (hw : ∀ d ∈ tables_1, d.before a0 Z = true) (ws : List Jvm.Cond) (x0 : Int32) (x1 : Int64) (h0 : Heap) (n0 : Nat) (Z0 : h0.size = n0) :
    MetFree l x (head1 (Jvm.Cond.code x code maxLocals ret :: ws) room_1) (fun a U => a = #[Value.int x0, Value.long x1] ∧ Z.Warmed39 U.vm ∧ U.heap = h0) (fun _ _ _ _ _ => True) (fun _ U o U' => ∃ v L, o = .returned v ∧ LawQ n0 v U'.heap L ∧ FrameEnd U o U' L room_1.cells room_1.slots) := by
  refine own_body pn0 ?_
  intro p e s m below meth c T0 hx hby hml hret hlk hown hnm hZ X0 e0
  subst e0 Z0
  have P0 := HP.nil T0.heap
  generalize T0.heap.size = n0 at P0 ⊢
  have N0 : Fr n0 [] := Fr.nil n0
  refine own_cast (ef0 m x0 x1) ?_
  refine w_iloadN X0 hx (hb hby at_0) rfl (pc' := 1) rfl ?_
  refine w_ldc X0 hx (hb hby at_1) hown (mvT hZ (wd0 hw)) (pc' := 3) rfl ?_
  refine w_iand X0 hx (hb hby at_3) (pc' := 4) rfl ?_
  refine w_bipush (v := (9 : Int32)) X0 hx (hb hby at_4) rfl (pc' := 6) rfl ?_
  refine w_irem X0 hx (hb hby at_6) (by decide) (pc' := 7) rfl ?_
  rcases (own_c9 (own_rem x0 9 9 (by decide) (by decide))) with g0 | g1 | g2 | g3 | g4 | g5 | g6 | g7 | g8
  · refine w_eqI (z := (0 : Int32)) g0 ?_
    refine w_istoreN (l' := #[.val (.int x0), .val (.long x1), .second, .val (.int (0 : Int32)), .unset, .unset, .unset, .unset, .unset]) X0 hx (hb hby at_7) rfl (pc' := 8) rfl ?_
    refine w_iloadN X0 hx (hb hby at_8) rfl (pc' := 9) rfl ?_
    refine w_lloadN X0 hx (hb hby at_9) rfl (pc' := 10) rfl ?_
    refine own_call (W := 0) X0 hx hZ rfl hown hml.symm (wd1 hw) (wd2 hw) (wd3 hw) (wd4 hw) (rm1_0 l Z a0 hw [] n0 x1 _ P0) (by decide) (by decide) (by decide) (by decide) (by decide) (argsL := [.int (0 : Int32), .long x1]) (rest := []) pd1 rfl rfl rfl (Nat.le_of_eq rfl) (hb hby at_10) (pc' := 13) rfl ?_
    intro _ T1 L1 X1 hq
    obtain ⟨rfl, N1, kA1, hk1, P1⟩ := hq
    replace N1 := Fr.app N0 N1
    replace P1 : HP n0 T1.heap [AC kA1 []] := P1
    refine w_astore (l' := #[.val (.int x0), .val (.long x1), .second, .val (.int (0 : Int32)), .val (.ref (n0 + 0)), .unset, .unset, .unset, .unset]) X1 hx (hb hby at_13) rfl rfl (pc' := 15) rfl ?_
    refine w_aload X1 hx (hb hby at_15) rfl rfl (pc' := 17) rfl ?_
    refine w_ifnullN X1 hx (hb hby at_17) (pc' := 20) rfl ?_
    refine w_aload X1 hx (hb hby at_20) rfl rfl (pc' := 22) rfl ?_
    refine w_arrlen (i := 0) X1 hx hZ P1 rfl hk1 (hb hby at_22) (z := (0 : Int32)) rfl (pc' := 23) rfl ?_
    refine w_iloadN X1 hx (hb hby at_23) rfl (pc' := 24) rfl ?_
    refine w_icmp_eq X1 hx (hb hby at_24) (by decide) (pcY := 29) (by decide) (pc' := 27) rfl (fun h9 => ?_) (fun h9 => absurd h9 (by decide))
    refine w_lconst (v := (0 : Int64)) X1 hx (hb hby at_29) rfl (pc' := 30) rfl ?_
    refine w_lstore (l' := #[.val (.int x0), .val (.long x1), .second, .val (.int (0 : Int32)), .val (.ref (n0 + 0)), .val (.long (0 : Int64)), .second, .unset, .unset]) X1 hx (hb hby at_30) rfl (pc' := 32) rfl ?_
    refine w_lload X1 hx (hb hby at_32) rfl (pc' := 34) rfl ?_
    refine w_aload X1 hx (hb hby at_34) rfl rfl (pc' := 36) rfl ?_
    refine w_iconst (v := (0 : Int32)) X1 hx (hb hby at_36) rfl (pc' := 37) rfl ?_
    refine w_callP (W := 0) X1 hx hZ rfl hown hml.symm (wd6 hw) (wd7 hw) (wd8 hw) (wd9 hw) (rm_st0_0 l Z a0 hw [] n0 (0 : Int64) kA1 hk1 _ P1) (by decide) (by decide) (by decide) rfl rfl (by decide) (by decide) (argsL := [.long (0 : Int64), .ref (n0 + 0), .int (0 : Int32)]) (rest := []) pd2 rfl rfl rfl (Nat.le_of_eq rfl) (hb hby at_37) (pc' := 40) rfl ?_
    intro T2 X2 e2
    have P2 : HP n0 T2.heap [AC kA1 []] := by rw [e2]; exact P1
    refine w_genJ (fun r1 er1 => ?_)
    refine w_lstore (l' := #[.val (.int x0), .val (.long x1), .second, .val (.int (0 : Int32)), .val (.ref (n0 + 0)), .val (.long r1), .second, .unset, .unset]) X2 hx (hb hby at_40) rfl (pc' := 42) rfl ?_
    refine w_lload X2 hx (hb hby at_42) rfl (pc' := 44) rfl ?_
    refine w_aload X2 hx (hb hby at_44) rfl rfl (pc' := 46) rfl ?_
    refine w_iconst (v := (1 : Int32)) X2 hx (hb hby at_46) rfl (pc' := 47) rfl ?_
    refine w_callP (W := 0) X2 hx hZ rfl hown hml.symm (wd6 hw) (wd7 hw) (wd8 hw) (wd9 hw) (rm_st0_1 l Z a0 hw [] n0 r1 kA1 hk1 _ P2) (by decide) (by decide) (by decide) rfl rfl (by decide) (by decide) (argsL := [.long r1, .ref (n0 + 0), .int (1 : Int32)]) (rest := []) pd2 rfl rfl rfl (Nat.le_of_eq rfl) (hb hby at_47) (pc' := 50) rfl ?_
    intro T3 X3 e3
    have P3 : HP n0 T3.heap [AC kA1 []] := by rw [e3]; exact P2
    refine w_genJ (fun r2 er2 => ?_)
    refine w_lstore (l' := #[.val (.int x0), .val (.long x1), .second, .val (.int (0 : Int32)), .val (.ref (n0 + 0)), .val (.long r2), .second, .unset, .unset]) X3 hx (hb hby at_50) rfl (pc' := 52) rfl ?_
    refine w_lload X3 hx (hb hby at_52) rfl (pc' := 54) rfl ?_
    refine w_aload X3 hx (hb hby at_54) rfl rfl (pc' := 56) rfl ?_
    refine w_iconst (v := (2 : Int32)) X3 hx (hb hby at_56) rfl (pc' := 57) rfl ?_
    refine w_callP (W := 0) X3 hx hZ rfl hown hml.symm (wd6 hw) (wd7 hw) (wd8 hw) (wd9 hw) (rm_st0_2 l Z a0 hw [] n0 r2 kA1 hk1 _ P3) (by decide) (by decide) (by decide) rfl rfl (by decide) (by decide) (argsL := [.long r2, .ref (n0 + 0), .int (2 : Int32)]) (rest := []) pd2 rfl rfl rfl (Nat.le_of_eq rfl) (hb hby at_57) (pc' := 60) rfl ?_
    intro T4 X4 e4
    have P4 : HP n0 T4.heap [AC kA1 []] := by rw [e4]; exact P3
    refine w_genJ (fun r3 er3 => ?_)
    refine w_lstore (l' := #[.val (.int x0), .val (.long x1), .second, .val (.int (0 : Int32)), .val (.ref (n0 + 0)), .val (.long r3), .second, .unset, .unset]) X4 hx (hb hby at_60) rfl (pc' := 62) rfl ?_
    refine w_lload X4 hx (hb hby at_62) rfl (pc' := 64) rfl ?_
    refine w_aload X4 hx (hb hby at_64) rfl rfl (pc' := 66) rfl ?_
    refine w_iconst (v := (3 : Int32)) X4 hx (hb hby at_66) rfl (pc' := 67) rfl ?_
    refine w_callP (W := 0) X4 hx hZ rfl hown hml.symm (wd6 hw) (wd7 hw) (wd8 hw) (wd9 hw) (rm_st0_3 l Z a0 hw [] n0 r3 kA1 hk1 _ P4) (by decide) (by decide) (by decide) rfl rfl (by decide) (by decide) (argsL := [.long r3, .ref (n0 + 0), .int (3 : Int32)]) (rest := []) pd2 rfl rfl rfl (Nat.le_of_eq rfl) (hb hby at_67) (pc' := 70) rfl ?_
    intro T5 X5 e5
    have P5 : HP n0 T5.heap [AC kA1 []] := by rw [e5]; exact P4
    refine w_genJ (fun r4 er4 => ?_)
    refine w_lstore (l' := #[.val (.int x0), .val (.long x1), .second, .val (.int (0 : Int32)), .val (.ref (n0 + 0)), .val (.long r4), .second, .unset, .unset]) X5 hx (hb hby at_70) rfl (pc' := 72) rfl ?_
    refine w_lload X5 hx (hb hby at_72) rfl (pc' := 74) rfl ?_
    refine w_aload X5 hx (hb hby at_74) rfl rfl (pc' := 76) rfl ?_
    refine w_iconst (v := (4 : Int32)) X5 hx (hb hby at_76) rfl (pc' := 77) rfl ?_
    refine w_callP (W := 0) X5 hx hZ rfl hown hml.symm (wd6 hw) (wd7 hw) (wd8 hw) (wd9 hw) (rm_st0_4 l Z a0 hw [] n0 r4 kA1 hk1 _ P5) (by decide) (by decide) (by decide) rfl rfl (by decide) (by decide) (argsL := [.long r4, .ref (n0 + 0), .int (4 : Int32)]) (rest := []) pd2 rfl rfl rfl (Nat.le_of_eq rfl) (hb hby at_77) (pc' := 80) rfl ?_
    intro T6 X6 e6
    have P6 : HP n0 T6.heap [AC kA1 []] := by rw [e6]; exact P5
    refine w_genJ (fun r5 er5 => ?_)
    refine w_lstore (l' := #[.val (.int x0), .val (.long x1), .second, .val (.int (0 : Int32)), .val (.ref (n0 + 0)), .val (.long r5), .second, .unset, .unset]) X6 hx (hb hby at_80) rfl (pc' := 82) rfl ?_
    refine w_lload X6 hx (hb hby at_82) rfl (pc' := 84) rfl ?_
    refine w_aload X6 hx (hb hby at_84) rfl rfl (pc' := 86) rfl ?_
    refine w_iconst (v := (5 : Int32)) X6 hx (hb hby at_86) rfl (pc' := 87) rfl ?_
    refine w_callP (W := 0) X6 hx hZ rfl hown hml.symm (wd6 hw) (wd7 hw) (wd8 hw) (wd9 hw) (rm_st0_5 l Z a0 hw [] n0 r5 kA1 hk1 _ P6) (by decide) (by decide) (by decide) rfl rfl (by decide) (by decide) (argsL := [.long r5, .ref (n0 + 0), .int (5 : Int32)]) (rest := []) pd2 rfl rfl rfl (Nat.le_of_eq rfl) (hb hby at_87) (pc' := 90) rfl ?_
    intro T7 X7 e7
    have P7 : HP n0 T7.heap [AC kA1 []] := by rw [e7]; exact P6
    refine w_genJ (fun r6 er6 => ?_)
    refine w_lstore (l' := #[.val (.int x0), .val (.long x1), .second, .val (.int (0 : Int32)), .val (.ref (n0 + 0)), .val (.long r6), .second, .unset, .unset]) X7 hx (hb hby at_90) rfl (pc' := 92) rfl ?_
    refine w_lload X7 hx (hb hby at_92) rfl (pc' := 94) rfl ?_
    refine w_aload X7 hx (hb hby at_94) rfl rfl (pc' := 96) rfl ?_
    refine w_bipush (v := (6 : Int32)) X7 hx (hb hby at_96) rfl (pc' := 98) rfl ?_
    refine w_callP (W := 0) X7 hx hZ rfl hown hml.symm (wd6 hw) (wd7 hw) (wd8 hw) (wd9 hw) (rm_st0_6 l Z a0 hw [] n0 r6 kA1 hk1 _ P7) (by decide) (by decide) (by decide) rfl rfl (by decide) (by decide) (argsL := [.long r6, .ref (n0 + 0), .int (6 : Int32)]) (rest := []) pd2 rfl rfl rfl (Nat.le_of_eq rfl) (hb hby at_98) (pc' := 101) rfl ?_
    intro T8 X8 e8
    have P8 : HP n0 T8.heap [AC kA1 []] := by rw [e8]; exact P7
    refine w_genJ (fun r7 er7 => ?_)
    refine w_lstore (l' := #[.val (.int x0), .val (.long x1), .second, .val (.int (0 : Int32)), .val (.ref (n0 + 0)), .val (.long r7), .second, .unset, .unset]) X8 hx (hb hby at_101) rfl (pc' := 103) rfl ?_
    refine w_lload X8 hx (hb hby at_103) rfl (pc' := 105) rfl ?_
    refine w_aload X8 hx (hb hby at_105) rfl rfl (pc' := 107) rfl ?_
    refine w_bipush (v := (7 : Int32)) X8 hx (hb hby at_107) rfl (pc' := 109) rfl ?_
    refine w_callP (W := 0) X8 hx hZ rfl hown hml.symm (wd6 hw) (wd7 hw) (wd8 hw) (wd9 hw) (rm_st0_7 l Z a0 hw [] n0 r7 kA1 hk1 _ P8) (by decide) (by decide) (by decide) rfl rfl (by decide) (by decide) (argsL := [.long r7, .ref (n0 + 0), .int (7 : Int32)]) (rest := []) pd2 rfl rfl rfl (Nat.le_of_eq rfl) (hb hby at_109) (pc' := 112) rfl ?_
    intro T9 X9 e9
    have P9 : HP n0 T9.heap [AC kA1 []] := by rw [e9]; exact P8
    refine w_genJ (fun r8 er8 => ?_)
    refine w_lstore (l' := #[.val (.int x0), .val (.long x1), .second, .val (.int (0 : Int32)), .val (.ref (n0 + 0)), .val (.long r8), .second, .unset, .unset]) X9 hx (hb hby at_112) rfl (pc' := 114) rfl ?_
    refine w_iloadN X9 hx (hb hby at_114) rfl (pc' := 115) rfl ?_
    refine w_bipush (v := (8 : Int32)) X9 hx (hb hby at_115) rfl (pc' := 117) rfl ?_
    refine w_icmp_ne X9 hx (hb hby at_117) (by decide) (pcY := 126) (by decide) (pc' := 120) rfl (fun h10 => ?_) (fun h10 => absurd h10 (by decide))
    refine w_lloadN X9 hx (hb hby at_126) rfl (pc' := 127) rfl ?_
    refine w_lconst (v := (1 : Int64)) X9 hx (hb hby at_127) rfl (pc' := 128) rfl ?_
    refine w_bipush (v := (8 : Int32)) X9 hx (hb hby at_128) rfl (pc' := 130) rfl ?_
    refine w_iloadN X9 hx (hb hby at_130) rfl (pc' := 131) rfl ?_
    refine w_imul X9 hx (hb hby at_131) (pc' := 132) rfl ?_
    refine w_eqI (z := (0 : Int32)) (by decide) ?_
    refine w_lshl X9 hx (hb hby at_132) (pc' := 133) rfl ?_
    refine w_eqJ (z := (1 : Int64)) (by decide) ?_
    refine w_lconst (v := (1 : Int64)) X9 hx (hb hby at_133) rfl (pc' := 134) rfl ?_
    refine w_lsub X9 hx (hb hby at_134) (pc' := 135) rfl ?_
    refine w_eqJ (z := (0 : Int64)) (by decide) ?_
    refine w_land X9 hx (hb hby at_135) (pc' := 136) rfl ?_
    refine w_lstore (l' := #[.val (.int x0), .val (.long x1), .second, .val (.int (0 : Int32)), .val (.ref (n0 + 0)), .val (.long r8), .second, .val (.long (x1 &&& (0 : Int64))), .second]) X9 hx (hb hby at_136) rfl (pc' := 138) rfl ?_
    refine w_lload X9 hx (hb hby at_138) rfl (pc' := 140) rfl ?_
    refine w_lload X9 hx (hb hby at_140) rfl (pc' := 142) rfl ?_
    refine w_lcmp_ne X9 hx (hb hby at_142) rfl (hb hby at_143) (by decide) (pcY := 150) (by decide) (pc' := 146) rfl (fun h11 => absurd (own_u0 x1 r1 r2 r3 r4 r5 r6 r7 r8 er1 er2 er3 er4 er5 er6 er7 er8) h11) (fun h11 => ?_)
    refine w_iconst (v := (1 : Int32)) X9 hx (hb hby at_146) rfl (pc' := 147) rfl ?_
    refine w_goto X9 hx (hb hby at_147) (by decide) (pc' := 151) (by decide) ?_
    exact w_ret_n (t := .boolean) X9 hx hret hlk (by simp) (hb hby at_151) (z' := (1 : Int32)) rfl (by decide) (by decide) ⟨rfl, N1⟩
  · refine w_eqI (z := (1 : Int32)) g1 ?_
    refine w_istoreN (l' := #[.val (.int x0), .val (.long x1), .second, .val (.int (1 : Int32)), .unset, .unset, .unset, .unset, .unset]) X0 hx (hb hby at_7) rfl (pc' := 8) rfl ?_
    refine w_iloadN X0 hx (hb hby at_8) rfl (pc' := 9) rfl ?_
    refine w_lloadN X0 hx (hb hby at_9) rfl (pc' := 10) rfl ?_
    refine own_call (W := 0) X0 hx hZ rfl hown hml.symm (wd1 hw) (wd2 hw) (wd3 hw) (wd4 hw) (rm1_1 l Z a0 hw [] n0 x1 _ P0) (by decide) (by decide) (by decide) (by decide) (by decide) (argsL := [.int (1 : Int32), .long x1]) (rest := []) pd1 rfl rfl rfl (Nat.le_of_eq rfl) (hb hby at_10) (pc' := 13) rfl ?_
    intro _ T10 L2 X10 hq
    obtain ⟨rfl, N2, kA2, hk2, P10⟩ := hq
    replace N2 := Fr.app N0 N2
    replace P10 : HP n0 T10.heap [AC kA2 [.int (nar .byte (Int8.toInt32 (Int32.toInt8 (Int64.toInt32 (XT.ushrL x1 (0 : Int32))))))]] := P10
    obtain ⟨b0, eb0⟩ : ∃ z : Int32, z = (nar .byte (Int8.toInt32 (Int32.toInt8 (Int64.toInt32 (XT.ushrL x1 (0 : Int32)))))) := ⟨_, rfl⟩
    replace P10 : HP n0 T10.heap [AC kA2 [.int b0]] := by rw [eb0]; exact P10
    refine w_astore (l' := #[.val (.int x0), .val (.long x1), .second, .val (.int (1 : Int32)), .val (.ref (n0 + 0)), .unset, .unset, .unset, .unset]) X10 hx (hb hby at_13) rfl rfl (pc' := 15) rfl ?_
    refine w_aload X10 hx (hb hby at_15) rfl rfl (pc' := 17) rfl ?_
    refine w_ifnullN X10 hx (hb hby at_17) (pc' := 20) rfl ?_
    refine w_aload X10 hx (hb hby at_20) rfl rfl (pc' := 22) rfl ?_
    refine w_arrlen (i := 0) X10 hx hZ P10 rfl hk2 (hb hby at_22) (z := (1 : Int32)) rfl (pc' := 23) rfl ?_
    refine w_iloadN X10 hx (hb hby at_23) rfl (pc' := 24) rfl ?_
    refine w_icmp_eq X10 hx (hb hby at_24) (by decide) (pcY := 29) (by decide) (pc' := 27) rfl (fun h12 => ?_) (fun h12 => absurd h12 (by decide))
    refine w_lconst (v := (0 : Int64)) X10 hx (hb hby at_29) rfl (pc' := 30) rfl ?_
    refine w_lstore (l' := #[.val (.int x0), .val (.long x1), .second, .val (.int (1 : Int32)), .val (.ref (n0 + 0)), .val (.long (0 : Int64)), .second, .unset, .unset]) X10 hx (hb hby at_30) rfl (pc' := 32) rfl ?_
    refine w_lload X10 hx (hb hby at_32) rfl (pc' := 34) rfl ?_
    refine w_aload X10 hx (hb hby at_34) rfl rfl (pc' := 36) rfl ?_
    refine w_iconst (v := (0 : Int32)) X10 hx (hb hby at_36) rfl (pc' := 37) rfl ?_
    refine w_callP (W := 0) X10 hx hZ rfl hown hml.symm (wd6 hw) (wd7 hw) (wd8 hw) (wd9 hw) (rm_st1_0 l Z a0 hw [] n0 (0 : Int64) b0 kA2 hk2 _ P10) (by decide) (by decide) (by decide) rfl rfl (by decide) (by decide) (argsL := [.long (0 : Int64), .ref (n0 + 0), .int (0 : Int32)]) (rest := []) pd2 rfl rfl rfl (Nat.le_of_eq rfl) (hb hby at_37) (pc' := 40) rfl ?_
    intro T11 X11 e11
    have P11 : HP n0 T11.heap [AC kA2 [.int b0]] := by rw [e11]; exact P10
    refine w_genJ (fun r1 er1 => ?_)
    refine w_lstore (l' := #[.val (.int x0), .val (.long x1), .second, .val (.int (1 : Int32)), .val (.ref (n0 + 0)), .val (.long r1), .second, .unset, .unset]) X11 hx (hb hby at_40) rfl (pc' := 42) rfl ?_
    refine w_lload X11 hx (hb hby at_42) rfl (pc' := 44) rfl ?_
    refine w_aload X11 hx (hb hby at_44) rfl rfl (pc' := 46) rfl ?_
    refine w_iconst (v := (1 : Int32)) X11 hx (hb hby at_46) rfl (pc' := 47) rfl ?_
    refine w_callP (W := 0) X11 hx hZ rfl hown hml.symm (wd6 hw) (wd7 hw) (wd8 hw) (wd9 hw) (rm_st1_1 l Z a0 hw [] n0 r1 b0 kA2 hk2 _ P11) (by decide) (by decide) (by decide) rfl rfl (by decide) (by decide) (argsL := [.long r1, .ref (n0 + 0), .int (1 : Int32)]) (rest := []) pd2 rfl rfl rfl (Nat.le_of_eq rfl) (hb hby at_47) (pc' := 50) rfl ?_
    intro T12 X12 e12
    have P12 : HP n0 T12.heap [AC kA2 [.int b0]] := by rw [e12]; exact P11
    refine w_genJ (fun r2 er2 => ?_)
    refine w_lstore (l' := #[.val (.int x0), .val (.long x1), .second, .val (.int (1 : Int32)), .val (.ref (n0 + 0)), .val (.long r2), .second, .unset, .unset]) X12 hx (hb hby at_50) rfl (pc' := 52) rfl ?_
    refine w_lload X12 hx (hb hby at_52) rfl (pc' := 54) rfl ?_
    refine w_aload X12 hx (hb hby at_54) rfl rfl (pc' := 56) rfl ?_
    refine w_iconst (v := (2 : Int32)) X12 hx (hb hby at_56) rfl (pc' := 57) rfl ?_
    refine w_callP (W := 0) X12 hx hZ rfl hown hml.symm (wd6 hw) (wd7 hw) (wd8 hw) (wd9 hw) (rm_st1_2 l Z a0 hw [] n0 r2 b0 kA2 hk2 _ P12) (by decide) (by decide) (by decide) rfl rfl (by decide) (by decide) (argsL := [.long r2, .ref (n0 + 0), .int (2 : Int32)]) (rest := []) pd2 rfl rfl rfl (Nat.le_of_eq rfl) (hb hby at_57) (pc' := 60) rfl ?_
    intro T13 X13 e13
    have P13 : HP n0 T13.heap [AC kA2 [.int b0]] := by rw [e13]; exact P12
    refine w_genJ (fun r3 er3 => ?_)
    refine w_lstore (l' := #[.val (.int x0), .val (.long x1), .second, .val (.int (1 : Int32)), .val (.ref (n0 + 0)), .val (.long r3), .second, .unset, .unset]) X13 hx (hb hby at_60) rfl (pc' := 62) rfl ?_
    refine w_lload X13 hx (hb hby at_62) rfl (pc' := 64) rfl ?_
    refine w_aload X13 hx (hb hby at_64) rfl rfl (pc' := 66) rfl ?_
    refine w_iconst (v := (3 : Int32)) X13 hx (hb hby at_66) rfl (pc' := 67) rfl ?_
    refine w_callP (W := 0) X13 hx hZ rfl hown hml.symm (wd6 hw) (wd7 hw) (wd8 hw) (wd9 hw) (rm_st1_3 l Z a0 hw [] n0 r3 b0 kA2 hk2 _ P13) (by decide) (by decide) (by decide) rfl rfl (by decide) (by decide) (argsL := [.long r3, .ref (n0 + 0), .int (3 : Int32)]) (rest := []) pd2 rfl rfl rfl (Nat.le_of_eq rfl) (hb hby at_67) (pc' := 70) rfl ?_
    intro T14 X14 e14
    have P14 : HP n0 T14.heap [AC kA2 [.int b0]] := by rw [e14]; exact P13
    refine w_genJ (fun r4 er4 => ?_)
    refine w_lstore (l' := #[.val (.int x0), .val (.long x1), .second, .val (.int (1 : Int32)), .val (.ref (n0 + 0)), .val (.long r4), .second, .unset, .unset]) X14 hx (hb hby at_70) rfl (pc' := 72) rfl ?_
    refine w_lload X14 hx (hb hby at_72) rfl (pc' := 74) rfl ?_
    refine w_aload X14 hx (hb hby at_74) rfl rfl (pc' := 76) rfl ?_
    refine w_iconst (v := (4 : Int32)) X14 hx (hb hby at_76) rfl (pc' := 77) rfl ?_
    refine w_callP (W := 0) X14 hx hZ rfl hown hml.symm (wd6 hw) (wd7 hw) (wd8 hw) (wd9 hw) (rm_st1_4 l Z a0 hw [] n0 r4 b0 kA2 hk2 _ P14) (by decide) (by decide) (by decide) rfl rfl (by decide) (by decide) (argsL := [.long r4, .ref (n0 + 0), .int (4 : Int32)]) (rest := []) pd2 rfl rfl rfl (Nat.le_of_eq rfl) (hb hby at_77) (pc' := 80) rfl ?_
    intro T15 X15 e15
    have P15 : HP n0 T15.heap [AC kA2 [.int b0]] := by rw [e15]; exact P14
    refine w_genJ (fun r5 er5 => ?_)
    refine w_lstore (l' := #[.val (.int x0), .val (.long x1), .second, .val (.int (1 : Int32)), .val (.ref (n0 + 0)), .val (.long r5), .second, .unset, .unset]) X15 hx (hb hby at_80) rfl (pc' := 82) rfl ?_
    refine w_lload X15 hx (hb hby at_82) rfl (pc' := 84) rfl ?_
    refine w_aload X15 hx (hb hby at_84) rfl rfl (pc' := 86) rfl ?_
    refine w_iconst (v := (5 : Int32)) X15 hx (hb hby at_86) rfl (pc' := 87) rfl ?_
    refine w_callP (W := 0) X15 hx hZ rfl hown hml.symm (wd6 hw) (wd7 hw) (wd8 hw) (wd9 hw) (rm_st1_5 l Z a0 hw [] n0 r5 b0 kA2 hk2 _ P15) (by decide) (by decide) (by decide) rfl rfl (by decide) (by decide) (argsL := [.long r5, .ref (n0 + 0), .int (5 : Int32)]) (rest := []) pd2 rfl rfl rfl (Nat.le_of_eq rfl) (hb hby at_87) (pc' := 90) rfl ?_
    intro T16 X16 e16
    have P16 : HP n0 T16.heap [AC kA2 [.int b0]] := by rw [e16]; exact P15
    refine w_genJ (fun r6 er6 => ?_)
    refine w_lstore (l' := #[.val (.int x0), .val (.long x1), .second, .val (.int (1 : Int32)), .val (.ref (n0 + 0)), .val (.long r6), .second, .unset, .unset]) X16 hx (hb hby at_90) rfl (pc' := 92) rfl ?_
    refine w_lload X16 hx (hb hby at_92) rfl (pc' := 94) rfl ?_
    refine w_aload X16 hx (hb hby at_94) rfl rfl (pc' := 96) rfl ?_
    refine w_bipush (v := (6 : Int32)) X16 hx (hb hby at_96) rfl (pc' := 98) rfl ?_
    refine w_callP (W := 0) X16 hx hZ rfl hown hml.symm (wd6 hw) (wd7 hw) (wd8 hw) (wd9 hw) (rm_st1_6 l Z a0 hw [] n0 r6 b0 kA2 hk2 _ P16) (by decide) (by decide) (by decide) rfl rfl (by decide) (by decide) (argsL := [.long r6, .ref (n0 + 0), .int (6 : Int32)]) (rest := []) pd2 rfl rfl rfl (Nat.le_of_eq rfl) (hb hby at_98) (pc' := 101) rfl ?_
    intro T17 X17 e17
    have P17 : HP n0 T17.heap [AC kA2 [.int b0]] := by rw [e17]; exact P16
    refine w_genJ (fun r7 er7 => ?_)
    refine w_lstore (l' := #[.val (.int x0), .val (.long x1), .second, .val (.int (1 : Int32)), .val (.ref (n0 + 0)), .val (.long r7), .second, .unset, .unset]) X17 hx (hb hby at_101) rfl (pc' := 103) rfl ?_
    refine w_lload X17 hx (hb hby at_103) rfl (pc' := 105) rfl ?_
    refine w_aload X17 hx (hb hby at_105) rfl rfl (pc' := 107) rfl ?_
    refine w_bipush (v := (7 : Int32)) X17 hx (hb hby at_107) rfl (pc' := 109) rfl ?_
    refine w_callP (W := 0) X17 hx hZ rfl hown hml.symm (wd6 hw) (wd7 hw) (wd8 hw) (wd9 hw) (rm_st1_7 l Z a0 hw [] n0 r7 b0 kA2 hk2 _ P17) (by decide) (by decide) (by decide) rfl rfl (by decide) (by decide) (argsL := [.long r7, .ref (n0 + 0), .int (7 : Int32)]) (rest := []) pd2 rfl rfl rfl (Nat.le_of_eq rfl) (hb hby at_109) (pc' := 112) rfl ?_
    intro T18 X18 e18
    have P18 : HP n0 T18.heap [AC kA2 [.int b0]] := by rw [e18]; exact P17
    refine w_genJ (fun r8 er8 => ?_)
    refine w_lstore (l' := #[.val (.int x0), .val (.long x1), .second, .val (.int (1 : Int32)), .val (.ref (n0 + 0)), .val (.long r8), .second, .unset, .unset]) X18 hx (hb hby at_112) rfl (pc' := 114) rfl ?_
    refine w_iloadN X18 hx (hb hby at_114) rfl (pc' := 115) rfl ?_
    refine w_bipush (v := (8 : Int32)) X18 hx (hb hby at_115) rfl (pc' := 117) rfl ?_
    refine w_icmp_ne X18 hx (hb hby at_117) (by decide) (pcY := 126) (by decide) (pc' := 120) rfl (fun h13 => ?_) (fun h13 => absurd h13 (by decide))
    refine w_lloadN X18 hx (hb hby at_126) rfl (pc' := 127) rfl ?_
    refine w_lconst (v := (1 : Int64)) X18 hx (hb hby at_127) rfl (pc' := 128) rfl ?_
    refine w_bipush (v := (8 : Int32)) X18 hx (hb hby at_128) rfl (pc' := 130) rfl ?_
    refine w_iloadN X18 hx (hb hby at_130) rfl (pc' := 131) rfl ?_
    refine w_imul X18 hx (hb hby at_131) (pc' := 132) rfl ?_
    refine w_eqI (z := (8 : Int32)) (by decide) ?_
    refine w_lshl X18 hx (hb hby at_132) (pc' := 133) rfl ?_
    refine w_eqJ (z := (256 : Int64)) (by decide) ?_
    refine w_lconst (v := (1 : Int64)) X18 hx (hb hby at_133) rfl (pc' := 134) rfl ?_
    refine w_lsub X18 hx (hb hby at_134) (pc' := 135) rfl ?_
    refine w_eqJ (z := (255 : Int64)) (by decide) ?_
    refine w_land X18 hx (hb hby at_135) (pc' := 136) rfl ?_
    refine w_lstore (l' := #[.val (.int x0), .val (.long x1), .second, .val (.int (1 : Int32)), .val (.ref (n0 + 0)), .val (.long r8), .second, .val (.long (x1 &&& (255 : Int64))), .second]) X18 hx (hb hby at_136) rfl (pc' := 138) rfl ?_
    refine w_lload X18 hx (hb hby at_138) rfl (pc' := 140) rfl ?_
    refine w_lload X18 hx (hb hby at_140) rfl (pc' := 142) rfl ?_
    refine w_lcmp_ne X18 hx (hb hby at_142) rfl (hb hby at_143) (by decide) (pcY := 150) (by decide) (pc' := 146) rfl (fun h14 => absurd (own_u1 x1 b0 r1 r2 r3 r4 r5 r6 r7 r8 eb0 er1 er2 er3 er4 er5 er6 er7 er8) h14) (fun h14 => ?_)
    refine w_iconst (v := (1 : Int32)) X18 hx (hb hby at_146) rfl (pc' := 147) rfl ?_
    refine w_goto X18 hx (hb hby at_147) (by decide) (pc' := 151) (by decide) ?_
    exact w_ret_n (t := .boolean) X18 hx hret hlk (by simp) (hb hby at_151) (z' := (1 : Int32)) rfl (by decide) (by decide) ⟨rfl, N2⟩
  · refine w_eqI (z := (2 : Int32)) g2 ?_
    refine w_istoreN (l' := #[.val (.int x0), .val (.long x1), .second, .val (.int (2 : Int32)), .unset, .unset, .unset, .unset, .unset]) X0 hx (hb hby at_7) rfl (pc' := 8) rfl ?_
    refine w_iloadN X0 hx (hb hby at_8) rfl (pc' := 9) rfl ?_
    refine w_lloadN X0 hx (hb hby at_9) rfl (pc' := 10) rfl ?_
    refine own_call (W := 0) X0 hx hZ rfl hown hml.symm (wd1 hw) (wd2 hw) (wd3 hw) (wd4 hw) (rm1_2 l Z a0 hw [] n0 x1 _ P0) (by decide) (by decide) (by decide) (by decide) (by decide) (argsL := [.int (2 : Int32), .long x1]) (rest := []) pd1 rfl rfl rfl (Nat.le_of_eq rfl) (hb hby at_10) (pc' := 13) rfl ?_
    intro _ T19 L3 X19 hq
    obtain ⟨rfl, N3, kA3, hk3, P19⟩ := hq
    replace N3 := Fr.app N0 N3
    replace P19 : HP n0 T19.heap [AC kA3 [.int (nar .byte (Int8.toInt32 (Int32.toInt8 (Int64.toInt32 (XT.ushrL x1 (8 : Int32)))))), .int (nar .byte (Int8.toInt32 (Int32.toInt8 (Int64.toInt32 (XT.ushrL x1 (0 : Int32))))))]] := P19
    obtain ⟨b0, eb0⟩ : ∃ z : Int32, z = (nar .byte (Int8.toInt32 (Int32.toInt8 (Int64.toInt32 (XT.ushrL x1 (8 : Int32)))))) := ⟨_, rfl⟩
    obtain ⟨b1, eb1⟩ : ∃ z : Int32, z = (nar .byte (Int8.toInt32 (Int32.toInt8 (Int64.toInt32 (XT.ushrL x1 (0 : Int32)))))) := ⟨_, rfl⟩
    replace P19 : HP n0 T19.heap [AC kA3 [.int b0, .int b1]] := by rw [eb0, eb1]; exact P19
    refine w_astore (l' := #[.val (.int x0), .val (.long x1), .second, .val (.int (2 : Int32)), .val (.ref (n0 + 0)), .unset, .unset, .unset, .unset]) X19 hx (hb hby at_13) rfl rfl (pc' := 15) rfl ?_
    refine w_aload X19 hx (hb hby at_15) rfl rfl (pc' := 17) rfl ?_
    refine w_ifnullN X19 hx (hb hby at_17) (pc' := 20) rfl ?_
    refine w_aload X19 hx (hb hby at_20) rfl rfl (pc' := 22) rfl ?_
    refine w_arrlen (i := 0) X19 hx hZ P19 rfl hk3 (hb hby at_22) (z := (2 : Int32)) rfl (pc' := 23) rfl ?_
    refine w_iloadN X19 hx (hb hby at_23) rfl (pc' := 24) rfl ?_
    refine w_icmp_eq X19 hx (hb hby at_24) (by decide) (pcY := 29) (by decide) (pc' := 27) rfl (fun h15 => ?_) (fun h15 => absurd h15 (by decide))
    refine w_lconst (v := (0 : Int64)) X19 hx (hb hby at_29) rfl (pc' := 30) rfl ?_
    refine w_lstore (l' := #[.val (.int x0), .val (.long x1), .second, .val (.int (2 : Int32)), .val (.ref (n0 + 0)), .val (.long (0 : Int64)), .second, .unset, .unset]) X19 hx (hb hby at_30) rfl (pc' := 32) rfl ?_
    refine w_lload X19 hx (hb hby at_32) rfl (pc' := 34) rfl ?_
    refine w_aload X19 hx (hb hby at_34) rfl rfl (pc' := 36) rfl ?_
    refine w_iconst (v := (0 : Int32)) X19 hx (hb hby at_36) rfl (pc' := 37) rfl ?_
    refine w_callP (W := 0) X19 hx hZ rfl hown hml.symm (wd6 hw) (wd7 hw) (wd8 hw) (wd9 hw) (rm_st2_0 l Z a0 hw [] n0 (0 : Int64) b0 b1 kA3 hk3 _ P19) (by decide) (by decide) (by decide) rfl rfl (by decide) (by decide) (argsL := [.long (0 : Int64), .ref (n0 + 0), .int (0 : Int32)]) (rest := []) pd2 rfl rfl rfl (Nat.le_of_eq rfl) (hb hby at_37) (pc' := 40) rfl ?_
    intro T20 X20 e20
    have P20 : HP n0 T20.heap [AC kA3 [.int b0, .int b1]] := by rw [e20]; exact P19
    refine w_genJ (fun r1 er1 => ?_)
    refine w_lstore (l' := #[.val (.int x0), .val (.long x1), .second, .val (.int (2 : Int32)), .val (.ref (n0 + 0)), .val (.long r1), .second, .unset, .unset]) X20 hx (hb hby at_40) rfl (pc' := 42) rfl ?_
    refine w_lload X20 hx (hb hby at_42) rfl (pc' := 44) rfl ?_
    refine w_aload X20 hx (hb hby at_44) rfl rfl (pc' := 46) rfl ?_
    refine w_iconst (v := (1 : Int32)) X20 hx (hb hby at_46) rfl (pc' := 47) rfl ?_
    refine w_callP (W := 0) X20 hx hZ rfl hown hml.symm (wd6 hw) (wd7 hw) (wd8 hw) (wd9 hw) (rm_st2_1 l Z a0 hw [] n0 r1 b0 b1 kA3 hk3 _ P20) (by decide) (by decide) (by decide) rfl rfl (by decide) (by decide) (argsL := [.long r1, .ref (n0 + 0), .int (1 : Int32)]) (rest := []) pd2 rfl rfl rfl (Nat.le_of_eq rfl) (hb hby at_47) (pc' := 50) rfl ?_
    intro T21 X21 e21
    have P21 : HP n0 T21.heap [AC kA3 [.int b0, .int b1]] := by rw [e21]; exact P20
    refine w_genJ (fun r2 er2 => ?_)
    refine w_lstore (l' := #[.val (.int x0), .val (.long x1), .second, .val (.int (2 : Int32)), .val (.ref (n0 + 0)), .val (.long r2), .second, .unset, .unset]) X21 hx (hb hby at_50) rfl (pc' := 52) rfl ?_
    refine w_lload X21 hx (hb hby at_52) rfl (pc' := 54) rfl ?_
    refine w_aload X21 hx (hb hby at_54) rfl rfl (pc' := 56) rfl ?_
    refine w_iconst (v := (2 : Int32)) X21 hx (hb hby at_56) rfl (pc' := 57) rfl ?_
    refine w_callP (W := 0) X21 hx hZ rfl hown hml.symm (wd6 hw) (wd7 hw) (wd8 hw) (wd9 hw) (rm_st2_2 l Z a0 hw [] n0 r2 b0 b1 kA3 hk3 _ P21) (by decide) (by decide) (by decide) rfl rfl (by decide) (by decide) (argsL := [.long r2, .ref (n0 + 0), .int (2 : Int32)]) (rest := []) pd2 rfl rfl rfl (Nat.le_of_eq rfl) (hb hby at_57) (pc' := 60) rfl ?_
    intro T22 X22 e22
    have P22 : HP n0 T22.heap [AC kA3 [.int b0, .int b1]] := by rw [e22]; exact P21
    refine w_genJ (fun r3 er3 => ?_)
    refine w_lstore (l' := #[.val (.int x0), .val (.long x1), .second, .val (.int (2 : Int32)), .val (.ref (n0 + 0)), .val (.long r3), .second, .unset, .unset]) X22 hx (hb hby at_60) rfl (pc' := 62) rfl ?_
    refine w_lload X22 hx (hb hby at_62) rfl (pc' := 64) rfl ?_
    refine w_aload X22 hx (hb hby at_64) rfl rfl (pc' := 66) rfl ?_
    refine w_iconst (v := (3 : Int32)) X22 hx (hb hby at_66) rfl (pc' := 67) rfl ?_
    refine w_callP (W := 0) X22 hx hZ rfl hown hml.symm (wd6 hw) (wd7 hw) (wd8 hw) (wd9 hw) (rm_st2_3 l Z a0 hw [] n0 r3 b0 b1 kA3 hk3 _ P22) (by decide) (by decide) (by decide) rfl rfl (by decide) (by decide) (argsL := [.long r3, .ref (n0 + 0), .int (3 : Int32)]) (rest := []) pd2 rfl rfl rfl (Nat.le_of_eq rfl) (hb hby at_67) (pc' := 70) rfl ?_
    intro T23 X23 e23
    have P23 : HP n0 T23.heap [AC kA3 [.int b0, .int b1]] := by rw [e23]; exact P22
    refine w_genJ (fun r4 er4 => ?_)
    refine w_lstore (l' := #[.val (.int x0), .val (.long x1), .second, .val (.int (2 : Int32)), .val (.ref (n0 + 0)), .val (.long r4), .second, .unset, .unset]) X23 hx (hb hby at_70) rfl (pc' := 72) rfl ?_
    refine w_lload X23 hx (hb hby at_72) rfl (pc' := 74) rfl ?_
    refine w_aload X23 hx (hb hby at_74) rfl rfl (pc' := 76) rfl ?_
    refine w_iconst (v := (4 : Int32)) X23 hx (hb hby at_76) rfl (pc' := 77) rfl ?_
    refine w_callP (W := 0) X23 hx hZ rfl hown hml.symm (wd6 hw) (wd7 hw) (wd8 hw) (wd9 hw) (rm_st2_4 l Z a0 hw [] n0 r4 b0 b1 kA3 hk3 _ P23) (by decide) (by decide) (by decide) rfl rfl (by decide) (by decide) (argsL := [.long r4, .ref (n0 + 0), .int (4 : Int32)]) (rest := []) pd2 rfl rfl rfl (Nat.le_of_eq rfl) (hb hby at_77) (pc' := 80) rfl ?_
    intro T24 X24 e24
    have P24 : HP n0 T24.heap [AC kA3 [.int b0, .int b1]] := by rw [e24]; exact P23
    refine w_genJ (fun r5 er5 => ?_)
    refine w_lstore (l' := #[.val (.int x0), .val (.long x1), .second, .val (.int (2 : Int32)), .val (.ref (n0 + 0)), .val (.long r5), .second, .unset, .unset]) X24 hx (hb hby at_80) rfl (pc' := 82) rfl ?_
    refine w_lload X24 hx (hb hby at_82) rfl (pc' := 84) rfl ?_
    refine w_aload X24 hx (hb hby at_84) rfl rfl (pc' := 86) rfl ?_
    refine w_iconst (v := (5 : Int32)) X24 hx (hb hby at_86) rfl (pc' := 87) rfl ?_
    refine w_callP (W := 0) X24 hx hZ rfl hown hml.symm (wd6 hw) (wd7 hw) (wd8 hw) (wd9 hw) (rm_st2_5 l Z a0 hw [] n0 r5 b0 b1 kA3 hk3 _ P24) (by decide) (by decide) (by decide) rfl rfl (by decide) (by decide) (argsL := [.long r5, .ref (n0 + 0), .int (5 : Int32)]) (rest := []) pd2 rfl rfl rfl (Nat.le_of_eq rfl) (hb hby at_87) (pc' := 90) rfl ?_
    intro T25 X25 e25
    have P25 : HP n0 T25.heap [AC kA3 [.int b0, .int b1]] := by rw [e25]; exact P24
    refine w_genJ (fun r6 er6 => ?_)
    refine w_lstore (l' := #[.val (.int x0), .val (.long x1), .second, .val (.int (2 : Int32)), .val (.ref (n0 + 0)), .val (.long r6), .second, .unset, .unset]) X25 hx (hb hby at_90) rfl (pc' := 92) rfl ?_
    refine w_lload X25 hx (hb hby at_92) rfl (pc' := 94) rfl ?_
    refine w_aload X25 hx (hb hby at_94) rfl rfl (pc' := 96) rfl ?_
    refine w_bipush (v := (6 : Int32)) X25 hx (hb hby at_96) rfl (pc' := 98) rfl ?_
    refine w_callP (W := 0) X25 hx hZ rfl hown hml.symm (wd6 hw) (wd7 hw) (wd8 hw) (wd9 hw) (rm_st2_6 l Z a0 hw [] n0 r6 b0 b1 kA3 hk3 _ P25) (by decide) (by decide) (by decide) rfl rfl (by decide) (by decide) (argsL := [.long r6, .ref (n0 + 0), .int (6 : Int32)]) (rest := []) pd2 rfl rfl rfl (Nat.le_of_eq rfl) (hb hby at_98) (pc' := 101) rfl ?_
    intro T26 X26 e26
    have P26 : HP n0 T26.heap [AC kA3 [.int b0, .int b1]] := by rw [e26]; exact P25
    refine w_genJ (fun r7 er7 => ?_)
    refine w_lstore (l' := #[.val (.int x0), .val (.long x1), .second, .val (.int (2 : Int32)), .val (.ref (n0 + 0)), .val (.long r7), .second, .unset, .unset]) X26 hx (hb hby at_101) rfl (pc' := 103) rfl ?_
    refine w_lload X26 hx (hb hby at_103) rfl (pc' := 105) rfl ?_
    refine w_aload X26 hx (hb hby at_105) rfl rfl (pc' := 107) rfl ?_
    refine w_bipush (v := (7 : Int32)) X26 hx (hb hby at_107) rfl (pc' := 109) rfl ?_
    refine w_callP (W := 0) X26 hx hZ rfl hown hml.symm (wd6 hw) (wd7 hw) (wd8 hw) (wd9 hw) (rm_st2_7 l Z a0 hw [] n0 r7 b0 b1 kA3 hk3 _ P26) (by decide) (by decide) (by decide) rfl rfl (by decide) (by decide) (argsL := [.long r7, .ref (n0 + 0), .int (7 : Int32)]) (rest := []) pd2 rfl rfl rfl (Nat.le_of_eq rfl) (hb hby at_109) (pc' := 112) rfl ?_
    intro T27 X27 e27
    have P27 : HP n0 T27.heap [AC kA3 [.int b0, .int b1]] := by rw [e27]; exact P26
    refine w_genJ (fun r8 er8 => ?_)
    refine w_lstore (l' := #[.val (.int x0), .val (.long x1), .second, .val (.int (2 : Int32)), .val (.ref (n0 + 0)), .val (.long r8), .second, .unset, .unset]) X27 hx (hb hby at_112) rfl (pc' := 114) rfl ?_
    refine w_iloadN X27 hx (hb hby at_114) rfl (pc' := 115) rfl ?_
    refine w_bipush (v := (8 : Int32)) X27 hx (hb hby at_115) rfl (pc' := 117) rfl ?_
    refine w_icmp_ne X27 hx (hb hby at_117) (by decide) (pcY := 126) (by decide) (pc' := 120) rfl (fun h16 => ?_) (fun h16 => absurd h16 (by decide))
    refine w_lloadN X27 hx (hb hby at_126) rfl (pc' := 127) rfl ?_
    refine w_lconst (v := (1 : Int64)) X27 hx (hb hby at_127) rfl (pc' := 128) rfl ?_
    refine w_bipush (v := (8 : Int32)) X27 hx (hb hby at_128) rfl (pc' := 130) rfl ?_
    refine w_iloadN X27 hx (hb hby at_130) rfl (pc' := 131) rfl ?_
    refine w_imul X27 hx (hb hby at_131) (pc' := 132) rfl ?_
    refine w_eqI (z := (16 : Int32)) (by decide) ?_
    refine w_lshl X27 hx (hb hby at_132) (pc' := 133) rfl ?_
    refine w_eqJ (z := (65536 : Int64)) (by decide) ?_
    refine w_lconst (v := (1 : Int64)) X27 hx (hb hby at_133) rfl (pc' := 134) rfl ?_
    refine w_lsub X27 hx (hb hby at_134) (pc' := 135) rfl ?_
    refine w_eqJ (z := (65535 : Int64)) (by decide) ?_
    refine w_land X27 hx (hb hby at_135) (pc' := 136) rfl ?_
    refine w_lstore (l' := #[.val (.int x0), .val (.long x1), .second, .val (.int (2 : Int32)), .val (.ref (n0 + 0)), .val (.long r8), .second, .val (.long (x1 &&& (65535 : Int64))), .second]) X27 hx (hb hby at_136) rfl (pc' := 138) rfl ?_
    refine w_lload X27 hx (hb hby at_138) rfl (pc' := 140) rfl ?_
    refine w_lload X27 hx (hb hby at_140) rfl (pc' := 142) rfl ?_
    refine w_lcmp_ne X27 hx (hb hby at_142) rfl (hb hby at_143) (by decide) (pcY := 150) (by decide) (pc' := 146) rfl (fun h17 => absurd (own_u2 x1 b0 b1 r1 r2 r3 r4 r5 r6 r7 r8 eb0 eb1 er1 er2 er3 er4 er5 er6 er7 er8) h17) (fun h17 => ?_)
    refine w_iconst (v := (1 : Int32)) X27 hx (hb hby at_146) rfl (pc' := 147) rfl ?_
    refine w_goto X27 hx (hb hby at_147) (by decide) (pc' := 151) (by decide) ?_
    exact w_ret_n (t := .boolean) X27 hx hret hlk (by simp) (hb hby at_151) (z' := (1 : Int32)) rfl (by decide) (by decide) ⟨rfl, N3⟩
  · refine w_eqI (z := (3 : Int32)) g3 ?_
    refine w_istoreN (l' := #[.val (.int x0), .val (.long x1), .second, .val (.int (3 : Int32)), .unset, .unset, .unset, .unset, .unset]) X0 hx (hb hby at_7) rfl (pc' := 8) rfl ?_
    refine w_iloadN X0 hx (hb hby at_8) rfl (pc' := 9) rfl ?_
    refine w_lloadN X0 hx (hb hby at_9) rfl (pc' := 10) rfl ?_
    refine own_call (W := 0) X0 hx hZ rfl hown hml.symm (wd1 hw) (wd2 hw) (wd3 hw) (wd4 hw) (rm1_3 l Z a0 hw [] n0 x1 _ P0) (by decide) (by decide) (by decide) (by decide) (by decide) (argsL := [.int (3 : Int32), .long x1]) (rest := []) pd1 rfl rfl rfl (Nat.le_of_eq rfl) (hb hby at_10) (pc' := 13) rfl ?_
    intro _ T28 L4 X28 hq
    obtain ⟨rfl, N4, kA4, hk4, P28⟩ := hq
    replace N4 := Fr.app N0 N4
    replace P28 : HP n0 T28.heap [AC kA4 [.int (nar .byte (Int8.toInt32 (Int32.toInt8 (Int64.toInt32 (XT.ushrL x1 (16 : Int32)))))), .int (nar .byte (Int8.toInt32 (Int32.toInt8 (Int64.toInt32 (XT.ushrL x1 (8 : Int32)))))), .int (nar .byte (Int8.toInt32 (Int32.toInt8 (Int64.toInt32 (XT.ushrL x1 (0 : Int32))))))]] := P28
    obtain ⟨b0, eb0⟩ : ∃ z : Int32, z = (nar .byte (Int8.toInt32 (Int32.toInt8 (Int64.toInt32 (XT.ushrL x1 (16 : Int32)))))) := ⟨_, rfl⟩
    obtain ⟨b1, eb1⟩ : ∃ z : Int32, z = (nar .byte (Int8.toInt32 (Int32.toInt8 (Int64.toInt32 (XT.ushrL x1 (8 : Int32)))))) := ⟨_, rfl⟩
    obtain ⟨b2, eb2⟩ : ∃ z : Int32, z = (nar .byte (Int8.toInt32 (Int32.toInt8 (Int64.toInt32 (XT.ushrL x1 (0 : Int32)))))) := ⟨_, rfl⟩
    replace P28 : HP n0 T28.heap [AC kA4 [.int b0, .int b1, .int b2]] := by rw [eb0, eb1, eb2]; exact P28
    refine w_astore (l' := #[.val (.int x0), .val (.long x1), .second, .val (.int (3 : Int32)), .val (.ref (n0 + 0)), .unset, .unset, .unset, .unset]) X28 hx (hb hby at_13) rfl rfl (pc' := 15) rfl ?_
    refine w_aload X28 hx (hb hby at_15) rfl rfl (pc' := 17) rfl ?_
    refine w_ifnullN X28 hx (hb hby at_17) (pc' := 20) rfl ?_
    refine w_aload X28 hx (hb hby at_20) rfl rfl (pc' := 22) rfl ?_
    refine w_arrlen (i := 0) X28 hx hZ P28 rfl hk4 (hb hby at_22) (z := (3 : Int32)) rfl (pc' := 23) rfl ?_
    refine w_iloadN X28 hx (hb hby at_23) rfl (pc' := 24) rfl ?_
    refine w_icmp_eq X28 hx (hb hby at_24) (by decide) (pcY := 29) (by decide) (pc' := 27) rfl (fun h18 => ?_) (fun h18 => absurd h18 (by decide))
    refine w_lconst (v := (0 : Int64)) X28 hx (hb hby at_29) rfl (pc' := 30) rfl ?_
    refine w_lstore (l' := #[.val (.int x0), .val (.long x1), .second, .val (.int (3 : Int32)), .val (.ref (n0 + 0)), .val (.long (0 : Int64)), .second, .unset, .unset]) X28 hx (hb hby at_30) rfl (pc' := 32) rfl ?_
    refine w_lload X28 hx (hb hby at_32) rfl (pc' := 34) rfl ?_
    refine w_aload X28 hx (hb hby at_34) rfl rfl (pc' := 36) rfl ?_
    refine w_iconst (v := (0 : Int32)) X28 hx (hb hby at_36) rfl (pc' := 37) rfl ?_
    refine w_callP (W := 0) X28 hx hZ rfl hown hml.symm (wd6 hw) (wd7 hw) (wd8 hw) (wd9 hw) (rm_st3_0 l Z a0 hw [] n0 (0 : Int64) b0 b1 b2 kA4 hk4 _ P28) (by decide) (by decide) (by decide) rfl rfl (by decide) (by decide) (argsL := [.long (0 : Int64), .ref (n0 + 0), .int (0 : Int32)]) (rest := []) pd2 rfl rfl rfl (Nat.le_of_eq rfl) (hb hby at_37) (pc' := 40) rfl ?_
    intro T29 X29 e29
    have P29 : HP n0 T29.heap [AC kA4 [.int b0, .int b1, .int b2]] := by rw [e29]; exact P28
    refine w_genJ (fun r1 er1 => ?_)
    refine w_lstore (l' := #[.val (.int x0), .val (.long x1), .second, .val (.int (3 : Int32)), .val (.ref (n0 + 0)), .val (.long r1), .second, .unset, .unset]) X29 hx (hb hby at_40) rfl (pc' := 42) rfl ?_
    refine w_lload X29 hx (hb hby at_42) rfl (pc' := 44) rfl ?_
    refine w_aload X29 hx (hb hby at_44) rfl rfl (pc' := 46) rfl ?_
    refine w_iconst (v := (1 : Int32)) X29 hx (hb hby at_46) rfl (pc' := 47) rfl ?_
    refine w_callP (W := 0) X29 hx hZ rfl hown hml.symm (wd6 hw) (wd7 hw) (wd8 hw) (wd9 hw) (rm_st3_1 l Z a0 hw [] n0 r1 b0 b1 b2 kA4 hk4 _ P29) (by decide) (by decide) (by decide) rfl rfl (by decide) (by decide) (argsL := [.long r1, .ref (n0 + 0), .int (1 : Int32)]) (rest := []) pd2 rfl rfl rfl (Nat.le_of_eq rfl) (hb hby at_47) (pc' := 50) rfl ?_
    intro T30 X30 e30
    have P30 : HP n0 T30.heap [AC kA4 [.int b0, .int b1, .int b2]] := by rw [e30]; exact P29
    refine w_genJ (fun r2 er2 => ?_)
    refine w_lstore (l' := #[.val (.int x0), .val (.long x1), .second, .val (.int (3 : Int32)), .val (.ref (n0 + 0)), .val (.long r2), .second, .unset, .unset]) X30 hx (hb hby at_50) rfl (pc' := 52) rfl ?_
    refine w_lload X30 hx (hb hby at_52) rfl (pc' := 54) rfl ?_
    refine w_aload X30 hx (hb hby at_54) rfl rfl (pc' := 56) rfl ?_
    refine w_iconst (v := (2 : Int32)) X30 hx (hb hby at_56) rfl (pc' := 57) rfl ?_
    refine w_callP (W := 0) X30 hx hZ rfl hown hml.symm (wd6 hw) (wd7 hw) (wd8 hw) (wd9 hw) (rm_st3_2 l Z a0 hw [] n0 r2 b0 b1 b2 kA4 hk4 _ P30) (by decide) (by decide) (by decide) rfl rfl (by decide) (by decide) (argsL := [.long r2, .ref (n0 + 0), .int (2 : Int32)]) (rest := []) pd2 rfl rfl rfl (Nat.le_of_eq rfl) (hb hby at_57) (pc' := 60) rfl ?_
    intro T31 X31 e31
    have P31 : HP n0 T31.heap [AC kA4 [.int b0, .int b1, .int b2]] := by rw [e31]; exact P30
    refine w_genJ (fun r3 er3 => ?_)
    refine w_lstore (l' := #[.val (.int x0), .val (.long x1), .second, .val (.int (3 : Int32)), .val (.ref (n0 + 0)), .val (.long r3), .second, .unset, .unset]) X31 hx (hb hby at_60) rfl (pc' := 62) rfl ?_
    refine w_lload X31 hx (hb hby at_62) rfl (pc' := 64) rfl ?_
    refine w_aload X31 hx (hb hby at_64) rfl rfl (pc' := 66) rfl ?_
    refine w_iconst (v := (3 : Int32)) X31 hx (hb hby at_66) rfl (pc' := 67) rfl ?_
    refine w_callP (W := 0) X31 hx hZ rfl hown hml.symm (wd6 hw) (wd7 hw) (wd8 hw) (wd9 hw) (rm_st3_3 l Z a0 hw [] n0 r3 b0 b1 b2 kA4 hk4 _ P31) (by decide) (by decide) (by decide) rfl rfl (by decide) (by decide) (argsL := [.long r3, .ref (n0 + 0), .int (3 : Int32)]) (rest := []) pd2 rfl rfl rfl (Nat.le_of_eq rfl) (hb hby at_67) (pc' := 70) rfl ?_
    intro T32 X32 e32
    have P32 : HP n0 T32.heap [AC kA4 [.int b0, .int b1, .int b2]] := by rw [e32]; exact P31
    refine w_genJ (fun r4 er4 => ?_)
    refine w_lstore (l' := #[.val (.int x0), .val (.long x1), .second, .val (.int (3 : Int32)), .val (.ref (n0 + 0)), .val (.long r4), .second, .unset, .unset]) X32 hx (hb hby at_70) rfl (pc' := 72) rfl ?_
    refine w_lload X32 hx (hb hby at_72) rfl (pc' := 74) rfl ?_
    refine w_aload X32 hx (hb hby at_74) rfl rfl (pc' := 76) rfl ?_
    refine w_iconst (v := (4 : Int32)) X32 hx (hb hby at_76) rfl (pc' := 77) rfl ?_
    refine w_callP (W := 0) X32 hx hZ rfl hown hml.symm (wd6 hw) (wd7 hw) (wd8 hw) (wd9 hw) (rm_st3_4 l Z a0 hw [] n0 r4 b0 b1 b2 kA4 hk4 _ P32) (by decide) (by decide) (by decide) rfl rfl (by decide) (by decide) (argsL := [.long r4, .ref (n0 + 0), .int (4 : Int32)]) (rest := []) pd2 rfl rfl rfl (Nat.le_of_eq rfl) (hb hby at_77) (pc' := 80) rfl ?_
    intro T33 X33 e33
    have P33 : HP n0 T33.heap [AC kA4 [.int b0, .int b1, .int b2]] := by rw [e33]; exact P32
    refine w_genJ (fun r5 er5 => ?_)
    refine w_lstore (l' := #[.val (.int x0), .val (.long x1), .second, .val (.int (3 : Int32)), .val (.ref (n0 + 0)), .val (.long r5), .second, .unset, .unset]) X33 hx (hb hby at_80) rfl (pc' := 82) rfl ?_
    refine w_lload X33 hx (hb hby at_82) rfl (pc' := 84) rfl ?_
    refine w_aload X33 hx (hb hby at_84) rfl rfl (pc' := 86) rfl ?_
    refine w_iconst (v := (5 : Int32)) X33 hx (hb hby at_86) rfl (pc' := 87) rfl ?_
    refine w_callP (W := 0) X33 hx hZ rfl hown hml.symm (wd6 hw) (wd7 hw) (wd8 hw) (wd9 hw) (rm_st3_5 l Z a0 hw [] n0 r5 b0 b1 b2 kA4 hk4 _ P33) (by decide) (by decide) (by decide) rfl rfl (by decide) (by decide) (argsL := [.long r5, .ref (n0 + 0), .int (5 : Int32)]) (rest := []) pd2 rfl rfl rfl (Nat.le_of_eq rfl) (hb hby at_87) (pc' := 90) rfl ?_
    intro T34 X34 e34
    have P34 : HP n0 T34.heap [AC kA4 [.int b0, .int b1, .int b2]] := by rw [e34]; exact P33
    refine w_genJ (fun r6 er6 => ?_)
    refine w_lstore (l' := #[.val (.int x0), .val (.long x1), .second, .val (.int (3 : Int32)), .val (.ref (n0 + 0)), .val (.long r6), .second, .unset, .unset]) X34 hx (hb hby at_90) rfl (pc' := 92) rfl ?_
    refine w_lload X34 hx (hb hby at_92) rfl (pc' := 94) rfl ?_
    refine w_aload X34 hx (hb hby at_94) rfl rfl (pc' := 96) rfl ?_
    refine w_bipush (v := (6 : Int32)) X34 hx (hb hby at_96) rfl (pc' := 98) rfl ?_
    refine w_callP (W := 0) X34 hx hZ rfl hown hml.symm (wd6 hw) (wd7 hw) (wd8 hw) (wd9 hw) (rm_st3_6 l Z a0 hw [] n0 r6 b0 b1 b2 kA4 hk4 _ P34) (by decide) (by decide) (by decide) rfl rfl (by decide) (by decide) (argsL := [.long r6, .ref (n0 + 0), .int (6 : Int32)]) (rest := []) pd2 rfl rfl rfl (Nat.le_of_eq rfl) (hb hby at_98) (pc' := 101) rfl ?_
    intro T35 X35 e35
    have P35 : HP n0 T35.heap [AC kA4 [.int b0, .int b1, .int b2]] := by rw [e35]; exact P34
    refine w_genJ (fun r7 er7 => ?_)
    refine w_lstore (l' := #[.val (.int x0), .val (.long x1), .second, .val (.int (3 : Int32)), .val (.ref (n0 + 0)), .val (.long r7), .second, .unset, .unset]) X35 hx (hb hby at_101) rfl (pc' := 103) rfl ?_
    refine w_lload X35 hx (hb hby at_103) rfl (pc' := 105) rfl ?_
    refine w_aload X35 hx (hb hby at_105) rfl rfl (pc' := 107) rfl ?_
    refine w_bipush (v := (7 : Int32)) X35 hx (hb hby at_107) rfl (pc' := 109) rfl ?_
    refine w_callP (W := 0) X35 hx hZ rfl hown hml.symm (wd6 hw) (wd7 hw) (wd8 hw) (wd9 hw) (rm_st3_7 l Z a0 hw [] n0 r7 b0 b1 b2 kA4 hk4 _ P35) (by decide) (by decide) (by decide) rfl rfl (by decide) (by decide) (argsL := [.long r7, .ref (n0 + 0), .int (7 : Int32)]) (rest := []) pd2 rfl rfl rfl (Nat.le_of_eq rfl) (hb hby at_109) (pc' := 112) rfl ?_
    intro T36 X36 e36
    have P36 : HP n0 T36.heap [AC kA4 [.int b0, .int b1, .int b2]] := by rw [e36]; exact P35
    refine w_genJ (fun r8 er8 => ?_)
    refine w_lstore (l' := #[.val (.int x0), .val (.long x1), .second, .val (.int (3 : Int32)), .val (.ref (n0 + 0)), .val (.long r8), .second, .unset, .unset]) X36 hx (hb hby at_112) rfl (pc' := 114) rfl ?_
    refine w_iloadN X36 hx (hb hby at_114) rfl (pc' := 115) rfl ?_
    refine w_bipush (v := (8 : Int32)) X36 hx (hb hby at_115) rfl (pc' := 117) rfl ?_
    refine w_icmp_ne X36 hx (hb hby at_117) (by decide) (pcY := 126) (by decide) (pc' := 120) rfl (fun h19 => ?_) (fun h19 => absurd h19 (by decide))
    refine w_lloadN X36 hx (hb hby at_126) rfl (pc' := 127) rfl ?_
    refine w_lconst (v := (1 : Int64)) X36 hx (hb hby at_127) rfl (pc' := 128) rfl ?_
    refine w_bipush (v := (8 : Int32)) X36 hx (hb hby at_128) rfl (pc' := 130) rfl ?_
    refine w_iloadN X36 hx (hb hby at_130) rfl (pc' := 131) rfl ?_
    refine w_imul X36 hx (hb hby at_131) (pc' := 132) rfl ?_
    refine w_eqI (z := (24 : Int32)) (by decide) ?_
    refine w_lshl X36 hx (hb hby at_132) (pc' := 133) rfl ?_
    refine w_eqJ (z := (16777216 : Int64)) (by decide) ?_
    refine w_lconst (v := (1 : Int64)) X36 hx (hb hby at_133) rfl (pc' := 134) rfl ?_
    refine w_lsub X36 hx (hb hby at_134) (pc' := 135) rfl ?_
    refine w_eqJ (z := (16777215 : Int64)) (by decide) ?_
    refine w_land X36 hx (hb hby at_135) (pc' := 136) rfl ?_
    refine w_lstore (l' := #[.val (.int x0), .val (.long x1), .second, .val (.int (3 : Int32)), .val (.ref (n0 + 0)), .val (.long r8), .second, .val (.long (x1 &&& (16777215 : Int64))), .second]) X36 hx (hb hby at_136) rfl (pc' := 138) rfl ?_
    refine w_lload X36 hx (hb hby at_138) rfl (pc' := 140) rfl ?_
    refine w_lload X36 hx (hb hby at_140) rfl (pc' := 142) rfl ?_
    refine w_lcmp_ne X36 hx (hb hby at_142) rfl (hb hby at_143) (by decide) (pcY := 150) (by decide) (pc' := 146) rfl (fun h20 => absurd (own_u3 x1 b0 b1 b2 r1 r2 r3 r4 r5 r6 r7 r8 eb0 eb1 eb2 er1 er2 er3 er4 er5 er6 er7 er8) h20) (fun h20 => ?_)
    refine w_iconst (v := (1 : Int32)) X36 hx (hb hby at_146) rfl (pc' := 147) rfl ?_
    refine w_goto X36 hx (hb hby at_147) (by decide) (pc' := 151) (by decide) ?_
    exact w_ret_n (t := .boolean) X36 hx hret hlk (by simp) (hb hby at_151) (z' := (1 : Int32)) rfl (by decide) (by decide) ⟨rfl, N4⟩
  · refine w_eqI (z := (4 : Int32)) g4 ?_
    refine w_istoreN (l' := #[.val (.int x0), .val (.long x1), .second, .val (.int (4 : Int32)), .unset, .unset, .unset, .unset, .unset]) X0 hx (hb hby at_7) rfl (pc' := 8) rfl ?_
    refine w_iloadN X0 hx (hb hby at_8) rfl (pc' := 9) rfl ?_
    refine w_lloadN X0 hx (hb hby at_9) rfl (pc' := 10) rfl ?_
    refine own_call (W := 0) X0 hx hZ rfl hown hml.symm (wd1 hw) (wd2 hw) (wd3 hw) (wd4 hw) (rm1_4 l Z a0 hw [] n0 x1 _ P0) (by decide) (by decide) (by decide) (by decide) (by decide) (argsL := [.int (4 : Int32), .long x1]) (rest := []) pd1 rfl rfl rfl (Nat.le_of_eq rfl) (hb hby at_10) (pc' := 13) rfl ?_
    intro _ T37 L5 X37 hq
    obtain ⟨rfl, N5, kA5, hk5, P37⟩ := hq
    replace N5 := Fr.app N0 N5
    replace P37 : HP n0 T37.heap [AC kA5 [.int (nar .byte (Int8.toInt32 (Int32.toInt8 (Int64.toInt32 (XT.ushrL x1 (24 : Int32)))))), .int (nar .byte (Int8.toInt32 (Int32.toInt8 (Int64.toInt32 (XT.ushrL x1 (16 : Int32)))))), .int (nar .byte (Int8.toInt32 (Int32.toInt8 (Int64.toInt32 (XT.ushrL x1 (8 : Int32)))))), .int (nar .byte (Int8.toInt32 (Int32.toInt8 (Int64.toInt32 (XT.ushrL x1 (0 : Int32))))))]] := P37
    obtain ⟨b0, eb0⟩ : ∃ z : Int32, z = (nar .byte (Int8.toInt32 (Int32.toInt8 (Int64.toInt32 (XT.ushrL x1 (24 : Int32)))))) := ⟨_, rfl⟩
    obtain ⟨b1, eb1⟩ : ∃ z : Int32, z = (nar .byte (Int8.toInt32 (Int32.toInt8 (Int64.toInt32 (XT.ushrL x1 (16 : Int32)))))) := ⟨_, rfl⟩
    obtain ⟨b2, eb2⟩ : ∃ z : Int32, z = (nar .byte (Int8.toInt32 (Int32.toInt8 (Int64.toInt32 (XT.ushrL x1 (8 : Int32)))))) := ⟨_, rfl⟩
    obtain ⟨b3, eb3⟩ : ∃ z : Int32, z = (nar .byte (Int8.toInt32 (Int32.toInt8 (Int64.toInt32 (XT.ushrL x1 (0 : Int32)))))) := ⟨_, rfl⟩
    replace P37 : HP n0 T37.heap [AC kA5 [.int b0, .int b1, .int b2, .int b3]] := by rw [eb0, eb1, eb2, eb3]; exact P37
    refine w_astore (l' := #[.val (.int x0), .val (.long x1), .second, .val (.int (4 : Int32)), .val (.ref (n0 + 0)), .unset, .unset, .unset, .unset]) X37 hx (hb hby at_13) rfl rfl (pc' := 15) rfl ?_
    refine w_aload X37 hx (hb hby at_15) rfl rfl (pc' := 17) rfl ?_
    refine w_ifnullN X37 hx (hb hby at_17) (pc' := 20) rfl ?_
    refine w_aload X37 hx (hb hby at_20) rfl rfl (pc' := 22) rfl ?_
    refine w_arrlen (i := 0) X37 hx hZ P37 rfl hk5 (hb hby at_22) (z := (4 : Int32)) rfl (pc' := 23) rfl ?_
    refine w_iloadN X37 hx (hb hby at_23) rfl (pc' := 24) rfl ?_
    refine w_icmp_eq X37 hx (hb hby at_24) (by decide) (pcY := 29) (by decide) (pc' := 27) rfl (fun h21 => ?_) (fun h21 => absurd h21 (by decide))
    refine w_lconst (v := (0 : Int64)) X37 hx (hb hby at_29) rfl (pc' := 30) rfl ?_
    refine w_lstore (l' := #[.val (.int x0), .val (.long x1), .second, .val (.int (4 : Int32)), .val (.ref (n0 + 0)), .val (.long (0 : Int64)), .second, .unset, .unset]) X37 hx (hb hby at_30) rfl (pc' := 32) rfl ?_
    refine w_lload X37 hx (hb hby at_32) rfl (pc' := 34) rfl ?_
    refine w_aload X37 hx (hb hby at_34) rfl rfl (pc' := 36) rfl ?_
    refine w_iconst (v := (0 : Int32)) X37 hx (hb hby at_36) rfl (pc' := 37) rfl ?_
    refine w_callP (W := 0) X37 hx hZ rfl hown hml.symm (wd6 hw) (wd7 hw) (wd8 hw) (wd9 hw) (rm_st4_0 l Z a0 hw [] n0 (0 : Int64) b0 b1 b2 b3 kA5 hk5 _ P37) (by decide) (by decide) (by decide) rfl rfl (by decide) (by decide) (argsL := [.long (0 : Int64), .ref (n0 + 0), .int (0 : Int32)]) (rest := []) pd2 rfl rfl rfl (Nat.le_of_eq rfl) (hb hby at_37) (pc' := 40) rfl ?_
    intro T38 X38 e38
    have P38 : HP n0 T38.heap [AC kA5 [.int b0, .int b1, .int b2, .int b3]] := by rw [e38]; exact P37
    refine w_genJ (fun r1 er1 => ?_)
    refine w_lstore (l' := #[.val (.int x0), .val (.long x1), .second, .val (.int (4 : Int32)), .val (.ref (n0 + 0)), .val (.long r1), .second, .unset, .unset]) X38 hx (hb hby at_40) rfl (pc' := 42) rfl ?_
    refine w_lload X38 hx (hb hby at_42) rfl (pc' := 44) rfl ?_
    refine w_aload X38 hx (hb hby at_44) rfl rfl (pc' := 46) rfl ?_
    refine w_iconst (v := (1 : Int32)) X38 hx (hb hby at_46) rfl (pc' := 47) rfl ?_
    refine w_callP (W := 0) X38 hx hZ rfl hown hml.symm (wd6 hw) (wd7 hw) (wd8 hw) (wd9 hw) (rm_st4_1 l Z a0 hw [] n0 r1 b0 b1 b2 b3 kA5 hk5 _ P38) (by decide) (by decide) (by decide) rfl rfl (by decide) (by decide) (argsL := [.long r1, .ref (n0 + 0), .int (1 : Int32)]) (rest := []) pd2 rfl rfl rfl (Nat.le_of_eq rfl) (hb hby at_47) (pc' := 50) rfl ?_
    intro T39 X39 e39
    have P39 : HP n0 T39.heap [AC kA5 [.int b0, .int b1, .int b2, .int b3]] := by rw [e39]; exact P38
    refine w_genJ (fun r2 er2 => ?_)
    refine w_lstore (l' := #[.val (.int x0), .val (.long x1), .second, .val (.int (4 : Int32)), .val (.ref (n0 + 0)), .val (.long r2), .second, .unset, .unset]) X39 hx (hb hby at_50) rfl (pc' := 52) rfl ?_
    refine w_lload X39 hx (hb hby at_52) rfl (pc' := 54) rfl ?_
    refine w_aload X39 hx (hb hby at_54) rfl rfl (pc' := 56) rfl ?_
    refine w_iconst (v := (2 : Int32)) X39 hx (hb hby at_56) rfl (pc' := 57) rfl ?_
    refine w_callP (W := 0) X39 hx hZ rfl hown hml.symm (wd6 hw) (wd7 hw) (wd8 hw) (wd9 hw) (rm_st4_2 l Z a0 hw [] n0 r2 b0 b1 b2 b3 kA5 hk5 _ P39) (by decide) (by decide) (by decide) rfl rfl (by decide) (by decide) (argsL := [.long r2, .ref (n0 + 0), .int (2 : Int32)]) (rest := []) pd2 rfl rfl rfl (Nat.le_of_eq rfl) (hb hby at_57) (pc' := 60) rfl ?_
    intro T40 X40 e40
    have P40 : HP n0 T40.heap [AC kA5 [.int b0, .int b1, .int b2, .int b3]] := by rw [e40]; exact P39
    refine w_genJ (fun r3 er3 => ?_)
    refine w_lstore (l' := #[.val (.int x0), .val (.long x1), .second, .val (.int (4 : Int32)), .val (.ref (n0 + 0)), .val (.long r3), .second, .unset, .unset]) X40 hx (hb hby at_60) rfl (pc' := 62) rfl ?_
    refine w_lload X40 hx (hb hby at_62) rfl (pc' := 64) rfl ?_
    refine w_aload X40 hx (hb hby at_64) rfl rfl (pc' := 66) rfl ?_
    refine w_iconst (v := (3 : Int32)) X40 hx (hb hby at_66) rfl (pc' := 67) rfl ?_
    refine w_callP (W := 0) X40 hx hZ rfl hown hml.symm (wd6 hw) (wd7 hw) (wd8 hw) (wd9 hw) (rm_st4_3 l Z a0 hw [] n0 r3 b0 b1 b2 b3 kA5 hk5 _ P40) (by decide) (by decide) (by decide) rfl rfl (by decide) (by decide) (argsL := [.long r3, .ref (n0 + 0), .int (3 : Int32)]) (rest := []) pd2 rfl rfl rfl (Nat.le_of_eq rfl) (hb hby at_67) (pc' := 70) rfl ?_
    intro T41 X41 e41
    have P41 : HP n0 T41.heap [AC kA5 [.int b0, .int b1, .int b2, .int b3]] := by rw [e41]; exact P40
    refine w_genJ (fun r4 er4 => ?_)
    refine w_lstore (l' := #[.val (.int x0), .val (.long x1), .second, .val (.int (4 : Int32)), .val (.ref (n0 + 0)), .val (.long r4), .second, .unset, .unset]) X41 hx (hb hby at_70) rfl (pc' := 72) rfl ?_
    refine w_lload X41 hx (hb hby at_72) rfl (pc' := 74) rfl ?_
    refine w_aload X41 hx (hb hby at_74) rfl rfl (pc' := 76) rfl ?_
    refine w_iconst (v := (4 : Int32)) X41 hx (hb hby at_76) rfl (pc' := 77) rfl ?_
    refine w_callP (W := 0) X41 hx hZ rfl hown hml.symm (wd6 hw) (wd7 hw) (wd8 hw) (wd9 hw) (rm_st4_4 l Z a0 hw [] n0 r4 b0 b1 b2 b3 kA5 hk5 _ P41) (by decide) (by decide) (by decide) rfl rfl (by decide) (by decide) (argsL := [.long r4, .ref (n0 + 0), .int (4 : Int32)]) (rest := []) pd2 rfl rfl rfl (Nat.le_of_eq rfl) (hb hby at_77) (pc' := 80) rfl ?_
    intro T42 X42 e42
    have P42 : HP n0 T42.heap [AC kA5 [.int b0, .int b1, .int b2, .int b3]] := by rw [e42]; exact P41
    refine w_genJ (fun r5 er5 => ?_)
    refine w_lstore (l' := #[.val (.int x0), .val (.long x1), .second, .val (.int (4 : Int32)), .val (.ref (n0 + 0)), .val (.long r5), .second, .unset, .unset]) X42 hx (hb hby at_80) rfl (pc' := 82) rfl ?_
    refine w_lload X42 hx (hb hby at_82) rfl (pc' := 84) rfl ?_
    refine w_aload X42 hx (hb hby at_84) rfl rfl (pc' := 86) rfl ?_
    refine w_iconst (v := (5 : Int32)) X42 hx (hb hby at_86) rfl (pc' := 87) rfl ?_
    refine w_callP (W := 0) X42 hx hZ rfl hown hml.symm (wd6 hw) (wd7 hw) (wd8 hw) (wd9 hw) (rm_st4_5 l Z a0 hw [] n0 r5 b0 b1 b2 b3 kA5 hk5 _ P42) (by decide) (by decide) (by decide) rfl rfl (by decide) (by decide) (argsL := [.long r5, .ref (n0 + 0), .int (5 : Int32)]) (rest := []) pd2 rfl rfl rfl (Nat.le_of_eq rfl) (hb hby at_87) (pc' := 90) rfl ?_
    intro T43 X43 e43
    have P43 : HP n0 T43.heap [AC kA5 [.int b0, .int b1, .int b2, .int b3]] := by rw [e43]; exact P42
    refine w_genJ (fun r6 er6 => ?_)
    refine w_lstore (l' := #[.val (.int x0), .val (.long x1), .second, .val (.int (4 : Int32)), .val (.ref (n0 + 0)), .val (.long r6), .second, .unset, .unset]) X43 hx (hb hby at_90) rfl (pc' := 92) rfl ?_
    refine w_lload X43 hx (hb hby at_92) rfl (pc' := 94) rfl ?_
    refine w_aload X43 hx (hb hby at_94) rfl rfl (pc' := 96) rfl ?_
    refine w_bipush (v := (6 : Int32)) X43 hx (hb hby at_96) rfl (pc' := 98) rfl ?_
    refine w_callP (W := 0) X43 hx hZ rfl hown hml.symm (wd6 hw) (wd7 hw) (wd8 hw) (wd9 hw) (rm_st4_6 l Z a0 hw [] n0 r6 b0 b1 b2 b3 kA5 hk5 _ P43) (by decide) (by decide) (by decide) rfl rfl (by decide) (by decide) (argsL := [.long r6, .ref (n0 + 0), .int (6 : Int32)]) (rest := []) pd2 rfl rfl rfl (Nat.le_of_eq rfl) (hb hby at_98) (pc' := 101) rfl ?_
    intro T44 X44 e44
    have P44 : HP n0 T44.heap [AC kA5 [.int b0, .int b1, .int b2, .int b3]] := by rw [e44]; exact P43
    refine w_genJ (fun r7 er7 => ?_)
    refine w_lstore (l' := #[.val (.int x0), .val (.long x1), .second, .val (.int (4 : Int32)), .val (.ref (n0 + 0)), .val (.long r7), .second, .unset, .unset]) X44 hx (hb hby at_101) rfl (pc' := 103) rfl ?_
    refine w_lload X44 hx (hb hby at_103) rfl (pc' := 105) rfl ?_
    refine w_aload X44 hx (hb hby at_105) rfl rfl (pc' := 107) rfl ?_
    refine w_bipush (v := (7 : Int32)) X44 hx (hb hby at_107) rfl (pc' := 109) rfl ?_
    refine w_callP (W := 0) X44 hx hZ rfl hown hml.symm (wd6 hw) (wd7 hw) (wd8 hw) (wd9 hw) (rm_st4_7 l Z a0 hw [] n0 r7 b0 b1 b2 b3 kA5 hk5 _ P44) (by decide) (by decide) (by decide) rfl rfl (by decide) (by decide) (argsL := [.long r7, .ref (n0 + 0), .int (7 : Int32)]) (rest := []) pd2 rfl rfl rfl (Nat.le_of_eq rfl) (hb hby at_109) (pc' := 112) rfl ?_
    intro T45 X45 e45
    have P45 : HP n0 T45.heap [AC kA5 [.int b0, .int b1, .int b2, .int b3]] := by rw [e45]; exact P44
    refine w_genJ (fun r8 er8 => ?_)
    refine w_lstore (l' := #[.val (.int x0), .val (.long x1), .second, .val (.int (4 : Int32)), .val (.ref (n0 + 0)), .val (.long r8), .second, .unset, .unset]) X45 hx (hb hby at_112) rfl (pc' := 114) rfl ?_
    refine w_iloadN X45 hx (hb hby at_114) rfl (pc' := 115) rfl ?_
    refine w_bipush (v := (8 : Int32)) X45 hx (hb hby at_115) rfl (pc' := 117) rfl ?_
    refine w_icmp_ne X45 hx (hb hby at_117) (by decide) (pcY := 126) (by decide) (pc' := 120) rfl (fun h22 => ?_) (fun h22 => absurd h22 (by decide))
    refine w_lloadN X45 hx (hb hby at_126) rfl (pc' := 127) rfl ?_
    refine w_lconst (v := (1 : Int64)) X45 hx (hb hby at_127) rfl (pc' := 128) rfl ?_
    refine w_bipush (v := (8 : Int32)) X45 hx (hb hby at_128) rfl (pc' := 130) rfl ?_
    refine w_iloadN X45 hx (hb hby at_130) rfl (pc' := 131) rfl ?_
    refine w_imul X45 hx (hb hby at_131) (pc' := 132) rfl ?_
    refine w_eqI (z := (32 : Int32)) (by decide) ?_
    refine w_lshl X45 hx (hb hby at_132) (pc' := 133) rfl ?_
    refine w_eqJ (z := (4294967296 : Int64)) (by decide) ?_
    refine w_lconst (v := (1 : Int64)) X45 hx (hb hby at_133) rfl (pc' := 134) rfl ?_
    refine w_lsub X45 hx (hb hby at_134) (pc' := 135) rfl ?_
    refine w_eqJ (z := (4294967295 : Int64)) (by decide) ?_
    refine w_land X45 hx (hb hby at_135) (pc' := 136) rfl ?_
    refine w_lstore (l' := #[.val (.int x0), .val (.long x1), .second, .val (.int (4 : Int32)), .val (.ref (n0 + 0)), .val (.long r8), .second, .val (.long (x1 &&& (4294967295 : Int64))), .second]) X45 hx (hb hby at_136) rfl (pc' := 138) rfl ?_
    refine w_lload X45 hx (hb hby at_138) rfl (pc' := 140) rfl ?_
    refine w_lload X45 hx (hb hby at_140) rfl (pc' := 142) rfl ?_
    refine w_lcmp_ne X45 hx (hb hby at_142) rfl (hb hby at_143) (by decide) (pcY := 150) (by decide) (pc' := 146) rfl (fun h23 => absurd (own_u4 x1 b0 b1 b2 b3 r1 r2 r3 r4 r5 r6 r7 r8 eb0 eb1 eb2 eb3 er1 er2 er3 er4 er5 er6 er7 er8) h23) (fun h23 => ?_)
    refine w_iconst (v := (1 : Int32)) X45 hx (hb hby at_146) rfl (pc' := 147) rfl ?_
    refine w_goto X45 hx (hb hby at_147) (by decide) (pc' := 151) (by decide) ?_
    exact w_ret_n (t := .boolean) X45 hx hret hlk (by simp) (hb hby at_151) (z' := (1 : Int32)) rfl (by decide) (by decide) ⟨rfl, N5⟩
  · refine w_eqI (z := (5 : Int32)) g5 ?_
    refine w_istoreN (l' := #[.val (.int x0), .val (.long x1), .second, .val (.int (5 : Int32)), .unset, .unset, .unset, .unset, .unset]) X0 hx (hb hby at_7) rfl (pc' := 8) rfl ?_
    refine w_iloadN X0 hx (hb hby at_8) rfl (pc' := 9) rfl ?_
    refine w_lloadN X0 hx (hb hby at_9) rfl (pc' := 10) rfl ?_
    refine own_call (W := 0) X0 hx hZ rfl hown hml.symm (wd1 hw) (wd2 hw) (wd3 hw) (wd4 hw) (rm1_5 l Z a0 hw [] n0 x1 _ P0) (by decide) (by decide) (by decide) (by decide) (by decide) (argsL := [.int (5 : Int32), .long x1]) (rest := []) pd1 rfl rfl rfl (Nat.le_of_eq rfl) (hb hby at_10) (pc' := 13) rfl ?_
    intro _ T46 L6 X46 hq
    obtain ⟨rfl, N6, kA6, hk6, P46⟩ := hq
    replace N6 := Fr.app N0 N6
    replace P46 : HP n0 T46.heap [AC kA6 [.int (nar .byte (Int8.toInt32 (Int32.toInt8 (Int64.toInt32 (XT.ushrL x1 (32 : Int32)))))), .int (nar .byte (Int8.toInt32 (Int32.toInt8 (Int64.toInt32 (XT.ushrL x1 (24 : Int32)))))), .int (nar .byte (Int8.toInt32 (Int32.toInt8 (Int64.toInt32 (XT.ushrL x1 (16 : Int32)))))), .int (nar .byte (Int8.toInt32 (Int32.toInt8 (Int64.toInt32 (XT.ushrL x1 (8 : Int32)))))), .int (nar .byte (Int8.toInt32 (Int32.toInt8 (Int64.toInt32 (XT.ushrL x1 (0 : Int32))))))]] := P46
    obtain ⟨b0, eb0⟩ : ∃ z : Int32, z = (nar .byte (Int8.toInt32 (Int32.toInt8 (Int64.toInt32 (XT.ushrL x1 (32 : Int32)))))) := ⟨_, rfl⟩
    obtain ⟨b1, eb1⟩ : ∃ z : Int32, z = (nar .byte (Int8.toInt32 (Int32.toInt8 (Int64.toInt32 (XT.ushrL x1 (24 : Int32)))))) := ⟨_, rfl⟩
    obtain ⟨b2, eb2⟩ : ∃ z : Int32, z = (nar .byte (Int8.toInt32 (Int32.toInt8 (Int64.toInt32 (XT.ushrL x1 (16 : Int32)))))) := ⟨_, rfl⟩
    obtain ⟨b3, eb3⟩ : ∃ z : Int32, z = (nar .byte (Int8.toInt32 (Int32.toInt8 (Int64.toInt32 (XT.ushrL x1 (8 : Int32)))))) := ⟨_, rfl⟩
    obtain ⟨b4, eb4⟩ : ∃ z : Int32, z = (nar .byte (Int8.toInt32 (Int32.toInt8 (Int64.toInt32 (XT.ushrL x1 (0 : Int32)))))) := ⟨_, rfl⟩
    replace P46 : HP n0 T46.heap [AC kA6 [.int b0, .int b1, .int b2, .int b3, .int b4]] := by rw [eb0, eb1, eb2, eb3, eb4]; exact P46
    refine w_astore (l' := #[.val (.int x0), .val (.long x1), .second, .val (.int (5 : Int32)), .val (.ref (n0 + 0)), .unset, .unset, .unset, .unset]) X46 hx (hb hby at_13) rfl rfl (pc' := 15) rfl ?_
    refine w_aload X46 hx (hb hby at_15) rfl rfl (pc' := 17) rfl ?_
    refine w_ifnullN X46 hx (hb hby at_17) (pc' := 20) rfl ?_
    refine w_aload X46 hx (hb hby at_20) rfl rfl (pc' := 22) rfl ?_
    refine w_arrlen (i := 0) X46 hx hZ P46 rfl hk6 (hb hby at_22) (z := (5 : Int32)) rfl (pc' := 23) rfl ?_
    refine w_iloadN X46 hx (hb hby at_23) rfl (pc' := 24) rfl ?_
    refine w_icmp_eq X46 hx (hb hby at_24) (by decide) (pcY := 29) (by decide) (pc' := 27) rfl (fun h24 => ?_) (fun h24 => absurd h24 (by decide))
    refine w_lconst (v := (0 : Int64)) X46 hx (hb hby at_29) rfl (pc' := 30) rfl ?_
    refine w_lstore (l' := #[.val (.int x0), .val (.long x1), .second, .val (.int (5 : Int32)), .val (.ref (n0 + 0)), .val (.long (0 : Int64)), .second, .unset, .unset]) X46 hx (hb hby at_30) rfl (pc' := 32) rfl ?_
    refine w_lload X46 hx (hb hby at_32) rfl (pc' := 34) rfl ?_
    refine w_aload X46 hx (hb hby at_34) rfl rfl (pc' := 36) rfl ?_
    refine w_iconst (v := (0 : Int32)) X46 hx (hb hby at_36) rfl (pc' := 37) rfl ?_
    refine w_callP (W := 0) X46 hx hZ rfl hown hml.symm (wd6 hw) (wd7 hw) (wd8 hw) (wd9 hw) (rm_st5_0 l Z a0 hw [] n0 (0 : Int64) b0 b1 b2 b3 b4 kA6 hk6 _ P46) (by decide) (by decide) (by decide) rfl rfl (by decide) (by decide) (argsL := [.long (0 : Int64), .ref (n0 + 0), .int (0 : Int32)]) (rest := []) pd2 rfl rfl rfl (Nat.le_of_eq rfl) (hb hby at_37) (pc' := 40) rfl ?_
    intro T47 X47 e47
    have P47 : HP n0 T47.heap [AC kA6 [.int b0, .int b1, .int b2, .int b3, .int b4]] := by rw [e47]; exact P46
    refine w_genJ (fun r1 er1 => ?_)
    refine w_lstore (l' := #[.val (.int x0), .val (.long x1), .second, .val (.int (5 : Int32)), .val (.ref (n0 + 0)), .val (.long r1), .second, .unset, .unset]) X47 hx (hb hby at_40) rfl (pc' := 42) rfl ?_
    refine w_lload X47 hx (hb hby at_42) rfl (pc' := 44) rfl ?_
    refine w_aload X47 hx (hb hby at_44) rfl rfl (pc' := 46) rfl ?_
    refine w_iconst (v := (1 : Int32)) X47 hx (hb hby at_46) rfl (pc' := 47) rfl ?_
    refine w_callP (W := 0) X47 hx hZ rfl hown hml.symm (wd6 hw) (wd7 hw) (wd8 hw) (wd9 hw) (rm_st5_1 l Z a0 hw [] n0 r1 b0 b1 b2 b3 b4 kA6 hk6 _ P47) (by decide) (by decide) (by decide) rfl rfl (by decide) (by decide) (argsL := [.long r1, .ref (n0 + 0), .int (1 : Int32)]) (rest := []) pd2 rfl rfl rfl (Nat.le_of_eq rfl) (hb hby at_47) (pc' := 50) rfl ?_
    intro T48 X48 e48
    have P48 : HP n0 T48.heap [AC kA6 [.int b0, .int b1, .int b2, .int b3, .int b4]] := by rw [e48]; exact P47
    refine w_genJ (fun r2 er2 => ?_)
    refine w_lstore (l' := #[.val (.int x0), .val (.long x1), .second, .val (.int (5 : Int32)), .val (.ref (n0 + 0)), .val (.long r2), .second, .unset, .unset]) X48 hx (hb hby at_50) rfl (pc' := 52) rfl ?_
    refine w_lload X48 hx (hb hby at_52) rfl (pc' := 54) rfl ?_
    refine w_aload X48 hx (hb hby at_54) rfl rfl (pc' := 56) rfl ?_
    refine w_iconst (v := (2 : Int32)) X48 hx (hb hby at_56) rfl (pc' := 57) rfl ?_
    refine w_callP (W := 0) X48 hx hZ rfl hown hml.symm (wd6 hw) (wd7 hw) (wd8 hw) (wd9 hw) (rm_st5_2 l Z a0 hw [] n0 r2 b0 b1 b2 b3 b4 kA6 hk6 _ P48) (by decide) (by decide) (by decide) rfl rfl (by decide) (by decide) (argsL := [.long r2, .ref (n0 + 0), .int (2 : Int32)]) (rest := []) pd2 rfl rfl rfl (Nat.le_of_eq rfl) (hb hby at_57) (pc' := 60) rfl ?_
    intro T49 X49 e49
    have P49 : HP n0 T49.heap [AC kA6 [.int b0, .int b1, .int b2, .int b3, .int b4]] := by rw [e49]; exact P48
    refine w_genJ (fun r3 er3 => ?_)
    refine w_lstore (l' := #[.val (.int x0), .val (.long x1), .second, .val (.int (5 : Int32)), .val (.ref (n0 + 0)), .val (.long r3), .second, .unset, .unset]) X49 hx (hb hby at_60) rfl (pc' := 62) rfl ?_
    refine w_lload X49 hx (hb hby at_62) rfl (pc' := 64) rfl ?_
    refine w_aload X49 hx (hb hby at_64) rfl rfl (pc' := 66) rfl ?_
    refine w_iconst (v := (3 : Int32)) X49 hx (hb hby at_66) rfl (pc' := 67) rfl ?_
    refine w_callP (W := 0) X49 hx hZ rfl hown hml.symm (wd6 hw) (wd7 hw) (wd8 hw) (wd9 hw) (rm_st5_3 l Z a0 hw [] n0 r3 b0 b1 b2 b3 b4 kA6 hk6 _ P49) (by decide) (by decide) (by decide) rfl rfl (by decide) (by decide) (argsL := [.long r3, .ref (n0 + 0), .int (3 : Int32)]) (rest := []) pd2 rfl rfl rfl (Nat.le_of_eq rfl) (hb hby at_67) (pc' := 70) rfl ?_
    intro T50 X50 e50
    have P50 : HP n0 T50.heap [AC kA6 [.int b0, .int b1, .int b2, .int b3, .int b4]] := by rw [e50]; exact P49
    refine w_genJ (fun r4 er4 => ?_)
    refine w_lstore (l' := #[.val (.int x0), .val (.long x1), .second, .val (.int (5 : Int32)), .val (.ref (n0 + 0)), .val (.long r4), .second, .unset, .unset]) X50 hx (hb hby at_70) rfl (pc' := 72) rfl ?_
    refine w_lload X50 hx (hb hby at_72) rfl (pc' := 74) rfl ?_
    refine w_aload X50 hx (hb hby at_74) rfl rfl (pc' := 76) rfl ?_
    refine w_iconst (v := (4 : Int32)) X50 hx (hb hby at_76) rfl (pc' := 77) rfl ?_
    refine w_callP (W := 0) X50 hx hZ rfl hown hml.symm (wd6 hw) (wd7 hw) (wd8 hw) (wd9 hw) (rm_st5_4 l Z a0 hw [] n0 r4 b0 b1 b2 b3 b4 kA6 hk6 _ P50) (by decide) (by decide) (by decide) rfl rfl (by decide) (by decide) (argsL := [.long r4, .ref (n0 + 0), .int (4 : Int32)]) (rest := []) pd2 rfl rfl rfl (Nat.le_of_eq rfl) (hb hby at_77) (pc' := 80) rfl ?_
    intro T51 X51 e51
    have P51 : HP n0 T51.heap [AC kA6 [.int b0, .int b1, .int b2, .int b3, .int b4]] := by rw [e51]; exact P50
    refine w_genJ (fun r5 er5 => ?_)
    refine w_lstore (l' := #[.val (.int x0), .val (.long x1), .second, .val (.int (5 : Int32)), .val (.ref (n0 + 0)), .val (.long r5), .second, .unset, .unset]) X51 hx (hb hby at_80) rfl (pc' := 82) rfl ?_
    refine w_lload X51 hx (hb hby at_82) rfl (pc' := 84) rfl ?_
    refine w_aload X51 hx (hb hby at_84) rfl rfl (pc' := 86) rfl ?_
    refine w_iconst (v := (5 : Int32)) X51 hx (hb hby at_86) rfl (pc' := 87) rfl ?_
    refine w_callP (W := 0) X51 hx hZ rfl hown hml.symm (wd6 hw) (wd7 hw) (wd8 hw) (wd9 hw) (rm_st5_5 l Z a0 hw [] n0 r5 b0 b1 b2 b3 b4 kA6 hk6 _ P51) (by decide) (by decide) (by decide) rfl rfl (by decide) (by decide) (argsL := [.long r5, .ref (n0 + 0), .int (5 : Int32)]) (rest := []) pd2 rfl rfl rfl (Nat.le_of_eq rfl) (hb hby at_87) (pc' := 90) rfl ?_
    intro T52 X52 e52
    have P52 : HP n0 T52.heap [AC kA6 [.int b0, .int b1, .int b2, .int b3, .int b4]] := by rw [e52]; exact P51
    refine w_genJ (fun r6 er6 => ?_)
    refine w_lstore (l' := #[.val (.int x0), .val (.long x1), .second, .val (.int (5 : Int32)), .val (.ref (n0 + 0)), .val (.long r6), .second, .unset, .unset]) X52 hx (hb hby at_90) rfl (pc' := 92) rfl ?_
    refine w_lload X52 hx (hb hby at_92) rfl (pc' := 94) rfl ?_
    refine w_aload X52 hx (hb hby at_94) rfl rfl (pc' := 96) rfl ?_
    refine w_bipush (v := (6 : Int32)) X52 hx (hb hby at_96) rfl (pc' := 98) rfl ?_
    refine w_callP (W := 0) X52 hx hZ rfl hown hml.symm (wd6 hw) (wd7 hw) (wd8 hw) (wd9 hw) (rm_st5_6 l Z a0 hw [] n0 r6 b0 b1 b2 b3 b4 kA6 hk6 _ P52) (by decide) (by decide) (by decide) rfl rfl (by decide) (by decide) (argsL := [.long r6, .ref (n0 + 0), .int (6 : Int32)]) (rest := []) pd2 rfl rfl rfl (Nat.le_of_eq rfl) (hb hby at_98) (pc' := 101) rfl ?_
    intro T53 X53 e53
    have P53 : HP n0 T53.heap [AC kA6 [.int b0, .int b1, .int b2, .int b3, .int b4]] := by rw [e53]; exact P52
    refine w_genJ (fun r7 er7 => ?_)
    refine w_lstore (l' := #[.val (.int x0), .val (.long x1), .second, .val (.int (5 : Int32)), .val (.ref (n0 + 0)), .val (.long r7), .second, .unset, .unset]) X53 hx (hb hby at_101) rfl (pc' := 103) rfl ?_
    refine w_lload X53 hx (hb hby at_103) rfl (pc' := 105) rfl ?_
    refine w_aload X53 hx (hb hby at_105) rfl rfl (pc' := 107) rfl ?_
    refine w_bipush (v := (7 : Int32)) X53 hx (hb hby at_107) rfl (pc' := 109) rfl ?_
    refine w_callP (W := 0) X53 hx hZ rfl hown hml.symm (wd6 hw) (wd7 hw) (wd8 hw) (wd9 hw) (rm_st5_7 l Z a0 hw [] n0 r7 b0 b1 b2 b3 b4 kA6 hk6 _ P53) (by decide) (by decide) (by decide) rfl rfl (by decide) (by decide) (argsL := [.long r7, .ref (n0 + 0), .int (7 : Int32)]) (rest := []) pd2 rfl rfl rfl (Nat.le_of_eq rfl) (hb hby at_109) (pc' := 112) rfl ?_
    intro T54 X54 e54
    have P54 : HP n0 T54.heap [AC kA6 [.int b0, .int b1, .int b2, .int b3, .int b4]] := by rw [e54]; exact P53
    refine w_genJ (fun r8 er8 => ?_)
    refine w_lstore (l' := #[.val (.int x0), .val (.long x1), .second, .val (.int (5 : Int32)), .val (.ref (n0 + 0)), .val (.long r8), .second, .unset, .unset]) X54 hx (hb hby at_112) rfl (pc' := 114) rfl ?_
    refine w_iloadN X54 hx (hb hby at_114) rfl (pc' := 115) rfl ?_
    refine w_bipush (v := (8 : Int32)) X54 hx (hb hby at_115) rfl (pc' := 117) rfl ?_
    refine w_icmp_ne X54 hx (hb hby at_117) (by decide) (pcY := 126) (by decide) (pc' := 120) rfl (fun h25 => ?_) (fun h25 => absurd h25 (by decide))
    refine w_lloadN X54 hx (hb hby at_126) rfl (pc' := 127) rfl ?_
    refine w_lconst (v := (1 : Int64)) X54 hx (hb hby at_127) rfl (pc' := 128) rfl ?_
    refine w_bipush (v := (8 : Int32)) X54 hx (hb hby at_128) rfl (pc' := 130) rfl ?_
    refine w_iloadN X54 hx (hb hby at_130) rfl (pc' := 131) rfl ?_
    refine w_imul X54 hx (hb hby at_131) (pc' := 132) rfl ?_
    refine w_eqI (z := (40 : Int32)) (by decide) ?_
    refine w_lshl X54 hx (hb hby at_132) (pc' := 133) rfl ?_
    refine w_eqJ (z := (1099511627776 : Int64)) (by decide) ?_
    refine w_lconst (v := (1 : Int64)) X54 hx (hb hby at_133) rfl (pc' := 134) rfl ?_
    refine w_lsub X54 hx (hb hby at_134) (pc' := 135) rfl ?_
    refine w_eqJ (z := (1099511627775 : Int64)) (by decide) ?_
    refine w_land X54 hx (hb hby at_135) (pc' := 136) rfl ?_
    refine w_lstore (l' := #[.val (.int x0), .val (.long x1), .second, .val (.int (5 : Int32)), .val (.ref (n0 + 0)), .val (.long r8), .second, .val (.long (x1 &&& (1099511627775 : Int64))), .second]) X54 hx (hb hby at_136) rfl (pc' := 138) rfl ?_
    refine w_lload X54 hx (hb hby at_138) rfl (pc' := 140) rfl ?_
    refine w_lload X54 hx (hb hby at_140) rfl (pc' := 142) rfl ?_
    refine w_lcmp_ne X54 hx (hb hby at_142) rfl (hb hby at_143) (by decide) (pcY := 150) (by decide) (pc' := 146) rfl (fun h26 => absurd (own_u5 x1 b0 b1 b2 b3 b4 r1 r2 r3 r4 r5 r6 r7 r8 eb0 eb1 eb2 eb3 eb4 er1 er2 er3 er4 er5 er6 er7 er8) h26) (fun h26 => ?_)
    refine w_iconst (v := (1 : Int32)) X54 hx (hb hby at_146) rfl (pc' := 147) rfl ?_
    refine w_goto X54 hx (hb hby at_147) (by decide) (pc' := 151) (by decide) ?_
    exact w_ret_n (t := .boolean) X54 hx hret hlk (by simp) (hb hby at_151) (z' := (1 : Int32)) rfl (by decide) (by decide) ⟨rfl, N6⟩
  · refine w_eqI (z := (6 : Int32)) g6 ?_
    refine w_istoreN (l' := #[.val (.int x0), .val (.long x1), .second, .val (.int (6 : Int32)), .unset, .unset, .unset, .unset, .unset]) X0 hx (hb hby at_7) rfl (pc' := 8) rfl ?_
    refine w_iloadN X0 hx (hb hby at_8) rfl (pc' := 9) rfl ?_
    refine w_lloadN X0 hx (hb hby at_9) rfl (pc' := 10) rfl ?_
    refine own_call (W := 0) X0 hx hZ rfl hown hml.symm (wd1 hw) (wd2 hw) (wd3 hw) (wd4 hw) (rm1_6 l Z a0 hw [] n0 x1 _ P0) (by decide) (by decide) (by decide) (by decide) (by decide) (argsL := [.int (6 : Int32), .long x1]) (rest := []) pd1 rfl rfl rfl (Nat.le_of_eq rfl) (hb hby at_10) (pc' := 13) rfl ?_
    intro _ T55 L7 X55 hq
    obtain ⟨rfl, N7, kA7, hk7, P55⟩ := hq
    replace N7 := Fr.app N0 N7
    replace P55 : HP n0 T55.heap [AC kA7 [.int (nar .byte (Int8.toInt32 (Int32.toInt8 (Int64.toInt32 (XT.ushrL x1 (40 : Int32)))))), .int (nar .byte (Int8.toInt32 (Int32.toInt8 (Int64.toInt32 (XT.ushrL x1 (32 : Int32)))))), .int (nar .byte (Int8.toInt32 (Int32.toInt8 (Int64.toInt32 (XT.ushrL x1 (24 : Int32)))))), .int (nar .byte (Int8.toInt32 (Int32.toInt8 (Int64.toInt32 (XT.ushrL x1 (16 : Int32)))))), .int (nar .byte (Int8.toInt32 (Int32.toInt8 (Int64.toInt32 (XT.ushrL x1 (8 : Int32)))))), .int (nar .byte (Int8.toInt32 (Int32.toInt8 (Int64.toInt32 (XT.ushrL x1 (0 : Int32))))))]] := P55
    obtain ⟨b0, eb0⟩ : ∃ z : Int32, z = (nar .byte (Int8.toInt32 (Int32.toInt8 (Int64.toInt32 (XT.ushrL x1 (40 : Int32)))))) := ⟨_, rfl⟩
    obtain ⟨b1, eb1⟩ : ∃ z : Int32, z = (nar .byte (Int8.toInt32 (Int32.toInt8 (Int64.toInt32 (XT.ushrL x1 (32 : Int32)))))) := ⟨_, rfl⟩
    obtain ⟨b2, eb2⟩ : ∃ z : Int32, z = (nar .byte (Int8.toInt32 (Int32.toInt8 (Int64.toInt32 (XT.ushrL x1 (24 : Int32)))))) := ⟨_, rfl⟩
    obtain ⟨b3, eb3⟩ : ∃ z : Int32, z = (nar .byte (Int8.toInt32 (Int32.toInt8 (Int64.toInt32 (XT.ushrL x1 (16 : Int32)))))) := ⟨_, rfl⟩
    obtain ⟨b4, eb4⟩ : ∃ z : Int32, z = (nar .byte (Int8.toInt32 (Int32.toInt8 (Int64.toInt32 (XT.ushrL x1 (8 : Int32)))))) := ⟨_, rfl⟩
    obtain ⟨b5, eb5⟩ : ∃ z : Int32, z = (nar .byte (Int8.toInt32 (Int32.toInt8 (Int64.toInt32 (XT.ushrL x1 (0 : Int32)))))) := ⟨_, rfl⟩
    replace P55 : HP n0 T55.heap [AC kA7 [.int b0, .int b1, .int b2, .int b3, .int b4, .int b5]] := by rw [eb0, eb1, eb2, eb3, eb4, eb5]; exact P55
    refine w_astore (l' := #[.val (.int x0), .val (.long x1), .second, .val (.int (6 : Int32)), .val (.ref (n0 + 0)), .unset, .unset, .unset, .unset]) X55 hx (hb hby at_13) rfl rfl (pc' := 15) rfl ?_
    refine w_aload X55 hx (hb hby at_15) rfl rfl (pc' := 17) rfl ?_
    refine w_ifnullN X55 hx (hb hby at_17) (pc' := 20) rfl ?_
    refine w_aload X55 hx (hb hby at_20) rfl rfl (pc' := 22) rfl ?_
    refine w_arrlen (i := 0) X55 hx hZ P55 rfl hk7 (hb hby at_22) (z := (6 : Int32)) rfl (pc' := 23) rfl ?_
    refine w_iloadN X55 hx (hb hby at_23) rfl (pc' := 24) rfl ?_
    refine w_icmp_eq X55 hx (hb hby at_24) (by decide) (pcY := 29) (by decide) (pc' := 27) rfl (fun h27 => ?_) (fun h27 => absurd h27 (by decide))
    refine w_lconst (v := (0 : Int64)) X55 hx (hb hby at_29) rfl (pc' := 30) rfl ?_
    refine w_lstore (l' := #[.val (.int x0), .val (.long x1), .second, .val (.int (6 : Int32)), .val (.ref (n0 + 0)), .val (.long (0 : Int64)), .second, .unset, .unset]) X55 hx (hb hby at_30) rfl (pc' := 32) rfl ?_
    refine w_lload X55 hx (hb hby at_32) rfl (pc' := 34) rfl ?_
    refine w_aload X55 hx (hb hby at_34) rfl rfl (pc' := 36) rfl ?_
    refine w_iconst (v := (0 : Int32)) X55 hx (hb hby at_36) rfl (pc' := 37) rfl ?_
    refine w_callP (W := 0) X55 hx hZ rfl hown hml.symm (wd6 hw) (wd7 hw) (wd8 hw) (wd9 hw) (rm_st6_0 l Z a0 hw [] n0 (0 : Int64) b0 b1 b2 b3 b4 b5 kA7 hk7 _ P55) (by decide) (by decide) (by decide) rfl rfl (by decide) (by decide) (argsL := [.long (0 : Int64), .ref (n0 + 0), .int (0 : Int32)]) (rest := []) pd2 rfl rfl rfl (Nat.le_of_eq rfl) (hb hby at_37) (pc' := 40) rfl ?_
    intro T56 X56 e56
    have P56 : HP n0 T56.heap [AC kA7 [.int b0, .int b1, .int b2, .int b3, .int b4, .int b5]] := by rw [e56]; exact P55
    refine w_genJ (fun r1 er1 => ?_)
    refine w_lstore (l' := #[.val (.int x0), .val (.long x1), .second, .val (.int (6 : Int32)), .val (.ref (n0 + 0)), .val (.long r1), .second, .unset, .unset]) X56 hx (hb hby at_40) rfl (pc' := 42) rfl ?_
    refine w_lload X56 hx (hb hby at_42) rfl (pc' := 44) rfl ?_
    refine w_aload X56 hx (hb hby at_44) rfl rfl (pc' := 46) rfl ?_
    refine w_iconst (v := (1 : Int32)) X56 hx (hb hby at_46) rfl (pc' := 47) rfl ?_
    refine w_callP (W := 0) X56 hx hZ rfl hown hml.symm (wd6 hw) (wd7 hw) (wd8 hw) (wd9 hw) (rm_st6_1 l Z a0 hw [] n0 r1 b0 b1 b2 b3 b4 b5 kA7 hk7 _ P56) (by decide) (by decide) (by decide) rfl rfl (by decide) (by decide) (argsL := [.long r1, .ref (n0 + 0), .int (1 : Int32)]) (rest := []) pd2 rfl rfl rfl (Nat.le_of_eq rfl) (hb hby at_47) (pc' := 50) rfl ?_
    intro T57 X57 e57
    have P57 : HP n0 T57.heap [AC kA7 [.int b0, .int b1, .int b2, .int b3, .int b4, .int b5]] := by rw [e57]; exact P56
    refine w_genJ (fun r2 er2 => ?_)
    refine w_lstore (l' := #[.val (.int x0), .val (.long x1), .second, .val (.int (6 : Int32)), .val (.ref (n0 + 0)), .val (.long r2), .second, .unset, .unset]) X57 hx (hb hby at_50) rfl (pc' := 52) rfl ?_
    refine w_lload X57 hx (hb hby at_52) rfl (pc' := 54) rfl ?_
    refine w_aload X57 hx (hb hby at_54) rfl rfl (pc' := 56) rfl ?_
    refine w_iconst (v := (2 : Int32)) X57 hx (hb hby at_56) rfl (pc' := 57) rfl ?_
    refine w_callP (W := 0) X57 hx hZ rfl hown hml.symm (wd6 hw) (wd7 hw) (wd8 hw) (wd9 hw) (rm_st6_2 l Z a0 hw [] n0 r2 b0 b1 b2 b3 b4 b5 kA7 hk7 _ P57) (by decide) (by decide) (by decide) rfl rfl (by decide) (by decide) (argsL := [.long r2, .ref (n0 + 0), .int (2 : Int32)]) (rest := []) pd2 rfl rfl rfl (Nat.le_of_eq rfl) (hb hby at_57) (pc' := 60) rfl ?_
    intro T58 X58 e58
    have P58 : HP n0 T58.heap [AC kA7 [.int b0, .int b1, .int b2, .int b3, .int b4, .int b5]] := by rw [e58]; exact P57
    refine w_genJ (fun r3 er3 => ?_)
    refine w_lstore (l' := #[.val (.int x0), .val (.long x1), .second, .val (.int (6 : Int32)), .val (.ref (n0 + 0)), .val (.long r3), .second, .unset, .unset]) X58 hx (hb hby at_60) rfl (pc' := 62) rfl ?_
    refine w_lload X58 hx (hb hby at_62) rfl (pc' := 64) rfl ?_
    refine w_aload X58 hx (hb hby at_64) rfl rfl (pc' := 66) rfl ?_
    refine w_iconst (v := (3 : Int32)) X58 hx (hb hby at_66) rfl (pc' := 67) rfl ?_
    refine w_callP (W := 0) X58 hx hZ rfl hown hml.symm (wd6 hw) (wd7 hw) (wd8 hw) (wd9 hw) (rm_st6_3 l Z a0 hw [] n0 r3 b0 b1 b2 b3 b4 b5 kA7 hk7 _ P58) (by decide) (by decide) (by decide) rfl rfl (by decide) (by decide) (argsL := [.long r3, .ref (n0 + 0), .int (3 : Int32)]) (rest := []) pd2 rfl rfl rfl (Nat.le_of_eq rfl) (hb hby at_67) (pc' := 70) rfl ?_
    intro T59 X59 e59
    have P59 : HP n0 T59.heap [AC kA7 [.int b0, .int b1, .int b2, .int b3, .int b4, .int b5]] := by rw [e59]; exact P58
    refine w_genJ (fun r4 er4 => ?_)
    refine w_lstore (l' := #[.val (.int x0), .val (.long x1), .second, .val (.int (6 : Int32)), .val (.ref (n0 + 0)), .val (.long r4), .second, .unset, .unset]) X59 hx (hb hby at_70) rfl (pc' := 72) rfl ?_
    refine w_lload X59 hx (hb hby at_72) rfl (pc' := 74) rfl ?_
    refine w_aload X59 hx (hb hby at_74) rfl rfl (pc' := 76) rfl ?_
    refine w_iconst (v := (4 : Int32)) X59 hx (hb hby at_76) rfl (pc' := 77) rfl ?_
    refine w_callP (W := 0) X59 hx hZ rfl hown hml.symm (wd6 hw) (wd7 hw) (wd8 hw) (wd9 hw) (rm_st6_4 l Z a0 hw [] n0 r4 b0 b1 b2 b3 b4 b5 kA7 hk7 _ P59) (by decide) (by decide) (by decide) rfl rfl (by decide) (by decide) (argsL := [.long r4, .ref (n0 + 0), .int (4 : Int32)]) (rest := []) pd2 rfl rfl rfl (Nat.le_of_eq rfl) (hb hby at_77) (pc' := 80) rfl ?_
    intro T60 X60 e60
    have P60 : HP n0 T60.heap [AC kA7 [.int b0, .int b1, .int b2, .int b3, .int b4, .int b5]] := by rw [e60]; exact P59
    refine w_genJ (fun r5 er5 => ?_)
    refine w_lstore (l' := #[.val (.int x0), .val (.long x1), .second, .val (.int (6 : Int32)), .val (.ref (n0 + 0)), .val (.long r5), .second, .unset, .unset]) X60 hx (hb hby at_80) rfl (pc' := 82) rfl ?_
    refine w_lload X60 hx (hb hby at_82) rfl (pc' := 84) rfl ?_
    refine w_aload X60 hx (hb hby at_84) rfl rfl (pc' := 86) rfl ?_
    refine w_iconst (v := (5 : Int32)) X60 hx (hb hby at_86) rfl (pc' := 87) rfl ?_
    refine w_callP (W := 0) X60 hx hZ rfl hown hml.symm (wd6 hw) (wd7 hw) (wd8 hw) (wd9 hw) (rm_st6_5 l Z a0 hw [] n0 r5 b0 b1 b2 b3 b4 b5 kA7 hk7 _ P60) (by decide) (by decide) (by decide) rfl rfl (by decide) (by decide) (argsL := [.long r5, .ref (n0 + 0), .int (5 : Int32)]) (rest := []) pd2 rfl rfl rfl (Nat.le_of_eq rfl) (hb hby at_87) (pc' := 90) rfl ?_
    intro T61 X61 e61
    have P61 : HP n0 T61.heap [AC kA7 [.int b0, .int b1, .int b2, .int b3, .int b4, .int b5]] := by rw [e61]; exact P60
    refine w_genJ (fun r6 er6 => ?_)
    refine w_lstore (l' := #[.val (.int x0), .val (.long x1), .second, .val (.int (6 : Int32)), .val (.ref (n0 + 0)), .val (.long r6), .second, .unset, .unset]) X61 hx (hb hby at_90) rfl (pc' := 92) rfl ?_
    refine w_lload X61 hx (hb hby at_92) rfl (pc' := 94) rfl ?_
    refine w_aload X61 hx (hb hby at_94) rfl rfl (pc' := 96) rfl ?_
    refine w_bipush (v := (6 : Int32)) X61 hx (hb hby at_96) rfl (pc' := 98) rfl ?_
    refine w_callP (W := 0) X61 hx hZ rfl hown hml.symm (wd6 hw) (wd7 hw) (wd8 hw) (wd9 hw) (rm_st6_6 l Z a0 hw [] n0 r6 b0 b1 b2 b3 b4 b5 kA7 hk7 _ P61) (by decide) (by decide) (by decide) rfl rfl (by decide) (by decide) (argsL := [.long r6, .ref (n0 + 0), .int (6 : Int32)]) (rest := []) pd2 rfl rfl rfl (Nat.le_of_eq rfl) (hb hby at_98) (pc' := 101) rfl ?_
    intro T62 X62 e62
    have P62 : HP n0 T62.heap [AC kA7 [.int b0, .int b1, .int b2, .int b3, .int b4, .int b5]] := by rw [e62]; exact P61
    refine w_genJ (fun r7 er7 => ?_)
    refine w_lstore (l' := #[.val (.int x0), .val (.long x1), .second, .val (.int (6 : Int32)), .val (.ref (n0 + 0)), .val (.long r7), .second, .unset, .unset]) X62 hx (hb hby at_101) rfl (pc' := 103) rfl ?_
    refine w_lload X62 hx (hb hby at_103) rfl (pc' := 105) rfl ?_
    refine w_aload X62 hx (hb hby at_105) rfl rfl (pc' := 107) rfl ?_
    refine w_bipush (v := (7 : Int32)) X62 hx (hb hby at_107) rfl (pc' := 109) rfl ?_
    refine w_callP (W := 0) X62 hx hZ rfl hown hml.symm (wd6 hw) (wd7 hw) (wd8 hw) (wd9 hw) (rm_st6_7 l Z a0 hw [] n0 r7 b0 b1 b2 b3 b4 b5 kA7 hk7 _ P62) (by decide) (by decide) (by decide) rfl rfl (by decide) (by decide) (argsL := [.long r7, .ref (n0 + 0), .int (7 : Int32)]) (rest := []) pd2 rfl rfl rfl (Nat.le_of_eq rfl) (hb hby at_109) (pc' := 112) rfl ?_
    intro T63 X63 e63
    have P63 : HP n0 T63.heap [AC kA7 [.int b0, .int b1, .int b2, .int b3, .int b4, .int b5]] := by rw [e63]; exact P62
    refine w_genJ (fun r8 er8 => ?_)
    refine w_lstore (l' := #[.val (.int x0), .val (.long x1), .second, .val (.int (6 : Int32)), .val (.ref (n0 + 0)), .val (.long r8), .second, .unset, .unset]) X63 hx (hb hby at_112) rfl (pc' := 114) rfl ?_
    refine w_iloadN X63 hx (hb hby at_114) rfl (pc' := 115) rfl ?_
    refine w_bipush (v := (8 : Int32)) X63 hx (hb hby at_115) rfl (pc' := 117) rfl ?_
    refine w_icmp_ne X63 hx (hb hby at_117) (by decide) (pcY := 126) (by decide) (pc' := 120) rfl (fun h28 => ?_) (fun h28 => absurd h28 (by decide))
    refine w_lloadN X63 hx (hb hby at_126) rfl (pc' := 127) rfl ?_
    refine w_lconst (v := (1 : Int64)) X63 hx (hb hby at_127) rfl (pc' := 128) rfl ?_
    refine w_bipush (v := (8 : Int32)) X63 hx (hb hby at_128) rfl (pc' := 130) rfl ?_
    refine w_iloadN X63 hx (hb hby at_130) rfl (pc' := 131) rfl ?_
    refine w_imul X63 hx (hb hby at_131) (pc' := 132) rfl ?_
    refine w_eqI (z := (48 : Int32)) (by decide) ?_
    refine w_lshl X63 hx (hb hby at_132) (pc' := 133) rfl ?_
    refine w_eqJ (z := (281474976710656 : Int64)) (by decide) ?_
    refine w_lconst (v := (1 : Int64)) X63 hx (hb hby at_133) rfl (pc' := 134) rfl ?_
    refine w_lsub X63 hx (hb hby at_134) (pc' := 135) rfl ?_
    refine w_eqJ (z := (281474976710655 : Int64)) (by decide) ?_
    refine w_land X63 hx (hb hby at_135) (pc' := 136) rfl ?_
    refine w_lstore (l' := #[.val (.int x0), .val (.long x1), .second, .val (.int (6 : Int32)), .val (.ref (n0 + 0)), .val (.long r8), .second, .val (.long (x1 &&& (281474976710655 : Int64))), .second]) X63 hx (hb hby at_136) rfl (pc' := 138) rfl ?_
    refine w_lload X63 hx (hb hby at_138) rfl (pc' := 140) rfl ?_
    refine w_lload X63 hx (hb hby at_140) rfl (pc' := 142) rfl ?_
    refine w_lcmp_ne X63 hx (hb hby at_142) rfl (hb hby at_143) (by decide) (pcY := 150) (by decide) (pc' := 146) rfl (fun h29 => absurd (own_u6 x1 b0 b1 b2 b3 b4 b5 r1 r2 r3 r4 r5 r6 r7 r8 eb0 eb1 eb2 eb3 eb4 eb5 er1 er2 er3 er4 er5 er6 er7 er8) h29) (fun h29 => ?_)
    refine w_iconst (v := (1 : Int32)) X63 hx (hb hby at_146) rfl (pc' := 147) rfl ?_
    refine w_goto X63 hx (hb hby at_147) (by decide) (pc' := 151) (by decide) ?_
    exact w_ret_n (t := .boolean) X63 hx hret hlk (by simp) (hb hby at_151) (z' := (1 : Int32)) rfl (by decide) (by decide) ⟨rfl, N7⟩
  · refine w_eqI (z := (7 : Int32)) g7 ?_
    refine w_istoreN (l' := #[.val (.int x0), .val (.long x1), .second, .val (.int (7 : Int32)), .unset, .unset, .unset, .unset, .unset]) X0 hx (hb hby at_7) rfl (pc' := 8) rfl ?_
    refine w_iloadN X0 hx (hb hby at_8) rfl (pc' := 9) rfl ?_
    refine w_lloadN X0 hx (hb hby at_9) rfl (pc' := 10) rfl ?_
    refine own_call (W := 0) X0 hx hZ rfl hown hml.symm (wd1 hw) (wd2 hw) (wd3 hw) (wd4 hw) (rm1_7 l Z a0 hw [] n0 x1 _ P0) (by decide) (by decide) (by decide) (by decide) (by decide) (argsL := [.int (7 : Int32), .long x1]) (rest := []) pd1 rfl rfl rfl (Nat.le_of_eq rfl) (hb hby at_10) (pc' := 13) rfl ?_
    intro _ T64 L8 X64 hq
    obtain ⟨rfl, N8, kA8, hk8, P64⟩ := hq
    replace N8 := Fr.app N0 N8
    replace P64 : HP n0 T64.heap [AC kA8 [.int (nar .byte (Int8.toInt32 (Int32.toInt8 (Int64.toInt32 (XT.ushrL x1 (48 : Int32)))))), .int (nar .byte (Int8.toInt32 (Int32.toInt8 (Int64.toInt32 (XT.ushrL x1 (40 : Int32)))))), .int (nar .byte (Int8.toInt32 (Int32.toInt8 (Int64.toInt32 (XT.ushrL x1 (32 : Int32)))))), .int (nar .byte (Int8.toInt32 (Int32.toInt8 (Int64.toInt32 (XT.ushrL x1 (24 : Int32)))))), .int (nar .byte (Int8.toInt32 (Int32.toInt8 (Int64.toInt32 (XT.ushrL x1 (16 : Int32)))))), .int (nar .byte (Int8.toInt32 (Int32.toInt8 (Int64.toInt32 (XT.ushrL x1 (8 : Int32)))))), .int (nar .byte (Int8.toInt32 (Int32.toInt8 (Int64.toInt32 (XT.ushrL x1 (0 : Int32))))))]] := P64
    obtain ⟨b0, eb0⟩ : ∃ z : Int32, z = (nar .byte (Int8.toInt32 (Int32.toInt8 (Int64.toInt32 (XT.ushrL x1 (48 : Int32)))))) := ⟨_, rfl⟩
    obtain ⟨b1, eb1⟩ : ∃ z : Int32, z = (nar .byte (Int8.toInt32 (Int32.toInt8 (Int64.toInt32 (XT.ushrL x1 (40 : Int32)))))) := ⟨_, rfl⟩
    obtain ⟨b2, eb2⟩ : ∃ z : Int32, z = (nar .byte (Int8.toInt32 (Int32.toInt8 (Int64.toInt32 (XT.ushrL x1 (32 : Int32)))))) := ⟨_, rfl⟩
    obtain ⟨b3, eb3⟩ : ∃ z : Int32, z = (nar .byte (Int8.toInt32 (Int32.toInt8 (Int64.toInt32 (XT.ushrL x1 (24 : Int32)))))) := ⟨_, rfl⟩
    obtain ⟨b4, eb4⟩ : ∃ z : Int32, z = (nar .byte (Int8.toInt32 (Int32.toInt8 (Int64.toInt32 (XT.ushrL x1 (16 : Int32)))))) := ⟨_, rfl⟩
    obtain ⟨b5, eb5⟩ : ∃ z : Int32, z = (nar .byte (Int8.toInt32 (Int32.toInt8 (Int64.toInt32 (XT.ushrL x1 (8 : Int32)))))) := ⟨_, rfl⟩
    obtain ⟨b6, eb6⟩ : ∃ z : Int32, z = (nar .byte (Int8.toInt32 (Int32.toInt8 (Int64.toInt32 (XT.ushrL x1 (0 : Int32)))))) := ⟨_, rfl⟩
    replace P64 : HP n0 T64.heap [AC kA8 [.int b0, .int b1, .int b2, .int b3, .int b4, .int b5, .int b6]] := by rw [eb0, eb1, eb2, eb3, eb4, eb5, eb6]; exact P64
    refine w_astore (l' := #[.val (.int x0), .val (.long x1), .second, .val (.int (7 : Int32)), .val (.ref (n0 + 0)), .unset, .unset, .unset, .unset]) X64 hx (hb hby at_13) rfl rfl (pc' := 15) rfl ?_
    refine w_aload X64 hx (hb hby at_15) rfl rfl (pc' := 17) rfl ?_
    refine w_ifnullN X64 hx (hb hby at_17) (pc' := 20) rfl ?_
    refine w_aload X64 hx (hb hby at_20) rfl rfl (pc' := 22) rfl ?_
    refine w_arrlen (i := 0) X64 hx hZ P64 rfl hk8 (hb hby at_22) (z := (7 : Int32)) rfl (pc' := 23) rfl ?_
    refine w_iloadN X64 hx (hb hby at_23) rfl (pc' := 24) rfl ?_
    refine w_icmp_eq X64 hx (hb hby at_24) (by decide) (pcY := 29) (by decide) (pc' := 27) rfl (fun h30 => ?_) (fun h30 => absurd h30 (by decide))
    refine w_lconst (v := (0 : Int64)) X64 hx (hb hby at_29) rfl (pc' := 30) rfl ?_
    refine w_lstore (l' := #[.val (.int x0), .val (.long x1), .second, .val (.int (7 : Int32)), .val (.ref (n0 + 0)), .val (.long (0 : Int64)), .second, .unset, .unset]) X64 hx (hb hby at_30) rfl (pc' := 32) rfl ?_
    refine w_lload X64 hx (hb hby at_32) rfl (pc' := 34) rfl ?_
    refine w_aload X64 hx (hb hby at_34) rfl rfl (pc' := 36) rfl ?_
    refine w_iconst (v := (0 : Int32)) X64 hx (hb hby at_36) rfl (pc' := 37) rfl ?_
    refine w_callP (W := 0) X64 hx hZ rfl hown hml.symm (wd6 hw) (wd7 hw) (wd8 hw) (wd9 hw) (rm_st7_0 l Z a0 hw [] n0 (0 : Int64) b0 b1 b2 b3 b4 b5 b6 kA8 hk8 _ P64) (by decide) (by decide) (by decide) rfl rfl (by decide) (by decide) (argsL := [.long (0 : Int64), .ref (n0 + 0), .int (0 : Int32)]) (rest := []) pd2 rfl rfl rfl (Nat.le_of_eq rfl) (hb hby at_37) (pc' := 40) rfl ?_
    intro T65 X65 e65
    have P65 : HP n0 T65.heap [AC kA8 [.int b0, .int b1, .int b2, .int b3, .int b4, .int b5, .int b6]] := by rw [e65]; exact P64
    refine w_genJ (fun r1 er1 => ?_)
    refine w_lstore (l' := #[.val (.int x0), .val (.long x1), .second, .val (.int (7 : Int32)), .val (.ref (n0 + 0)), .val (.long r1), .second, .unset, .unset]) X65 hx (hb hby at_40) rfl (pc' := 42) rfl ?_
    refine w_lload X65 hx (hb hby at_42) rfl (pc' := 44) rfl ?_
    refine w_aload X65 hx (hb hby at_44) rfl rfl (pc' := 46) rfl ?_
    refine w_iconst (v := (1 : Int32)) X65 hx (hb hby at_46) rfl (pc' := 47) rfl ?_
    refine w_callP (W := 0) X65 hx hZ rfl hown hml.symm (wd6 hw) (wd7 hw) (wd8 hw) (wd9 hw) (rm_st7_1 l Z a0 hw [] n0 r1 b0 b1 b2 b3 b4 b5 b6 kA8 hk8 _ P65) (by decide) (by decide) (by decide) rfl rfl (by decide) (by decide) (argsL := [.long r1, .ref (n0 + 0), .int (1 : Int32)]) (rest := []) pd2 rfl rfl rfl (Nat.le_of_eq rfl) (hb hby at_47) (pc' := 50) rfl ?_
    intro T66 X66 e66
    have P66 : HP n0 T66.heap [AC kA8 [.int b0, .int b1, .int b2, .int b3, .int b4, .int b5, .int b6]] := by rw [e66]; exact P65
    refine w_genJ (fun r2 er2 => ?_)
    refine w_lstore (l' := #[.val (.int x0), .val (.long x1), .second, .val (.int (7 : Int32)), .val (.ref (n0 + 0)), .val (.long r2), .second, .unset, .unset]) X66 hx (hb hby at_50) rfl (pc' := 52) rfl ?_
    refine w_lload X66 hx (hb hby at_52) rfl (pc' := 54) rfl ?_
    refine w_aload X66 hx (hb hby at_54) rfl rfl (pc' := 56) rfl ?_
    refine w_iconst (v := (2 : Int32)) X66 hx (hb hby at_56) rfl (pc' := 57) rfl ?_
    refine w_callP (W := 0) X66 hx hZ rfl hown hml.symm (wd6 hw) (wd7 hw) (wd8 hw) (wd9 hw) (rm_st7_2 l Z a0 hw [] n0 r2 b0 b1 b2 b3 b4 b5 b6 kA8 hk8 _ P66) (by decide) (by decide) (by decide) rfl rfl (by decide) (by decide) (argsL := [.long r2, .ref (n0 + 0), .int (2 : Int32)]) (rest := []) pd2 rfl rfl rfl (Nat.le_of_eq rfl) (hb hby at_57) (pc' := 60) rfl ?_
    intro T67 X67 e67
    have P67 : HP n0 T67.heap [AC kA8 [.int b0, .int b1, .int b2, .int b3, .int b4, .int b5, .int b6]] := by rw [e67]; exact P66
    refine w_genJ (fun r3 er3 => ?_)
    refine w_lstore (l' := #[.val (.int x0), .val (.long x1), .second, .val (.int (7 : Int32)), .val (.ref (n0 + 0)), .val (.long r3), .second, .unset, .unset]) X67 hx (hb hby at_60) rfl (pc' := 62) rfl ?_
    refine w_lload X67 hx (hb hby at_62) rfl (pc' := 64) rfl ?_
    refine w_aload X67 hx (hb hby at_64) rfl rfl (pc' := 66) rfl ?_
    refine w_iconst (v := (3 : Int32)) X67 hx (hb hby at_66) rfl (pc' := 67) rfl ?_
    refine w_callP (W := 0) X67 hx hZ rfl hown hml.symm (wd6 hw) (wd7 hw) (wd8 hw) (wd9 hw) (rm_st7_3 l Z a0 hw [] n0 r3 b0 b1 b2 b3 b4 b5 b6 kA8 hk8 _ P67) (by decide) (by decide) (by decide) rfl rfl (by decide) (by decide) (argsL := [.long r3, .ref (n0 + 0), .int (3 : Int32)]) (rest := []) pd2 rfl rfl rfl (Nat.le_of_eq rfl) (hb hby at_67) (pc' := 70) rfl ?_
    intro T68 X68 e68
    have P68 : HP n0 T68.heap [AC kA8 [.int b0, .int b1, .int b2, .int b3, .int b4, .int b5, .int b6]] := by rw [e68]; exact P67
    refine w_genJ (fun r4 er4 => ?_)
    refine w_lstore (l' := #[.val (.int x0), .val (.long x1), .second, .val (.int (7 : Int32)), .val (.ref (n0 + 0)), .val (.long r4), .second, .unset, .unset]) X68 hx (hb hby at_70) rfl (pc' := 72) rfl ?_
    refine w_lload X68 hx (hb hby at_72) rfl (pc' := 74) rfl ?_
    refine w_aload X68 hx (hb hby at_74) rfl rfl (pc' := 76) rfl ?_
    refine w_iconst (v := (4 : Int32)) X68 hx (hb hby at_76) rfl (pc' := 77) rfl ?_
    refine w_callP (W := 0) X68 hx hZ rfl hown hml.symm (wd6 hw) (wd7 hw) (wd8 hw) (wd9 hw) (rm_st7_4 l Z a0 hw [] n0 r4 b0 b1 b2 b3 b4 b5 b6 kA8 hk8 _ P68) (by decide) (by decide) (by decide) rfl rfl (by decide) (by decide) (argsL := [.long r4, .ref (n0 + 0), .int (4 : Int32)]) (rest := []) pd2 rfl rfl rfl (Nat.le_of_eq rfl) (hb hby at_77) (pc' := 80) rfl ?_
    intro T69 X69 e69
    have P69 : HP n0 T69.heap [AC kA8 [.int b0, .int b1, .int b2, .int b3, .int b4, .int b5, .int b6]] := by rw [e69]; exact P68
    refine w_genJ (fun r5 er5 => ?_)
    refine w_lstore (l' := #[.val (.int x0), .val (.long x1), .second, .val (.int (7 : Int32)), .val (.ref (n0 + 0)), .val (.long r5), .second, .unset, .unset]) X69 hx (hb hby at_80) rfl (pc' := 82) rfl ?_
    refine w_lload X69 hx (hb hby at_82) rfl (pc' := 84) rfl ?_
    refine w_aload X69 hx (hb hby at_84) rfl rfl (pc' := 86) rfl ?_
    refine w_iconst (v := (5 : Int32)) X69 hx (hb hby at_86) rfl (pc' := 87) rfl ?_
    refine w_callP (W := 0) X69 hx hZ rfl hown hml.symm (wd6 hw) (wd7 hw) (wd8 hw) (wd9 hw) (rm_st7_5 l Z a0 hw [] n0 r5 b0 b1 b2 b3 b4 b5 b6 kA8 hk8 _ P69) (by decide) (by decide) (by decide) rfl rfl (by decide) (by decide) (argsL := [.long r5, .ref (n0 + 0), .int (5 : Int32)]) (rest := []) pd2 rfl rfl rfl (Nat.le_of_eq rfl) (hb hby at_87) (pc' := 90) rfl ?_
    intro T70 X70 e70
    have P70 : HP n0 T70.heap [AC kA8 [.int b0, .int b1, .int b2, .int b3, .int b4, .int b5, .int b6]] := by rw [e70]; exact P69
    refine w_genJ (fun r6 er6 => ?_)
    refine w_lstore (l' := #[.val (.int x0), .val (.long x1), .second, .val (.int (7 : Int32)), .val (.ref (n0 + 0)), .val (.long r6), .second, .unset, .unset]) X70 hx (hb hby at_90) rfl (pc' := 92) rfl ?_
    refine w_lload X70 hx (hb hby at_92) rfl (pc' := 94) rfl ?_
    refine w_aload X70 hx (hb hby at_94) rfl rfl (pc' := 96) rfl ?_
    refine w_bipush (v := (6 : Int32)) X70 hx (hb hby at_96) rfl (pc' := 98) rfl ?_
    refine w_callP (W := 0) X70 hx hZ rfl hown hml.symm (wd6 hw) (wd7 hw) (wd8 hw) (wd9 hw) (rm_st7_6 l Z a0 hw [] n0 r6 b0 b1 b2 b3 b4 b5 b6 kA8 hk8 _ P70) (by decide) (by decide) (by decide) rfl rfl (by decide) (by decide) (argsL := [.long r6, .ref (n0 + 0), .int (6 : Int32)]) (rest := []) pd2 rfl rfl rfl (Nat.le_of_eq rfl) (hb hby at_98) (pc' := 101) rfl ?_
    intro T71 X71 e71
    have P71 : HP n0 T71.heap [AC kA8 [.int b0, .int b1, .int b2, .int b3, .int b4, .int b5, .int b6]] := by rw [e71]; exact P70
    refine w_genJ (fun r7 er7 => ?_)
    refine w_lstore (l' := #[.val (.int x0), .val (.long x1), .second, .val (.int (7 : Int32)), .val (.ref (n0 + 0)), .val (.long r7), .second, .unset, .unset]) X71 hx (hb hby at_101) rfl (pc' := 103) rfl ?_
    refine w_lload X71 hx (hb hby at_103) rfl (pc' := 105) rfl ?_
    refine w_aload X71 hx (hb hby at_105) rfl rfl (pc' := 107) rfl ?_
    refine w_bipush (v := (7 : Int32)) X71 hx (hb hby at_107) rfl (pc' := 109) rfl ?_
    refine w_callP (W := 0) X71 hx hZ rfl hown hml.symm (wd6 hw) (wd7 hw) (wd8 hw) (wd9 hw) (rm_st7_7 l Z a0 hw [] n0 r7 b0 b1 b2 b3 b4 b5 b6 kA8 hk8 _ P71) (by decide) (by decide) (by decide) rfl rfl (by decide) (by decide) (argsL := [.long r7, .ref (n0 + 0), .int (7 : Int32)]) (rest := []) pd2 rfl rfl rfl (Nat.le_of_eq rfl) (hb hby at_109) (pc' := 112) rfl ?_
    intro T72 X72 e72
    have P72 : HP n0 T72.heap [AC kA8 [.int b0, .int b1, .int b2, .int b3, .int b4, .int b5, .int b6]] := by rw [e72]; exact P71
    refine w_genJ (fun r8 er8 => ?_)
    refine w_lstore (l' := #[.val (.int x0), .val (.long x1), .second, .val (.int (7 : Int32)), .val (.ref (n0 + 0)), .val (.long r8), .second, .unset, .unset]) X72 hx (hb hby at_112) rfl (pc' := 114) rfl ?_
    refine w_iloadN X72 hx (hb hby at_114) rfl (pc' := 115) rfl ?_
    refine w_bipush (v := (8 : Int32)) X72 hx (hb hby at_115) rfl (pc' := 117) rfl ?_
    refine w_icmp_ne X72 hx (hb hby at_117) (by decide) (pcY := 126) (by decide) (pc' := 120) rfl (fun h31 => ?_) (fun h31 => absurd h31 (by decide))
    refine w_lloadN X72 hx (hb hby at_126) rfl (pc' := 127) rfl ?_
    refine w_lconst (v := (1 : Int64)) X72 hx (hb hby at_127) rfl (pc' := 128) rfl ?_
    refine w_bipush (v := (8 : Int32)) X72 hx (hb hby at_128) rfl (pc' := 130) rfl ?_
    refine w_iloadN X72 hx (hb hby at_130) rfl (pc' := 131) rfl ?_
    refine w_imul X72 hx (hb hby at_131) (pc' := 132) rfl ?_
    refine w_eqI (z := (56 : Int32)) (by decide) ?_
    refine w_lshl X72 hx (hb hby at_132) (pc' := 133) rfl ?_
    refine w_eqJ (z := (72057594037927936 : Int64)) (by decide) ?_
    refine w_lconst (v := (1 : Int64)) X72 hx (hb hby at_133) rfl (pc' := 134) rfl ?_
    refine w_lsub X72 hx (hb hby at_134) (pc' := 135) rfl ?_
    refine w_eqJ (z := (72057594037927935 : Int64)) (by decide) ?_
    refine w_land X72 hx (hb hby at_135) (pc' := 136) rfl ?_
    refine w_lstore (l' := #[.val (.int x0), .val (.long x1), .second, .val (.int (7 : Int32)), .val (.ref (n0 + 0)), .val (.long r8), .second, .val (.long (x1 &&& (72057594037927935 : Int64))), .second]) X72 hx (hb hby at_136) rfl (pc' := 138) rfl ?_
    refine w_lload X72 hx (hb hby at_138) rfl (pc' := 140) rfl ?_
    refine w_lload X72 hx (hb hby at_140) rfl (pc' := 142) rfl ?_
    refine w_lcmp_ne X72 hx (hb hby at_142) rfl (hb hby at_143) (by decide) (pcY := 150) (by decide) (pc' := 146) rfl (fun h32 => absurd (own_u7 x1 b0 b1 b2 b3 b4 b5 b6 r1 r2 r3 r4 r5 r6 r7 r8 eb0 eb1 eb2 eb3 eb4 eb5 eb6 er1 er2 er3 er4 er5 er6 er7 er8) h32) (fun h32 => ?_)
    refine w_iconst (v := (1 : Int32)) X72 hx (hb hby at_146) rfl (pc' := 147) rfl ?_
    refine w_goto X72 hx (hb hby at_147) (by decide) (pc' := 151) (by decide) ?_
    exact w_ret_n (t := .boolean) X72 hx hret hlk (by simp) (hb hby at_151) (z' := (1 : Int32)) rfl (by decide) (by decide) ⟨rfl, N8⟩
  · refine w_eqI (z := (8 : Int32)) g8 ?_
    refine w_istoreN (l' := #[.val (.int x0), .val (.long x1), .second, .val (.int (8 : Int32)), .unset, .unset, .unset, .unset, .unset]) X0 hx (hb hby at_7) rfl (pc' := 8) rfl ?_
    refine w_iloadN X0 hx (hb hby at_8) rfl (pc' := 9) rfl ?_
    refine w_lloadN X0 hx (hb hby at_9) rfl (pc' := 10) rfl ?_
    refine own_call (W := 0) X0 hx hZ rfl hown hml.symm (wd1 hw) (wd2 hw) (wd3 hw) (wd4 hw) (rm1_8 l Z a0 hw [] n0 x1 _ P0) (by decide) (by decide) (by decide) (by decide) (by decide) (argsL := [.int (8 : Int32), .long x1]) (rest := []) pd1 rfl rfl rfl (Nat.le_of_eq rfl) (hb hby at_10) (pc' := 13) rfl ?_
    intro _ T73 L9 X73 hq
    obtain ⟨rfl, N9, kA9, hk9, P73⟩ := hq
    replace N9 := Fr.app N0 N9
    replace P73 : HP n0 T73.heap [AC kA9 [.int (nar .byte (Int8.toInt32 (Int32.toInt8 (Int64.toInt32 (XT.ushrL x1 (56 : Int32)))))), .int (nar .byte (Int8.toInt32 (Int32.toInt8 (Int64.toInt32 (XT.ushrL x1 (48 : Int32)))))), .int (nar .byte (Int8.toInt32 (Int32.toInt8 (Int64.toInt32 (XT.ushrL x1 (40 : Int32)))))), .int (nar .byte (Int8.toInt32 (Int32.toInt8 (Int64.toInt32 (XT.ushrL x1 (32 : Int32)))))), .int (nar .byte (Int8.toInt32 (Int32.toInt8 (Int64.toInt32 (XT.ushrL x1 (24 : Int32)))))), .int (nar .byte (Int8.toInt32 (Int32.toInt8 (Int64.toInt32 (XT.ushrL x1 (16 : Int32)))))), .int (nar .byte (Int8.toInt32 (Int32.toInt8 (Int64.toInt32 (XT.ushrL x1 (8 : Int32)))))), .int (nar .byte (Int8.toInt32 (Int32.toInt8 (Int64.toInt32 (XT.ushrL x1 (0 : Int32))))))]] := P73
    obtain ⟨b0, eb0⟩ : ∃ z : Int32, z = (nar .byte (Int8.toInt32 (Int32.toInt8 (Int64.toInt32 (XT.ushrL x1 (56 : Int32)))))) := ⟨_, rfl⟩
    obtain ⟨b1, eb1⟩ : ∃ z : Int32, z = (nar .byte (Int8.toInt32 (Int32.toInt8 (Int64.toInt32 (XT.ushrL x1 (48 : Int32)))))) := ⟨_, rfl⟩
    obtain ⟨b2, eb2⟩ : ∃ z : Int32, z = (nar .byte (Int8.toInt32 (Int32.toInt8 (Int64.toInt32 (XT.ushrL x1 (40 : Int32)))))) := ⟨_, rfl⟩
    obtain ⟨b3, eb3⟩ : ∃ z : Int32, z = (nar .byte (Int8.toInt32 (Int32.toInt8 (Int64.toInt32 (XT.ushrL x1 (32 : Int32)))))) := ⟨_, rfl⟩
    obtain ⟨b4, eb4⟩ : ∃ z : Int32, z = (nar .byte (Int8.toInt32 (Int32.toInt8 (Int64.toInt32 (XT.ushrL x1 (24 : Int32)))))) := ⟨_, rfl⟩
    obtain ⟨b5, eb5⟩ : ∃ z : Int32, z = (nar .byte (Int8.toInt32 (Int32.toInt8 (Int64.toInt32 (XT.ushrL x1 (16 : Int32)))))) := ⟨_, rfl⟩
    obtain ⟨b6, eb6⟩ : ∃ z : Int32, z = (nar .byte (Int8.toInt32 (Int32.toInt8 (Int64.toInt32 (XT.ushrL x1 (8 : Int32)))))) := ⟨_, rfl⟩
    obtain ⟨b7, eb7⟩ : ∃ z : Int32, z = (nar .byte (Int8.toInt32 (Int32.toInt8 (Int64.toInt32 (XT.ushrL x1 (0 : Int32)))))) := ⟨_, rfl⟩
    replace P73 : HP n0 T73.heap [AC kA9 [.int b0, .int b1, .int b2, .int b3, .int b4, .int b5, .int b6, .int b7]] := by rw [eb0, eb1, eb2, eb3, eb4, eb5, eb6, eb7]; exact P73
    refine w_astore (l' := #[.val (.int x0), .val (.long x1), .second, .val (.int (8 : Int32)), .val (.ref (n0 + 0)), .unset, .unset, .unset, .unset]) X73 hx (hb hby at_13) rfl rfl (pc' := 15) rfl ?_
    refine w_aload X73 hx (hb hby at_15) rfl rfl (pc' := 17) rfl ?_
    refine w_ifnullN X73 hx (hb hby at_17) (pc' := 20) rfl ?_
    refine w_aload X73 hx (hb hby at_20) rfl rfl (pc' := 22) rfl ?_
    refine w_arrlen (i := 0) X73 hx hZ P73 rfl hk9 (hb hby at_22) (z := (8 : Int32)) rfl (pc' := 23) rfl ?_
    refine w_iloadN X73 hx (hb hby at_23) rfl (pc' := 24) rfl ?_
    refine w_icmp_eq X73 hx (hb hby at_24) (by decide) (pcY := 29) (by decide) (pc' := 27) rfl (fun h33 => ?_) (fun h33 => absurd h33 (by decide))
    refine w_lconst (v := (0 : Int64)) X73 hx (hb hby at_29) rfl (pc' := 30) rfl ?_
    refine w_lstore (l' := #[.val (.int x0), .val (.long x1), .second, .val (.int (8 : Int32)), .val (.ref (n0 + 0)), .val (.long (0 : Int64)), .second, .unset, .unset]) X73 hx (hb hby at_30) rfl (pc' := 32) rfl ?_
    refine w_lload X73 hx (hb hby at_32) rfl (pc' := 34) rfl ?_
    refine w_aload X73 hx (hb hby at_34) rfl rfl (pc' := 36) rfl ?_
    refine w_iconst (v := (0 : Int32)) X73 hx (hb hby at_36) rfl (pc' := 37) rfl ?_
    refine w_callP (W := 0) X73 hx hZ rfl hown hml.symm (wd6 hw) (wd7 hw) (wd8 hw) (wd9 hw) (rm_st8_0 l Z a0 hw [] n0 (0 : Int64) b0 b1 b2 b3 b4 b5 b6 b7 kA9 hk9 _ P73) (by decide) (by decide) (by decide) rfl rfl (by decide) (by decide) (argsL := [.long (0 : Int64), .ref (n0 + 0), .int (0 : Int32)]) (rest := []) pd2 rfl rfl rfl (Nat.le_of_eq rfl) (hb hby at_37) (pc' := 40) rfl ?_
    intro T74 X74 e74
    have P74 : HP n0 T74.heap [AC kA9 [.int b0, .int b1, .int b2, .int b3, .int b4, .int b5, .int b6, .int b7]] := by rw [e74]; exact P73
    refine w_genJ (fun r1 er1 => ?_)
    refine w_lstore (l' := #[.val (.int x0), .val (.long x1), .second, .val (.int (8 : Int32)), .val (.ref (n0 + 0)), .val (.long r1), .second, .unset, .unset]) X74 hx (hb hby at_40) rfl (pc' := 42) rfl ?_
    refine w_lload X74 hx (hb hby at_42) rfl (pc' := 44) rfl ?_
    refine w_aload X74 hx (hb hby at_44) rfl rfl (pc' := 46) rfl ?_
    refine w_iconst (v := (1 : Int32)) X74 hx (hb hby at_46) rfl (pc' := 47) rfl ?_
    refine w_callP (W := 0) X74 hx hZ rfl hown hml.symm (wd6 hw) (wd7 hw) (wd8 hw) (wd9 hw) (rm_st8_1 l Z a0 hw [] n0 r1 b0 b1 b2 b3 b4 b5 b6 b7 kA9 hk9 _ P74) (by decide) (by decide) (by decide) rfl rfl (by decide) (by decide) (argsL := [.long r1, .ref (n0 + 0), .int (1 : Int32)]) (rest := []) pd2 rfl rfl rfl (Nat.le_of_eq rfl) (hb hby at_47) (pc' := 50) rfl ?_
    intro T75 X75 e75
    have P75 : HP n0 T75.heap [AC kA9 [.int b0, .int b1, .int b2, .int b3, .int b4, .int b5, .int b6, .int b7]] := by rw [e75]; exact P74
    refine w_genJ (fun r2 er2 => ?_)
    refine w_lstore (l' := #[.val (.int x0), .val (.long x1), .second, .val (.int (8 : Int32)), .val (.ref (n0 + 0)), .val (.long r2), .second, .unset, .unset]) X75 hx (hb hby at_50) rfl (pc' := 52) rfl ?_
    refine w_lload X75 hx (hb hby at_52) rfl (pc' := 54) rfl ?_
    refine w_aload X75 hx (hb hby at_54) rfl rfl (pc' := 56) rfl ?_
    refine w_iconst (v := (2 : Int32)) X75 hx (hb hby at_56) rfl (pc' := 57) rfl ?_
    refine w_callP (W := 0) X75 hx hZ rfl hown hml.symm (wd6 hw) (wd7 hw) (wd8 hw) (wd9 hw) (rm_st8_2 l Z a0 hw [] n0 r2 b0 b1 b2 b3 b4 b5 b6 b7 kA9 hk9 _ P75) (by decide) (by decide) (by decide) rfl rfl (by decide) (by decide) (argsL := [.long r2, .ref (n0 + 0), .int (2 : Int32)]) (rest := []) pd2 rfl rfl rfl (Nat.le_of_eq rfl) (hb hby at_57) (pc' := 60) rfl ?_
    intro T76 X76 e76
    have P76 : HP n0 T76.heap [AC kA9 [.int b0, .int b1, .int b2, .int b3, .int b4, .int b5, .int b6, .int b7]] := by rw [e76]; exact P75
    refine w_genJ (fun r3 er3 => ?_)
    refine w_lstore (l' := #[.val (.int x0), .val (.long x1), .second, .val (.int (8 : Int32)), .val (.ref (n0 + 0)), .val (.long r3), .second, .unset, .unset]) X76 hx (hb hby at_60) rfl (pc' := 62) rfl ?_
    refine w_lload X76 hx (hb hby at_62) rfl (pc' := 64) rfl ?_
    refine w_aload X76 hx (hb hby at_64) rfl rfl (pc' := 66) rfl ?_
    refine w_iconst (v := (3 : Int32)) X76 hx (hb hby at_66) rfl (pc' := 67) rfl ?_
    refine w_callP (W := 0) X76 hx hZ rfl hown hml.symm (wd6 hw) (wd7 hw) (wd8 hw) (wd9 hw) (rm_st8_3 l Z a0 hw [] n0 r3 b0 b1 b2 b3 b4 b5 b6 b7 kA9 hk9 _ P76) (by decide) (by decide) (by decide) rfl rfl (by decide) (by decide) (argsL := [.long r3, .ref (n0 + 0), .int (3 : Int32)]) (rest := []) pd2 rfl rfl rfl (Nat.le_of_eq rfl) (hb hby at_67) (pc' := 70) rfl ?_
    intro T77 X77 e77
    have P77 : HP n0 T77.heap [AC kA9 [.int b0, .int b1, .int b2, .int b3, .int b4, .int b5, .int b6, .int b7]] := by rw [e77]; exact P76
    refine w_genJ (fun r4 er4 => ?_)
    refine w_lstore (l' := #[.val (.int x0), .val (.long x1), .second, .val (.int (8 : Int32)), .val (.ref (n0 + 0)), .val (.long r4), .second, .unset, .unset]) X77 hx (hb hby at_70) rfl (pc' := 72) rfl ?_
    refine w_lload X77 hx (hb hby at_72) rfl (pc' := 74) rfl ?_
    refine w_aload X77 hx (hb hby at_74) rfl rfl (pc' := 76) rfl ?_
    refine w_iconst (v := (4 : Int32)) X77 hx (hb hby at_76) rfl (pc' := 77) rfl ?_
    refine w_callP (W := 0) X77 hx hZ rfl hown hml.symm (wd6 hw) (wd7 hw) (wd8 hw) (wd9 hw) (rm_st8_4 l Z a0 hw [] n0 r4 b0 b1 b2 b3 b4 b5 b6 b7 kA9 hk9 _ P77) (by decide) (by decide) (by decide) rfl rfl (by decide) (by decide) (argsL := [.long r4, .ref (n0 + 0), .int (4 : Int32)]) (rest := []) pd2 rfl rfl rfl (Nat.le_of_eq rfl) (hb hby at_77) (pc' := 80) rfl ?_
    intro T78 X78 e78
    have P78 : HP n0 T78.heap [AC kA9 [.int b0, .int b1, .int b2, .int b3, .int b4, .int b5, .int b6, .int b7]] := by rw [e78]; exact P77
    refine w_genJ (fun r5 er5 => ?_)
    refine w_lstore (l' := #[.val (.int x0), .val (.long x1), .second, .val (.int (8 : Int32)), .val (.ref (n0 + 0)), .val (.long r5), .second, .unset, .unset]) X78 hx (hb hby at_80) rfl (pc' := 82) rfl ?_
    refine w_lload X78 hx (hb hby at_82) rfl (pc' := 84) rfl ?_
    refine w_aload X78 hx (hb hby at_84) rfl rfl (pc' := 86) rfl ?_
    refine w_iconst (v := (5 : Int32)) X78 hx (hb hby at_86) rfl (pc' := 87) rfl ?_
    refine w_callP (W := 0) X78 hx hZ rfl hown hml.symm (wd6 hw) (wd7 hw) (wd8 hw) (wd9 hw) (rm_st8_5 l Z a0 hw [] n0 r5 b0 b1 b2 b3 b4 b5 b6 b7 kA9 hk9 _ P78) (by decide) (by decide) (by decide) rfl rfl (by decide) (by decide) (argsL := [.long r5, .ref (n0 + 0), .int (5 : Int32)]) (rest := []) pd2 rfl rfl rfl (Nat.le_of_eq rfl) (hb hby at_87) (pc' := 90) rfl ?_
    intro T79 X79 e79
    have P79 : HP n0 T79.heap [AC kA9 [.int b0, .int b1, .int b2, .int b3, .int b4, .int b5, .int b6, .int b7]] := by rw [e79]; exact P78
    refine w_genJ (fun r6 er6 => ?_)
    refine w_lstore (l' := #[.val (.int x0), .val (.long x1), .second, .val (.int (8 : Int32)), .val (.ref (n0 + 0)), .val (.long r6), .second, .unset, .unset]) X79 hx (hb hby at_90) rfl (pc' := 92) rfl ?_
    refine w_lload X79 hx (hb hby at_92) rfl (pc' := 94) rfl ?_
    refine w_aload X79 hx (hb hby at_94) rfl rfl (pc' := 96) rfl ?_
    refine w_bipush (v := (6 : Int32)) X79 hx (hb hby at_96) rfl (pc' := 98) rfl ?_
    refine w_callP (W := 0) X79 hx hZ rfl hown hml.symm (wd6 hw) (wd7 hw) (wd8 hw) (wd9 hw) (rm_st8_6 l Z a0 hw [] n0 r6 b0 b1 b2 b3 b4 b5 b6 b7 kA9 hk9 _ P79) (by decide) (by decide) (by decide) rfl rfl (by decide) (by decide) (argsL := [.long r6, .ref (n0 + 0), .int (6 : Int32)]) (rest := []) pd2 rfl rfl rfl (Nat.le_of_eq rfl) (hb hby at_98) (pc' := 101) rfl ?_
    intro T80 X80 e80
    have P80 : HP n0 T80.heap [AC kA9 [.int b0, .int b1, .int b2, .int b3, .int b4, .int b5, .int b6, .int b7]] := by rw [e80]; exact P79
    refine w_genJ (fun r7 er7 => ?_)
    refine w_lstore (l' := #[.val (.int x0), .val (.long x1), .second, .val (.int (8 : Int32)), .val (.ref (n0 + 0)), .val (.long r7), .second, .unset, .unset]) X80 hx (hb hby at_101) rfl (pc' := 103) rfl ?_
    refine w_lload X80 hx (hb hby at_103) rfl (pc' := 105) rfl ?_
    refine w_aload X80 hx (hb hby at_105) rfl rfl (pc' := 107) rfl ?_
    refine w_bipush (v := (7 : Int32)) X80 hx (hb hby at_107) rfl (pc' := 109) rfl ?_
    refine w_callP (W := 0) X80 hx hZ rfl hown hml.symm (wd6 hw) (wd7 hw) (wd8 hw) (wd9 hw) (rm_st8_7 l Z a0 hw [] n0 r7 b0 b1 b2 b3 b4 b5 b6 b7 kA9 hk9 _ P80) (by decide) (by decide) (by decide) rfl rfl (by decide) (by decide) (argsL := [.long r7, .ref (n0 + 0), .int (7 : Int32)]) (rest := []) pd2 rfl rfl rfl (Nat.le_of_eq rfl) (hb hby at_109) (pc' := 112) rfl ?_
    intro T81 X81 e81
    have P81 : HP n0 T81.heap [AC kA9 [.int b0, .int b1, .int b2, .int b3, .int b4, .int b5, .int b6, .int b7]] := by rw [e81]; exact P80
    refine w_genJ (fun r8 er8 => ?_)
    refine w_lstore (l' := #[.val (.int x0), .val (.long x1), .second, .val (.int (8 : Int32)), .val (.ref (n0 + 0)), .val (.long r8), .second, .unset, .unset]) X81 hx (hb hby at_112) rfl (pc' := 114) rfl ?_
    refine w_iloadN X81 hx (hb hby at_114) rfl (pc' := 115) rfl ?_
    refine w_bipush (v := (8 : Int32)) X81 hx (hb hby at_115) rfl (pc' := 117) rfl ?_
    refine w_icmp_ne X81 hx (hb hby at_117) (by decide) (pcY := 126) (by decide) (pc' := 120) rfl (fun h34 => absurd h34 (by decide)) (fun h34 => ?_)
    refine w_lloadN X81 hx (hb hby at_120) rfl (pc' := 121) rfl ?_
    refine w_lstore (l' := #[.val (.int x0), .val (.long x1), .second, .val (.int (8 : Int32)), .val (.ref (n0 + 0)), .val (.long r8), .second, .val (.long x1), .second]) X81 hx (hb hby at_121) rfl (pc' := 123) rfl ?_
    refine w_goto X81 hx (hb hby at_123) (by decide) (pc' := 138) (by decide) ?_
    refine w_lload X81 hx (hb hby at_138) rfl (pc' := 140) rfl ?_
    refine w_lload X81 hx (hb hby at_140) rfl (pc' := 142) rfl ?_
    refine w_lcmp_ne X81 hx (hb hby at_142) rfl (hb hby at_143) (by decide) (pcY := 150) (by decide) (pc' := 146) rfl (fun h35 => absurd (own_u8 x1 b0 b1 b2 b3 b4 b5 b6 b7 r1 r2 r3 r4 r5 r6 r7 r8 eb0 eb1 eb2 eb3 eb4 eb5 eb6 eb7 er1 er2 er3 er4 er5 er6 er7 er8) h35) (fun h35 => ?_)
    refine w_iconst (v := (1 : Int32)) X81 hx (hb hby at_146) rfl (pc' := 147) rfl ?_
    refine w_goto X81 hx (hb hby at_147) (by decide) (pc' := 151) (by decide) ?_
    exact w_ret_n (t := .boolean) X81 hx hret hlk (by simp) (hb hby at_151) (z' := (1 : Int32)) rfl (by decide) (by decide) ⟨rfl, N9⟩
set_option maxRecDepth 65536 in
set_option maxHeartbeats 40000000 in
theorem comes_1 {Post : Tables → Env → Array Value → State → Outcome → State → Prop} (hpost : ∀ tb e args s v u, (limb_1_1.after args s (.returned v) u = true ∧ limb_1_2.after args s (.returned v) u = true ∧ True) → FrameEnd s (.returned v) u (Jvm.fieldLocs frame_1_writes args s ++ Jvm.arrayLocs frame_1_arrays args s ++ Jvm.staticLocs frame_1_statics s) 16 128 → Post tb e args s (.returned v) u) :
    ArmFor flags0 classFile x code maxLocals ret World_1 tables_1 room_1 Calls_1 rest_1 Pre_1 Post := by
  intro l hfl _ _ p e ha hc hk s m args below hf hA hF happ hP
  obtain ⟨hcalls, hrest, hpre⟩ := hP
  obtain ⟨-, -, -, hnamed, -, -, -, hat⟩ := (Spec.applies_iff hf).mp happ
  obtain ⟨hg, hn⟩ := and_e (Cond.before_iff.mp (show (Jvm.Cond.and given_1 narrow_1).before args s = true from hpre))
  obtain ⟨g0, k0⟩ := and_e hg
  obtain ⟨q0, k1⟩ := and_e k0
  have q1 := k1
  obtain ⟨w0, w1, rfl⟩ : ∃ w0 w1 : Value, args = #[w0, w1] := by
    have hs : args.size = 2 := by simpa [Cond.value, given_1] using g0
    obtain ⟨L⟩ := args
    match L, hs with
    | [w0, w1], _ => exact ⟨w0, w1, rfl⟩
  have hw := fun d (hd : d ∈ tables_1) => atoms_spec (ws := Jvm.Cond.code x code maxLocals ret :: tables_1) hat d (List.mem_cons_of_mem _ hd)
  obtain ⟨i0, ei0⟩ := is_v q0
  obtain rfl : w0 = (.int i0) := Option.some.inj ei0
  obtain ⟨i1, ei1⟩ := isL_v q1
  obtain rfl : w1 = (.long i1) := Option.some.inj ei1
  obtain ⟨n, o, h1, h2, h3, _, L, rfl, ⟨rfl, N⟩, hq⟩ := rm0 l s _ hw tables_1 i0 i1 s.heap s.heap.size rfl p e ha hc hk s m _ below hf ((Spec.applies_iff_loose hf).mp happ).1 ⟨rfl, State.Warmed39.refl s, rfl⟩ trivial
  refine ⟨n, _, h1, h2, h3, hpost _ _ _ _ _ _ ⟨Cond.after_iff.mpr rfl, Cond.after_iff.mpr (eq_i res_at (Term.int_eval (1)) rfl), trivial⟩ ⟨hq.1, hq.2.1, (hq.2.2.sift fun y hy => Or.inr (N y hy)).mono (by decide) (by decide)⟩⟩
theorem main_1_1 : Claimed_1_1 := comes_1 fun _ _ _ _ _ _ h hF => ⟨h.1, hF⟩
theorem main_1_2 : Claimed_1_2 := comes_1 fun _ _ _ _ _ _ h hF => ⟨h.2.1, hF⟩
end Jvm.Pilot.@@N@@
namespace Jvm.Pilot.@@N@@
open Jvm Jvm.ClassFile Sem Op Lib Jvm.Free Jvm.Stand Jvm.Pilot.@@N@@.Jvm.D
/-! MADE BY PROGRAM (witnessworld.py) out of the Statement's table words and the real class files: 9 classes; the members and pool entries that the words name. The judged class is class 1, her method 2. -/
namespace start1
open Jvm.ClassFile
def u (s : String) : CpInfo := .utf8 (stringToUtf16 s)
/-- a pool by its gaps: so many unusable entries, then the entry; so many at the end -/
def gap : Nat → List CpInfo → List CpInfo
  | 0, r => r
  | n + 1, r => .unusable :: gap n r
def poolList (es : List (Nat × CpInfo)) (last : Nat) : List CpInfo := es.foldr (fun e r => gap e.1 (e.2 :: r)) (gap last [])
def pool (es : List (Nat × CpInfo)) (last : Nat) : Array CpInfo := ⟨poolList es last⟩
def fileOf (pool : Array CpInfo) (this : Nat) (attrs : Array Attribute := #[]) (ms : Array MethodInfo := #[]) (fl : Nat := 33) (sup : Nat := 0) (ifs : Array Nat := #[]) (fds : Array FieldInfo := #[]) : ClassFile where
  minorVersion := 0
  majorVersion := 65
  constantPool := pool
  accessFlags := fl
  thisClass := this
  superClass := sup
  interfaces := ifs
  fields := fds
  methods := ms
  attributes := attrs
def plain (name : String) (sup : Option ClassId) : Class where
  name := name
  kind := .ordinary
  loader := none
  accessFlags := 33
  super := sup
  interfaces := #[]
  cf := none
  fields := #[]
  methods := #[]
  instanceTypes := #[]
  staticTypes := #[]
  resolved := #[]
  callSites := []
  init := .initialized
  statics := none
  mirror := none

def pool0 : Array CpInfo := pool [(5, u "<init>"), (0, u "()V"), (1, .class_ 10), (1, u "java/lang/Object")] 113

def k0m0 : Method := { name := "<init>", desc := "()V", sig := { parameters := [], returnType := none }, accessFlags := 1, code := none }
/-- java/lang/Object -/
def k0 : Class := { plain "java/lang/Object" none with
  accessFlags := 33
  interfaces := #[]
  cf := some (fileOf pool0 8 #[] #[{ accessFlags := 1, nameIndex := 5, descriptorIndex := 6, attributes := #[] }] 33 0 #[] #[])
  fields := #[]
  methods := #[k0m0]
  instanceTypes := #[]
  staticTypes := #[]
  resolved := Array.replicate 124 none
  statics := none }

def pool1 : Array CpInfo := pool [(2, .class_ 4), (1, u "java/lang/Object"), (0, u "<init>"), (0, u "()V"), (0, .long 255), (1, .integer 2147483647), (0, .methodref 11 12), (0, .class_ 13), (0, .nameAndType 14 15), (0, u "com/example/protomata/protomata/Bytes"), (0, u "uint"), (0, u "(IJ)[B"), (0, .methodref 17 18), (0, .class_ 19), (0, .nameAndType 20 21), (0, u "com/example/protomata/protomata/BytesUintPinLaw"), (0, u "step"), (0, u "(J[BI)J"), (3, u "law"), (0, u "(IJ)Z")] 4

def k1m0 : Method := { name := "<init>", desc := "()V", sig := { parameters := [], returnType := none }, accessFlags := 2, code := none }
def k1c1 : Code := { maxStack := 6, maxLocals := 4, code := method_2_code, exceptionTable := #[], attributes := #[] }
def k1m1 : Method := { name := "step", desc := "(J[BI)J", sig := { parameters := [.long, (.array .byte), .int], returnType := some .long }, accessFlags := 10, code := some k1c1 }
def k1c2 : Code := { maxStack := 6, maxLocals := 9, code := code, exceptionTable := #[], attributes := #[] }
def k1m2 : Method := { name := "law", desc := "(IJ)Z", sig := { parameters := [.int, .long], returnType := some .boolean }, accessFlags := 9, code := some k1c2 }
/-- com/example/protomata/protomata/BytesUintPinLaw -/
def k1 : Class := { plain "com/example/protomata/protomata/BytesUintPinLaw" (some 0) with
  accessFlags := 49
  interfaces := #[]
  cf := some (fileOf pool1 17 #[] #[{ accessFlags := 2, nameIndex := 5, descriptorIndex := 6, attributes := #[] }, { accessFlags := 10, nameIndex := 20, descriptorIndex := 21, attributes := #[] }, { accessFlags := 9, nameIndex := 25, descriptorIndex := 26, attributes := #[] }] 49 2 #[] #[])
  fields := #[]
  methods := #[k1m0, k1m1, k1m2]
  instanceTypes := #[]
  staticTypes := #[]
  resolved := Array.replicate 31 none
  statics := none }

def pool2 : Array CpInfo := pool [(2, .class_ 4), (1, u "java/lang/Object"), (0, u "<init>"), (0, u "()V"), (21, .class_ 30), (1, u "com/example/protomata/protomata/Bytes"), (0, u "uint"), (0, u "(IJ)[B")] 29

def k2m0 : Method := { name := "<init>", desc := "()V", sig := { parameters := [], returnType := none }, accessFlags := 2, code := none }
def k2c1 : Code := { maxStack := 7, maxLocals := 5, code := prog_9_method_2_code, exceptionTable := #[], attributes := #[] }
def k2m1 : Method := { name := "uint", desc := "(IJ)[B", sig := { parameters := [.int, .long], returnType := some (.array .byte) }, accessFlags := 8, code := some k2c1 }
/-- com/example/protomata/protomata/Bytes -/
def k2 : Class := { plain "com/example/protomata/protomata/Bytes" (some 0) with
  accessFlags := 48
  interfaces := #[]
  cf := some (fileOf pool2 28 #[] #[{ accessFlags := 2, nameIndex := 5, descriptorIndex := 6, attributes := #[] }, { accessFlags := 8, nameIndex := 31, descriptorIndex := 32, attributes := #[] }] 48 2 #[] #[])
  fields := #[]
  methods := #[k2m0, k2m1]
  instanceTypes := #[]
  staticTypes := #[]
  resolved := Array.replicate 62 none
  statics := none }

def pool3 : Array CpInfo := pool [(1, u "java/lang/Cloneable"), (0, .class_ 1), (0, u "java/lang/Object"), (0, .class_ 3)] 3

/-- java/lang/Cloneable -/
def k3 : Class := { plain "java/lang/Cloneable" (some 0) with
  accessFlags := 1537
  interfaces := #[]
  cf := some (fileOf pool3 2 #[] #[] 1537 4 #[] #[])
  fields := #[]
  methods := #[]
  instanceTypes := #[]
  staticTypes := #[]
  resolved := Array.replicate 8 none
  statics := none }

def pool4 : Array CpInfo := pool [(1, u "java/io/Serializable"), (0, .class_ 1), (0, u "java/lang/Object"), (0, .class_ 3)] 3

/-- java/io/Serializable -/
def k4 : Class := { plain "java/io/Serializable" (some 0) with
  accessFlags := 1537
  interfaces := #[]
  cf := some (fileOf pool4 2 #[] #[] 1537 4 #[] #[])
  fields := #[]
  methods := #[]
  instanceTypes := #[]
  staticTypes := #[]
  resolved := Array.replicate 8 none
  statics := none }

/-- the primitive byte -/
def k5 : Class := { plain "byte" none with kind := .primitive 'B', accessFlags := 0x411 }
/-- [B -/
def k6 : Class := { plain "[B" (some 0) with kind := .array 5 .byte, interfaces := #[3, 4], accessFlags := 1041 }

/-- the primitive int -/
def k7 : Class := { plain "int" none with kind := .primitive 'I', accessFlags := 0x411 }
/-- [I -/
def k8 : Class := { plain "[I" (some 0) with kind := .array 7 .int, interfaces := #[3, 4], accessFlags := 1041 }

def heap : Heap := #[]
def classes : Array Class := #[k0, k1, k2, k3, k4, k5, k6, k7, k8]
def interned : List (Array UInt16 × Addr) := []
def slotsUsed : Nat := 0
def theMethod : MethodId := ⟨1, 2⟩
def args0 : Array Value := #[.int 5, .long 7]
def aboutOver (below : List Frame) : State where
  vm := { classes := classes, interned := interned.toArray }
  heap := heap
  slotsUsed := slotsUsed
  threads := #[{ frames := .invoking theMethod args0 :: below }]
def below0 : List Frame := [.native { method := ⟨0, 0⟩, args := #[] }]
def about1 : State := aboutOver below0
def p0 : Program := .bare "" "" ""
def e0 : Env := launch0.env 0 0 0
theorem w_frames : about1.frames = Frame.invoking theMethod args0 :: below0 := rfl
set_option maxRecDepth 65536 in
theorem w_args : argsFit about1.vm theMethod args0 = true := by decide +kernel
set_option maxRecDepth 65536 in
theorem w_heap : heapFits about1 = true := by decide +kernel
set_option maxRecDepth 65536 in
theorem w_runnable : about1.curStatus? = some .runnable := by decide +kernel
set_option maxRecDepth 65536 in
theorem w_alone : about1.alone = true := by decide +kernel
set_option maxRecDepth 65536 in
theorem w_named : about1.methodNamed? x = some theMethod := by decide +kernel
set_option maxRecDepth 65536 in
theorem w_hears : about1.hears theMethod below0 = true := by decide +kernel
set_option maxRecDepth 65536 in
theorem w_ripe : about1.ripe theMethod args0 below0 = true := by decide +kernel
theorem w_running : about1.status = .running := rfl
set_option maxRecDepth 65536 in
theorem w_room : about1.hasRoom e0.platform room_1 = true :=
  launch0.hasRoom_least _ room_1 (by decide +kernel) (by decide +kernel) (by decide +kernel) (by decide +kernel) (by decide +kernel) (by decide +kernel)
theorem allAtoms_all (ts : List Jvm.Cond) (a : Array Jvm.Value) (st : Jvm.State) : (allAtoms ts).before a st = ts.all (fun c => c.before a st) := by
  induction ts with
  | nil => rfl
  | cons c t ih =>
    show (Jvm.Cond.and c (allAtoms t)).before a st = _
    rw [Jvm.Cond.before_and, ih, List.all_cons]
def words1 : List Jvm.Cond := Jvm.Cond.code x code maxLocals ret :: tables_1
/-- a 'code' word, met by the world's own term for the bytes: nothing is compared byte by byte -/
theorem code_word {y : MethodName} {bytes : ByteArray} {mx : Nat} {rt : Option FieldType} {a : Array Value} {s : State} {m : MethodId} {meth : Method} {c : Code} (h1 : s.methodNamed? y = some m) (h2 : s.vm.method? m = some meth) (h3 : meth.code = some c) (h4 : c.code = bytes)
    (h5 : (c.maxLocals == mx && c.exceptionTable.isEmpty && decide (c.maxStack ≤ mostOperands) && decide (meth.sig.returnType = rt) && !meth.locks && decide (parseMethodDescriptor y.desc = some meth.sig)) = true) : (Jvm.Cond.code y bytes mx rt).before a s = true := by
  simp only [Bool.and_eq_true, beq_iff_eq, Bool.not_eq_true', decide_eq_true_eq] at h5
  obtain ⟨⟨⟨⟨⟨g1, g2⟩, g3⟩, g4⟩, g5⟩, g6⟩ := h5
  simp [Cond.before, Cond.holds, Cond.value, h1, h2, h3, h4, g1, g2, g3, g4, g5, g6]
def isCode : Jvm.Cond → Bool
  | .code _ _ _ _ => true
  | _ => false
theorem all_split {L : List Jvm.Cond} {P : Jvm.Cond → Bool} (h1 : L.all (fun c => isCode c || P c) = true) (h2 : ∀ c ∈ L.filter isCode, P c = true) : L.all P = true := by
  refine List.all_eq_true.mpr fun c hc => ?_
  have h := List.all_eq_true.mp h1 c hc
  rcases Bool.eq_false_or_eq_true (isCode c) with hi | hi
  · exact h2 c (List.mem_filter.mpr ⟨hc, hi⟩)
  · simpa [hi] using h
set_option maxRecDepth 65536 in
theorem w_c0 : (Jvm.Cond.code x code maxLocals ret).before args0 about1 = true := code_word (m := ⟨1, 2⟩) (meth := k1m2) (c := k1c2) (by decide +kernel) rfl rfl rfl (by decide +kernel)
set_option maxRecDepth 65536 in
theorem w_c1 : (Jvm.Cond.code ({ cls := "com/example/protomata/protomata/Bytes", name := "uint", desc := "(IJ)[B" } : Jvm.MethodName) prog_9_method_2_code (5 : Nat) (Option.some (Jvm.ClassFile.FieldType.array Jvm.ClassFile.FieldType.byte))).before args0 about1 = true := code_word (m := ⟨2, 1⟩) (meth := k2m1) (c := k2c1) (by decide +kernel) rfl rfl rfl (by decide +kernel)
set_option maxRecDepth 65536 in
theorem w_c2 : (Jvm.Cond.code ({ cls := "com/example/protomata/protomata/BytesUintPinLaw", name := "step", desc := "(J[BI)J" } : Jvm.MethodName) method_2_code (4 : Nat) (Option.some Jvm.ClassFile.FieldType.long)).before args0 about1 = true := code_word (m := ⟨1, 1⟩) (meth := k1m1) (c := k1c1) (by decide +kernel) rfl rfl rfl (by decide +kernel)
def codes1 : List Jvm.Cond := [Jvm.Cond.code x code maxLocals ret, Jvm.Cond.code ({ cls := "com/example/protomata/protomata/Bytes", name := "uint", desc := "(IJ)[B" } : Jvm.MethodName) prog_9_method_2_code (5 : Nat) (Option.some (Jvm.ClassFile.FieldType.array Jvm.ClassFile.FieldType.byte)), Jvm.Cond.code ({ cls := "com/example/protomata/protomata/BytesUintPinLaw", name := "step", desc := "(J[BI)J" } : Jvm.MethodName) method_2_code (4 : Nat) (Option.some Jvm.ClassFile.FieldType.long)]
set_option maxRecDepth 65536 in
theorem codes_eq : words1.filter isCode = codes1 := rfl
theorem w_codes : ∀ c ∈ words1.filter isCode, c.before args0 about1 = true := by
  rw [codes_eq]
  intro c hc
  simp only [codes1, List.mem_cons, List.not_mem_nil, or_false] at hc
  rcases hc with rfl | rfl | rfl
  · exact w_c0
  · exact w_c1
  · exact w_c2
set_option maxRecDepth 65536 in
theorem w_t1 : words1.all (fun c => isCode c || c.before args0 about1) = true := by decide +kernel
theorem w_tables : (allAtoms (Jvm.Cond.code x code maxLocals ret :: tables_1)).before args0 about1 = true := by
  rw [allAtoms_all]
  show words1.all (fun c => c.before args0 about1) = true
  refine all_split ?_ w_codes
  rw [w_t1]
set_option maxRecDepth 65536 in
theorem w_case : (Jvm.Cond.and given_1 narrow_1).before args0 about1 = true := by decide +kernel
theorem w_applies : (headSpec (Jvm.Cond.code x code maxLocals ret :: tables_1) room_1).applies x e0.platform about1 = true :=
  (Spec.applies_iff w_frames).mpr ⟨w_running, w_runnable, w_alone, w_named, w_hears, w_ripe, w_room, w_tables⟩
theorem atStart : AtStart classFile x code maxLocals ret World_1 tables_1 room_1 Calls_1 rest_1 Pre_1 launch0 p0 e0 about1 theMethod args0 below0 :=
  ⟨lists_1, trivial, launch0.admits_env _ _ _, launch0.least_env, fairChoices_fair.cas, fairChoices_fair.clock, w_frames, w_args, w_heap, w_applies, trivial, trivial, w_case⟩
end start1
theorem witness_1 : WitnessClaimed_1 := ⟨start1.p0, start1.e0, start1.about1, start1.theMethod, start1.args0, start1.below0, start1.atStart⟩
end Jvm.Pilot.@@N@@
