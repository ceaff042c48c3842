import JvmDerived
import JvmDerived.Pilot.@@N@@Statement
import JvmDerived.Pilot.@@N@@Code
set_option linter.unusedVariables false
set_option linter.unusedSimpArgs false
namespace Jvm.RoadKit
open Sem ClassFile Op Lib Jvm.Stand Jvm.Free Jvm.LawKit
section New
variable {p : Program} {l : Launch} {e : Env} {R : Room} {s : State} {m : MethodId} {args : Array Value} {below : List Frame} {meth : Method} {c : Code} {T : State} {locs : List Loc} {cells slots : Nat}
theorem retI (X : Stand p l e R s m args below meth c T locs cells slots) (hx : p.tables.exec = Jvm.exec) {pc : Nat} {Ls : Array Slot} {z : Int32} {rest : List Value} (hret : meth.sig.returnType = some .int) (hd : decode c.code pc = .ok (.ireturn, 1)) {fs : List Frame}
    (hl : ∀ (f : JFrame) (acts : List Action), f.method = m → f.locked = none → f.entered = [] → (doReturn e (T.setTop f) acts (some (.int z))).1 = T.setFrames fs) : Steps p.tables e below (T.setTop (mkF m pc Ls (.int z :: rest))) (T.setFrames fs) := by
  have hm' : T.vm.method? m = some meth := X.method'
  have hn : narrow .int (.int z) = .int z := rfl
  show Steps p.tables e below (T.setTop { method := m, pc := pc, locals := Ls, stack := _ :: rest, locked := none }) _
  jvm_step X.here [X.here.top, hx, hd, hm', hret, hn]
  first | (intro acts; rw [hl _ acts rfl rfl rfl]) | rw [hl _ _ rfl rfl rfl]
  exact Steps.refl _
end New
end Jvm.RoadKit
namespace Jvm.Pilot.@@N@@
open Jvm Jvm.ClassFile Sem Op Lib Jvm.Free Jvm.Stand Jvm.LawKit Jvm.RoadKit Bundle Jvm.Pilot.@@N@@.Jvm.D
def Wp (p : Program) (e : Env) (s : State) (below : List Frame) (C S : Nat) (Q : Option Value → Heap → List Loc → Prop) (T : State) (g : JFrame) : Prop :=
  ∃ s₂ o, Steps p.tables e below (T.setTop g) s₂ ∧ s₂.status = .running ∧ Ended s₂ below o ∧ ∃ v L, o = .returned v ∧ Q v s₂.heap L ∧ FrameEnd s o s₂ L C S
section OwnW
variable {p : Program} {l : Launch} {e : Env} {R : Room} {s : State} {m : MethodId} {args : Array Value} {below : List Frame} {meth : Method} {c : Code} {T : State} {locs : List Loc} {cells slots : Nat} {C S : Nat} {Q : Option Value → Heap → List Loc → Prop} {pc pc' : Nat} {Ls : Array Slot} {st : List Value}
theorem Wp.via {T' : State} {g g' : JFrame} (st : ∀ t, Steps p.tables e below (T'.setTop g') t → Steps p.tables e below (T.setTop g) t) (k : Wp p e s below C S Q T' g') : Wp p e s below C S Q T g := by
  obtain ⟨s₂, o, h1, h2⟩ := k
  exact ⟨s₂, o, st _ h1, h2⟩
theorem w_iload (X : Stand p l e R s m args below meth c T locs cells slots) (hx : p.tables.exec = Jvm.exec) {k : Nat} {v : Int32} (hd : decode c.code pc = .ok (.iload k, 2)) (hl : Ls[k]? = some (.val (.int v))) (hp : pc + 2 = pc') (k : Wp p e s below C S Q T (mkF m pc' Ls (Value.int v :: st))) : Wp p e s below C S Q T (mkF m pc Ls (st)) := by
  subst hp
  exact Wp.via (fun _ h => XS.iload X.here hx rfl hd hl h) k
theorem w_iloadN (X : Stand p l e R s m args below meth c T locs cells slots) (hx : p.tables.exec = Jvm.exec) {k : Fin 4} {v : Int32} (hd : decode c.code pc = .ok (.iload_n k, 1)) (hl : Ls[k.val]? = some (.val (.int v))) (hp : pc + 1 = pc') (k : Wp p e s below C S Q T (mkF m pc' Ls (Value.int v :: st))) : Wp p e s below C S Q T (mkF m pc Ls (st)) := by
  subst hp
  exact Wp.via (fun _ h => XS.iloadN X.here hx rfl hd hl h) k
theorem w_lload (X : Stand p l e R s m args below meth c T locs cells slots) (hx : p.tables.exec = Jvm.exec) {k : Nat} {v : Int64} (hd : decode c.code pc = .ok (.lload k, 2)) (hl : Ls[k]? = some (.val (.long v))) (hp : pc + 2 = pc') (k : Wp p e s below C S Q T (mkF m pc' Ls (Value.long v :: st))) : Wp p e s below C S Q T (mkF m pc Ls (st)) := by
  subst hp
  exact Wp.via (fun _ h => XT.lload X.here hx rfl hd hl h) k
theorem w_lloadN (X : Stand p l e R s m args below meth c T locs cells slots) (hx : p.tables.exec = Jvm.exec) {k : Fin 4} {v : Int64} (hd : decode c.code pc = .ok (.lload_n k, 1)) (hl : Ls[k.val]? = some (.val (.long v))) (hp : pc + 1 = pc') (k : Wp p e s below C S Q T (mkF m pc' Ls (Value.long v :: st))) : Wp p e s below C S Q T (mkF m pc Ls (st)) := by
  subst hp
  exact Wp.via (fun _ h => XT.lloadN X.here hx rfl hd hl h) k
theorem w_aload (X : Stand p l e R s m args below meth c T locs cells slots) (hx : p.tables.exec = Jvm.exec) {k : Nat} {v : Value} (hd : decode c.code pc = .ok (.aload k, 2)) (hl : Ls[k]? = some (.val v)) (hv : v.isRef = true) (hp : pc + 2 = pc') (k : Wp p e s below C S Q T (mkF m pc' Ls (v :: st))) : Wp p e s below C S Q T (mkF m pc Ls (st)) := by
  subst hp
  exact Wp.via (fun _ h => XS.aload X.here hx rfl hd hl hv h) k
theorem w_aloadN (X : Stand p l e R s m args below meth c T locs cells slots) (hx : p.tables.exec = Jvm.exec) {k : Fin 4} {v : Value} (hd : decode c.code pc = .ok (.aload_n k, 1)) (hl : Ls[k.val]? = some (.val v)) (hv : v.isRef = true) (hp : pc + 1 = pc') (k : Wp p e s below C S Q T (mkF m pc' Ls (v :: st))) : Wp p e s below C S Q T (mkF m pc Ls (st)) := by
  subst hp
  exact Wp.via (fun _ h => XS.aloadN X.here hx rfl hd hl hv h) k
theorem w_istore (X : Stand p l e R s m args below meth c T locs cells slots) (hx : p.tables.exec = Jvm.exec) {k : Nat} {v : Int32} {l' : Array Slot} (hd : decode c.code pc = .ok (.istore k, 2)) (hl : storeLocals Ls k (Value.int v) = some l') (hp : pc + 2 = pc') (k : Wp p e s below C S Q T (mkF m pc' l' (st))) : Wp p e s below C S Q T (mkF m pc Ls (Value.int v :: st)) := by
  subst hp
  exact Wp.via (fun _ h => XS.istore X.here hx rfl hd rfl hl h) k
theorem w_istoreN (X : Stand p l e R s m args below meth c T locs cells slots) (hx : p.tables.exec = Jvm.exec) {k : Fin 4} {v : Int32} {l' : Array Slot} (hd : decode c.code pc = .ok (.istore_n k, 1)) (hl : storeLocals Ls k.val (Value.int v) = some l') (hp : pc + 1 = pc') (k : Wp p e s below C S Q T (mkF m pc' l' (st))) : Wp p e s below C S Q T (mkF m pc Ls (Value.int v :: st)) := by
  subst hp
  exact Wp.via (fun _ h => XS.istoreN X.here hx rfl hd rfl hl h) k
theorem w_lstore (X : Stand p l e R s m args below meth c T locs cells slots) (hx : p.tables.exec = Jvm.exec) {k : Nat} {v : Int64} {l' : Array Slot} (hd : decode c.code pc = .ok (.lstore k, 2)) (hl : storeLocals Ls k (Value.long v) = some l') (hp : pc + 2 = pc') (k : Wp p e s below C S Q T (mkF m pc' l' (st))) : Wp p e s below C S Q T (mkF m pc Ls (Value.long v :: st)) := by
  subst hp
  exact Wp.via (fun _ h => XT.lstore X.here hx rfl hd rfl hl h) k
theorem w_lstoreN (X : Stand p l e R s m args below meth c T locs cells slots) (hx : p.tables.exec = Jvm.exec) {k : Fin 4} {v : Int64} {l' : Array Slot} (hd : decode c.code pc = .ok (.lstore_n k, 1)) (hl : storeLocals Ls k.val (Value.long v) = some l') (hp : pc + 1 = pc') (k : Wp p e s below C S Q T (mkF m pc' l' (st))) : Wp p e s below C S Q T (mkF m pc Ls (Value.long v :: st)) := by
  subst hp
  exact Wp.via (fun _ h => XT.lstoreN X.here hx rfl hd rfl hl h) k
theorem w_astore (X : Stand p l e R s m args below meth c T locs cells slots) (hx : p.tables.exec = Jvm.exec) {k : Nat} {v : Value} {l' : Array Slot} (hd : decode c.code pc = .ok (.astore k, 2)) (hv : v.isRef = true) (hl : storeLocals Ls k v = some l') (hp : pc + 2 = pc') (k : Wp p e s below C S Q T (mkF m pc' l' (st))) : Wp p e s below C S Q T (mkF m pc Ls (v :: st)) := by
  subst hp
  exact Wp.via (fun _ h => XS.astore X.here hx rfl hd rfl hv hl h) k
theorem w_astoreN (X : Stand p l e R s m args below meth c T locs cells slots) (hx : p.tables.exec = Jvm.exec) {k : Fin 4} {v : Value} {l' : Array Slot} (hd : decode c.code pc = .ok (.astore_n k, 1)) (hv : v.isRef = true) (hl : storeLocals Ls k.val v = some l') (hp : pc + 1 = pc') (k : Wp p e s below C S Q T (mkF m pc' l' (st))) : Wp p e s below C S Q T (mkF m pc Ls (v :: st)) := by
  subst hp
  exact Wp.via (fun _ h => XS.astoreN X.here hx rfl hd rfl hv hl h) k
theorem w_iconst (X : Stand p l e R s m args below meth c T locs cells slots) (hx : p.tables.exec = Jvm.exec) {i : Int} {v : Int32} (hd : decode c.code pc = .ok (.iconst i, 1)) (hv : Int32.ofInt i = v) (hp : pc + 1 = pc') (k : Wp p e s below C S Q T (mkF m pc' Ls (Value.int v :: st))) : Wp p e s below C S Q T (mkF m pc Ls (st)) := by
  subst hp hv
  exact Wp.via (fun _ h => XS.iconst X.here hx rfl hd h) k
theorem w_bipush (X : Stand p l e R s m args below meth c T locs cells slots) (hx : p.tables.exec = Jvm.exec) {i : Int} {v : Int32} (hd : decode c.code pc = .ok (.bipush i, 2)) (hv : (Int8.ofInt i).toInt32 = v) (hp : pc + 2 = pc') (k : Wp p e s below C S Q T (mkF m pc' Ls (Value.int v :: st))) : Wp p e s below C S Q T (mkF m pc Ls (st)) := by
  subst hp hv
  exact Wp.via (fun _ h => XS.bipush X.here hx rfl hd h) k
theorem w_sipush (X : Stand p l e R s m args below meth c T locs cells slots) (hx : p.tables.exec = Jvm.exec) {i : Int} {v : Int32} (hd : decode c.code pc = .ok (.sipush i, 3)) (hv : (Int16.ofInt i).toInt32 = v) (hp : pc + 3 = pc') (k : Wp p e s below C S Q T (mkF m pc' Ls (Value.int v :: st))) : Wp p e s below C S Q T (mkF m pc Ls (st)) := by
  subst hp hv
  exact Wp.via (fun _ h => XS.sipush X.here hx rfl hd h) k
theorem w_lconst (X : Stand p l e R s m args below meth c T locs cells slots) (hx : p.tables.exec = Jvm.exec) {k : Fin 2} {v : Int64} (hd : decode c.code pc = .ok (.lconst k, 1)) (hv : Int64.ofNat k = v) (hp : pc + 1 = pc') (k : Wp p e s below C S Q T (mkF m pc' Ls (Value.long v :: st))) : Wp p e s below C S Q T (mkF m pc Ls (st)) := by
  subst hp hv
  exact Wp.via (fun _ h => XT.lconst X.here hx rfl hd h) k
theorem w_aconst (X : Stand p l e R s m args below meth c T locs cells slots) (hx : p.tables.exec = Jvm.exec)  (hd : decode c.code pc = .ok (.aconst_null, 1))  (hp : pc + 1 = pc') (k : Wp p e s below C S Q T (mkF m pc' Ls (Value.null :: st))) : Wp p e s below C S Q T (mkF m pc Ls (st)) := by
  subst hp
  exact Wp.via (fun _ h => XS.aconstNull X.here hx rfl hd h) k
theorem w_ldc (X : Stand p l e R s m args below meth c T locs cells slots) (hx : p.tables.exec = Jvm.exec) {i : Nat} {v : Int32} {own : String} (hd : decode c.code pc = .ok (.ldc i, 2)) (hown : s.vm.findClass own = some m.cls) (hc : (Jvm.Cond.constant own i v).before args s = true) (hp : pc + 2 = pc') (k : Wp p e s below C S Q T (mkF m pc' Ls (Value.int v :: st))) : Wp p e s below C S Q T (mkF m pc Ls (st)) := by
  subst hp
  exact Wp.via (fun _ h => X.ldcInt hx hown hc (g := mkF m pc Ls st) rfl hd _ h) k
theorem w_ldc2 (X : Stand p l e R s m args below meth c T locs cells slots) (hx : p.tables.exec = Jvm.exec) {i : Nat} {v : Int64} {own : String} (hd : decode c.code pc = .ok (.ldc2_w i, 3)) (hown : s.vm.findClass own = some m.cls) (hc : (Jvm.Cond.constantLong own i v).before args s = true) (hp : pc + 3 = pc') (k : Wp p e s below C S Q T (mkF m pc' Ls (Value.long v :: st))) : Wp p e s below C S Q T (mkF m pc Ls (st)) := by
  subst hp
  exact Wp.via (fun _ h => X.ldc2Long hx hown hc (g := mkF m pc Ls st) rfl hd _ h) k
theorem w_iadd (X : Stand p l e R s m args below meth c T locs cells slots) (hx : p.tables.exec = Jvm.exec) {x y : Int32} (hd : decode c.code pc = .ok (.iadd, 1))  (hp : pc + 1 = pc') (k : Wp p e s below C S Q T (mkF m pc' Ls (Value.int (x + y) :: st))) : Wp p e s below C S Q T (mkF m pc Ls (Value.int y :: Value.int x :: st)) := by
  subst hp
  exact Wp.via (fun _ h => XS.iadd X.here hx rfl hd rfl h) k
theorem w_isub (X : Stand p l e R s m args below meth c T locs cells slots) (hx : p.tables.exec = Jvm.exec) {x y : Int32} (hd : decode c.code pc = .ok (.isub, 1))  (hp : pc + 1 = pc') (k : Wp p e s below C S Q T (mkF m pc' Ls (Value.int (x - y) :: st))) : Wp p e s below C S Q T (mkF m pc Ls (Value.int y :: Value.int x :: st)) := by
  subst hp
  exact Wp.via (fun _ h => XS.isub X.here hx rfl hd rfl h) k
theorem w_iand (X : Stand p l e R s m args below meth c T locs cells slots) (hx : p.tables.exec = Jvm.exec) {x y : Int32} (hd : decode c.code pc = .ok (.iand, 1))  (hp : pc + 1 = pc') (k : Wp p e s below C S Q T (mkF m pc' Ls (Value.int (x &&& y) :: st))) : Wp p e s below C S Q T (mkF m pc Ls (Value.int y :: Value.int x :: st)) := by
  subst hp
  exact Wp.via (fun _ h => XS.iand X.here hx rfl hd rfl h) k
theorem w_imul (X : Stand p l e R s m args below meth c T locs cells slots) (hx : p.tables.exec = Jvm.exec) {x y : Int32} (hd : decode c.code pc = .ok (.imul, 1))  (hp : pc + 1 = pc') (k : Wp p e s below C S Q T (mkF m pc' Ls (Value.int (x * y) :: st))) : Wp p e s below C S Q T (mkF m pc Ls (Value.int y :: Value.int x :: st)) := by
  subst hp
  exact Wp.via (fun _ h => XS.imul X.here hx rfl hd rfl h) k
theorem w_ixor (X : Stand p l e R s m args below meth c T locs cells slots) (hx : p.tables.exec = Jvm.exec) {x y : Int32} (hd : decode c.code pc = .ok (.ixor, 1))  (hp : pc + 1 = pc') (k : Wp p e s below C S Q T (mkF m pc' Ls (Value.int (x ^^^ y) :: st))) : Wp p e s below C S Q T (mkF m pc Ls (Value.int y :: Value.int x :: st)) := by
  subst hp
  exact Wp.via (fun _ h => XT.ixor X.here hx rfl hd rfl h) k
theorem w_ior (X : Stand p l e R s m args below meth c T locs cells slots) (hx : p.tables.exec = Jvm.exec) {x y : Int32} (hd : decode c.code pc = .ok (.ior, 1))  (hp : pc + 1 = pc') (k : Wp p e s below C S Q T (mkF m pc' Ls (Value.int (x ||| y) :: st))) : Wp p e s below C S Q T (mkF m pc Ls (Value.int y :: Value.int x :: st)) := by
  subst hp
  exact Wp.via (fun _ h => XT.ior X.here hx rfl hd rfl h) k
theorem w_ishl (X : Stand p l e R s m args below meth c T locs cells slots) (hx : p.tables.exec = Jvm.exec) {x y : Int32} (hd : decode c.code pc = .ok (.ishl, 1))  (hp : pc + 1 = pc') (k : Wp p e s below C S Q T (mkF m pc' Ls (Value.int (x <<< (y &&& 31)) :: st))) : Wp p e s below C S Q T (mkF m pc Ls (Value.int y :: Value.int x :: st)) := by
  subst hp
  exact Wp.via (fun _ h => XT.ishl X.here hx rfl hd rfl h) k
theorem w_ishr (X : Stand p l e R s m args below meth c T locs cells slots) (hx : p.tables.exec = Jvm.exec) {x y : Int32} (hd : decode c.code pc = .ok (.ishr, 1))  (hp : pc + 1 = pc') (k : Wp p e s below C S Q T (mkF m pc' Ls (Value.int (x >>> (y &&& 31)) :: st))) : Wp p e s below C S Q T (mkF m pc Ls (Value.int y :: Value.int x :: st)) := by
  subst hp
  exact Wp.via (fun _ h => XT.ishr X.here hx rfl hd rfl h) k
theorem w_iushr (X : Stand p l e R s m args below meth c T locs cells slots) (hx : p.tables.exec = Jvm.exec) {x y : Int32} (hd : decode c.code pc = .ok (.iushr, 1))  (hp : pc + 1 = pc') (k : Wp p e s below C S Q T (mkF m pc' Ls (Value.int (XT.ushr x y) :: st))) : Wp p e s below C S Q T (mkF m pc Ls (Value.int y :: Value.int x :: st)) := by
  subst hp
  exact Wp.via (fun _ h => XT.iushr X.here hx rfl hd rfl h) k
theorem w_idiv (X : Stand p l e R s m args below meth c T locs cells slots) (hx : p.tables.exec = Jvm.exec) {x y : Int32} (hd : decode c.code pc = .ok (.idiv, 1)) (hy : y ≠ 0) (hp : pc + 1 = pc') (k : Wp p e s below C S Q T (mkF m pc' Ls (Value.int (x / y) :: st))) : Wp p e s below C S Q T (mkF m pc Ls (Value.int y :: Value.int x :: st)) := by
  subst hp
  exact Wp.via (fun _ h => XS.idiv X.here hx rfl hd rfl hy h) k
theorem w_irem (X : Stand p l e R s m args below meth c T locs cells slots) (hx : p.tables.exec = Jvm.exec) {x y : Int32} (hd : decode c.code pc = .ok (.irem, 1)) (hy : y ≠ 0) (hp : pc + 1 = pc') (k : Wp p e s below C S Q T (mkF m pc' Ls (Value.int (x % y) :: st))) : Wp p e s below C S Q T (mkF m pc Ls (Value.int y :: Value.int x :: st)) := by
  subst hp
  exact Wp.via (fun _ h => iremM X hx rfl hd rfl hy h) k
theorem w_ladd (X : Stand p l e R s m args below meth c T locs cells slots) (hx : p.tables.exec = Jvm.exec) {x y : Int64} (hd : decode c.code pc = .ok (.ladd, 1))  (hp : pc + 1 = pc') (k : Wp p e s below C S Q T (mkF m pc' Ls (Value.long (x + y) :: st))) : Wp p e s below C S Q T (mkF m pc Ls (Value.long y :: Value.long x :: st)) := by
  subst hp
  exact Wp.via (fun _ h => XT.ladd X.here hx rfl hd rfl h) k
theorem w_lsub (X : Stand p l e R s m args below meth c T locs cells slots) (hx : p.tables.exec = Jvm.exec) {x y : Int64} (hd : decode c.code pc = .ok (.lsub, 1))  (hp : pc + 1 = pc') (k : Wp p e s below C S Q T (mkF m pc' Ls (Value.long (x - y) :: st))) : Wp p e s below C S Q T (mkF m pc Ls (Value.long y :: Value.long x :: st)) := by
  subst hp
  exact Wp.via (fun _ h => XT.lsub X.here hx rfl hd rfl h) k
theorem w_lmul (X : Stand p l e R s m args below meth c T locs cells slots) (hx : p.tables.exec = Jvm.exec) {x y : Int64} (hd : decode c.code pc = .ok (.lmul, 1))  (hp : pc + 1 = pc') (k : Wp p e s below C S Q T (mkF m pc' Ls (Value.long (x * y) :: st))) : Wp p e s below C S Q T (mkF m pc Ls (Value.long y :: Value.long x :: st)) := by
  subst hp
  exact Wp.via (fun _ h => XT.lmul X.here hx rfl hd rfl h) k
theorem w_land (X : Stand p l e R s m args below meth c T locs cells slots) (hx : p.tables.exec = Jvm.exec) {x y : Int64} (hd : decode c.code pc = .ok (.land, 1))  (hp : pc + 1 = pc') (k : Wp p e s below C S Q T (mkF m pc' Ls (Value.long (x &&& y) :: st))) : Wp p e s below C S Q T (mkF m pc Ls (Value.long y :: Value.long x :: st)) := by
  subst hp
  exact Wp.via (fun _ h => XT.land X.here hx rfl hd rfl h) k
theorem w_lor (X : Stand p l e R s m args below meth c T locs cells slots) (hx : p.tables.exec = Jvm.exec) {x y : Int64} (hd : decode c.code pc = .ok (.lor, 1))  (hp : pc + 1 = pc') (k : Wp p e s below C S Q T (mkF m pc' Ls (Value.long (x ||| y) :: st))) : Wp p e s below C S Q T (mkF m pc Ls (Value.long y :: Value.long x :: st)) := by
  subst hp
  exact Wp.via (fun _ h => XT.lor X.here hx rfl hd rfl h) k
theorem w_lxor (X : Stand p l e R s m args below meth c T locs cells slots) (hx : p.tables.exec = Jvm.exec) {x y : Int64} (hd : decode c.code pc = .ok (.lxor, 1))  (hp : pc + 1 = pc') (k : Wp p e s below C S Q T (mkF m pc' Ls (Value.long (x ^^^ y) :: st))) : Wp p e s below C S Q T (mkF m pc Ls (Value.long y :: Value.long x :: st)) := by
  subst hp
  exact Wp.via (fun _ h => XT.lxor X.here hx rfl hd rfl h) k
theorem w_ldiv (X : Stand p l e R s m args below meth c T locs cells slots) (hx : p.tables.exec = Jvm.exec) {x y : Int64} (hd : decode c.code pc = .ok (.ldiv, 1)) (hy : y ≠ 0) (hp : pc + 1 = pc') (k : Wp p e s below C S Q T (mkF m pc' Ls (Value.long (x / y) :: st))) : Wp p e s below C S Q T (mkF m pc Ls (Value.long y :: Value.long x :: st)) := by
  subst hp
  exact Wp.via (fun _ h => XT.ldiv X.here hx rfl hd rfl hy h) k
theorem w_lrem (X : Stand p l e R s m args below meth c T locs cells slots) (hx : p.tables.exec = Jvm.exec) {x y : Int64} (hd : decode c.code pc = .ok (.lrem, 1)) (hy : y ≠ 0) (hp : pc + 1 = pc') (k : Wp p e s below C S Q T (mkF m pc' Ls (Value.long (x % y) :: st))) : Wp p e s below C S Q T (mkF m pc Ls (Value.long y :: Value.long x :: st)) := by
  subst hp
  exact Wp.via (fun _ h => XT.lrem X.here hx rfl hd rfl hy (by rw [lrem_mod]; exact h)) k
theorem w_lshl (X : Stand p l e R s m args below meth c T locs cells slots) (hx : p.tables.exec = Jvm.exec) {x : Int64} {y : Int32} (hd : decode c.code pc = .ok (.lshl, 1))  (hp : pc + 1 = pc') (k : Wp p e s below C S Q T (mkF m pc' Ls (Value.long (x <<< (y.toInt64 &&& 63)) :: st))) : Wp p e s below C S Q T (mkF m pc Ls (Value.int y :: Value.long x :: st)) := by
  subst hp
  exact Wp.via (fun _ h => XT.lshl X.here hx rfl hd rfl h) k
theorem w_lshr (X : Stand p l e R s m args below meth c T locs cells slots) (hx : p.tables.exec = Jvm.exec) {x : Int64} {y : Int32} (hd : decode c.code pc = .ok (.lshr, 1))  (hp : pc + 1 = pc') (k : Wp p e s below C S Q T (mkF m pc' Ls (Value.long (x >>> (y.toInt64 &&& 63)) :: st))) : Wp p e s below C S Q T (mkF m pc Ls (Value.int y :: Value.long x :: st)) := by
  subst hp
  exact Wp.via (fun _ h => XT.lshr X.here hx rfl hd rfl h) k
theorem w_lushr (X : Stand p l e R s m args below meth c T locs cells slots) (hx : p.tables.exec = Jvm.exec) {x : Int64} {y : Int32} (hd : decode c.code pc = .ok (.lushr, 1))  (hp : pc + 1 = pc') (k : Wp p e s below C S Q T (mkF m pc' Ls (Value.long (XT.ushrL x y) :: st))) : Wp p e s below C S Q T (mkF m pc Ls (Value.int y :: Value.long x :: st)) := by
  subst hp
  exact Wp.via (fun _ h => XT.lushr X.here hx rfl hd rfl h) k
theorem w_lcmp (X : Stand p l e R s m args below meth c T locs cells slots) (hx : p.tables.exec = Jvm.exec) {x y : Int64} (hd : decode c.code pc = .ok (.lcmp, 1))  (hp : pc + 1 = pc') (k : Wp p e s below C S Q T (mkF m pc' Ls (Value.int (XT.cmpL x y) :: st))) : Wp p e s below C S Q T (mkF m pc Ls (Value.long y :: Value.long x :: st)) := by
  subst hp
  exact Wp.via (fun _ h => XT.lcmp X.here hx rfl hd rfl h) k
theorem w_ineg (X : Stand p l e R s m args below meth c T locs cells slots) (hx : p.tables.exec = Jvm.exec) {x : Int32} (hd : decode c.code pc = .ok (.ineg, 1))  (hp : pc + 1 = pc') (k : Wp p e s below C S Q T (mkF m pc' Ls (Value.int (-x) :: st))) : Wp p e s below C S Q T (mkF m pc Ls (Value.int x :: st)) := by
  subst hp
  exact Wp.via (fun _ h => XS.ineg X.here hx rfl hd rfl h) k
theorem w_lneg (X : Stand p l e R s m args below meth c T locs cells slots) (hx : p.tables.exec = Jvm.exec) {x : Int64} (hd : decode c.code pc = .ok (.lneg, 1))  (hp : pc + 1 = pc') (k : Wp p e s below C S Q T (mkF m pc' Ls (Value.long (-x) :: st))) : Wp p e s below C S Q T (mkF m pc Ls (Value.long x :: st)) := by
  subst hp
  exact Wp.via (fun _ h => XT.lneg X.here hx rfl hd rfl h) k
theorem w_i2l (X : Stand p l e R s m args below meth c T locs cells slots) (hx : p.tables.exec = Jvm.exec) {x : Int32} (hd : decode c.code pc = .ok (.i2l, 1))  (hp : pc + 1 = pc') (k : Wp p e s below C S Q T (mkF m pc' Ls (Value.long x.toInt64 :: st))) : Wp p e s below C S Q T (mkF m pc Ls (Value.int x :: st)) := by
  subst hp
  exact Wp.via (fun _ h => XT.i2l X.here hx rfl hd rfl h) k
theorem w_l2i (X : Stand p l e R s m args below meth c T locs cells slots) (hx : p.tables.exec = Jvm.exec) {x : Int64} (hd : decode c.code pc = .ok (.l2i, 1))  (hp : pc + 1 = pc') (k : Wp p e s below C S Q T (mkF m pc' Ls (Value.int x.toInt32 :: st))) : Wp p e s below C S Q T (mkF m pc Ls (Value.long x :: st)) := by
  subst hp
  exact Wp.via (fun _ h => XT.l2i X.here hx rfl hd rfl h) k
theorem w_i2b (X : Stand p l e R s m args below meth c T locs cells slots) (hx : p.tables.exec = Jvm.exec) {x : Int32} (hd : decode c.code pc = .ok (.i2b, 1))  (hp : pc + 1 = pc') (k : Wp p e s below C S Q T (mkF m pc' Ls (Value.int x.toInt8.toInt32 :: st))) : Wp p e s below C S Q T (mkF m pc Ls (Value.int x :: st)) := by
  subst hp
  exact Wp.via (fun _ h => XT.i2b X.here hx rfl hd rfl h) k
theorem w_i2c (X : Stand p l e R s m args below meth c T locs cells slots) (hx : p.tables.exec = Jvm.exec) {x : Int32} (hd : decode c.code pc = .ok (.i2c, 1))  (hp : pc + 1 = pc') (k : Wp p e s below C S Q T (mkF m pc' Ls (Value.int x.toUInt32.toUInt16.toUInt32.toInt32 :: st))) : Wp p e s below C S Q T (mkF m pc Ls (Value.int x :: st)) := by
  subst hp
  exact Wp.via (fun _ h => XT.i2c X.here hx rfl hd rfl h) k
theorem w_iinc (X : Stand p l e R s m args below meth c T locs cells slots) (hx : p.tables.exec = Jvm.exec) {k : Nat} {cst : Int} {v : Int32} {l' : Array Slot} (hd : decode c.code pc = .ok (.iinc k cst, 3)) (hl : Ls[k]? = some (.val (.int v))) (hl' : storeLocals Ls k (.int (v + Int32.ofInt cst)) = some l') (hp : pc + 3 = pc') (k : Wp p e s below C S Q T (mkF m pc' l' (st))) : Wp p e s below C S Q T (mkF m pc Ls (st)) := by
  subst hp
  exact Wp.via (fun _ h => XS.iinc X.here hx rfl hd hl hl' h) k
theorem w_dup (X : Stand p l e R s m args below meth c T locs cells slots) (hx : p.tables.exec = Jvm.exec) {x : Value} (hd : decode c.code pc = .ok (.dup, 1)) (hc : x.category = 1) (hp : pc + 1 = pc') (k : Wp p e s below C S Q T (mkF m pc' Ls (x :: x :: st))) : Wp p e s below C S Q T (mkF m pc Ls (x :: st)) := by
  subst hp
  exact Wp.via (fun _ h => XS.dup X.here hx rfl hd rfl hc h) k
theorem w_dup2 (X : Stand p l e R s m args below meth c T locs cells slots) (hx : p.tables.exec = Jvm.exec) {x y : Value} (hd : decode c.code pc = .ok (.dup2, 1)) (hc : x.category = 1) (hc' : y.category = 1) (hp : pc + 1 = pc') (k : Wp p e s below C S Q T (mkF m pc' Ls (x :: y :: x :: y :: st))) : Wp p e s below C S Q T (mkF m pc Ls (x :: y :: st)) := by
  subst hp
  exact Wp.via (fun _ h => XT.dup2 X.here hx rfl hd rfl hc hc' h) k
theorem w_dup2L (X : Stand p l e R s m args below meth c T locs cells slots) (hx : p.tables.exec = Jvm.exec) {x : Int64} (hd : decode c.code pc = .ok (.dup2, 1))  (hp : pc + 1 = pc') (k : Wp p e s below C S Q T (mkF m pc' Ls (Value.long x :: Value.long x :: st))) : Wp p e s below C S Q T (mkF m pc Ls (Value.long x :: st)) := by
  subst hp
  exact Wp.via (fun _ h => XT.dup2L X.here hx rfl hd rfl h) k
theorem w_dupX1 (X : Stand p l e R s m args below meth c T locs cells slots) (hx : p.tables.exec = Jvm.exec) {x y : Value} (hd : decode c.code pc = .ok (.dup_x1, 1)) (hc : x.category = 1) (hc' : y.category = 1) (hp : pc + 1 = pc') (k : Wp p e s below C S Q T (mkF m pc' Ls (x :: y :: x :: st))) : Wp p e s below C S Q T (mkF m pc Ls (x :: y :: st)) := by
  subst hp
  exact Wp.via (fun _ h => XT.dupX1 X.here hx rfl hd rfl hc hc' h) k
theorem w_pop (X : Stand p l e R s m args below meth c T locs cells slots) (hx : p.tables.exec = Jvm.exec) {x : Value} (hd : decode c.code pc = .ok (.pop, 1)) (hc : x.category = 1) (hp : pc + 1 = pc') (k : Wp p e s below C S Q T (mkF m pc' Ls (st))) : Wp p e s below C S Q T (mkF m pc Ls (x :: st)) := by
  subst hp
  exact Wp.via (fun _ h => XT.pop X.here hx rfl hd rfl hc h) k
theorem w_goto (X : Stand p l e R s m args below meth c T locs cells slots) (hx : p.tables.exec = Jvm.exec) {o : Int} (hd : decode c.code pc = .ok (.goto o, 3)) (ho : 0 ≤ (pc : Int) + o) (hp : ((pc : Int) + o).toNat = pc') (k : Wp p e s below C S Q T (mkF m pc' Ls st)) : Wp p e s below C S Q T (mkF m pc Ls st) :=
  Wp.via (fun _ h => XS.goto X.here hx rfl (pc0 := pc) (pc' := pc') rfl hd ho hp h) k
theorem w_icmp_eq (X : Stand p l e R s m args below meth c T locs cells slots) (hx : p.tables.exec = Jvm.exec) {o : Int} {pcY : Nat} {x y : Int32} (hd : decode c.code pc = .ok (.if_icmp .eq o, 3)) (ho : 0 ≤ (pc : Int) + o) (hy : ((pc : Int) + o).toNat = pcY) (hp : pc + 3 = pc') (kY : x = y → Wp p e s below C S Q T (mkF m pcY Ls st)) (kN : ¬ x = y → Wp p e s below C S Q T (mkF m pc' Ls st)) : Wp p e s below C S Q T (mkF m pc Ls (Value.int y :: Value.int x :: st)) := by
  by_cases q : x = y
  · exact Wp.via (fun _ h => XS.icmpYes X.here hx rfl (pc0 := pc) (pc' := pcY) rfl hd rfl (teq q).1 ho hy h) (kY q)
  · exact Wp.via (fun _ h => XS.icmpNo X.here hx rfl hd rfl (feq (by simpa using q)).1 h) (by subst hp; exact kN (by simpa using q))
theorem w_if_eq (X : Stand p l e R s m args below meth c T locs cells slots) (hx : p.tables.exec = Jvm.exec) {o : Int} {pcY : Nat} {x : Int32} (hd : decode c.code pc = .ok (.ifCond .eq o, 3)) (ho : 0 ≤ (pc : Int) + o) (hy : ((pc : Int) + o).toNat = pcY) (hp : pc + 3 = pc') (kY : x = 0 → Wp p e s below C S Q T (mkF m pcY Ls st)) (kN : ¬ x = 0 → Wp p e s below C S Q T (mkF m pc' Ls st)) : Wp p e s below C S Q T (mkF m pc Ls (Value.int x :: st)) := by
  by_cases q : x = 0
  · exact Wp.via (fun _ h => XS.ifYes X.here hx rfl (pc0 := pc) (pc' := pcY) rfl hd rfl ((if0 _ _).trans (teq q).1) ho hy h) (kY q)
  · exact Wp.via (fun _ h => XS.ifNo X.here hx rfl hd rfl ((if0 _ _).trans (feq (by simpa using q)).1) h) (by subst hp; exact kN (by simpa using q))
theorem w_icmp_ne (X : Stand p l e R s m args below meth c T locs cells slots) (hx : p.tables.exec = Jvm.exec) {o : Int} {pcY : Nat} {x y : Int32} (hd : decode c.code pc = .ok (.if_icmp .ne o, 3)) (ho : 0 ≤ (pc : Int) + o) (hy : ((pc : Int) + o).toNat = pcY) (hp : pc + 3 = pc') (kY : ¬ x = y → Wp p e s below C S Q T (mkF m pcY Ls st)) (kN : x = y → Wp p e s below C S Q T (mkF m pc' Ls st)) : Wp p e s below C S Q T (mkF m pc Ls (Value.int y :: Value.int x :: st)) := by
  by_cases q : ¬ x = y
  · exact Wp.via (fun _ h => XS.icmpYes X.here hx rfl (pc0 := pc) (pc' := pcY) rfl hd rfl (feq q).2 ho hy h) (kY q)
  · exact Wp.via (fun _ h => XS.icmpNo X.here hx rfl hd rfl (teq (by simpa using q)).2 h) (by subst hp; exact kN (by simpa using q))
theorem w_if_ne (X : Stand p l e R s m args below meth c T locs cells slots) (hx : p.tables.exec = Jvm.exec) {o : Int} {pcY : Nat} {x : Int32} (hd : decode c.code pc = .ok (.ifCond .ne o, 3)) (ho : 0 ≤ (pc : Int) + o) (hy : ((pc : Int) + o).toNat = pcY) (hp : pc + 3 = pc') (kY : ¬ x = 0 → Wp p e s below C S Q T (mkF m pcY Ls st)) (kN : x = 0 → Wp p e s below C S Q T (mkF m pc' Ls st)) : Wp p e s below C S Q T (mkF m pc Ls (Value.int x :: st)) := by
  by_cases q : ¬ x = 0
  · exact Wp.via (fun _ h => XS.ifYes X.here hx rfl (pc0 := pc) (pc' := pcY) rfl hd rfl ((if0 _ _).trans (feq q).2) ho hy h) (kY q)
  · exact Wp.via (fun _ h => XS.ifNo X.here hx rfl hd rfl ((if0 _ _).trans (teq (by simpa using q)).2) h) (by subst hp; exact kN (by simpa using q))
theorem w_icmp_lt (X : Stand p l e R s m args below meth c T locs cells slots) (hx : p.tables.exec = Jvm.exec) {o : Int} {pcY : Nat} {x y : Int32} (hd : decode c.code pc = .ok (.if_icmp .lt o, 3)) (ho : 0 ≤ (pc : Int) + o) (hy : ((pc : Int) + o).toNat = pcY) (hp : pc + 3 = pc') (kY : x < y → Wp p e s below C S Q T (mkF m pcY Ls st)) (kN : ¬ x < y → Wp p e s below C S Q T (mkF m pc' Ls st)) : Wp p e s below C S Q T (mkF m pc Ls (Value.int y :: Value.int x :: st)) := by
  by_cases q : x < y
  · exact Wp.via (fun _ h => XS.icmpYes X.here hx rfl (pc0 := pc) (pc' := pcY) rfl hd rfl (tlt q).1 ho hy h) (kY q)
  · exact Wp.via (fun _ h => XS.icmpNo X.here hx rfl hd rfl (flt (by simpa using q)).1 h) (by subst hp; exact kN (by simpa using q))
theorem w_if_lt (X : Stand p l e R s m args below meth c T locs cells slots) (hx : p.tables.exec = Jvm.exec) {o : Int} {pcY : Nat} {x : Int32} (hd : decode c.code pc = .ok (.ifCond .lt o, 3)) (ho : 0 ≤ (pc : Int) + o) (hy : ((pc : Int) + o).toNat = pcY) (hp : pc + 3 = pc') (kY : x < 0 → Wp p e s below C S Q T (mkF m pcY Ls st)) (kN : ¬ x < 0 → Wp p e s below C S Q T (mkF m pc' Ls st)) : Wp p e s below C S Q T (mkF m pc Ls (Value.int x :: st)) := by
  by_cases q : x < 0
  · exact Wp.via (fun _ h => XS.ifYes X.here hx rfl (pc0 := pc) (pc' := pcY) rfl hd rfl ((if0 _ _).trans (tlt q).1) ho hy h) (kY q)
  · exact Wp.via (fun _ h => XS.ifNo X.here hx rfl hd rfl ((if0 _ _).trans (flt (by simpa using q)).1) h) (by subst hp; exact kN (by simpa using q))
theorem w_icmp_ge (X : Stand p l e R s m args below meth c T locs cells slots) (hx : p.tables.exec = Jvm.exec) {o : Int} {pcY : Nat} {x y : Int32} (hd : decode c.code pc = .ok (.if_icmp .ge o, 3)) (ho : 0 ≤ (pc : Int) + o) (hy : ((pc : Int) + o).toNat = pcY) (hp : pc + 3 = pc') (kY : ¬ x < y → Wp p e s below C S Q T (mkF m pcY Ls st)) (kN : x < y → Wp p e s below C S Q T (mkF m pc' Ls st)) : Wp p e s below C S Q T (mkF m pc Ls (Value.int y :: Value.int x :: st)) := by
  by_cases q : ¬ x < y
  · exact Wp.via (fun _ h => XS.icmpYes X.here hx rfl (pc0 := pc) (pc' := pcY) rfl hd rfl (flt q).2.1 ho hy h) (kY q)
  · exact Wp.via (fun _ h => XS.icmpNo X.here hx rfl hd rfl (tlt (by simpa using q)).2.1 h) (by subst hp; exact kN (by simpa using q))
theorem w_if_ge (X : Stand p l e R s m args below meth c T locs cells slots) (hx : p.tables.exec = Jvm.exec) {o : Int} {pcY : Nat} {x : Int32} (hd : decode c.code pc = .ok (.ifCond .ge o, 3)) (ho : 0 ≤ (pc : Int) + o) (hy : ((pc : Int) + o).toNat = pcY) (hp : pc + 3 = pc') (kY : ¬ x < 0 → Wp p e s below C S Q T (mkF m pcY Ls st)) (kN : x < 0 → Wp p e s below C S Q T (mkF m pc' Ls st)) : Wp p e s below C S Q T (mkF m pc Ls (Value.int x :: st)) := by
  by_cases q : ¬ x < 0
  · exact Wp.via (fun _ h => XS.ifYes X.here hx rfl (pc0 := pc) (pc' := pcY) rfl hd rfl ((if0 _ _).trans (flt q).2.1) ho hy h) (kY q)
  · exact Wp.via (fun _ h => XS.ifNo X.here hx rfl hd rfl ((if0 _ _).trans (tlt (by simpa using q)).2.1) h) (by subst hp; exact kN (by simpa using q))
theorem w_icmp_gt (X : Stand p l e R s m args below meth c T locs cells slots) (hx : p.tables.exec = Jvm.exec) {o : Int} {pcY : Nat} {x y : Int32} (hd : decode c.code pc = .ok (.if_icmp .gt o, 3)) (ho : 0 ≤ (pc : Int) + o) (hy : ((pc : Int) + o).toNat = pcY) (hp : pc + 3 = pc') (kY : y < x → Wp p e s below C S Q T (mkF m pcY Ls st)) (kN : ¬ y < x → Wp p e s below C S Q T (mkF m pc' Ls st)) : Wp p e s below C S Q T (mkF m pc Ls (Value.int y :: Value.int x :: st)) := by
  by_cases q : y < x
  · exact Wp.via (fun _ h => XS.icmpYes X.here hx rfl (pc0 := pc) (pc' := pcY) rfl hd rfl (tlt q).2.2.1 ho hy h) (kY q)
  · exact Wp.via (fun _ h => XS.icmpNo X.here hx rfl hd rfl (flt (by simpa using q)).2.2.1 h) (by subst hp; exact kN (by simpa using q))
theorem w_if_gt (X : Stand p l e R s m args below meth c T locs cells slots) (hx : p.tables.exec = Jvm.exec) {o : Int} {pcY : Nat} {x : Int32} (hd : decode c.code pc = .ok (.ifCond .gt o, 3)) (ho : 0 ≤ (pc : Int) + o) (hy : ((pc : Int) + o).toNat = pcY) (hp : pc + 3 = pc') (kY : 0 < x → Wp p e s below C S Q T (mkF m pcY Ls st)) (kN : ¬ 0 < x → Wp p e s below C S Q T (mkF m pc' Ls st)) : Wp p e s below C S Q T (mkF m pc Ls (Value.int x :: st)) := by
  by_cases q : 0 < x
  · exact Wp.via (fun _ h => XS.ifYes X.here hx rfl (pc0 := pc) (pc' := pcY) rfl hd rfl ((if0 _ _).trans (tlt q).2.2.1) ho hy h) (kY q)
  · exact Wp.via (fun _ h => XS.ifNo X.here hx rfl hd rfl ((if0 _ _).trans (flt (by simpa using q)).2.2.1) h) (by subst hp; exact kN (by simpa using q))
theorem w_icmp_le (X : Stand p l e R s m args below meth c T locs cells slots) (hx : p.tables.exec = Jvm.exec) {o : Int} {pcY : Nat} {x y : Int32} (hd : decode c.code pc = .ok (.if_icmp .le o, 3)) (ho : 0 ≤ (pc : Int) + o) (hy : ((pc : Int) + o).toNat = pcY) (hp : pc + 3 = pc') (kY : ¬ y < x → Wp p e s below C S Q T (mkF m pcY Ls st)) (kN : y < x → Wp p e s below C S Q T (mkF m pc' Ls st)) : Wp p e s below C S Q T (mkF m pc Ls (Value.int y :: Value.int x :: st)) := by
  by_cases q : ¬ y < x
  · exact Wp.via (fun _ h => XS.icmpYes X.here hx rfl (pc0 := pc) (pc' := pcY) rfl hd rfl (flt q).2.2.2 ho hy h) (kY q)
  · exact Wp.via (fun _ h => XS.icmpNo X.here hx rfl hd rfl (tlt (by simpa using q)).2.2.2 h) (by subst hp; exact kN (by simpa using q))
theorem w_if_le (X : Stand p l e R s m args below meth c T locs cells slots) (hx : p.tables.exec = Jvm.exec) {o : Int} {pcY : Nat} {x : Int32} (hd : decode c.code pc = .ok (.ifCond .le o, 3)) (ho : 0 ≤ (pc : Int) + o) (hy : ((pc : Int) + o).toNat = pcY) (hp : pc + 3 = pc') (kY : ¬ 0 < x → Wp p e s below C S Q T (mkF m pcY Ls st)) (kN : 0 < x → Wp p e s below C S Q T (mkF m pc' Ls st)) : Wp p e s below C S Q T (mkF m pc Ls (Value.int x :: st)) := by
  by_cases q : ¬ 0 < x
  · exact Wp.via (fun _ h => XS.ifYes X.here hx rfl (pc0 := pc) (pc' := pcY) rfl hd rfl ((if0 _ _).trans (flt q).2.2.2) ho hy h) (kY q)
  · exact Wp.via (fun _ h => XS.ifNo X.here hx rfl hd rfl ((if0 _ _).trans (tlt (by simpa using q)).2.2.2) h) (by subst hp; exact kN (by simpa using q))
theorem own_cl_lt (x y : Int64) : XT.cmpL x y < 0 ↔ x < y := by
  unfold XT.cmpL
  by_cases h1 : y < x
  · rw [if_pos h1]
    refine ⟨fun h => absurd h (by decide), fun h => absurd (Int64.lt_trans h1 h) Int64.lt_irrefl⟩
  · rw [if_neg h1]
    by_cases h2 : x = y
    · rw [if_pos h2]
      refine ⟨fun h => absurd h (by decide), fun h => absurd (h2 ▸ h) Int64.lt_irrefl⟩
    · rw [if_neg h2]
      refine ⟨fun _ => ?_, fun _ => by decide⟩
      rw [Int64.lt_iff_toInt_lt] at *
      have : x.toInt ≠ y.toInt := fun q => h2 (Int64.toInt_inj.mp q)
      omega
theorem own_cl_gt (x y : Int64) : 0 < XT.cmpL x y ↔ y < x := by
  unfold XT.cmpL
  by_cases h1 : y < x
  · rw [if_pos h1]
    exact ⟨fun _ => h1, fun _ => by decide⟩
  · rw [if_neg h1]
    by_cases h2 : x = y
    · rw [if_pos h2]
      exact ⟨fun h => absurd h (by decide), fun h => absurd h h1⟩
    · rw [if_neg h2]
      exact ⟨fun h => absurd h (by decide), fun h => absurd h h1⟩
theorem own_cl_eq (x y : Int64) : XT.cmpL x y = 0 ↔ x = y := by
  unfold XT.cmpL
  by_cases h1 : y < x
  · rw [if_pos h1]
    exact ⟨fun h => absurd h (by decide), fun h => absurd (h ▸ h1) Int64.lt_irrefl⟩
  · rw [if_neg h1]
    by_cases h2 : x = y
    · rw [if_pos h2]
      exact ⟨fun _ => h2, fun _ => rfl⟩
    · rw [if_neg h2]
      exact ⟨fun h => absurd h (by decide), fun h => absurd h h2⟩
theorem w_lcmp_eq (X : Stand p l e R s m args below meth c T locs cells slots) (hx : p.tables.exec = Jvm.exec) {o : Int} {pcY pc1 : Nat} {x y : Int64} (hd : decode c.code pc = .ok (.lcmp, 1)) (hp1 : pc + 1 = pc1) (hd1 : decode c.code pc1 = .ok (.ifCond .eq o, 3)) (ho : 0 ≤ (pc1 : Int) + o) (hy : ((pc1 : Int) + o).toNat = pcY) (hp : pc1 + 3 = pc') (kY : x = y → Wp p e s below C S Q T (mkF m pcY Ls st)) (kN : ¬ x = y → Wp p e s below C S Q T (mkF m pc' Ls st)) : Wp p e s below C S Q T (mkF m pc Ls (Value.long y :: Value.long x :: st)) :=
  w_lcmp X hx hd hp1 (w_if_eq X hx hd1 ho hy hp (fun q => kY ((own_cl_eq x y).mp q)) (fun q => kN fun r => q ((own_cl_eq x y).mpr r)))
theorem w_lcmp_ne (X : Stand p l e R s m args below meth c T locs cells slots) (hx : p.tables.exec = Jvm.exec) {o : Int} {pcY pc1 : Nat} {x y : Int64} (hd : decode c.code pc = .ok (.lcmp, 1)) (hp1 : pc + 1 = pc1) (hd1 : decode c.code pc1 = .ok (.ifCond .ne o, 3)) (ho : 0 ≤ (pc1 : Int) + o) (hy : ((pc1 : Int) + o).toNat = pcY) (hp : pc1 + 3 = pc') (kY : ¬ x = y → Wp p e s below C S Q T (mkF m pcY Ls st)) (kN : x = y → Wp p e s below C S Q T (mkF m pc' Ls st)) : Wp p e s below C S Q T (mkF m pc Ls (Value.long y :: Value.long x :: st)) :=
  w_lcmp X hx hd hp1 (w_if_ne X hx hd1 ho hy hp (fun q => kY fun r => q ((own_cl_eq x y).mpr r)) (fun q => kN ((own_cl_eq x y).mp q)))
theorem w_lcmp_lt (X : Stand p l e R s m args below meth c T locs cells slots) (hx : p.tables.exec = Jvm.exec) {o : Int} {pcY pc1 : Nat} {x y : Int64} (hd : decode c.code pc = .ok (.lcmp, 1)) (hp1 : pc + 1 = pc1) (hd1 : decode c.code pc1 = .ok (.ifCond .lt o, 3)) (ho : 0 ≤ (pc1 : Int) + o) (hy : ((pc1 : Int) + o).toNat = pcY) (hp : pc1 + 3 = pc') (kY : x < y → Wp p e s below C S Q T (mkF m pcY Ls st)) (kN : ¬ x < y → Wp p e s below C S Q T (mkF m pc' Ls st)) : Wp p e s below C S Q T (mkF m pc Ls (Value.long y :: Value.long x :: st)) :=
  w_lcmp X hx hd hp1 (w_if_lt X hx hd1 ho hy hp (fun q => kY ((own_cl_lt x y).mp q)) (fun q => kN fun r => q ((own_cl_lt x y).mpr r)))
theorem w_lcmp_ge (X : Stand p l e R s m args below meth c T locs cells slots) (hx : p.tables.exec = Jvm.exec) {o : Int} {pcY pc1 : Nat} {x y : Int64} (hd : decode c.code pc = .ok (.lcmp, 1)) (hp1 : pc + 1 = pc1) (hd1 : decode c.code pc1 = .ok (.ifCond .ge o, 3)) (ho : 0 ≤ (pc1 : Int) + o) (hy : ((pc1 : Int) + o).toNat = pcY) (hp : pc1 + 3 = pc') (kY : ¬ x < y → Wp p e s below C S Q T (mkF m pcY Ls st)) (kN : x < y → Wp p e s below C S Q T (mkF m pc' Ls st)) : Wp p e s below C S Q T (mkF m pc Ls (Value.long y :: Value.long x :: st)) :=
  w_lcmp X hx hd hp1 (w_if_ge X hx hd1 ho hy hp (fun q => kY fun r => q ((own_cl_lt x y).mpr r)) (fun q => kN ((own_cl_lt x y).mp q)))
theorem w_lcmp_gt (X : Stand p l e R s m args below meth c T locs cells slots) (hx : p.tables.exec = Jvm.exec) {o : Int} {pcY pc1 : Nat} {x y : Int64} (hd : decode c.code pc = .ok (.lcmp, 1)) (hp1 : pc + 1 = pc1) (hd1 : decode c.code pc1 = .ok (.ifCond .gt o, 3)) (ho : 0 ≤ (pc1 : Int) + o) (hy : ((pc1 : Int) + o).toNat = pcY) (hp : pc1 + 3 = pc') (kY : y < x → Wp p e s below C S Q T (mkF m pcY Ls st)) (kN : ¬ y < x → Wp p e s below C S Q T (mkF m pc' Ls st)) : Wp p e s below C S Q T (mkF m pc Ls (Value.long y :: Value.long x :: st)) :=
  w_lcmp X hx hd hp1 (w_if_gt X hx hd1 ho hy hp (fun q => kY ((own_cl_gt x y).mp q)) (fun q => kN fun r => q ((own_cl_gt x y).mpr r)))
theorem w_lcmp_le (X : Stand p l e R s m args below meth c T locs cells slots) (hx : p.tables.exec = Jvm.exec) {o : Int} {pcY pc1 : Nat} {x y : Int64} (hd : decode c.code pc = .ok (.lcmp, 1)) (hp1 : pc + 1 = pc1) (hd1 : decode c.code pc1 = .ok (.ifCond .le o, 3)) (ho : 0 ≤ (pc1 : Int) + o) (hy : ((pc1 : Int) + o).toNat = pcY) (hp : pc1 + 3 = pc') (kY : ¬ y < x → Wp p e s below C S Q T (mkF m pcY Ls st)) (kN : y < x → Wp p e s below C S Q T (mkF m pc' Ls st)) : Wp p e s below C S Q T (mkF m pc Ls (Value.long y :: Value.long x :: st)) :=
  w_lcmp X hx hd hp1 (w_if_le X hx hd1 ho hy hp (fun q => kY fun r => q ((own_cl_gt x y).mpr r)) (fun q => kN ((own_cl_gt x y).mp q)))
theorem w_eqI {x z : Int32} (h : x = z) (k : Wp p e s below C S Q T (mkF m pc Ls (Value.int z :: st))) : Wp p e s below C S Q T (mkF m pc Ls (Value.int x :: st)) := h ▸ k
theorem w_genI {x : Int32} (k : ∀ z, z = x → Wp p e s below C S Q T (mkF m pc Ls (Value.int z :: st))) : Wp p e s below C S Q T (mkF m pc Ls (Value.int x :: st)) := k x rfl
theorem w_eqJ {x z : Int64} (h : x = z) (k : Wp p e s below C S Q T (mkF m pc Ls (Value.long z :: st))) : Wp p e s below C S Q T (mkF m pc Ls (Value.long x :: st)) := h ▸ k
theorem w_genJ {x : Int64} (k : ∀ z, z = x → Wp p e s below C S Q T (mkF m pc Ls (Value.long z :: st))) : Wp p e s below C S Q T (mkF m pc Ls (Value.long x :: st)) := k x rfl
theorem w_iincE (X : Stand p l e R s m args below meth c T locs cells slots) (hx : p.tables.exec = Jvm.exec) {k : Nat} {cst : Int} {v z : Int32} {l' : Array Slot} (hd : decode c.code pc = .ok (.iinc k cst, 3)) (hl : Ls[k]? = some (.val (.int v))) (hz : v + Int32.ofInt cst = z) (hl' : storeLocals Ls k (.int z) = some l') (hp : pc + 3 = pc') (k : Wp p e s below C S Q T (mkF m pc' l' (st))) : Wp p e s below C S Q T (mkF m pc Ls (st)) := by
  subst hp
  exact Wp.via (fun _ h => XS.iinc X.here hx rfl hd hl (hz ▸ hl') h) k
theorem w_ifnullY (X : Stand p l e R s m args below meth c T locs cells slots) (hx : p.tables.exec = Jvm.exec) {o : Int}  (hd : decode c.code pc = .ok (.ifnull o, 3)) (ho : 0 ≤ (pc : Int) + o) (hp : ((pc : Int) + o).toNat = pc') (k : Wp p e s below C S Q T (mkF m pc' Ls st)) : Wp p e s below C S Q T (mkF m pc Ls (Value.null :: st)) :=
  Wp.via (fun _ h => XS.ifnullYes X.here hx rfl (pc0 := pc) (pc' := pc') rfl hd rfl ho hp h) k
theorem w_ifnonnullY (X : Stand p l e R s m args below meth c T locs cells slots) (hx : p.tables.exec = Jvm.exec) {o : Int} {b : Addr} (hd : decode c.code pc = .ok (.ifnonnull o, 3)) (ho : 0 ≤ (pc : Int) + o) (hp : ((pc : Int) + o).toNat = pc') (k : Wp p e s below C S Q T (mkF m pc' Ls st)) : Wp p e s below C S Q T (mkF m pc Ls (Value.ref b :: st)) :=
  Wp.via (fun _ h => XT.ifnonnullYes X.here hx rfl (pc0 := pc) (pc' := pc') rfl hd rfl ho hp h) k
theorem w_ifnullN (X : Stand p l e R s m args below meth c T locs cells slots) (hx : p.tables.exec = Jvm.exec) {o : Int} {b : Addr} (hd : decode c.code pc = .ok (.ifnull o, 3))  (hp : pc + 3 = pc') (k : Wp p e s below C S Q T (mkF m pc' Ls (st))) : Wp p e s below C S Q T (mkF m pc Ls (Value.ref b :: st)) := by
  subst hp
  exact Wp.via (fun _ h => XS.ifnullNo X.here hx rfl hd rfl h) k
theorem w_ifnonnullN (X : Stand p l e R s m args below meth c T locs cells slots) (hx : p.tables.exec = Jvm.exec) {o : Int} (hd : decode c.code pc = .ok (.ifnonnull o, 3))  (hp : pc + 3 = pc') (k : Wp p e s below C S Q T (mkF m pc' Ls (st))) : Wp p e s below C S Q T (mkF m pc Ls (Value.null :: st)) := by
  subst hp
  exact Wp.via (fun _ h => XT.ifnonnullNo X.here hx rfl hd rfl h) k
theorem own_out {fs : List Frame} {v : Option Value} {g : JFrame} (hs : Steps p.tables e below (T.setTop g) (T.setFrames fs)) (h1 : (T.setFrames fs).status = .running) (h2 : Ended (T.setFrames fs) below (.returned v)) (h3 : s.WarmedH (T.setFrames fs).vm) (h4 : s.sameButNew ({ T.setFrames fs with vm := s.vm } : State) locs cells slots)
    (hc : cells ≤ C) (hl : slots ≤ S) (hq : Q v T.heap locs) : Wp p e s below C S Q T g :=
  ⟨_, _, hs, h1, h2, _, _, rfl, hq, ⟨_, rfl⟩, h3, h4.mono hc hl⟩
theorem w_ret_i (X : Stand p l e R s m args below meth c T locs cells slots) (hx : p.tables.exec = Jvm.exec) {z : Int32} (hret : meth.sig.returnType = some .int) (hlk : meth.locks = false) (hd : decode c.code pc = .ok (.ireturn, 1)) (hc : cells ≤ C) (hl : slots ≤ S) (hq : Q (some (.int z)) T.heap locs) : Wp p e s below C S Q T (mkF m pc Ls (Value.int z :: st)) := by
  obtain ⟨fs, hr, h1, h2, h3, h4⟩ := X.leave (v := some (.int z)) (fun h => by rw [hret] at h; cases h) hlk
  exact own_out (retI X hx hret hd hr) h1 h2 h3 h4 hc hl hq
theorem w_ret_n (X : Stand p l e R s m args below meth c T locs cells slots) (hx : p.tables.exec = Jvm.exec) {z z' : Int32} {t : FieldType} (hret : meth.sig.returnType = some t) (hlk : meth.locks = false) (ht : t = .boolean ∨ t = .byte ∨ t = .char ∨ t = .short) (hd : decode c.code pc = .ok (.ireturn, 1)) (hz : nar t z = z') (hc : cells ≤ C) (hl : slots ≤ S) (hq : Q (some (.int z')) T.heap locs) : Wp p e s below C S Q T (mkF m pc Ls (Value.int z :: st)) := by
  subst hz
  obtain ⟨fs, hr, h1, h2, h3, h4⟩ := X.leave (v := some (.int (nar t z))) (fun h => by rw [hret] at h; cases h) hlk
  exact own_out (retN X hx hret ht hd hr) h1 h2 h3 h4 hc hl hq
theorem w_ret_l (X : Stand p l e R s m args below meth c T locs cells slots) (hx : p.tables.exec = Jvm.exec) {z : Int64} (hret : meth.sig.returnType = some .long) (hlk : meth.locks = false) (hd : decode c.code pc = .ok (.lreturn, 1)) (hc : cells ≤ C) (hl : slots ≤ S) (hq : Q (some (.long z)) T.heap locs) : Wp p e s below C S Q T (mkF m pc Ls [Value.long z]) := by
  obtain ⟨fs, hr, h1, h2, h3, h4⟩ := X.leave (v := some (.long z)) (fun h => by rw [hret] at h; cases h) hlk
  exact own_out (X.lreturnOut hx hret hd hr) h1 h2 h3 h4 hc hl hq
theorem w_ret_a (X : Stand p l e R s m args below meth c T locs cells slots) (hx : p.tables.exec = Jvm.exec) {w : Value} {t : FieldType} (hw : w.isRef = true) (hret : meth.sig.returnType = some t) (ht : t.isReference = true) (hlk : meth.locks = false) (hd : decode c.code pc = .ok (.areturn, 1)) (hc : cells ≤ C) (hl : slots ≤ S) (hq : Q (some w) T.heap locs) : Wp p e s below C S Q T (mkF m pc Ls [w]) := by
  obtain ⟨fs, hr, h1, h2, h3, h4⟩ := X.leave (v := some w) (fun h => by rw [hret] at h; cases h) hlk
  exact own_out (X.areturnOut hx hw hret ht hd hr) h1 h2 h3 h4 hc hl hq
theorem w_ret_v (X : Stand p l e R s m args below meth c T locs cells slots) (hx : p.tables.exec = Jvm.exec) (hret : meth.sig.returnType = none) (hlk : meth.locks = false) (hd : decode c.code pc = .ok (.return_, 1)) (hc : cells ≤ C) (hl : slots ≤ S) (hq : Q none T.heap locs) : Wp p e s below C S Q T (mkF m pc Ls []) := by
  obtain ⟨fs, hr, h1, h2, h3, h4⟩ := X.leave (v := none) (fun h => rfl) hlk
  exact own_out (X.returnOut hx hret hd hr) h1 h2 h3 h4 hc hl hq
theorem own_call (X : Stand p l e R s m args below meth c T locs cells slots) (hx : p.tables.exec = Jvm.exec) {Z : State} {a0 : Array Value} {h : Heap} (hZ : Z.Warmed39 s.vm) (eT : T.heap = h) {own : String} {i : Nat} {y : MethodName} {bytes : ByteArray} {maxL : Nat} {ret : Option FieldType} {rm : Room} {W : Nat} {as' : Array Value} {Qc : Option Value → Heap → List Loc → Prop}
    (hown : s.vm.findClass own = some m.cls) (hml : Ls.size = c.maxLocals) (w1 : (Jvm.Cond.methodLink own i y).before a0 Z = true) (w2 : (Jvm.Cond.static y).before a0 Z = true) (w3 : (Jvm.Cond.initialized y.cls).before a0 Z = true) (w4 : (Jvm.Cond.code y bytes maxL ret).before a0 Z = true)
    (hM : MetFree l y (head1 [Jvm.Cond.code y bytes maxL ret] rm) (fun a U => a = as' ∧ Z.Warmed39 U.vm ∧ U.heap = h) (fun _ _ _ _ _ => True) (fun _ U o U' => ∃ v L, o = .returned v ∧ Qc v U'.heap L ∧ FrameEnd U o U' L rm.cells rm.slots))
    (hy : y.cls ≠ "java/lang/invoke/MethodHandle" ∧ y.cls ≠ "java/lang/invoke/VarHandle") (hf : rm.frames + 1 ≤ R.frames) (hl : W + (maxL + 11) + rm.locals ≤ R.locals) (hc : cells + rm.cells ≤ R.cells) (hsl : slots + rm.slots ≤ R.slots)
    {argsL rest : List Value} {ps : List FieldType} {r : Option FieldType} (hpd : parseMethodDescriptor y.desc = some ⟨ps, r⟩) (hlen : argsL.length = ps.length) (has : argsL.toArray = as') (hst : st = argsL.reverse ++ rest) (hW : (rest.map fun v => v.category).sum ≤ W) (hd : decode c.code pc = .ok (.invokestatic i, 3)) (hp : pc + 3 = pc')
    (k : ∀ (v : Option Value) (T' : State) (L : List Loc), Stand p l e R s m args below meth c T' (locs ++ L) (cells + rm.cells) (slots + rm.slots) → Qc v T'.heap L → Wp p e s below C S Q T' (mkF m pc' Ls (v.toList ++ rest))) : Wp p e s below C S Q T (mkF m pc Ls st) := by
  obtain ⟨v, _, ⟨T1, L1, k1, n1⟩, -, X1, ⟨Lc1, hQ1, l1, y1, z1⟩, st1⟩ := Jvm.LawKit.callS X hx (y := y) hown (mvT hZ w1) (mvT hZ w2) (mvT hZ w3) (mvT hZ w4) hy (backOf (W := W) hM hZ w4 w3 hf hl) (g := mkF m pc Ls st) rfl hml (argsL := argsL) (rest := rest) (lenOf hpd hlen) hst (by show 2 * 0 + _ ≤ _; omega) hd (fun _ _ => ⟨has, eT, hc, hsl⟩)
  dsimp only [Pt.U, Pt.locs, Pt.cells, Pt.slots] at X1 l1 y1 z1 st1 hQ1
  subst l1 y1 z1
  subst hp
  exact Wp.via st1 (k v T1 Lc1 X1 hQ1)
theorem own_cast {g g' : JFrame} (q : g = g') (k : Wp p e s below C S Q T g') : Wp p e s below C S Q T g := q ▸ k
def PureQ (r : Value) (h0 : Heap) (v : Option Value) (h : Heap) (L : List Loc) : Prop := v = some r ∧ L = [] ∧ h = h0
theorem w_callP (X : Stand p l e R s m args below meth c T locs cells slots) (hx : p.tables.exec = Jvm.exec) {Z : State} {a0 : Array Value} {h : Heap} (hZ : Z.Warmed39 s.vm) (eT : T.heap = h) {own : String} {i : Nat} {y : MethodName} {bytes : ByteArray} {maxL : Nat} {ret : Option FieldType} {rm : Room} {W : Nat} {as' : Array Value} {r0 : Value}
    (hown : s.vm.findClass own = some m.cls) (hml : Ls.size = c.maxLocals) (w1 : (Jvm.Cond.methodLink own i y).before a0 Z = true) (w2 : (Jvm.Cond.static y).before a0 Z = true) (w3 : (Jvm.Cond.initialized y.cls).before a0 Z = true) (w4 : (Jvm.Cond.code y bytes maxL ret).before a0 Z = true)
    (hM : MetFree l y (head1 [Jvm.Cond.code y bytes maxL ret] rm) (fun a U => a = as' ∧ Z.Warmed39 U.vm ∧ U.heap = h) (fun _ _ _ _ _ => True) (fun _ U o U' => ∃ v L, o = .returned v ∧ PureQ r0 h v U'.heap L ∧ FrameEnd U o U' L rm.cells rm.slots))
    (hy : y.cls ≠ "java/lang/invoke/MethodHandle" ∧ y.cls ≠ "java/lang/invoke/VarHandle") (hf : rm.frames + 1 ≤ R.frames) (hl : W + (maxL + 11) + rm.locals ≤ R.locals) (hc : rm.cells = 0) (hsl : rm.slots = 0) (hc' : cells ≤ R.cells) (hsl' : slots ≤ R.slots)
    {argsL rest : List Value} {ps : List FieldType} {r : Option FieldType} (hpd : parseMethodDescriptor y.desc = some ⟨ps, r⟩) (hlen : argsL.length = ps.length) (has : argsL.toArray = as') (hst : st = argsL.reverse ++ rest) (hW : (rest.map fun v => v.category).sum ≤ W) (hd : decode c.code pc = .ok (.invokestatic i, 3)) (hp : pc + 3 = pc')
    (k : ∀ (T' : State), Stand p l e R s m args below meth c T' locs cells slots → T'.heap = h → Wp p e s below C S Q T' (mkF m pc' Ls (r0 :: rest))) : Wp p e s below C S Q T (mkF m pc Ls st) := by
  refine own_call X hx hZ eT hown hml w1 w2 w3 w4 hM hy hf hl (by omega) (by omega) hpd hlen has hst hW hd hp ?_
  intro v T' L X' hq
  obtain ⟨rfl, rfl, e1⟩ := hq
  rw [List.append_nil, hc, hsl] at X'
  exact k T' X' e1
def PureQV (h0 : Heap) (v : Option Value) (h : Heap) (L : List Loc) : Prop := v = none ∧ L = [] ∧ h = h0
theorem w_callPV (X : Stand p l e R s m args below meth c T locs cells slots) (hx : p.tables.exec = Jvm.exec) {Z : State} {a0 : Array Value} {h : Heap} (hZ : Z.Warmed39 s.vm) (eT : T.heap = h) {own : String} {i : Nat} {y : MethodName} {bytes : ByteArray} {maxL : Nat} {ret : Option FieldType} {rm : Room} {W : Nat} {as' : Array Value}
    (hown : s.vm.findClass own = some m.cls) (hml : Ls.size = c.maxLocals) (w1 : (Jvm.Cond.methodLink own i y).before a0 Z = true) (w2 : (Jvm.Cond.static y).before a0 Z = true) (w3 : (Jvm.Cond.initialized y.cls).before a0 Z = true) (w4 : (Jvm.Cond.code y bytes maxL ret).before a0 Z = true)
    (hM : MetFree l y (head1 [Jvm.Cond.code y bytes maxL ret] rm) (fun a U => a = as' ∧ Z.Warmed39 U.vm ∧ U.heap = h) (fun _ _ _ _ _ => True) (fun _ U o U' => ∃ v L, o = .returned v ∧ PureQV h v U'.heap L ∧ FrameEnd U o U' L rm.cells rm.slots))
    (hy : y.cls ≠ "java/lang/invoke/MethodHandle" ∧ y.cls ≠ "java/lang/invoke/VarHandle") (hf : rm.frames + 1 ≤ R.frames) (hl : W + (maxL + 11) + rm.locals ≤ R.locals) (hc : rm.cells = 0) (hsl : rm.slots = 0) (hc' : cells ≤ R.cells) (hsl' : slots ≤ R.slots)
    {argsL rest : List Value} {ps : List FieldType} {r : Option FieldType} (hpd : parseMethodDescriptor y.desc = some ⟨ps, r⟩) (hlen : argsL.length = ps.length) (has : argsL.toArray = as') (hst : st = argsL.reverse ++ rest) (hW : (rest.map fun v => v.category).sum ≤ W) (hd : decode c.code pc = .ok (.invokestatic i, 3)) (hp : pc + 3 = pc')
    (k : ∀ (T' : State), Stand p l e R s m args below meth c T' locs cells slots → T'.heap = h → Wp p e s below C S Q T' (mkF m pc' Ls rest)) : Wp p e s below C S Q T (mkF m pc Ls st) := by
  refine own_call X hx hZ eT hown hml w1 w2 w3 w4 hM hy hf hl (by omega) (by omega) hpd hlen has hst hW hd hp ?_
  intro v T' L X' hq
  obtain ⟨rfl, rfl, e1⟩ := hq
  rw [List.append_nil, hc, hsl] at X'
  exact k T' X' e1
theorem own_body {x : MethodName} {code : ByteArray} {maxL : Nat} {ret : Option FieldType} {ws : List Jvm.Cond} {rm : Room} {Z : State} {as : Array Value} {h0 : Heap} (hx : plainFor x = true)
    (body : ∀ (p : Program) (e : Env) (s : State) (m : MethodId) (below : List Frame) (meth : Method) (c : Code) (T : State), p.tables.exec = Jvm.exec → c.code = code → c.maxLocals = maxL → meth.sig.returnType = ret → meth.locks = false → s.vm.findClass x.cls = some m.cls → meth.name = x.name → Z.Warmed39 s.vm → Stand p l e rm s m as below meth c T [] 0 0 → T.heap = h0 → Wp p e s below rm.cells rm.slots Q T (entryFrame m as maxL)) :
    MetFree l x (head1 (Jvm.Cond.code x code maxL ret :: ws) rm) (fun a U => a = as ∧ Z.Warmed39 U.vm ∧ U.heap = h0) (fun _ _ _ _ _ => True) (fun _ U o U' => ∃ v L, o = .returned v ∧ Q v U'.heap L ∧ FrameEnd U o U' L rm.cells rm.slots) := by
  refine MetFree.of_bodySF hx hisR ?_
  intro p e s m args below meth c s₁ Bd hml0 hP hK
  obtain ⟨rfl, hZ, hh⟩ := hP
  exact body p e s m below meth c s₁ Bd.exec Bd.bytes hml0 Bd.returns Bd.notSynchronized (findClass_of_methodNamed Bd.named) (name_of_methodNamed Bd.named Bd.method).1 hZ (Stand.of_body Bd) (by rw [← hh, Bd.state]; rfl)
end OwnW
/-! cells made since the start: explicit -/
def HP (n0 : Nat) (h : Heap) (cs : List Cell) : Prop := h.size = n0 + cs.length ∧ ∀ (i : Nat) (c : Cell), cs[i]? = some c → h[n0 + i]? = some c
def IsA (Z : State) (k : ClassId) (ty : FieldType) : Prop := (∃ kc, Z.vm.classes[k]? = some kc ∧ ∃ comp, kc.kind = .array comp ty) ∧ Z.vm.findClass ("[" ++ ty.toString) = some k
def AC (k : ClassId) (vs : List Value) : Cell := { cls := k, slots := vs.toArray, vm := .none }
def FldC (Z : State) (cell : Cell) (C n d : String) (v : Value) : Prop := ∃ (cf : ClassId) (k : Class) (i : Nat) (f : Field), Z.fieldFound? C n d = some (cf, k, i, f) ∧ f.isStatic = false ∧ cell.vm ≠ .unknown ∧ cell.vm.isStatics = false ∧ Z.vm.assignable cell.cls cf = true ∧ cell.slots[f.slot]? = some v
def ExaC (Z : State) (cell : Cell) (C : String) : Prop := ∃ (k : Class), Z.vm.findClass C = some cell.cls ∧ Z.vm.classes[cell.cls]? = some k ∧ cell.vm.isStatics = false ∧ (k.kind = .ordinary → cell.slots.size = k.instanceTypes.size)
def ObjF (Z : State) (cell : Cell) (C : String) (fl : List (String × String)) (vs : List Value) : Prop := ExaC Z cell C ∧ vs.length = fl.length ∧ ∀ (j : Nat) (n d : String) (v : Value), fl[j]? = some (n, d) → vs[j]? = some v → FldC Z cell C n d v
def Dis (Z : State) (C : String) (fl : List (String × String)) : Prop := ∀ (i j : Nat) (a b : String × String), fl[i]? = some a → fl[j]? = some b → i ≠ j → Jvm.RoadKit.slotOf Z C a.1 a.2 ≠ Jvm.RoadKit.slotOf Z C b.1 b.2
section OwnHP
variable {Z : State} {h h' : Heap} {n0 : Nat} {cs : List Cell} {i sl : Nat} {cell : Cell} {v : Value} {k : ClassId} {vs : List Value} {ty : FieldType} {C : String} {fl : List (String × String)}
theorem HP.nil (h : Heap) : HP h.size h [] := ⟨by simp, fun i c q => by simp at q⟩
theorem HP.push (P : HP n0 h cs) (c : Cell) : HP n0 (h.push c) (cs ++ [c]) := by
  refine ⟨by simp [P.1]; omega, fun i c' q => ?_⟩
  by_cases hi : i < cs.length
  · rw [List.getElem?_append_left hi] at q
    have := P.2 i c' q
    rw [Array.getElem?_push_lt (by rw [P.1]; omega)]
    rw [Array.getElem?_eq_getElem (by rw [P.1]; omega)] at this
    exact this
  · have hl : i < (cs ++ [c]).length := (List.getElem?_eq_some_iff.mp q).1
    have e : i = cs.length := by simp at hl; omega
    subst e
    rw [List.getElem?_append_right (Nat.le_refl _)] at q
    simp at q
    subst q
    rw [← P.1]; simp
theorem HP.wr (P : HP n0 h cs) (W : Wr h h' (n0 + i) sl v) (q : cs[i]? = some cell) : HP n0 h' (cs.set i (cell.setSlot sl v)) := by
  obtain ⟨c0, h1, h2, h3, rfl⟩ := W
  cases h1.symm.trans (P.2 i cell q)
  refine ⟨by simp [P.1], fun j c' r => ?_⟩
  by_cases e : i = j
  · subst e
    have hl : i < cs.length := (List.getElem?_eq_some_iff.mp q).1
    rw [List.getElem?_set_self hl] at r
    cases r
    rw [Array.getElem?_setIfInBounds_self_of_lt (by rw [P.1]; omega)]
  · rw [List.getElem?_set_ne e] at r
    rw [Array.getElem?_setIfInBounds_ne (by omega)]
    exact P.2 j c' r
theorem HP.arr (P : HP n0 h cs) (q : cs[i]? = some (AC k vs)) (a : IsA Z k ty) : Arr Z h (n0 + i) (AC k vs) ty := ⟨P.2 _ _ q, ⟨fun _ => by simp [AC], a.1⟩, by simp [AC]⟩
theorem HP.exaA (P : HP n0 h cs) (q : cs[i]? = some (AC k vs)) (a : IsA Z k ty) {ad : String} (had : "[" ++ ty.toString = ad) : Exa Z h (n0 + i) ad := by
  obtain ⟨⟨kc, h1, comp, h2⟩, h3⟩ := a
  exact ⟨AC k vs, kc, P.2 _ _ q, by rw [← had]; exact h3, h1, rfl, fun z => by rw [h2] at z; cases z⟩
theorem HP.fld (P : HP n0 h cs) (q : cs[i]? = some cell) {n d : String} (F : FldC Z cell C n d v) : Fld Z h (n0 + i) C n d v := by
  obtain ⟨cf, k, j, f, r⟩ := F
  exact ⟨cell, cf, k, j, f, P.2 _ _ q, r⟩
theorem HP.exa (P : HP n0 h cs) (q : cs[i]? = some cell) (F : ExaC Z cell C) : Exa Z h (n0 + i) C := by
  obtain ⟨k, r⟩ := F
  exact ⟨cell, k, P.2 _ _ q, r⟩
theorem AC.set (k : ClassId) (vs : List Value) (j : Nat) (v : Value) : (AC k vs).setSlot j v = AC k (vs.set j v) := by simp [AC, Cell.setSlot]
theorem ExaC.set (F : ExaC Z cell C) (sl : Nat) (v : Value) : ExaC Z (cell.setSlot sl v) C := by
  obtain ⟨k, h1, h2, h3, h4⟩ := F
  exact ⟨k, h1, h2, h3, fun q => by rw [← h4 q]; simp [Cell.setSlot]⟩
theorem ObjF.set (F : ObjF Z cell C fl vs) (D : Dis Z C fl) {j : Nat} {n d : String} (hj : fl[j]? = some (n, d)) (v : Value) : ObjF Z (cell.setSlot (Jvm.RoadKit.slotOf Z C n d) v) C fl (vs.set j v) := by
  obtain ⟨E, hl, F⟩ := F
  refine ⟨E.set _ _, by simp [hl], fun i n' d' v' h1 h2 => ?_⟩
  have hjl : j < fl.length := (List.getElem?_eq_some_iff.mp hj).1
  by_cases e : j = i
  · subst e
    cases hj.symm.trans h1
    rw [List.getElem?_set_self (by omega)] at h2
    cases h2
    obtain ⟨cf, k, x, f, g1, g2, g3, g4, g5, g6⟩ := F j n d _ hj (List.getElem?_eq_getElem (by omega))
    have es : Jvm.RoadKit.slotOf Z C n d = f.slot := by simp [Jvm.RoadKit.slotOf, g1]
    refine ⟨cf, k, x, f, g1, g2, g3, g4, g5, ?_⟩
    rw [es]
    have := (Array.getElem?_eq_some_iff.mp g6).1
    simp [Cell.setSlot, this]
  · rw [List.getElem?_set_ne e] at h2
    obtain ⟨cf, k, x, f, g1, g2, g3, g4, g5, g6⟩ := F i n' d' v' h1 h2
    have es : Jvm.RoadKit.slotOf Z C n' d' = f.slot := by simp [Jvm.RoadKit.slotOf, g1]
    have ne := D j i _ _ hj h1 e
    refine ⟨cf, k, x, f, g1, g2, g3, g4, g5, ?_⟩
    show ((cell.slots.setIfInBounds _ _)[_]?) = _
    rw [Array.getElem?_setIfInBounds_ne (by rw [← es]; exact ne)]
    exact g6
theorem own_dis {a0 : Array Value} (hL : ∀ (j : Nat) (n d : String), fl[j]? = some (n, d) → Laid Z a0 C C n d ∧ ∃ t, parseFieldDescriptor d = some t) (hN : (fl.map Prod.fst).Nodup) : Dis Z C fl := by
  intro i j a b h1 h2 hne
  obtain ⟨L1, t1, p1⟩ := hL i a.1 a.2 h1
  obtain ⟨L2, t2, p2⟩ := hL j b.1 b.2 h2
  refine slot_ne L1 L2 (fun q => hne ?_) p1 p2
  have i1 := (List.getElem?_eq_some_iff.mp h1).1
  have i2 := (List.getElem?_eq_some_iff.mp h2).1
  have e1 : (fl.map Prod.fst)[i]? = some a.1 := by simp [h1]
  have e2 : (fl.map Prod.fst)[j]? = some b.1 := by simp [h2]
  exact (List.getElem?_inj (by simpa using i1) hN).mp (by rw [e1, e2, q])
theorem own_one {n0 : Nat} {L : List Loc} (N : Fr n0 L) (i sl : Nat) : Fr n0 (L ++ [⟨n0 + i, sl⟩]) := N.app fun y hy => by cases List.mem_singleton.mp hy; exact Nat.le_add_right _ _
theorem own_idx {j : Int32} {jn N : Nat} (hj : j.toInt = (jn : Int)) (hn : jn < N) : j.toNatClampNeg = jn ∧ ¬ (j < 0 ∨ N ≤ j.toNatClampNeg) := by
  have e : j.toNatClampNeg = jn := by simp [Int32.toNatClampNeg, hj]
  refine ⟨e, ?_⟩
  rw [e, Int32.lt_iff_toInt_lt, hj]
  simp
  omega
end OwnHP
theorem own_get {α : Type} {f : α → Value} {l : List α} {j : Nat} {d : α} (h : j < l.length) : (List.map f l)[j]? = some (f (l.getD j d)) := by
  simp [List.getD_eq_getElem?_getD, h]
theorem own_sl {α : Type} {l : List α} {i N : Nat} {x : α} (h : l.length = N) : (l.set i x).length = N := by simp [h]
theorem own_llt {α : Type} {l : List α} {j N : Nat} (h : l.length = N) (q : j < N) : j < l.length := by omega
theorem own_oN {n : Nat} (h : n < 2147483648) : (Int32.ofNat n).toInt = (n : Int) := Int32.toInt_ofNat_of_lt h
theorem own_oadd (a b : Nat) : Int32.ofNat a + Int32.ofNat b = Int32.ofNat (a + b) := (Int32.ofNat_add a b).symm
theorem own_osub {a b : Nat} (h : b ≤ a) : Int32.ofNat a - Int32.ofNat b = Int32.ofNat (a - b) := by
  have := own_oadd (a - b) b
  rw [Nat.sub_add_cancel h] at this
  rw [← this, Int32.add_sub_cancel]
theorem own_omul (a b : Nat) : Int32.ofNat a * Int32.ofNat b = Int32.ofNat (a * b) := (Int32.ofNat_mul a b).symm
theorem own_olt {a b : Nat} (ha : a < 2147483648) (hb : b < 2147483648) : Int32.ofNat a < Int32.ofNat b ↔ a < b := by
  rw [Int32.lt_iff_toInt_lt, own_oN ha, own_oN hb]; omega
theorem own_oeq {a b : Nat} (ha : a < 2147483648) (hb : b < 2147483648) : Int32.ofNat a = Int32.ofNat b ↔ a = b := by
  rw [← Int32.toInt_inj, own_oN ha, own_oN hb]; omega
theorem own_len {α : Type} {f : α → Value} {l : List α} {N : Nat} (h : l.length = N) : (List.map f l).length.toInt32 = Int32.ofNat N := by
  rw [List.length_map, h]
section OwnH
variable {p : Program} {l : Launch} {e : Env} {R : Room} {s : State} {m : MethodId} {args : Array Value} {below : List Frame} {meth : Method} {c : Code} {T : State} {locs : List Loc} {cells slots : Nat} {C S : Nat} {Q : Option Value → Heap → List Loc → Prop} {pc pc' : Nat} {Ls : Array Slot} {st : List Value}
  {Z : State} {a0 : Array Value} {n0 : Nat} {cs : List Cell}
theorem w_newarr (X : Stand p l e R s m args below meth c T locs cells slots) (hx : p.tables.exec = Jvm.exec) (hZ : Z.Warmed39 s.vm) (P : HP n0 T.heap cs) {aty : ArrayType} {ty : FieldType} (hty : newarray.typeOf aty = ty) (w : (Jvm.Cond.arrayClass ty).before a0 Z = true) (hd : decode c.code pc = .ok (.newarray aty, 2))
    {n : Int32} {N j : Nat} (hn : n.toInt = (N : Int)) (hN : N ≤ 1000) (hc : cells + 1 ≤ R.cells) (hl : slots + N ≤ R.slots) (hj : cs.length = j) (hp : pc + 2 = pc')
    (k : ∀ (T' : State) (kA : ClassId), Stand p l e R s m args below meth c T' locs (cells + 1) (slots + N) → IsA Z kA ty → HP n0 T'.heap (cs ++ [AC kA (List.replicate N (defaultValue ty))]) → Wp p e s below C S Q T' (mkF m pc' Ls (.ref (n0 + j) :: st))) :
    Wp p e s below C S Q T (mkF m pc Ls (.int n :: st)) := by
  subst hp hty hj
  have en : n.toNatClampNeg = N := by simp [Int32.toNatClampNeg, hn]
  have hcb : componentBytes (newarray.typeOf aty) ≤ 8 := by cases aty <;> decide
  obtain ⟨cA, kA, comp, h1, h2, h3, X', st1⟩ := X.newarrayPrim hx (mvA hZ w) (g := mkF m pc Ls (.int n :: st)) rfl hd rfl (by rw [Int32.lt_iff_toInt_lt, hn]; simp) (by rw [en]; exact Nat.le_trans (Nat.mul_le_mul hN hcb) (by decide)) hc (by rw [en]; exact hl)
  rw [en] at X' st1
  rw [hZ.alike.findClass] at h1
  obtain ⟨kZ, z1, -⟩ := Vm.findClass_spec h1
  obtain ⟨k', z2, z3⟩ := hZ.alike.2.2 _ _ z1
  cases h2.symm.trans z2
  rw [P.1] at st1
  have ec : ({ cls := cA, slots := Array.replicate N (defaultValue (newarray.typeOf aty)), vm := .none } : Cell) = AC cA (List.replicate N (defaultValue (newarray.typeOf aty))) := by simp [AC]
  rw [ec] at X' st1
  exact Wp.via st1 (k _ cA X' ⟨⟨kZ, z1, comp, by rw [← h3, z3]⟩, h1⟩ (P.push _))
theorem w_arrlen (X : Stand p l e R s m args below meth c T locs cells slots) (hx : p.tables.exec = Jvm.exec) (hZ : Z.Warmed39 s.vm) (P : HP n0 T.heap cs) {i : Nat} {kA : ClassId} {vs : List Value} {ty : FieldType} (q : cs[i]? = some (AC kA vs)) (hk : IsA Z kA ty) (hd : decode c.code pc = .ok (.arraylength, 1)) {z : Int32} (hz : vs.length.toInt32 = z) (hp : pc + 1 = pc')
    (k : Wp p e s below C S Q T (mkF m pc' Ls (.int z :: st))) : Wp p e s below C S Q T (mkF m pc Ls (.ref (n0 + i) :: st)) := by
  subst hp hz
  have A := P.arr q hk
  refine Wp.via (fun t ht => X.arraylength hx (cell := AC kA vs) A.1 (State.isArrayOf_alike hZ.alike A.2.1) (g := mkF m pc Ls (.ref (n0 + i) :: st)) rfl (rest := st) rfl hd _ ?_) k
  simpa [AC] using ht
theorem w_iaload (X : Stand p l e R s m args below meth c T locs cells slots) (hx : p.tables.exec = Jvm.exec) (hZ : Z.Warmed39 s.vm) (P : HP n0 T.heap cs) {i : Nat} {kA : ClassId} {vs : List Value} (q : cs[i]? = some (AC kA vs)) (hk : IsA Z kA .int) (hd : decode c.code pc = .ok (.iaload, 1)) {j : Int32} {jn : Nat} (hj : j.toInt = (jn : Int)) {v : Value} (hv : vs[jn]? = some v) (hp : pc + 1 = pc')
    (k : Wp p e s below C S Q T (mkF m pc' Ls (v :: st))) : Wp p e s below C S Q T (mkF m pc Ls (.int j :: .ref (n0 + i) :: st)) := by
  subst hp
  have A := P.arr q hk
  have hl : jn < (AC kA vs).slots.size := by simp [AC]; exact (List.getElem?_eq_some_iff.mp hv).1
  obtain ⟨e1, e2⟩ := own_idx hj hl
  exact Wp.via (fun t ht => X.iaload hx (j := j) (v := v) A.1 (State.isArrayOf_alike hZ.alike A.2.1) A.2.2 e2 (by rw [e1]; simpa [AC] using hv) (g := mkF m pc Ls (.int j :: .ref (n0 + i) :: st)) rfl rfl hd _ ht) k
theorem w_laload (X : Stand p l e R s m args below meth c T locs cells slots) (hx : p.tables.exec = Jvm.exec) (hZ : Z.Warmed39 s.vm) (P : HP n0 T.heap cs) {i : Nat} {kA : ClassId} {vs : List Value} (q : cs[i]? = some (AC kA vs)) (hk : IsA Z kA .long) (hd : decode c.code pc = .ok (.laload, 1)) {j : Int32} {jn : Nat} (hj : j.toInt = (jn : Int)) {v : Value} (hv : vs[jn]? = some v) (hp : pc + 1 = pc')
    (k : Wp p e s below C S Q T (mkF m pc' Ls (v :: st))) : Wp p e s below C S Q T (mkF m pc Ls (.int j :: .ref (n0 + i) :: st)) := by
  subst hp
  have A := P.arr q hk
  have hl : jn < (AC kA vs).slots.size := by simp [AC]; exact (List.getElem?_eq_some_iff.mp hv).1
  obtain ⟨e1, e2⟩ := own_idx hj hl
  exact Wp.via (fun t ht => X.laload hx (j := j) (v := v) A.1 (State.isArrayOf_alike hZ.alike A.2.1) A.2.2 e2 (by rw [e1]; simpa [AC] using hv) (g := mkF m pc Ls (.int j :: .ref (n0 + i) :: st)) rfl rfl hd _ ht) k
theorem w_baload (X : Stand p l e R s m args below meth c T locs cells slots) (hx : p.tables.exec = Jvm.exec) (hZ : Z.Warmed39 s.vm) (P : HP n0 T.heap cs) {i : Nat} {kA : ClassId} {vs : List Value} (q : cs[i]? = some (AC kA vs)) (hk : IsA Z kA .byte) (hd : decode c.code pc = .ok (.baload, 1)) {j : Int32} {jn : Nat} (hj : j.toInt = (jn : Int)) {v : Value} (hv : vs[jn]? = some v) (hp : pc + 1 = pc')
    (k : Wp p e s below C S Q T (mkF m pc' Ls (v :: st))) : Wp p e s below C S Q T (mkF m pc Ls (.int j :: .ref (n0 + i) :: st)) := by
  subst hp
  have A := P.arr q hk
  have hl : jn < (AC kA vs).slots.size := by simp [AC]; exact (List.getElem?_eq_some_iff.mp hv).1
  obtain ⟨e1, e2⟩ := own_idx hj hl
  exact Wp.via (fun t ht => X.baloadBytes hx (j := j) (v := v) A.1 (State.isArrayOf_alike hZ.alike A.2.1) A.2.2 e2 (by rw [e1]; simpa [AC] using hv) (g := mkF m pc Ls (.int j :: .ref (n0 + i) :: st)) rfl rfl hd _ ht) k
theorem w_caload (X : Stand p l e R s m args below meth c T locs cells slots) (hx : p.tables.exec = Jvm.exec) (hZ : Z.Warmed39 s.vm) (P : HP n0 T.heap cs) {i : Nat} {kA : ClassId} {vs : List Value} (q : cs[i]? = some (AC kA vs)) (hk : IsA Z kA .char) (hd : decode c.code pc = .ok (.caload, 1)) {j : Int32} {jn : Nat} (hj : j.toInt = (jn : Int)) {v : Value} (hv : vs[jn]? = some v) (hp : pc + 1 = pc')
    (k : Wp p e s below C S Q T (mkF m pc' Ls (v :: st))) : Wp p e s below C S Q T (mkF m pc Ls (.int j :: .ref (n0 + i) :: st)) := by
  subst hp
  have A := P.arr q hk
  have hl : jn < (AC kA vs).slots.size := by simp [AC]; exact (List.getElem?_eq_some_iff.mp hv).1
  obtain ⟨e1, e2⟩ := own_idx hj hl
  exact Wp.via (fun t ht => X.caload hx (j := j) (v := v) A.1 (State.isArrayOf_alike hZ.alike A.2.1) A.2.2 e2 (by rw [e1]; simpa [AC] using hv) (g := mkF m pc Ls (.int j :: .ref (n0 + i) :: st)) rfl rfl hd _ ht) k
theorem w_iastore (X : Stand p l e R s m args below meth c T locs cells slots) (hx : p.tables.exec = Jvm.exec) (hZ : Z.Warmed39 s.vm) (N : Fr n0 locs) (P : HP n0 T.heap cs) {i : Nat} {kA : ClassId} {vs : List Value} (q : cs[i]? = some (AC kA vs)) (hk : IsA Z kA .int) (hd : decode c.code pc = .ok (.iastore, 1)) {j : Int32} {x : Int32} {jn : Nat} (hj : j.toInt = (jn : Int)) (hl : jn < vs.length) (hp : pc + 1 = pc')
    (k : ∀ (T' : State) (L' : List Loc), Fr n0 L' → Stand p l e R s m args below meth c T' L' cells slots → HP n0 T'.heap (cs.set i (AC kA (vs.set jn (.int x)))) → Wp p e s below C S Q T' (mkF m pc' Ls st)) : Wp p e s below C S Q T (mkF m pc Ls (.int x :: .int j :: .ref (n0 + i) :: st)) := by
  subst hp
  have A := P.arr q hk
  obtain ⟨e1, e2⟩ := own_idx hj (N := (AC kA vs).slots.size) (by simpa [AC] using hl)
  obtain ⟨T', h', X', eh, W, st1⟩ := stI X hx hZ rfl A e2 (g := mkF m pc Ls (.int x :: .int j :: .ref (n0 + i) :: st)) rfl rfl hd
  rw [e1] at X' W
  subst eh
  have P' := P.wr W q
  rw [AC.set] at P'
  exact Wp.via st1 (k T' _ (own_one N _ _) X' P')
theorem w_lastore (X : Stand p l e R s m args below meth c T locs cells slots) (hx : p.tables.exec = Jvm.exec) (hZ : Z.Warmed39 s.vm) (N : Fr n0 locs) (P : HP n0 T.heap cs) {i : Nat} {kA : ClassId} {vs : List Value} (q : cs[i]? = some (AC kA vs)) (hk : IsA Z kA .long) (hd : decode c.code pc = .ok (.lastore, 1)) {j : Int32} {x : Int64} {jn : Nat} (hj : j.toInt = (jn : Int)) (hl : jn < vs.length) (hp : pc + 1 = pc')
    (k : ∀ (T' : State) (L' : List Loc), Fr n0 L' → Stand p l e R s m args below meth c T' L' cells slots → HP n0 T'.heap (cs.set i (AC kA (vs.set jn (.long x)))) → Wp p e s below C S Q T' (mkF m pc' Ls st)) : Wp p e s below C S Q T (mkF m pc Ls (.long x :: .int j :: .ref (n0 + i) :: st)) := by
  subst hp
  have A := P.arr q hk
  obtain ⟨e1, e2⟩ := own_idx hj (N := (AC kA vs).slots.size) (by simpa [AC] using hl)
  obtain ⟨T', h', X', eh, W, st1⟩ := stJ X hx hZ rfl A e2 (g := mkF m pc Ls (.long x :: .int j :: .ref (n0 + i) :: st)) rfl rfl hd
  rw [e1] at X' W
  subst eh
  have P' := P.wr W q
  rw [AC.set] at P'
  exact Wp.via st1 (k T' _ (own_one N _ _) X' P')
theorem w_bastore (X : Stand p l e R s m args below meth c T locs cells slots) (hx : p.tables.exec = Jvm.exec) (hZ : Z.Warmed39 s.vm) (N : Fr n0 locs) (P : HP n0 T.heap cs) {i : Nat} {kA : ClassId} {vs : List Value} (q : cs[i]? = some (AC kA vs)) (hk : IsA Z kA .byte) (hd : decode c.code pc = .ok (.bastore, 1)) {j : Int32} {x : Int32} {jn : Nat} (hj : j.toInt = (jn : Int)) (hl : jn < vs.length) (hp : pc + 1 = pc')
    (k : ∀ (T' : State) (L' : List Loc), Fr n0 L' → Stand p l e R s m args below meth c T' L' cells slots → HP n0 T'.heap (cs.set i (AC kA (vs.set jn (.int (nar .byte x))))) → Wp p e s below C S Q T' (mkF m pc' Ls st)) : Wp p e s below C S Q T (mkF m pc Ls (.int x :: .int j :: .ref (n0 + i) :: st)) := by
  subst hp
  have A := P.arr q hk
  obtain ⟨e1, e2⟩ := own_idx hj (N := (AC kA vs).slots.size) (by simpa [AC] using hl)
  obtain ⟨T', h', X', eh, W, st1⟩ := stB X hx hZ rfl A e2 (g := mkF m pc Ls (.int x :: .int j :: .ref (n0 + i) :: st)) rfl rfl hd
  rw [e1] at X' W
  subst eh
  have P' := P.wr W q
  rw [AC.set] at P'
  exact Wp.via st1 (k T' _ (own_one N _ _) X' P')
theorem w_bastoreE (X : Stand p l e R s m args below meth c T locs cells slots) (hx : p.tables.exec = Jvm.exec) (hZ : Z.Warmed39 s.vm) (N : Fr n0 locs) (P : HP n0 T.heap cs) {i : Nat} {kA : ClassId} {vs : List Value} (q : cs[i]? = some (AC kA vs)) (hk : IsA Z kA .byte) (hd : decode c.code pc = .ok (.bastore, 1)) {j : Int32} {x z : Int32} {jn : Nat} (hz : nar .byte x = z) (hj : j.toInt = (jn : Int)) (hl : jn < vs.length) (hp : pc + 1 = pc')
    (k : ∀ (T' : State) (L' : List Loc), Fr n0 L' → Stand p l e R s m args below meth c T' L' cells slots → HP n0 T'.heap (cs.set i (AC kA (vs.set jn (.int z)))) → Wp p e s below C S Q T' (mkF m pc' Ls st)) : Wp p e s below C S Q T (mkF m pc Ls (.int x :: .int j :: .ref (n0 + i) :: st)) := by
  subst hp hz
  have A := P.arr q hk
  obtain ⟨e1, e2⟩ := own_idx hj (N := (AC kA vs).slots.size) (by simpa [AC] using hl)
  obtain ⟨T', h', X', eh, W, st1⟩ := stB X hx hZ rfl A e2 (g := mkF m pc Ls (.int x :: .int j :: .ref (n0 + i) :: st)) rfl rfl hd
  rw [e1] at X' W
  subst eh
  have P' := P.wr W q
  rw [AC.set] at P'
  exact Wp.via st1 (k T' _ (own_one N _ _) X' P')
theorem w_getf (X : Stand p l e R s m args below meth c T locs cells slots) (hx : p.tables.exec = Jvm.exec) (hZ : Z.Warmed39 s.vm) {own O n d : String} {idx : Nat} (hown : s.vm.findClass own = some m.cls) (w : (Jvm.Cond.fieldLink own idx O n d).before a0 Z = true) (P : HP n0 T.heap cs) {i : Nat} {cell : Cell} (q : cs[i]? = some cell) {fl : List (String × String)} {vs : List Value} (F : ObjF Z cell O fl vs) (j : Nat) (hf : fl[j]? = some (n, d)) {v : Value} (hv : vs[j]? = some v) (hd : decode c.code pc = .ok (.getfield idx, 3)) (hp : pc + 3 = pc')
    (k : ∀ (T' : State), Stand p l e R s m args below meth c T' locs cells slots → HP n0 T'.heap cs → Wp p e s below C S Q T' (mkF m pc' Ls (v :: st))) : Wp p e s below C S Q T (mkF m pc Ls (.ref (n0 + i) :: st)) := by
  subst hp
  obtain ⟨T', X', eh, st1⟩ := getF X hx hZ hown (host := "") (Or.inl w) Via.refl rfl (P.fld q (F.2.2 j n d v hf hv)) (g := mkF m pc Ls (.ref (n0 + i) :: st)) rfl rfl hd
  exact Wp.via st1 (k T' X' (by rw [eh]; exact P))
theorem w_putf (X : Stand p l e R s m args below meth c T locs cells slots) (hx : p.tables.exec = Jvm.exec) (hZ : Z.Warmed39 s.vm) {own O n d : String} {idx kk : Nat} {ty : FieldType} (hown : s.vm.findClass own = some m.cls) (w : (Jvm.Cond.fieldLink own idx O n d).before a0 Z = true) (N : Fr n0 locs) (P : HP n0 T.heap cs) {i : Nat} {cell : Cell} (q : cs[i]? = some cell) {fl : List (String × String)} {vs : List Value} (F : ObjF Z cell O fl vs) (D : Dis Z O fl) (j : Nat) (hf : fl[j]? = some (n, d))
    (L : (Jvm.Cond.lays O O n d).before a0 Z = true ∨ ((Jvm.Cond.laysFinal O O n d).before a0 Z = true ∧ own = O ∧ meth.name = "<init>")) (wi : (Jvm.Cond.instantiable O kk).before a0 Z = true) (hty : parseFieldDescriptor d = some ty) {v : Value} (hn : narrow ty v = v) (hfit : fits ty v = true) (hd : decode c.code pc = .ok (.putfield idx, 3)) (hp : pc + 3 = pc')
    (k : ∀ (T' : State) (L' : List Loc) (cell' : Cell), Fr n0 L' → Stand p l e R s m args below meth c T' L' cells slots → HP n0 T'.heap (cs.set i cell') → ObjF Z cell' O fl (vs.set j v) → Wp p e s below C S Q T' (mkF m pc' Ls st)) : Wp p e s below C S Q T (mkF m pc Ls (v :: .ref (n0 + i) :: st)) := by
  subst hp
  have hjl : j < vs.length := by rw [F.2.1]; exact (List.getElem?_eq_some_iff.mp hf).1
  obtain ⟨T', h', X', eh, W, st1⟩ := putF X hx hZ hown (host := "") (Or.inl w) Via.refl rfl (P.fld q (F.2.2 j n d _ hf (List.getElem?_eq_getElem hjl))) (P.exa q F.1) L wi hty hn hfit (g := mkF m pc Ls (v :: .ref (n0 + i) :: st)) rfl rfl hd
  subst eh
  exact Wp.via st1 (k T' _ _ (own_one N _ _) X' (P.wr W q) (F.set D hf v))
theorem w_new (X : Stand p l e R s m args below meth c T locs cells slots) (hx : p.tables.exec = Jvm.exec) (hZ : Z.Warmed39 s.vm) {own K : String} {idx n j : Nat} (hown : s.vm.findClass own = some m.cls) (w : (Jvm.Cond.classLink own idx K).before a0 Z = true) (wi : (Jvm.Cond.instantiable K n).before a0 Z = true) (wz : (Jvm.Cond.initialized K).before a0 Z = true) (P : HP n0 T.heap cs)
    (fl : List (String × String)) (vs : List Value) (hfl : vs.length = fl.length) (hlay : ∀ (j : Nat) (n d : String) (v : Value), fl[j]? = some (n, d) → vs[j]? = some v → Laid Z a0 K K n d ∧ ∃ ty, parseFieldDescriptor d = some ty ∧ defaultValue ty = v) (hd : decode c.code pc = .ok (.new idx, 3)) (hc : cells + 1 ≤ R.cells) (hl : slots + n ≤ R.slots) (hj : cs.length = j) (hp : pc + 3 = pc')
    (k : ∀ (T' : State) (cell' : Cell), Stand p l e R s m args below meth c T' locs (cells + 1) (slots + n) → HP n0 T'.heap (cs ++ [cell']) → ObjF Z cell' K fl vs → Wp p e s below C S Q T' (mkF m pc' Ls (.ref (n0 + j) :: st))) : Wp p e s below C S Q T (mkF m pc Ls st) := by
  subst hp hj
  obtain ⟨vm', cC, kC, h1, h2, h3, h4, X', st1⟩ := X.newCold hx hown (mv hZ w) (mv hZ wi) (mv hZ wz) (g := mkF m pc Ls st) rfl hd hc hl
  rw [hZ.alike.findClass] at h1
  obtain ⟨kZ, z1, -⟩ := Vm.findClass_spec h1
  obtain ⟨k', z2, z3⟩ := hZ.alike.2.2 _ _ z1
  cases h2.symm.trans z2
  have ei : kC.instanceTypes = kZ.instanceTypes := by rw [z3]
  rw [P.1] at st1
  refine Wp.via st1 (k _ _ X' (P.push _) ⟨⟨kZ, h1, z1, rfl, fun _ => by simp [ei]⟩, hfl, fun j n d v a b => ?_⟩)
  obtain ⟨L, ty, ht, hv⟩ := hlay j n d v a b
  obtain ⟨c1, k1, cf, kf, i, f, a1, a2, a3, a4, a5, a6, -⟩ := L.spec
  cases h1.symm.trans a1
  cases z1.symm.trans a2
  exact ⟨cf, kf, i, f, a3, a4, by simp, rfl, a5, by simp [ei, a6, (State.fieldFound?_type a3 ht).2, hv]⟩
theorem w_initO (X : Stand p l e R s m args below meth c T locs cells slots) (hx : p.tables.exec = Jvm.exec) (hZ : Z.Warmed39 s.vm) {own : String} {idx : Nat} (hown : s.vm.findClass own = some m.cls) (hml : Ls.size = c.maxLocals) (w1 : (Jvm.Cond.methodLink own idx Lib.objectInit).before a0 Z = true) (w2 : (Jvm.Cond.instanceMethod Lib.objectInit).before a0 Z = true)
    (w3 : (Jvm.Cond.code Lib.objectInit ⟨#[0xb1]⟩ 1 none).before a0 Z = true) (P : HP n0 T.heap cs) {a : Addr} (hd : decode c.code pc = .ok (.invokespecial idx, 3)) (hf : 1 ≤ R.frames) {W : Nat} (hW : (st.map fun v => v.category).sum ≤ W) (hl : W + 12 ≤ R.locals) (hp : pc + 3 = pc')
    (k : ∀ (T' : State), Stand p l e R s m args below meth c T' locs cells slots → HP n0 T'.heap cs → Wp p e s below C S Q T' (mkF m pc' Ls st)) : Wp p e s below C S Q T (mkF m pc Ls (.ref a :: st)) := by
  subst hp
  obtain ⟨T', X', eh, st1⟩ := initO X hx hZ hown w1 w2 w3 rfl (g := mkF m pc Ls (.ref a :: st)) rfl hml (rest := st) rfl hd hf (W := W) (by show 2 * 0 + _ ≤ _; omega) hl
  exact Wp.via st1 (k T' X' (by rw [eh]; exact P))
theorem own_callI (X : Stand p l e R s m args below meth c T locs cells slots) (hx : p.tables.exec = Jvm.exec) {h : Heap} (hZ : Z.Warmed39 s.vm) (eT : T.heap = h) {own : String} {i : Nat} {y : MethodName} {bytes : ByteArray} {maxL : Nat} {rm : Room} {W : Nat} {as' : Array Value} {Qc : Option Value → Heap → List Loc → Prop} (hy1 : y.name = "<init>")
    (hown : s.vm.findClass own = some m.cls) (hml : Ls.size = c.maxLocals) (w1 : (Jvm.Cond.methodLink own i y).before a0 Z = true) (w2 : (Jvm.Cond.instanceMethod y).before a0 Z = true) (w3 : (Jvm.Cond.initialized y.cls).before a0 Z = true) (w4 : (Jvm.Cond.code y bytes maxL none).before a0 Z = true)
    (hM : MetFree l y (head1 [Jvm.Cond.code y bytes maxL none] rm) (fun a U => a = as' ∧ Z.Warmed39 U.vm ∧ U.heap = h) (fun _ _ _ _ _ => True) (fun _ U o U' => ∃ v L, o = .returned v ∧ Qc v U'.heap L ∧ FrameEnd U o U' L rm.cells rm.slots))
    (hy : y.cls ≠ "java/lang/invoke/MethodHandle" ∧ y.cls ≠ "java/lang/invoke/VarHandle") (hf : rm.frames + 1 ≤ R.frames) (hl : W + (maxL + 11) + rm.locals ≤ R.locals) (hc : cells + rm.cells ≤ R.cells) (hsl : slots + rm.slots ≤ R.slots)
    {a : Addr} {argsL rest : List Value} {ps : List FieldType} {r : Option FieldType} (hpd : parseMethodDescriptor y.desc = some ⟨ps, r⟩) (hlen : argsL.length = ps.length) (has : (.ref a :: argsL).toArray = as') (hst : st = argsL.reverse ++ .ref a :: rest) (hW : (rest.map fun v => v.category).sum ≤ W) (hd : decode c.code pc = .ok (.invokespecial i, 3)) (hp : pc + 3 = pc')
    (k : ∀ (v : Option Value) (T' : State) (L : List Loc), Stand p l e R s m args below meth c T' (locs ++ L) (cells + rm.cells) (slots + rm.slots) → Qc v T'.heap L → Wp p e s below C S Q T' (mkF m pc' Ls (v.toList ++ rest))) : Wp p e s below C S Q T (mkF m pc Ls st) := by
  obtain ⟨v, _, ⟨T1, L1, k1, n1⟩, -, X1, ⟨Lc1, hQ1, l1, y1, z1⟩, st1⟩ := X.specialBack hx (y := y) hy1 hown (mvT hZ w1) (mvT hZ w2) (mvT hZ w4) hy (backOf (W := W) hM hZ w4 w3 hf hl) (g := mkF m pc Ls st) rfl hml (Steps.refl _) (a := a) (argsL := argsL) (rest := rest) (lenOf hpd hlen) hst (by show 2 * 0 + _ ≤ _; omega) hd (fun _ _ => ⟨has, eT, hc, hsl⟩)
  dsimp only [Pt.U, Pt.locs, Pt.cells, Pt.slots] at X1 l1 y1 z1 st1 hQ1
  subst l1 y1 z1
  subst hp
  exact Wp.via (fun _ h => st1.trans h) (k v T1 Lc1 X1 hQ1)
theorem own_callV (X : Stand p l e R s m args below meth c T locs cells slots) (hx : p.tables.exec = Jvm.exec) {h : Heap} (hZ : Z.Warmed39 s.vm) (eT : T.heap = h) {own K : String} {i : Nat} {y : MethodName} {bytes : ByteArray} {maxL : Nat} {ret : Option FieldType} {rm : Room} {W : Nat} {as' : Array Value} {Qc : Option Value → Heap → List Loc → Prop}
    (hown : s.vm.findClass own = some m.cls) (hml : Ls.size = c.maxLocals) (w1 : (Jvm.Cond.methodLink own i y).before a0 Z = true) (w2 : (Jvm.Cond.declares y).before a0 Z = true) (w5 : (Jvm.Cond.selects K y y).before a0 Z = true) (w6 : (Jvm.Cond.instanceMethod y).before a0 Z = true) (w3 : (Jvm.Cond.initialized y.cls).before a0 Z = true) (w4 : (Jvm.Cond.code y bytes maxL ret).before a0 Z = true)
    (hM : MetFree l y (head1 [Jvm.Cond.code y bytes maxL ret] rm) (fun a U => a = as' ∧ Z.Warmed39 U.vm ∧ U.heap = h) (fun _ _ _ _ _ => True) (fun _ U o U' => ∃ v L, o = .returned v ∧ Qc v U'.heap L ∧ FrameEnd U o U' L rm.cells rm.slots))
    {a : Addr} (E : Exa Z h a K) (hy : y.cls ≠ "java/lang/invoke/MethodHandle" ∧ y.cls ≠ "java/lang/invoke/VarHandle") (hf : rm.frames + 1 ≤ R.frames) (hl : W + (maxL + 11) + rm.locals ≤ R.locals) (hc : cells + rm.cells ≤ R.cells) (hsl : slots + rm.slots ≤ R.slots)
    {argsL rest : List Value} {ps : List FieldType} {r : Option FieldType} (hpd : parseMethodDescriptor y.desc = some ⟨ps, r⟩) (hlen : argsL.length = ps.length) (has : (.ref a :: argsL).toArray = as') (hst : st = argsL.reverse ++ .ref a :: rest) (hW : (rest.map fun v => v.category).sum ≤ W) (hd : decode c.code pc = .ok (.invokevirtual i, 3)) (hp : pc + 3 = pc')
    (k : ∀ (v : Option Value) (T' : State) (L : List Loc), Stand p l e R s m args below meth c T' (locs ++ L) (cells + rm.cells) (slots + rm.slots) → Qc v T'.heap L → Wp p e s below C S Q T' (mkF m pc' Ls (v.toList ++ rest))) : Wp p e s below C S Q T (mkF m pc Ls st) := by
  obtain ⟨cq, kq, qa, qb, qc⟩ := isOf hZ eT E
  obtain ⟨v, _, ⟨T1, L1, k1, n1⟩, -, X1, ⟨Lc1, hQ1, l1, y1, z1⟩, st1⟩ := X.virtualBack hx (y := y) (z := y) hown (mvT hZ w1) (mvT hZ w2) (notFace_of_selects (args := #[]) (mvT hZ w5)) (mvT hZ w5) (mvT hZ w6) hy (backOf (W := W) hM hZ w4 w3 hf hl) qa qc (g := mkF m pc Ls st) rfl hml (Steps.refl _) (argsL := argsL) (rest := rest) (lenOf hpd hlen) hst (by show 2 * 0 + _ ≤ _; omega) hd (fun _ _ => ⟨has, eT, hc, hsl⟩)
  dsimp only [Pt.U, Pt.locs, Pt.cells, Pt.slots] at X1 l1 y1 z1 st1 hQ1
  subst l1 y1 z1
  subst hp
  exact Wp.via (fun _ h => st1.trans h) (k v T1 Lc1 X1 hQ1)
theorem w_clone (X : Stand p l e R s m args below meth c T locs cells slots) (hx : p.tables.exec = Jvm.exec) (hZ : Z.Warmed39 s.vm) {own ad : String} {idx : Nat} (hown : s.vm.findClass own = some m.cls) (hml : Ls.size = c.maxLocals)
    (w1 : (Jvm.Cond.methodLink own idx ⟨ad, "clone", "()Ljava/lang/Object;"⟩).before a0 Z = true) (w2 : (Jvm.Cond.sameMethod ad "java/lang/Object" "clone" "()Ljava/lang/Object;").before a0 Z = true) (w3 : (Jvm.Cond.native ⟨"java/lang/Object", "clone", "()Ljava/lang/Object;"⟩).before a0 Z = true)
    (w4 : (Jvm.Cond.instanceMethod ⟨"java/lang/Object", "clone", "()Ljava/lang/Object;"⟩).before a0 Z = true) (w5 : (Jvm.Cond.selects ad ⟨ad, "clone", "()Ljava/lang/Object;"⟩ ⟨"java/lang/Object", "clone", "()Ljava/lang/Object;"⟩).before a0 Z = true) (w6 : (Jvm.Cond.castable ad "java/lang/Cloneable").before a0 Z = true)
    (P : HP n0 T.heap cs) {i : Nat} {kA : ClassId} {vs : List Value} {ty : FieldType} (q : cs[i]? = some (AC kA vs)) (hk : IsA Z kA ty) (had : "[" ++ ty.toString = ad) (hfit : ∀ v ∈ vs, fits ty v = true) (hd : decode c.code pc = .ok (.invokevirtual idx, 3)) (hf : 1 ≤ R.frames) {W N j : Nat} (hW : (st.map fun v => v.category).sum ≤ W) (hl : W + 14 ≤ R.locals) (hN : vs.length = N) (hc : cells + 1 ≤ R.cells) (hsl : slots + N ≤ R.slots) (hj : cs.length = j) (hp : pc + 3 = pc')
    (k : ∀ (T' : State), Stand p l e R s m args below meth c T' locs (cells + 1) (slots + N) → HP n0 T'.heap (cs ++ [AC kA vs]) → Wp p e s below C S Q T' (mkF m pc' Ls (.ref (n0 + j) :: st))) : Wp p e s below C S Q T (mkF m pc Ls (.ref (n0 + i) :: st)) := by
  subst hp hj hN
  have A := P.arr q hk
  have E := P.exaA q hk had
  have F : FitC Z (AC kA vs) := fitC_of A fun i hi v hv => hfit v (by simp [AC] at hv; exact List.mem_of_getElem? hv)
  obtain ⟨c1, cC, g1, g2, g3⟩ := Cond.castable_spec w6
  have e2 : Z.vm.findClass ad = some (AC kA vs).cls := by rw [← had]; exact hk.2
  cases e2.symm.trans g1
  have hal : Z.vm.Alike T.vm := hZ.alike.trans X.warmed.alike
  obtain ⟨vm', X', st1⟩ := X.cloneArray hx hown (mv hZ w1) (mv hZ w2) (mv hZ w3) (mv hZ w4) (mv hZ w5) (a := n0 + i) A.1 A.2.1.1 A.2.2 (by rw [hZ.alike.findClass]; exact e2) (by rw [hZ.alike.findClass]; exact g2) (by rw [hZ.alike.assignable]; exact g3)
    (fun i v hv => by have q := F i v hv; rw [← State.fitsSlot_setVm hal] at q; exact q) (g := mkF m pc Ls (.ref (n0 + i) :: st)) rfl hml rfl hd hf (by show 2 * 0 + _ + 14 ≤ _; omega) hc (by simpa [AC] using hsl)
    (by obtain ⟨-, k2, hk2, comp, hkind⟩ := A.2.1; rw [hZ.alike.clonesLoader]; exact Vm.clonesLoader_of_array hk2 hkind)
  rw [P.1] at st1
  have es : (AC kA vs).slots.size = vs.length := by simp [AC]
  rw [es] at X'
  exact Wp.via st1 (k _ X' (P.push _))
theorem w_ccastA (X : Stand p l e R s m args below meth c T locs cells slots) (hx : p.tables.exec = Jvm.exec) (hZ : Z.Warmed39 s.vm) {own ad : String} {idx : Nat} (hown : s.vm.findClass own = some m.cls) (w : (Jvm.Cond.classLink own idx ad).before a0 Z = true) (P : HP n0 T.heap cs) {i : Nat} {kA : ClassId} {vs : List Value} {ty : FieldType} (q : cs[i]? = some (AC kA vs)) (hk : IsA Z kA ty) (had : "[" ++ ty.toString = ad) (hd : decode c.code pc = .ok (.checkcast idx, 3)) (hp : pc + 3 = pc')
    (k : ∀ (T' : State), Stand p l e R s m args below meth c T' locs cells slots → HP n0 T'.heap cs → Wp p e s below C S Q T' (mkF m pc' Ls (.ref (n0 + i) :: st))) : Wp p e s below C S Q T (mkF m pc Ls (.ref (n0 + i) :: st)) := by
  subst hp
  obtain ⟨T', X', eh, st1⟩ := castY X hx hZ hown w rfl (Ins.self (P.exaA q hk had)) (g := mkF m pc Ls (.ref (n0 + i) :: st)) rfl rfl hd
  exact Wp.via st1 (k T' X' (by rw [eh]; exact P))
theorem w_ialoadL (X : Stand p l e R s m args below meth c T locs cells slots) (hx : p.tables.exec = Jvm.exec) (hZ : Z.Warmed39 s.vm) (P : HP n0 T.heap cs) {i : Nat} {kA : ClassId} {ll : List Int32} (q : cs[i]? = some (AC kA (List.map Value.int ll))) (hk : IsA Z kA .int) (hd : decode c.code pc = .ok (.iaload, 1)) {j : Int32} {jn : Nat} (hj : j.toInt = (jn : Int)) (hl : jn < ll.length) (hp : pc + 1 = pc')
    (k : Wp p e s below C S Q T (mkF m pc' Ls (.int (ll.getD jn 0) :: st))) : Wp p e s below C S Q T (mkF m pc Ls (.int j :: .ref (n0 + i) :: st)) :=
  w_iaload X hx hZ P q hk hd hj (own_get hl) hp k
theorem w_laloadL (X : Stand p l e R s m args below meth c T locs cells slots) (hx : p.tables.exec = Jvm.exec) (hZ : Z.Warmed39 s.vm) (P : HP n0 T.heap cs) {i : Nat} {kA : ClassId} {ll : List Int64} (q : cs[i]? = some (AC kA (List.map Value.long ll))) (hk : IsA Z kA .long) (hd : decode c.code pc = .ok (.laload, 1)) {j : Int32} {jn : Nat} (hj : j.toInt = (jn : Int)) (hl : jn < ll.length) (hp : pc + 1 = pc')
    (k : Wp p e s below C S Q T (mkF m pc' Ls (.long (ll.getD jn 0) :: st))) : Wp p e s below C S Q T (mkF m pc Ls (.int j :: .ref (n0 + i) :: st)) :=
  w_laload X hx hZ P q hk hd hj (own_get hl) hp k
theorem w_baloadL (X : Stand p l e R s m args below meth c T locs cells slots) (hx : p.tables.exec = Jvm.exec) (hZ : Z.Warmed39 s.vm) (P : HP n0 T.heap cs) {i : Nat} {kA : ClassId} {ll : List Int32} (q : cs[i]? = some (AC kA (List.map Value.int ll))) (hk : IsA Z kA .byte) (hd : decode c.code pc = .ok (.baload, 1)) {j : Int32} {jn : Nat} (hj : j.toInt = (jn : Int)) (hl : jn < ll.length) (hp : pc + 1 = pc')
    (k : Wp p e s below C S Q T (mkF m pc' Ls (.int (ll.getD jn 0) :: st))) : Wp p e s below C S Q T (mkF m pc Ls (.int j :: .ref (n0 + i) :: st)) :=
  w_baload X hx hZ P q hk hd hj (own_get hl) hp k
theorem w_iastoreL (X : Stand p l e R s m args below meth c T locs cells slots) (hx : p.tables.exec = Jvm.exec) (hZ : Z.Warmed39 s.vm) (N : Fr n0 locs) (P : HP n0 T.heap cs) {i : Nat} {kA : ClassId} {ll : List Int32} (q : cs[i]? = some (AC kA (List.map Value.int ll))) (hk : IsA Z kA .int) (hd : decode c.code pc = .ok (.iastore, 1)) {j : Int32} {x : Int32} {jn : Nat} (hj : j.toInt = (jn : Int)) (hl : jn < ll.length) (hp : pc + 1 = pc')
    (k : ∀ (T' : State) (L' : List Loc), Fr n0 L' → Stand p l e R s m args below meth c T' L' cells slots → HP n0 T'.heap (cs.set i (AC kA (List.map Value.int (ll.set jn x)))) → Wp p e s below C S Q T' (mkF m pc' Ls st)) : Wp p e s below C S Q T (mkF m pc Ls (.int x :: .int j :: .ref (n0 + i) :: st)) :=
  w_iastore X hx hZ N P q hk hd hj (by simpa using hl) hp (fun T' L' N' X' P' => k T' L' N' X' (by rw [List.map_set]; exact P'))
theorem w_lastoreL (X : Stand p l e R s m args below meth c T locs cells slots) (hx : p.tables.exec = Jvm.exec) (hZ : Z.Warmed39 s.vm) (N : Fr n0 locs) (P : HP n0 T.heap cs) {i : Nat} {kA : ClassId} {ll : List Int64} (q : cs[i]? = some (AC kA (List.map Value.long ll))) (hk : IsA Z kA .long) (hd : decode c.code pc = .ok (.lastore, 1)) {j : Int32} {x : Int64} {jn : Nat} (hj : j.toInt = (jn : Int)) (hl : jn < ll.length) (hp : pc + 1 = pc')
    (k : ∀ (T' : State) (L' : List Loc), Fr n0 L' → Stand p l e R s m args below meth c T' L' cells slots → HP n0 T'.heap (cs.set i (AC kA (List.map Value.long (ll.set jn x)))) → Wp p e s below C S Q T' (mkF m pc' Ls st)) : Wp p e s below C S Q T (mkF m pc Ls (.long x :: .int j :: .ref (n0 + i) :: st)) :=
  w_lastore X hx hZ N P q hk hd hj (by simpa using hl) hp (fun T' L' N' X' P' => k T' L' N' X' (by rw [List.map_set]; exact P'))
theorem w_bastoreEL (X : Stand p l e R s m args below meth c T locs cells slots) (hx : p.tables.exec = Jvm.exec) (hZ : Z.Warmed39 s.vm) (N : Fr n0 locs) (P : HP n0 T.heap cs) {i : Nat} {kA : ClassId} {ll : List Int32} (q : cs[i]? = some (AC kA (List.map Value.int ll))) (hk : IsA Z kA .byte) (hd : decode c.code pc = .ok (.bastore, 1)) {j : Int32} {x : Int32} {z : Int32} (hz : nar .byte x = z) {jn : Nat} (hj : j.toInt = (jn : Int)) (hl : jn < ll.length) (hp : pc + 1 = pc')
    (k : ∀ (T' : State) (L' : List Loc), Fr n0 L' → Stand p l e R s m args below meth c T' L' cells slots → HP n0 T'.heap (cs.set i (AC kA (List.map Value.int (ll.set jn z)))) → Wp p e s below C S Q T' (mkF m pc' Ls st)) : Wp p e s below C S Q T (mkF m pc Ls (.int x :: .int j :: .ref (n0 + i) :: st)) :=
  w_bastoreE X hx hZ N P q hk hd hz hj (by simpa using hl) hp (fun T' L' N' X' P' => k T' L' N' X' (by rw [List.map_set]; exact P'))
end OwnH
/-! small numbers -/
theorem own_small {x : Int32} {n : Nat} (h0 : 0 ≤ x.toInt) (h1 : x.toInt < n) (hn : n ≤ 2147483648) : ∃ k : Nat, k < n ∧ x = Int32.ofNat k := by
  refine ⟨x.toInt.toNat, by omega, Int32.toInt_inj.mp ?_⟩
  rw [Int32.toInt_ofNat_of_lt (by omega)]
  omega
theorem own_mask (a : Int32) : 0 ≤ (a &&& 2147483647).toInt ∧ (a &&& 2147483647).toInt < 2147483648 := by
  have h := c_mask a 2147483647 31 (by decide) (by decide)
  omega
theorem own_rem (a d : Int32) (D : Nat) (hd : d.toInt = (D : Int)) (h0 : 0 < D) : ∃ k : Nat, k < D ∧ (a &&& 2147483647) % d = Int32.ofNat k := by
  have h := own_mask a
  have h2 := (c_irem (a &&& 2147483647) d D hd).1 h.1
  have h3 := Int.emod_nonneg (a &&& 2147483647).toInt (b := (D : Int)) (by omega)
  have h4 := Int.emod_lt_of_pos (a &&& 2147483647).toInt (b := (D : Int)) (by omega)
  have h5 := d.toInt_lt
  exact own_small (by omega) (by omega) (by omega)
theorem own_remP (y d : Int32) (D : Nat) (h0 : 0 ≤ y.toInt) (hd : d.toInt = (D : Int)) (h1 : 0 < D) : ∃ k : Nat, k < D ∧ y % d = Int32.ofNat k := by
  have h2 := (c_irem y d D hd).1 h0
  have h3 := Int.emod_nonneg y.toInt (b := (D : Int)) (by omega)
  have h4 := Int.emod_lt_of_pos y.toInt (b := (D : Int)) (by omega)
  have h5 := d.toInt_lt
  exact own_small (by omega) (by omega) (by omega)
theorem own_andk (a m : Int32) (M : Nat) (hm : m.toInt = (M : Int)) : ∃ k : Nat, k < M + 1 ∧ a &&& m = Int32.ofNat k := by
  have h := c_and a m (by omega)
  have h5 := m.toInt_lt
  exact own_small h.1 (by omega) (by omega)
theorem own_c1 {x : Int32} (h : ∃ k : Nat, k < 1 ∧ x = Int32.ofNat k) : x = 0 := by
  obtain ⟨k, hk, e⟩ := h
  obtain rfl : k = 0 := by omega
  exact e
theorem own_c2 {x : Int32} (h : ∃ k : Nat, k < 2 ∧ x = Int32.ofNat k) : x = 0 ∨ x = 1 := by
  obtain ⟨k, hk, e⟩ := h
  have q : k = 0 ∨ k = 1 := by omega
  rcases q with rfl | rfl
  · exact Or.inl e
  · exact Or.inr (e)
theorem own_c3 {x : Int32} (h : ∃ k : Nat, k < 3 ∧ x = Int32.ofNat k) : x = 0 ∨ x = 1 ∨ x = 2 := by
  obtain ⟨k, hk, e⟩ := h
  have q : k = 0 ∨ k = 1 ∨ k = 2 := by omega
  rcases q with rfl | rfl | rfl
  · exact Or.inl e
  · exact Or.inr (Or.inl e)
  · exact Or.inr (Or.inr (e))
theorem own_c4 {x : Int32} (h : ∃ k : Nat, k < 4 ∧ x = Int32.ofNat k) : x = 0 ∨ x = 1 ∨ x = 2 ∨ x = 3 := by
  obtain ⟨k, hk, e⟩ := h
  have q : k = 0 ∨ k = 1 ∨ k = 2 ∨ k = 3 := by omega
  rcases q with rfl | rfl | rfl | rfl
  · exact Or.inl e
  · exact Or.inr (Or.inl e)
  · exact Or.inr (Or.inr (Or.inl e))
  · exact Or.inr (Or.inr (Or.inr (e)))
theorem own_c5 {x : Int32} (h : ∃ k : Nat, k < 5 ∧ x = Int32.ofNat k) : x = 0 ∨ x = 1 ∨ x = 2 ∨ x = 3 ∨ x = 4 := by
  obtain ⟨k, hk, e⟩ := h
  have q : k = 0 ∨ k = 1 ∨ k = 2 ∨ k = 3 ∨ k = 4 := by omega
  rcases q with rfl | rfl | rfl | rfl | rfl
  · exact Or.inl e
  · exact Or.inr (Or.inl e)
  · exact Or.inr (Or.inr (Or.inl e))
  · exact Or.inr (Or.inr (Or.inr (Or.inl e)))
  · exact Or.inr (Or.inr (Or.inr (Or.inr (e))))
theorem own_c6 {x : Int32} (h : ∃ k : Nat, k < 6 ∧ x = Int32.ofNat k) : x = 0 ∨ x = 1 ∨ x = 2 ∨ x = 3 ∨ x = 4 ∨ x = 5 := by
  obtain ⟨k, hk, e⟩ := h
  have q : k = 0 ∨ k = 1 ∨ k = 2 ∨ k = 3 ∨ k = 4 ∨ k = 5 := by omega
  rcases q with rfl | rfl | rfl | rfl | rfl | rfl
  · exact Or.inl e
  · exact Or.inr (Or.inl e)
  · exact Or.inr (Or.inr (Or.inl e))
  · exact Or.inr (Or.inr (Or.inr (Or.inl e)))
  · exact Or.inr (Or.inr (Or.inr (Or.inr (Or.inl e))))
  · exact Or.inr (Or.inr (Or.inr (Or.inr (Or.inr (e)))))
theorem own_c7 {x : Int32} (h : ∃ k : Nat, k < 7 ∧ x = Int32.ofNat k) : x = 0 ∨ x = 1 ∨ x = 2 ∨ x = 3 ∨ x = 4 ∨ x = 5 ∨ x = 6 := by
  obtain ⟨k, hk, e⟩ := h
  have q : k = 0 ∨ k = 1 ∨ k = 2 ∨ k = 3 ∨ k = 4 ∨ k = 5 ∨ k = 6 := by omega
  rcases q with rfl | rfl | rfl | rfl | rfl | rfl | rfl
  · exact Or.inl e
  · exact Or.inr (Or.inl e)
  · exact Or.inr (Or.inr (Or.inl e))
  · exact Or.inr (Or.inr (Or.inr (Or.inl e)))
  · exact Or.inr (Or.inr (Or.inr (Or.inr (Or.inl e))))
  · exact Or.inr (Or.inr (Or.inr (Or.inr (Or.inr (Or.inl e)))))
  · exact Or.inr (Or.inr (Or.inr (Or.inr (Or.inr (Or.inr (e))))))
theorem own_c8 {x : Int32} (h : ∃ k : Nat, k < 8 ∧ x = Int32.ofNat k) : x = 0 ∨ x = 1 ∨ x = 2 ∨ x = 3 ∨ x = 4 ∨ x = 5 ∨ x = 6 ∨ x = 7 := by
  obtain ⟨k, hk, e⟩ := h
  have q : k = 0 ∨ k = 1 ∨ k = 2 ∨ k = 3 ∨ k = 4 ∨ k = 5 ∨ k = 6 ∨ k = 7 := by omega
  rcases q with rfl | rfl | rfl | rfl | rfl | rfl | rfl | rfl
  · exact Or.inl e
  · exact Or.inr (Or.inl e)
  · exact Or.inr (Or.inr (Or.inl e))
  · exact Or.inr (Or.inr (Or.inr (Or.inl e)))
  · exact Or.inr (Or.inr (Or.inr (Or.inr (Or.inl e))))
  · exact Or.inr (Or.inr (Or.inr (Or.inr (Or.inr (Or.inl e)))))
  · exact Or.inr (Or.inr (Or.inr (Or.inr (Or.inr (Or.inr (Or.inl e))))))
  · exact Or.inr (Or.inr (Or.inr (Or.inr (Or.inr (Or.inr (Or.inr (e)))))))
theorem own_c9 {x : Int32} (h : ∃ k : Nat, k < 9 ∧ x = Int32.ofNat k) : x = 0 ∨ x = 1 ∨ x = 2 ∨ x = 3 ∨ x = 4 ∨ x = 5 ∨ x = 6 ∨ x = 7 ∨ x = 8 := by
  obtain ⟨k, hk, e⟩ := h
  have q : k = 0 ∨ k = 1 ∨ k = 2 ∨ k = 3 ∨ k = 4 ∨ k = 5 ∨ k = 6 ∨ k = 7 ∨ k = 8 := by omega
  rcases q with rfl | rfl | rfl | rfl | rfl | rfl | rfl | rfl | rfl
  · exact Or.inl e
  · exact Or.inr (Or.inl e)
  · exact Or.inr (Or.inr (Or.inl e))
  · exact Or.inr (Or.inr (Or.inr (Or.inl e)))
  · exact Or.inr (Or.inr (Or.inr (Or.inr (Or.inl e))))
  · exact Or.inr (Or.inr (Or.inr (Or.inr (Or.inr (Or.inl e)))))
  · exact Or.inr (Or.inr (Or.inr (Or.inr (Or.inr (Or.inr (Or.inl e))))))
  · exact Or.inr (Or.inr (Or.inr (Or.inr (Or.inr (Or.inr (Or.inr (Or.inl e)))))))
  · exact Or.inr (Or.inr (Or.inr (Or.inr (Or.inr (Or.inr (Or.inr (Or.inr (e))))))))
theorem own_c10 {x : Int32} (h : ∃ k : Nat, k < 10 ∧ x = Int32.ofNat k) : x = 0 ∨ x = 1 ∨ x = 2 ∨ x = 3 ∨ x = 4 ∨ x = 5 ∨ x = 6 ∨ x = 7 ∨ x = 8 ∨ x = 9 := by
  obtain ⟨k, hk, e⟩ := h
  have q : k = 0 ∨ k = 1 ∨ k = 2 ∨ k = 3 ∨ k = 4 ∨ k = 5 ∨ k = 6 ∨ k = 7 ∨ k = 8 ∨ k = 9 := by omega
  rcases q with rfl | rfl | rfl | rfl | rfl | rfl | rfl | rfl | rfl | rfl
  · exact Or.inl e
  · exact Or.inr (Or.inl e)
  · exact Or.inr (Or.inr (Or.inl e))
  · exact Or.inr (Or.inr (Or.inr (Or.inl e)))
  · exact Or.inr (Or.inr (Or.inr (Or.inr (Or.inl e))))
  · exact Or.inr (Or.inr (Or.inr (Or.inr (Or.inr (Or.inl e)))))
  · exact Or.inr (Or.inr (Or.inr (Or.inr (Or.inr (Or.inr (Or.inl e))))))
  · exact Or.inr (Or.inr (Or.inr (Or.inr (Or.inr (Or.inr (Or.inr (Or.inl e)))))))
  · exact Or.inr (Or.inr (Or.inr (Or.inr (Or.inr (Or.inr (Or.inr (Or.inr (Or.inl e))))))))
  · exact Or.inr (Or.inr (Or.inr (Or.inr (Or.inr (Or.inr (Or.inr (Or.inr (Or.inr (e)))))))))
theorem own_c11 {x : Int32} (h : ∃ k : Nat, k < 11 ∧ x = Int32.ofNat k) : x = 0 ∨ x = 1 ∨ x = 2 ∨ x = 3 ∨ x = 4 ∨ x = 5 ∨ x = 6 ∨ x = 7 ∨ x = 8 ∨ x = 9 ∨ x = 10 := by
  obtain ⟨k, hk, e⟩ := h
  have q : k = 0 ∨ k = 1 ∨ k = 2 ∨ k = 3 ∨ k = 4 ∨ k = 5 ∨ k = 6 ∨ k = 7 ∨ k = 8 ∨ k = 9 ∨ k = 10 := by omega
  rcases q with rfl | rfl | rfl | rfl | rfl | rfl | rfl | rfl | rfl | rfl | rfl
  · exact Or.inl e
  · exact Or.inr (Or.inl e)
  · exact Or.inr (Or.inr (Or.inl e))
  · exact Or.inr (Or.inr (Or.inr (Or.inl e)))
  · exact Or.inr (Or.inr (Or.inr (Or.inr (Or.inl e))))
  · exact Or.inr (Or.inr (Or.inr (Or.inr (Or.inr (Or.inl e)))))
  · exact Or.inr (Or.inr (Or.inr (Or.inr (Or.inr (Or.inr (Or.inl e))))))
  · exact Or.inr (Or.inr (Or.inr (Or.inr (Or.inr (Or.inr (Or.inr (Or.inl e)))))))
  · exact Or.inr (Or.inr (Or.inr (Or.inr (Or.inr (Or.inr (Or.inr (Or.inr (Or.inl e))))))))
  · exact Or.inr (Or.inr (Or.inr (Or.inr (Or.inr (Or.inr (Or.inr (Or.inr (Or.inr (Or.inl e)))))))))
  · exact Or.inr (Or.inr (Or.inr (Or.inr (Or.inr (Or.inr (Or.inr (Or.inr (Or.inr (Or.inr (e))))))))))
theorem own_c12 {x : Int32} (h : ∃ k : Nat, k < 12 ∧ x = Int32.ofNat k) : x = 0 ∨ x = 1 ∨ x = 2 ∨ x = 3 ∨ x = 4 ∨ x = 5 ∨ x = 6 ∨ x = 7 ∨ x = 8 ∨ x = 9 ∨ x = 10 ∨ x = 11 := by
  obtain ⟨k, hk, e⟩ := h
  have q : k = 0 ∨ k = 1 ∨ k = 2 ∨ k = 3 ∨ k = 4 ∨ k = 5 ∨ k = 6 ∨ k = 7 ∨ k = 8 ∨ k = 9 ∨ k = 10 ∨ k = 11 := by omega
  rcases q with rfl | rfl | rfl | rfl | rfl | rfl | rfl | rfl | rfl | rfl | rfl | rfl
  · exact Or.inl e
  · exact Or.inr (Or.inl e)
  · exact Or.inr (Or.inr (Or.inl e))
  · exact Or.inr (Or.inr (Or.inr (Or.inl e)))
  · exact Or.inr (Or.inr (Or.inr (Or.inr (Or.inl e))))
  · exact Or.inr (Or.inr (Or.inr (Or.inr (Or.inr (Or.inl e)))))
  · exact Or.inr (Or.inr (Or.inr (Or.inr (Or.inr (Or.inr (Or.inl e))))))
  · exact Or.inr (Or.inr (Or.inr (Or.inr (Or.inr (Or.inr (Or.inr (Or.inl e)))))))
  · exact Or.inr (Or.inr (Or.inr (Or.inr (Or.inr (Or.inr (Or.inr (Or.inr (Or.inl e))))))))
  · exact Or.inr (Or.inr (Or.inr (Or.inr (Or.inr (Or.inr (Or.inr (Or.inr (Or.inr (Or.inl e)))))))))
  · exact Or.inr (Or.inr (Or.inr (Or.inr (Or.inr (Or.inr (Or.inr (Or.inr (Or.inr (Or.inr (Or.inl e))))))))))
  · exact Or.inr (Or.inr (Or.inr (Or.inr (Or.inr (Or.inr (Or.inr (Or.inr (Or.inr (Or.inr (Or.inr (e)))))))))))
theorem own_c13 {x : Int32} (h : ∃ k : Nat, k < 13 ∧ x = Int32.ofNat k) : x = 0 ∨ x = 1 ∨ x = 2 ∨ x = 3 ∨ x = 4 ∨ x = 5 ∨ x = 6 ∨ x = 7 ∨ x = 8 ∨ x = 9 ∨ x = 10 ∨ x = 11 ∨ x = 12 := by
  obtain ⟨k, hk, e⟩ := h
  have q : k = 0 ∨ k = 1 ∨ k = 2 ∨ k = 3 ∨ k = 4 ∨ k = 5 ∨ k = 6 ∨ k = 7 ∨ k = 8 ∨ k = 9 ∨ k = 10 ∨ k = 11 ∨ k = 12 := by omega
  rcases q with rfl | rfl | rfl | rfl | rfl | rfl | rfl | rfl | rfl | rfl | rfl | rfl | rfl
  · exact Or.inl e
  · exact Or.inr (Or.inl e)
  · exact Or.inr (Or.inr (Or.inl e))
  · exact Or.inr (Or.inr (Or.inr (Or.inl e)))
  · exact Or.inr (Or.inr (Or.inr (Or.inr (Or.inl e))))
  · exact Or.inr (Or.inr (Or.inr (Or.inr (Or.inr (Or.inl e)))))
  · exact Or.inr (Or.inr (Or.inr (Or.inr (Or.inr (Or.inr (Or.inl e))))))
  · exact Or.inr (Or.inr (Or.inr (Or.inr (Or.inr (Or.inr (Or.inr (Or.inl e)))))))
  · exact Or.inr (Or.inr (Or.inr (Or.inr (Or.inr (Or.inr (Or.inr (Or.inr (Or.inl e))))))))
  · exact Or.inr (Or.inr (Or.inr (Or.inr (Or.inr (Or.inr (Or.inr (Or.inr (Or.inr (Or.inl e)))))))))
  · exact Or.inr (Or.inr (Or.inr (Or.inr (Or.inr (Or.inr (Or.inr (Or.inr (Or.inr (Or.inr (Or.inl e))))))))))
  · exact Or.inr (Or.inr (Or.inr (Or.inr (Or.inr (Or.inr (Or.inr (Or.inr (Or.inr (Or.inr (Or.inr (Or.inl e)))))))))))
  · exact Or.inr (Or.inr (Or.inr (Or.inr (Or.inr (Or.inr (Or.inr (Or.inr (Or.inr (Or.inr (Or.inr (Or.inr (e))))))))))))
theorem own_c14 {x : Int32} (h : ∃ k : Nat, k < 14 ∧ x = Int32.ofNat k) : x = 0 ∨ x = 1 ∨ x = 2 ∨ x = 3 ∨ x = 4 ∨ x = 5 ∨ x = 6 ∨ x = 7 ∨ x = 8 ∨ x = 9 ∨ x = 10 ∨ x = 11 ∨ x = 12 ∨ x = 13 := by
  obtain ⟨k, hk, e⟩ := h
  have q : k = 0 ∨ k = 1 ∨ k = 2 ∨ k = 3 ∨ k = 4 ∨ k = 5 ∨ k = 6 ∨ k = 7 ∨ k = 8 ∨ k = 9 ∨ k = 10 ∨ k = 11 ∨ k = 12 ∨ k = 13 := by omega
  rcases q with rfl | rfl | rfl | rfl | rfl | rfl | rfl | rfl | rfl | rfl | rfl | rfl | rfl | rfl
  · exact Or.inl e
  · exact Or.inr (Or.inl e)
  · exact Or.inr (Or.inr (Or.inl e))
  · exact Or.inr (Or.inr (Or.inr (Or.inl e)))
  · exact Or.inr (Or.inr (Or.inr (Or.inr (Or.inl e))))
  · exact Or.inr (Or.inr (Or.inr (Or.inr (Or.inr (Or.inl e)))))
  · exact Or.inr (Or.inr (Or.inr (Or.inr (Or.inr (Or.inr (Or.inl e))))))
  · exact Or.inr (Or.inr (Or.inr (Or.inr (Or.inr (Or.inr (Or.inr (Or.inl e)))))))
  · exact Or.inr (Or.inr (Or.inr (Or.inr (Or.inr (Or.inr (Or.inr (Or.inr (Or.inl e))))))))
  · exact Or.inr (Or.inr (Or.inr (Or.inr (Or.inr (Or.inr (Or.inr (Or.inr (Or.inr (Or.inl e)))))))))
  · exact Or.inr (Or.inr (Or.inr (Or.inr (Or.inr (Or.inr (Or.inr (Or.inr (Or.inr (Or.inr (Or.inl e))))))))))
  · exact Or.inr (Or.inr (Or.inr (Or.inr (Or.inr (Or.inr (Or.inr (Or.inr (Or.inr (Or.inr (Or.inr (Or.inl e)))))))))))
  · exact Or.inr (Or.inr (Or.inr (Or.inr (Or.inr (Or.inr (Or.inr (Or.inr (Or.inr (Or.inr (Or.inr (Or.inr (Or.inl e))))))))))))
  · exact Or.inr (Or.inr (Or.inr (Or.inr (Or.inr (Or.inr (Or.inr (Or.inr (Or.inr (Or.inr (Or.inr (Or.inr (Or.inr (e)))))))))))))
theorem own_c15 {x : Int32} (h : ∃ k : Nat, k < 15 ∧ x = Int32.ofNat k) : x = 0 ∨ x = 1 ∨ x = 2 ∨ x = 3 ∨ x = 4 ∨ x = 5 ∨ x = 6 ∨ x = 7 ∨ x = 8 ∨ x = 9 ∨ x = 10 ∨ x = 11 ∨ x = 12 ∨ x = 13 ∨ x = 14 := by
  obtain ⟨k, hk, e⟩ := h
  have q : k = 0 ∨ k = 1 ∨ k = 2 ∨ k = 3 ∨ k = 4 ∨ k = 5 ∨ k = 6 ∨ k = 7 ∨ k = 8 ∨ k = 9 ∨ k = 10 ∨ k = 11 ∨ k = 12 ∨ k = 13 ∨ k = 14 := by omega
  rcases q with rfl | rfl | rfl | rfl | rfl | rfl | rfl | rfl | rfl | rfl | rfl | rfl | rfl | rfl | rfl
  · exact Or.inl e
  · exact Or.inr (Or.inl e)
  · exact Or.inr (Or.inr (Or.inl e))
  · exact Or.inr (Or.inr (Or.inr (Or.inl e)))
  · exact Or.inr (Or.inr (Or.inr (Or.inr (Or.inl e))))
  · exact Or.inr (Or.inr (Or.inr (Or.inr (Or.inr (Or.inl e)))))
  · exact Or.inr (Or.inr (Or.inr (Or.inr (Or.inr (Or.inr (Or.inl e))))))
  · exact Or.inr (Or.inr (Or.inr (Or.inr (Or.inr (Or.inr (Or.inr (Or.inl e)))))))
  · exact Or.inr (Or.inr (Or.inr (Or.inr (Or.inr (Or.inr (Or.inr (Or.inr (Or.inl e))))))))
  · exact Or.inr (Or.inr (Or.inr (Or.inr (Or.inr (Or.inr (Or.inr (Or.inr (Or.inr (Or.inl e)))))))))
  · exact Or.inr (Or.inr (Or.inr (Or.inr (Or.inr (Or.inr (Or.inr (Or.inr (Or.inr (Or.inr (Or.inl e))))))))))
  · exact Or.inr (Or.inr (Or.inr (Or.inr (Or.inr (Or.inr (Or.inr (Or.inr (Or.inr (Or.inr (Or.inr (Or.inl e)))))))))))
  · exact Or.inr (Or.inr (Or.inr (Or.inr (Or.inr (Or.inr (Or.inr (Or.inr (Or.inr (Or.inr (Or.inr (Or.inr (Or.inl e))))))))))))
  · exact Or.inr (Or.inr (Or.inr (Or.inr (Or.inr (Or.inr (Or.inr (Or.inr (Or.inr (Or.inr (Or.inr (Or.inr (Or.inr (Or.inl e)))))))))))))
  · exact Or.inr (Or.inr (Or.inr (Or.inr (Or.inr (Or.inr (Or.inr (Or.inr (Or.inr (Or.inr (Or.inr (Or.inr (Or.inr (Or.inr (e))))))))))))))
theorem own_c16 {x : Int32} (h : ∃ k : Nat, k < 16 ∧ x = Int32.ofNat k) : x = 0 ∨ x = 1 ∨ x = 2 ∨ x = 3 ∨ x = 4 ∨ x = 5 ∨ x = 6 ∨ x = 7 ∨ x = 8 ∨ x = 9 ∨ x = 10 ∨ x = 11 ∨ x = 12 ∨ x = 13 ∨ x = 14 ∨ x = 15 := by
  obtain ⟨k, hk, e⟩ := h
  have q : k = 0 ∨ k = 1 ∨ k = 2 ∨ k = 3 ∨ k = 4 ∨ k = 5 ∨ k = 6 ∨ k = 7 ∨ k = 8 ∨ k = 9 ∨ k = 10 ∨ k = 11 ∨ k = 12 ∨ k = 13 ∨ k = 14 ∨ k = 15 := by omega
  rcases q with rfl | rfl | rfl | rfl | rfl | rfl | rfl | rfl | rfl | rfl | rfl | rfl | rfl | rfl | rfl | rfl
  · exact Or.inl e
  · exact Or.inr (Or.inl e)
  · exact Or.inr (Or.inr (Or.inl e))
  · exact Or.inr (Or.inr (Or.inr (Or.inl e)))
  · exact Or.inr (Or.inr (Or.inr (Or.inr (Or.inl e))))
  · exact Or.inr (Or.inr (Or.inr (Or.inr (Or.inr (Or.inl e)))))
  · exact Or.inr (Or.inr (Or.inr (Or.inr (Or.inr (Or.inr (Or.inl e))))))
  · exact Or.inr (Or.inr (Or.inr (Or.inr (Or.inr (Or.inr (Or.inr (Or.inl e)))))))
  · exact Or.inr (Or.inr (Or.inr (Or.inr (Or.inr (Or.inr (Or.inr (Or.inr (Or.inl e))))))))
  · exact Or.inr (Or.inr (Or.inr (Or.inr (Or.inr (Or.inr (Or.inr (Or.inr (Or.inr (Or.inl e)))))))))
  · exact Or.inr (Or.inr (Or.inr (Or.inr (Or.inr (Or.inr (Or.inr (Or.inr (Or.inr (Or.inr (Or.inl e))))))))))
  · exact Or.inr (Or.inr (Or.inr (Or.inr (Or.inr (Or.inr (Or.inr (Or.inr (Or.inr (Or.inr (Or.inr (Or.inl e)))))))))))
  · exact Or.inr (Or.inr (Or.inr (Or.inr (Or.inr (Or.inr (Or.inr (Or.inr (Or.inr (Or.inr (Or.inr (Or.inr (Or.inl e))))))))))))
  · exact Or.inr (Or.inr (Or.inr (Or.inr (Or.inr (Or.inr (Or.inr (Or.inr (Or.inr (Or.inr (Or.inr (Or.inr (Or.inr (Or.inl e)))))))))))))
  · exact Or.inr (Or.inr (Or.inr (Or.inr (Or.inr (Or.inr (Or.inr (Or.inr (Or.inr (Or.inr (Or.inr (Or.inr (Or.inr (Or.inr (Or.inl e))))))))))))))
  · exact Or.inr (Or.inr (Or.inr (Or.inr (Or.inr (Or.inr (Or.inr (Or.inr (Or.inr (Or.inr (Or.inr (Or.inr (Or.inr (Or.inr (Or.inr (e)))))))))))))))
theorem own_c17 {x : Int32} (h : ∃ k : Nat, k < 17 ∧ x = Int32.ofNat k) : x = 0 ∨ x = 1 ∨ x = 2 ∨ x = 3 ∨ x = 4 ∨ x = 5 ∨ x = 6 ∨ x = 7 ∨ x = 8 ∨ x = 9 ∨ x = 10 ∨ x = 11 ∨ x = 12 ∨ x = 13 ∨ x = 14 ∨ x = 15 ∨ x = 16 := by
  obtain ⟨k, hk, e⟩ := h
  have q : k = 0 ∨ k = 1 ∨ k = 2 ∨ k = 3 ∨ k = 4 ∨ k = 5 ∨ k = 6 ∨ k = 7 ∨ k = 8 ∨ k = 9 ∨ k = 10 ∨ k = 11 ∨ k = 12 ∨ k = 13 ∨ k = 14 ∨ k = 15 ∨ k = 16 := by omega
  rcases q with rfl | rfl | rfl | rfl | rfl | rfl | rfl | rfl | rfl | rfl | rfl | rfl | rfl | rfl | rfl | rfl | rfl
  · exact Or.inl e
  · exact Or.inr (Or.inl e)
  · exact Or.inr (Or.inr (Or.inl e))
  · exact Or.inr (Or.inr (Or.inr (Or.inl e)))
  · exact Or.inr (Or.inr (Or.inr (Or.inr (Or.inl e))))
  · exact Or.inr (Or.inr (Or.inr (Or.inr (Or.inr (Or.inl e)))))
  · exact Or.inr (Or.inr (Or.inr (Or.inr (Or.inr (Or.inr (Or.inl e))))))
  · exact Or.inr (Or.inr (Or.inr (Or.inr (Or.inr (Or.inr (Or.inr (Or.inl e)))))))
  · exact Or.inr (Or.inr (Or.inr (Or.inr (Or.inr (Or.inr (Or.inr (Or.inr (Or.inl e))))))))
  · exact Or.inr (Or.inr (Or.inr (Or.inr (Or.inr (Or.inr (Or.inr (Or.inr (Or.inr (Or.inl e)))))))))
  · exact Or.inr (Or.inr (Or.inr (Or.inr (Or.inr (Or.inr (Or.inr (Or.inr (Or.inr (Or.inr (Or.inl e))))))))))
  · exact Or.inr (Or.inr (Or.inr (Or.inr (Or.inr (Or.inr (Or.inr (Or.inr (Or.inr (Or.inr (Or.inr (Or.inl e)))))))))))
  · exact Or.inr (Or.inr (Or.inr (Or.inr (Or.inr (Or.inr (Or.inr (Or.inr (Or.inr (Or.inr (Or.inr (Or.inr (Or.inl e))))))))))))
  · exact Or.inr (Or.inr (Or.inr (Or.inr (Or.inr (Or.inr (Or.inr (Or.inr (Or.inr (Or.inr (Or.inr (Or.inr (Or.inr (Or.inl e)))))))))))))
  · exact Or.inr (Or.inr (Or.inr (Or.inr (Or.inr (Or.inr (Or.inr (Or.inr (Or.inr (Or.inr (Or.inr (Or.inr (Or.inr (Or.inr (Or.inl e))))))))))))))
  · exact Or.inr (Or.inr (Or.inr (Or.inr (Or.inr (Or.inr (Or.inr (Or.inr (Or.inr (Or.inr (Or.inr (Or.inr (Or.inr (Or.inr (Or.inr (Or.inl e)))))))))))))))
  · exact Or.inr (Or.inr (Or.inr (Or.inr (Or.inr (Or.inr (Or.inr (Or.inr (Or.inr (Or.inr (Or.inr (Or.inr (Or.inr (Or.inr (Or.inr (Or.inr (e))))))))))))))))
theorem wd0 {Z : State} {a0 : Array Value} (hw : ∀ d ∈ tables_1, d.before a0 Z = true) : (Jvm.Cond.constant "com/example/bidcrier/bidcrier/teams/BlackboardPostPinLaw" (7 : Nat) (2147483647 : Int32)).before a0 Z = true := hw _ (List.mem_of_getElem? (i := 0) rfl)
theorem wd1 {Z : State} {a0 : Array Value} (hw : ∀ d ∈ tables_1, d.before a0 Z = true) : (Jvm.Cond.classLink "com/example/bidcrier/bidcrier/teams/BlackboardPostPinLaw" (8 : Nat) "com/example/bidcrier/bidcrier/teams/Blackboard").before a0 Z = true := hw _ (List.mem_of_getElem? (i := 1) rfl)
theorem wd2 {Z : State} {a0 : Array Value} (hw : ∀ d ∈ tables_1, d.before a0 Z = true) : (Jvm.Cond.instantiable "com/example/bidcrier/bidcrier/teams/Blackboard" (10 : Nat)).before a0 Z = true := hw _ (List.mem_of_getElem? (i := 2) rfl)
theorem wd3 {Z : State} {a0 : Array Value} (hw : ∀ d ∈ tables_1, d.before a0 Z = true) : (Jvm.Cond.initialized "com/example/bidcrier/bidcrier/teams/Blackboard").before a0 Z = true := hw _ (List.mem_of_getElem? (i := 3) rfl)
theorem wd4 {Z : State} {a0 : Array Value} (hw : ∀ d ∈ tables_1, d.before a0 Z = true) : (Jvm.Cond.methodLink "com/example/bidcrier/bidcrier/teams/BlackboardPostPinLaw" (10 : Nat) ({ cls := "com/example/bidcrier/bidcrier/teams/Blackboard", name := "<init>", desc := "(II)V" } : Jvm.MethodName)).before a0 Z = true := hw _ (List.mem_of_getElem? (i := 4) rfl)
theorem wd5 {Z : State} {a0 : Array Value} (hw : ∀ d ∈ tables_1, d.before a0 Z = true) : (Jvm.Cond.instanceMethod ({ cls := "com/example/bidcrier/bidcrier/teams/Blackboard", name := "<init>", desc := "(II)V" } : Jvm.MethodName)).before a0 Z = true := hw _ (List.mem_of_getElem? (i := 5) rfl)
theorem wd6 {Z : State} {a0 : Array Value} (hw : ∀ d ∈ tables_1, d.before a0 Z = true) : (Jvm.Cond.code ({ cls := "com/example/bidcrier/bidcrier/teams/Blackboard", name := "<init>", desc := "(II)V" } : Jvm.MethodName) prog_51_method_1_code (3 : Nat) (Option.none : Option Jvm.ClassFile.FieldType)).before a0 Z = true := hw _ (List.mem_of_getElem? (i := 6) rfl)
theorem wd7 {Z : State} {a0 : Array Value} (hw : ∀ d ∈ tables_1, d.before a0 Z = true) : (Jvm.Cond.methodLink "com/example/bidcrier/bidcrier/teams/Blackboard" (1 : Nat) ({ cls := "java/lang/Object", name := "<init>", desc := "()V" } : Jvm.MethodName)).before a0 Z = true := hw _ (List.mem_of_getElem? (i := 7) rfl)
theorem wd8 {Z : State} {a0 : Array Value} (hw : ∀ d ∈ tables_1, d.before a0 Z = true) : (Jvm.Cond.instanceMethod ({ cls := "java/lang/Object", name := "<init>", desc := "()V" } : Jvm.MethodName)).before a0 Z = true := hw _ (List.mem_of_getElem? (i := 8) rfl)
theorem wd9 {Z : State} {a0 : Array Value} (hw : ∀ d ∈ tables_1, d.before a0 Z = true) : (Jvm.Cond.code ({ cls := "java/lang/Object", name := "<init>", desc := "()V" } : Jvm.MethodName) object_method_1_code (1 : Nat) (Option.none : Option Jvm.ClassFile.FieldType)).before a0 Z = true := hw _ (List.mem_of_getElem? (i := 9) rfl)
theorem wd10 {Z : State} {a0 : Array Value} (hw : ∀ d ∈ tables_1, d.before a0 Z = true) : (Jvm.Cond.arrayClass Jvm.ClassFile.FieldType.long).before a0 Z = true := hw _ (List.mem_of_getElem? (i := 10) rfl)
theorem wd11 {Z : State} {a0 : Array Value} (hw : ∀ d ∈ tables_1, d.before a0 Z = true) : (Jvm.Cond.fieldLink "com/example/bidcrier/bidcrier/teams/Blackboard" (7 : Nat) "com/example/bidcrier/bidcrier/teams/Blackboard" "prices" "[J").before a0 Z = true := hw _ (List.mem_of_getElem? (i := 11) rfl)
theorem wd12 {Z : State} {a0 : Array Value} (hw : ∀ d ∈ tables_1, d.before a0 Z = true) : (Jvm.Cond.laysFinal "com/example/bidcrier/bidcrier/teams/Blackboard" "com/example/bidcrier/bidcrier/teams/Blackboard" "prices" "[J").before a0 Z = true := hw _ (List.mem_of_getElem? (i := 12) rfl)
theorem wd13 {Z : State} {a0 : Array Value} (hw : ∀ d ∈ tables_1, d.before a0 Z = true) : (Jvm.Cond.arrayClass Jvm.ClassFile.FieldType.int).before a0 Z = true := hw _ (List.mem_of_getElem? (i := 13) rfl)
theorem wd14 {Z : State} {a0 : Array Value} (hw : ∀ d ∈ tables_1, d.before a0 Z = true) : (Jvm.Cond.fieldLink "com/example/bidcrier/bidcrier/teams/Blackboard" (13 : Nat) "com/example/bidcrier/bidcrier/teams/Blackboard" "holders" "[I").before a0 Z = true := hw _ (List.mem_of_getElem? (i := 14) rfl)
theorem wd15 {Z : State} {a0 : Array Value} (hw : ∀ d ∈ tables_1, d.before a0 Z = true) : (Jvm.Cond.laysFinal "com/example/bidcrier/bidcrier/teams/Blackboard" "com/example/bidcrier/bidcrier/teams/Blackboard" "holders" "[I").before a0 Z = true := hw _ (List.mem_of_getElem? (i := 15) rfl)
theorem wd16 {Z : State} {a0 : Array Value} (hw : ∀ d ∈ tables_1, d.before a0 Z = true) : (Jvm.Cond.fieldLink "com/example/bidcrier/bidcrier/teams/Blackboard" (17 : Nat) "com/example/bidcrier/bidcrier/teams/Blackboard" "held" "[I").before a0 Z = true := hw _ (List.mem_of_getElem? (i := 16) rfl)
theorem wd17 {Z : State} {a0 : Array Value} (hw : ∀ d ∈ tables_1, d.before a0 Z = true) : (Jvm.Cond.laysFinal "com/example/bidcrier/bidcrier/teams/Blackboard" "com/example/bidcrier/bidcrier/teams/Blackboard" "held" "[I").before a0 Z = true := hw _ (List.mem_of_getElem? (i := 17) rfl)
theorem wd18 {Z : State} {a0 : Array Value} (hw : ∀ d ∈ tables_1, d.before a0 Z = true) : (Jvm.Cond.fieldLink "com/example/bidcrier/bidcrier/teams/Blackboard" (20 : Nat) "com/example/bidcrier/bidcrier/teams/Blackboard" "bidRows" "[I").before a0 Z = true := hw _ (List.mem_of_getElem? (i := 18) rfl)
theorem wd19 {Z : State} {a0 : Array Value} (hw : ∀ d ∈ tables_1, d.before a0 Z = true) : (Jvm.Cond.laysFinal "com/example/bidcrier/bidcrier/teams/Blackboard" "com/example/bidcrier/bidcrier/teams/Blackboard" "bidRows" "[I").before a0 Z = true := hw _ (List.mem_of_getElem? (i := 19) rfl)
theorem wd20 {Z : State} {a0 : Array Value} (hw : ∀ d ∈ tables_1, d.before a0 Z = true) : (Jvm.Cond.fieldLink "com/example/bidcrier/bidcrier/teams/Blackboard" (23 : Nat) "com/example/bidcrier/bidcrier/teams/Blackboard" "bidColumns" "[I").before a0 Z = true := hw _ (List.mem_of_getElem? (i := 20) rfl)
theorem wd21 {Z : State} {a0 : Array Value} (hw : ∀ d ∈ tables_1, d.before a0 Z = true) : (Jvm.Cond.laysFinal "com/example/bidcrier/bidcrier/teams/Blackboard" "com/example/bidcrier/bidcrier/teams/Blackboard" "bidColumns" "[I").before a0 Z = true := hw _ (List.mem_of_getElem? (i := 21) rfl)
theorem wd22 {Z : State} {a0 : Array Value} (hw : ∀ d ∈ tables_1, d.before a0 Z = true) : (Jvm.Cond.fieldLink "com/example/bidcrier/bidcrier/teams/Blackboard" (26 : Nat) "com/example/bidcrier/bidcrier/teams/Blackboard" "bidPrices" "[J").before a0 Z = true := hw _ (List.mem_of_getElem? (i := 22) rfl)
theorem wd23 {Z : State} {a0 : Array Value} (hw : ∀ d ∈ tables_1, d.before a0 Z = true) : (Jvm.Cond.laysFinal "com/example/bidcrier/bidcrier/teams/Blackboard" "com/example/bidcrier/bidcrier/teams/Blackboard" "bidPrices" "[J").before a0 Z = true := hw _ (List.mem_of_getElem? (i := 23) rfl)
theorem wd24 {Z : State} {a0 : Array Value} (hw : ∀ d ∈ tables_1, d.before a0 Z = true) : (Jvm.Cond.methodLink "com/example/bidcrier/bidcrier/teams/Blackboard" (29 : Nat) ({ cls := "java/util/Arrays", name := "fill", desc := "([II)V" } : Jvm.MethodName)).before a0 Z = true := hw _ (List.mem_of_getElem? (i := 24) rfl)
theorem wd25 {Z : State} {a0 : Array Value} (hw : ∀ d ∈ tables_1, d.before a0 Z = true) : (Jvm.Cond.static ({ cls := "java/util/Arrays", name := "fill", desc := "([II)V" } : Jvm.MethodName)).before a0 Z = true := hw _ (List.mem_of_getElem? (i := 25) rfl)
theorem wd26 {Z : State} {a0 : Array Value} (hw : ∀ d ∈ tables_1, d.before a0 Z = true) : (Jvm.Cond.initialized "java/util/Arrays").before a0 Z = true := hw _ (List.mem_of_getElem? (i := 26) rfl)
theorem wd27 {Z : State} {a0 : Array Value} (hw : ∀ d ∈ tables_1, d.before a0 Z = true) : (Jvm.Cond.code ({ cls := "java/util/Arrays", name := "fill", desc := "([II)V" } : Jvm.MethodName) jdk_65_method_103_code (4 : Nat) (Option.none : Option Jvm.ClassFile.FieldType)).before a0 Z = true := hw _ (List.mem_of_getElem? (i := 27) rfl)
theorem wd28 {Z : State} {a0 : Array Value} (hw : ∀ d ∈ tables_1, d.before a0 Z = true) : (Jvm.Cond.fieldLink "com/example/bidcrier/bidcrier/teams/Blackboard" (35 : Nat) "com/example/bidcrier/bidcrier/teams/Blackboard" "unassigned" "I").before a0 Z = true := hw _ (List.mem_of_getElem? (i := 28) rfl)
theorem wd29 {Z : State} {a0 : Array Value} (hw : ∀ d ∈ tables_1, d.before a0 Z = true) : (Jvm.Cond.lays "com/example/bidcrier/bidcrier/teams/Blackboard" "com/example/bidcrier/bidcrier/teams/Blackboard" "unassigned" "I").before a0 Z = true := hw _ (List.mem_of_getElem? (i := 29) rfl)
theorem wd30 {Z : State} {a0 : Array Value} (hw : ∀ d ∈ tables_1, d.before a0 Z = true) : (Jvm.Cond.methodLink "com/example/bidcrier/bidcrier/teams/BlackboardPostPinLaw" (13 : Nat) ({ cls := "com/example/bidcrier/bidcrier/teams/Blackboard", name := "post", desc := "(IIJ)V" } : Jvm.MethodName)).before a0 Z = true := hw _ (List.mem_of_getElem? (i := 30) rfl)
theorem wd31 {Z : State} {a0 : Array Value} (hw : ∀ d ∈ tables_1, d.before a0 Z = true) : (Jvm.Cond.declares ({ cls := "com/example/bidcrier/bidcrier/teams/Blackboard", name := "post", desc := "(IIJ)V" } : Jvm.MethodName)).before a0 Z = true := hw _ (List.mem_of_getElem? (i := 31) rfl)
theorem wd32 {Z : State} {a0 : Array Value} (hw : ∀ d ∈ tables_1, d.before a0 Z = true) : (Jvm.Cond.instanceMethod ({ cls := "com/example/bidcrier/bidcrier/teams/Blackboard", name := "post", desc := "(IIJ)V" } : Jvm.MethodName)).before a0 Z = true := hw _ (List.mem_of_getElem? (i := 32) rfl)
theorem wd33 {Z : State} {a0 : Array Value} (hw : ∀ d ∈ tables_1, d.before a0 Z = true) : (Jvm.Cond.selects "com/example/bidcrier/bidcrier/teams/Blackboard" ({ cls := "com/example/bidcrier/bidcrier/teams/Blackboard", name := "post", desc := "(IIJ)V" } : Jvm.MethodName) ({ cls := "com/example/bidcrier/bidcrier/teams/Blackboard", name := "post", desc := "(IIJ)V" } : Jvm.MethodName)).before a0 Z = true := hw _ (List.mem_of_getElem? (i := 33) rfl)
theorem wd34 {Z : State} {a0 : Array Value} (hw : ∀ d ∈ tables_1, d.before a0 Z = true) : (Jvm.Cond.code ({ cls := "com/example/bidcrier/bidcrier/teams/Blackboard", name := "post", desc := "(IIJ)V" } : Jvm.MethodName) prog_51_method_9_code (5 : Nat) (Option.none : Option Jvm.ClassFile.FieldType)).before a0 Z = true := hw _ (List.mem_of_getElem? (i := 34) rfl)
theorem wd35 {Z : State} {a0 : Array Value} (hw : ∀ d ∈ tables_1, d.before a0 Z = true) : (Jvm.Cond.fieldLink "com/example/bidcrier/bidcrier/teams/Blackboard" (46 : Nat) "com/example/bidcrier/bidcrier/teams/Blackboard" "bidCount" "I").before a0 Z = true := hw _ (List.mem_of_getElem? (i := 35) rfl)
theorem wd36 {Z : State} {a0 : Array Value} (hw : ∀ d ∈ tables_1, d.before a0 Z = true) : (Jvm.Cond.lays "com/example/bidcrier/bidcrier/teams/Blackboard" "com/example/bidcrier/bidcrier/teams/Blackboard" "bidCount" "I").before a0 Z = true := hw _ (List.mem_of_getElem? (i := 36) rfl)
theorem wd37 {Z : State} {a0 : Array Value} (hw : ∀ d ∈ tables_1, d.before a0 Z = true) : (Jvm.Cond.fieldLink "com/example/bidcrier/bidcrier/teams/Blackboard" (43 : Nat) "com/example/bidcrier/bidcrier/teams/Blackboard" "posts" "J").before a0 Z = true := hw _ (List.mem_of_getElem? (i := 37) rfl)
theorem wd38 {Z : State} {a0 : Array Value} (hw : ∀ d ∈ tables_1, d.before a0 Z = true) : (Jvm.Cond.lays "com/example/bidcrier/bidcrier/teams/Blackboard" "com/example/bidcrier/bidcrier/teams/Blackboard" "posts" "J").before a0 Z = true := hw _ (List.mem_of_getElem? (i := 38) rfl)
theorem wd39 {Z : State} {a0 : Array Value} (hw : ∀ d ∈ tables_1, d.before a0 Z = true) : (Jvm.Cond.methodLink "com/example/bidcrier/bidcrier/teams/BlackboardPostPinLaw" (17 : Nat) ({ cls := "com/example/bidcrier/bidcrier/teams/Blackboard", name := "bids", desc := "()I" } : Jvm.MethodName)).before a0 Z = true := hw _ (List.mem_of_getElem? (i := 39) rfl)
theorem wd40 {Z : State} {a0 : Array Value} (hw : ∀ d ∈ tables_1, d.before a0 Z = true) : (Jvm.Cond.declares ({ cls := "com/example/bidcrier/bidcrier/teams/Blackboard", name := "bids", desc := "()I" } : Jvm.MethodName)).before a0 Z = true := hw _ (List.mem_of_getElem? (i := 40) rfl)
theorem wd41 {Z : State} {a0 : Array Value} (hw : ∀ d ∈ tables_1, d.before a0 Z = true) : (Jvm.Cond.instanceMethod ({ cls := "com/example/bidcrier/bidcrier/teams/Blackboard", name := "bids", desc := "()I" } : Jvm.MethodName)).before a0 Z = true := hw _ (List.mem_of_getElem? (i := 41) rfl)
theorem wd42 {Z : State} {a0 : Array Value} (hw : ∀ d ∈ tables_1, d.before a0 Z = true) : (Jvm.Cond.selects "com/example/bidcrier/bidcrier/teams/Blackboard" ({ cls := "com/example/bidcrier/bidcrier/teams/Blackboard", name := "bids", desc := "()I" } : Jvm.MethodName) ({ cls := "com/example/bidcrier/bidcrier/teams/Blackboard", name := "bids", desc := "()I" } : Jvm.MethodName)).before a0 Z = true := hw _ (List.mem_of_getElem? (i := 42) rfl)
theorem wd43 {Z : State} {a0 : Array Value} (hw : ∀ d ∈ tables_1, d.before a0 Z = true) : (Jvm.Cond.code ({ cls := "com/example/bidcrier/bidcrier/teams/Blackboard", name := "bids", desc := "()I" } : Jvm.MethodName) prog_51_method_10_code (1 : Nat) (Option.some Jvm.ClassFile.FieldType.int)).before a0 Z = true := hw _ (List.mem_of_getElem? (i := 43) rfl)
theorem wd44 {Z : State} {a0 : Array Value} (hw : ∀ d ∈ tables_1, d.before a0 Z = true) : (Jvm.Cond.methodLink "com/example/bidcrier/bidcrier/teams/BlackboardPostPinLaw" (21 : Nat) ({ cls := "com/example/bidcrier/bidcrier/teams/Blackboard", name := "posts", desc := "()J" } : Jvm.MethodName)).before a0 Z = true := hw _ (List.mem_of_getElem? (i := 44) rfl)
theorem wd45 {Z : State} {a0 : Array Value} (hw : ∀ d ∈ tables_1, d.before a0 Z = true) : (Jvm.Cond.declares ({ cls := "com/example/bidcrier/bidcrier/teams/Blackboard", name := "posts", desc := "()J" } : Jvm.MethodName)).before a0 Z = true := hw _ (List.mem_of_getElem? (i := 45) rfl)
theorem wd46 {Z : State} {a0 : Array Value} (hw : ∀ d ∈ tables_1, d.before a0 Z = true) : (Jvm.Cond.instanceMethod ({ cls := "com/example/bidcrier/bidcrier/teams/Blackboard", name := "posts", desc := "()J" } : Jvm.MethodName)).before a0 Z = true := hw _ (List.mem_of_getElem? (i := 46) rfl)
theorem wd47 {Z : State} {a0 : Array Value} (hw : ∀ d ∈ tables_1, d.before a0 Z = true) : (Jvm.Cond.selects "com/example/bidcrier/bidcrier/teams/Blackboard" ({ cls := "com/example/bidcrier/bidcrier/teams/Blackboard", name := "posts", desc := "()J" } : Jvm.MethodName) ({ cls := "com/example/bidcrier/bidcrier/teams/Blackboard", name := "posts", desc := "()J" } : Jvm.MethodName)).before a0 Z = true := hw _ (List.mem_of_getElem? (i := 47) rfl)
theorem wd48 {Z : State} {a0 : Array Value} (hw : ∀ d ∈ tables_1, d.before a0 Z = true) : (Jvm.Cond.code ({ cls := "com/example/bidcrier/bidcrier/teams/Blackboard", name := "posts", desc := "()J" } : Jvm.MethodName) prog_51_method_8_code (1 : Nat) (Option.some Jvm.ClassFile.FieldType.long)).before a0 Z = true := hw _ (List.mem_of_getElem? (i := 48) rfl)
theorem wd49 {Z : State} {a0 : Array Value} (hw : ∀ d ∈ tables_1, d.before a0 Z = true) : (Jvm.Cond.methodLink "com/example/bidcrier/bidcrier/teams/BlackboardPostPinLaw" (25 : Nat) ({ cls := "com/example/bidcrier/bidcrier/teams/Blackboard", name := "openRound", desc := "()V" } : Jvm.MethodName)).before a0 Z = true := hw _ (List.mem_of_getElem? (i := 49) rfl)
theorem wd50 {Z : State} {a0 : Array Value} (hw : ∀ d ∈ tables_1, d.before a0 Z = true) : (Jvm.Cond.declares ({ cls := "com/example/bidcrier/bidcrier/teams/Blackboard", name := "openRound", desc := "()V" } : Jvm.MethodName)).before a0 Z = true := hw _ (List.mem_of_getElem? (i := 50) rfl)
theorem wd51 {Z : State} {a0 : Array Value} (hw : ∀ d ∈ tables_1, d.before a0 Z = true) : (Jvm.Cond.instanceMethod ({ cls := "com/example/bidcrier/bidcrier/teams/Blackboard", name := "openRound", desc := "()V" } : Jvm.MethodName)).before a0 Z = true := hw _ (List.mem_of_getElem? (i := 51) rfl)
theorem wd52 {Z : State} {a0 : Array Value} (hw : ∀ d ∈ tables_1, d.before a0 Z = true) : (Jvm.Cond.selects "com/example/bidcrier/bidcrier/teams/Blackboard" ({ cls := "com/example/bidcrier/bidcrier/teams/Blackboard", name := "openRound", desc := "()V" } : Jvm.MethodName) ({ cls := "com/example/bidcrier/bidcrier/teams/Blackboard", name := "openRound", desc := "()V" } : Jvm.MethodName)).before a0 Z = true := hw _ (List.mem_of_getElem? (i := 52) rfl)
theorem wd53 {Z : State} {a0 : Array Value} (hw : ∀ d ∈ tables_1, d.before a0 Z = true) : (Jvm.Cond.code ({ cls := "com/example/bidcrier/bidcrier/teams/Blackboard", name := "openRound", desc := "()V" } : Jvm.MethodName) prog_51_method_14_code (1 : Nat) (Option.none : Option Jvm.ClassFile.FieldType)).before a0 Z = true := hw _ (List.mem_of_getElem? (i := 53) rfl)
theorem wd54 {Z : State} {a0 : Array Value} (hw : ∀ d ∈ tables_1, d.before a0 Z = true) : (Jvm.Cond.methodLink "com/example/bidcrier/bidcrier/teams/BlackboardPostPinLaw" (28 : Nat) ({ cls := "com/example/bidcrier/bidcrier/teams/Blackboard", name := "bidRow", desc := "(I)I" } : Jvm.MethodName)).before a0 Z = true := hw _ (List.mem_of_getElem? (i := 54) rfl)
theorem wd55 {Z : State} {a0 : Array Value} (hw : ∀ d ∈ tables_1, d.before a0 Z = true) : (Jvm.Cond.declares ({ cls := "com/example/bidcrier/bidcrier/teams/Blackboard", name := "bidRow", desc := "(I)I" } : Jvm.MethodName)).before a0 Z = true := hw _ (List.mem_of_getElem? (i := 55) rfl)
theorem wd56 {Z : State} {a0 : Array Value} (hw : ∀ d ∈ tables_1, d.before a0 Z = true) : (Jvm.Cond.instanceMethod ({ cls := "com/example/bidcrier/bidcrier/teams/Blackboard", name := "bidRow", desc := "(I)I" } : Jvm.MethodName)).before a0 Z = true := hw _ (List.mem_of_getElem? (i := 56) rfl)
theorem wd57 {Z : State} {a0 : Array Value} (hw : ∀ d ∈ tables_1, d.before a0 Z = true) : (Jvm.Cond.selects "com/example/bidcrier/bidcrier/teams/Blackboard" ({ cls := "com/example/bidcrier/bidcrier/teams/Blackboard", name := "bidRow", desc := "(I)I" } : Jvm.MethodName) ({ cls := "com/example/bidcrier/bidcrier/teams/Blackboard", name := "bidRow", desc := "(I)I" } : Jvm.MethodName)).before a0 Z = true := hw _ (List.mem_of_getElem? (i := 57) rfl)
theorem wd58 {Z : State} {a0 : Array Value} (hw : ∀ d ∈ tables_1, d.before a0 Z = true) : (Jvm.Cond.code ({ cls := "com/example/bidcrier/bidcrier/teams/Blackboard", name := "bidRow", desc := "(I)I" } : Jvm.MethodName) prog_51_method_11_code (2 : Nat) (Option.some Jvm.ClassFile.FieldType.int)).before a0 Z = true := hw _ (List.mem_of_getElem? (i := 58) rfl)
theorem wd59 {Z : State} {a0 : Array Value} (hw : ∀ d ∈ tables_1, d.before a0 Z = true) : (Jvm.Cond.methodLink "com/example/bidcrier/bidcrier/teams/BlackboardPostPinLaw" (32 : Nat) ({ cls := "com/example/bidcrier/bidcrier/teams/Blackboard", name := "bidColumn", desc := "(I)I" } : Jvm.MethodName)).before a0 Z = true := hw _ (List.mem_of_getElem? (i := 59) rfl)
theorem wd60 {Z : State} {a0 : Array Value} (hw : ∀ d ∈ tables_1, d.before a0 Z = true) : (Jvm.Cond.declares ({ cls := "com/example/bidcrier/bidcrier/teams/Blackboard", name := "bidColumn", desc := "(I)I" } : Jvm.MethodName)).before a0 Z = true := hw _ (List.mem_of_getElem? (i := 60) rfl)
theorem wd61 {Z : State} {a0 : Array Value} (hw : ∀ d ∈ tables_1, d.before a0 Z = true) : (Jvm.Cond.instanceMethod ({ cls := "com/example/bidcrier/bidcrier/teams/Blackboard", name := "bidColumn", desc := "(I)I" } : Jvm.MethodName)).before a0 Z = true := hw _ (List.mem_of_getElem? (i := 61) rfl)
theorem wd62 {Z : State} {a0 : Array Value} (hw : ∀ d ∈ tables_1, d.before a0 Z = true) : (Jvm.Cond.selects "com/example/bidcrier/bidcrier/teams/Blackboard" ({ cls := "com/example/bidcrier/bidcrier/teams/Blackboard", name := "bidColumn", desc := "(I)I" } : Jvm.MethodName) ({ cls := "com/example/bidcrier/bidcrier/teams/Blackboard", name := "bidColumn", desc := "(I)I" } : Jvm.MethodName)).before a0 Z = true := hw _ (List.mem_of_getElem? (i := 62) rfl)
theorem wd63 {Z : State} {a0 : Array Value} (hw : ∀ d ∈ tables_1, d.before a0 Z = true) : (Jvm.Cond.code ({ cls := "com/example/bidcrier/bidcrier/teams/Blackboard", name := "bidColumn", desc := "(I)I" } : Jvm.MethodName) prog_51_method_12_code (2 : Nat) (Option.some Jvm.ClassFile.FieldType.int)).before a0 Z = true := hw _ (List.mem_of_getElem? (i := 63) rfl)
theorem wd64 {Z : State} {a0 : Array Value} (hw : ∀ d ∈ tables_1, d.before a0 Z = true) : (Jvm.Cond.methodLink "com/example/bidcrier/bidcrier/teams/BlackboardPostPinLaw" (35 : Nat) ({ cls := "com/example/bidcrier/bidcrier/teams/Blackboard", name := "bidPrice", desc := "(I)J" } : Jvm.MethodName)).before a0 Z = true := hw _ (List.mem_of_getElem? (i := 64) rfl)
theorem wd65 {Z : State} {a0 : Array Value} (hw : ∀ d ∈ tables_1, d.before a0 Z = true) : (Jvm.Cond.declares ({ cls := "com/example/bidcrier/bidcrier/teams/Blackboard", name := "bidPrice", desc := "(I)J" } : Jvm.MethodName)).before a0 Z = true := hw _ (List.mem_of_getElem? (i := 65) rfl)
theorem wd66 {Z : State} {a0 : Array Value} (hw : ∀ d ∈ tables_1, d.before a0 Z = true) : (Jvm.Cond.instanceMethod ({ cls := "com/example/bidcrier/bidcrier/teams/Blackboard", name := "bidPrice", desc := "(I)J" } : Jvm.MethodName)).before a0 Z = true := hw _ (List.mem_of_getElem? (i := 66) rfl)
theorem wd67 {Z : State} {a0 : Array Value} (hw : ∀ d ∈ tables_1, d.before a0 Z = true) : (Jvm.Cond.selects "com/example/bidcrier/bidcrier/teams/Blackboard" ({ cls := "com/example/bidcrier/bidcrier/teams/Blackboard", name := "bidPrice", desc := "(I)J" } : Jvm.MethodName) ({ cls := "com/example/bidcrier/bidcrier/teams/Blackboard", name := "bidPrice", desc := "(I)J" } : Jvm.MethodName)).before a0 Z = true := hw _ (List.mem_of_getElem? (i := 67) rfl)
theorem wd68 {Z : State} {a0 : Array Value} (hw : ∀ d ∈ tables_1, d.before a0 Z = true) : (Jvm.Cond.code ({ cls := "com/example/bidcrier/bidcrier/teams/Blackboard", name := "bidPrice", desc := "(I)J" } : Jvm.MethodName) prog_51_method_13_code (2 : Nat) (Option.some Jvm.ClassFile.FieldType.long)).before a0 Z = true := hw _ (List.mem_of_getElem? (i := 68) rfl)
theorem wd69 {Z : State} {a0 : Array Value} (hw : ∀ d ∈ tables_1, d.before a0 Z = true) : (Jvm.Cond.constantLong "com/example/bidcrier/bidcrier/teams/BlackboardPostPinLaw" (39 : Nat) (2 : Int64)).before a0 Z = true := hw _ (List.mem_of_getElem? (i := 69) rfl)
theorem wd70 {Z : State} {a0 : Array Value} (hw : ∀ d ∈ tables_1, d.before a0 Z = true) : (Jvm.Cond.methodLink "com/example/bidcrier/bidcrier/teams/BlackboardPostPinLaw" (41 : Nat) ({ cls := "com/example/bidcrier/bidcrier/teams/Blackboard", name := "unassigned", desc := "()I" } : Jvm.MethodName)).before a0 Z = true := hw _ (List.mem_of_getElem? (i := 70) rfl)
theorem wd71 {Z : State} {a0 : Array Value} (hw : ∀ d ∈ tables_1, d.before a0 Z = true) : (Jvm.Cond.declares ({ cls := "com/example/bidcrier/bidcrier/teams/Blackboard", name := "unassigned", desc := "()I" } : Jvm.MethodName)).before a0 Z = true := hw _ (List.mem_of_getElem? (i := 71) rfl)
theorem wd72 {Z : State} {a0 : Array Value} (hw : ∀ d ∈ tables_1, d.before a0 Z = true) : (Jvm.Cond.instanceMethod ({ cls := "com/example/bidcrier/bidcrier/teams/Blackboard", name := "unassigned", desc := "()I" } : Jvm.MethodName)).before a0 Z = true := hw _ (List.mem_of_getElem? (i := 72) rfl)
theorem wd73 {Z : State} {a0 : Array Value} (hw : ∀ d ∈ tables_1, d.before a0 Z = true) : (Jvm.Cond.selects "com/example/bidcrier/bidcrier/teams/Blackboard" ({ cls := "com/example/bidcrier/bidcrier/teams/Blackboard", name := "unassigned", desc := "()I" } : Jvm.MethodName) ({ cls := "com/example/bidcrier/bidcrier/teams/Blackboard", name := "unassigned", desc := "()I" } : Jvm.MethodName)).before a0 Z = true := hw _ (List.mem_of_getElem? (i := 73) rfl)
theorem wd74 {Z : State} {a0 : Array Value} (hw : ∀ d ∈ tables_1, d.before a0 Z = true) : (Jvm.Cond.code ({ cls := "com/example/bidcrier/bidcrier/teams/Blackboard", name := "unassigned", desc := "()I" } : Jvm.MethodName) prog_51_method_6_code (1 : Nat) (Option.some Jvm.ClassFile.FieldType.int)).before a0 Z = true := hw _ (List.mem_of_getElem? (i := 74) rfl)
theorem wd75 {Z : State} {a0 : Array Value} (hw : ∀ d ∈ tables_1, d.before a0 Z = true) : (Jvm.Cond.methodLink "com/example/bidcrier/bidcrier/teams/BlackboardPostPinLaw" (44 : Nat) ({ cls := "com/example/bidcrier/bidcrier/teams/Blackboard", name := "price", desc := "(I)J" } : Jvm.MethodName)).before a0 Z = true := hw _ (List.mem_of_getElem? (i := 75) rfl)
theorem wd76 {Z : State} {a0 : Array Value} (hw : ∀ d ∈ tables_1, d.before a0 Z = true) : (Jvm.Cond.declares ({ cls := "com/example/bidcrier/bidcrier/teams/Blackboard", name := "price", desc := "(I)J" } : Jvm.MethodName)).before a0 Z = true := hw _ (List.mem_of_getElem? (i := 76) rfl)
theorem wd77 {Z : State} {a0 : Array Value} (hw : ∀ d ∈ tables_1, d.before a0 Z = true) : (Jvm.Cond.instanceMethod ({ cls := "com/example/bidcrier/bidcrier/teams/Blackboard", name := "price", desc := "(I)J" } : Jvm.MethodName)).before a0 Z = true := hw _ (List.mem_of_getElem? (i := 77) rfl)
theorem wd78 {Z : State} {a0 : Array Value} (hw : ∀ d ∈ tables_1, d.before a0 Z = true) : (Jvm.Cond.selects "com/example/bidcrier/bidcrier/teams/Blackboard" ({ cls := "com/example/bidcrier/bidcrier/teams/Blackboard", name := "price", desc := "(I)J" } : Jvm.MethodName) ({ cls := "com/example/bidcrier/bidcrier/teams/Blackboard", name := "price", desc := "(I)J" } : Jvm.MethodName)).before a0 Z = true := hw _ (List.mem_of_getElem? (i := 78) rfl)
theorem wd79 {Z : State} {a0 : Array Value} (hw : ∀ d ∈ tables_1, d.before a0 Z = true) : (Jvm.Cond.code ({ cls := "com/example/bidcrier/bidcrier/teams/Blackboard", name := "price", desc := "(I)J" } : Jvm.MethodName) prog_51_method_4_code (2 : Nat) (Option.some Jvm.ClassFile.FieldType.long)).before a0 Z = true := hw _ (List.mem_of_getElem? (i := 79) rfl)
def fl_C0 : List (String × String) := [("prices", "[J"), ("holders", "[I"), ("held", "[I"), ("bidRows", "[I"), ("bidColumns", "[I"), ("bidPrices", "[J"), ("unassigned", "I"), ("bidCount", "I"), ("posts", "J")]
def dv_C0 : List Value := [Value.null, Value.null, Value.null, Value.null, Value.null, Value.null, Value.int 0, Value.int 0, Value.long 0]
theorem la_C0 {Z : State} {a0 : Array Value} (hw : ∀ d ∈ tables_1, d.before a0 Z = true) : ∀ (j : Nat) (n d : String), fl_C0[j]? = some (n, d) → Laid Z a0 "com/example/bidcrier/bidcrier/teams/Blackboard" "com/example/bidcrier/bidcrier/teams/Blackboard" n d ∧ ∃ t, parseFieldDescriptor d = some t
  | 0, n, d, h => by have h : some ("prices", "[J") = some (n, d) := h; cases h; exact ⟨Or.inr (wd12 hw), (.array .long), by decide⟩
  | 1, n, d, h => by have h : some ("holders", "[I") = some (n, d) := h; cases h; exact ⟨Or.inr (wd15 hw), (.array .int), by decide⟩
  | 2, n, d, h => by have h : some ("held", "[I") = some (n, d) := h; cases h; exact ⟨Or.inr (wd17 hw), (.array .int), by decide⟩
  | 3, n, d, h => by have h : some ("bidRows", "[I") = some (n, d) := h; cases h; exact ⟨Or.inr (wd19 hw), (.array .int), by decide⟩
  | 4, n, d, h => by have h : some ("bidColumns", "[I") = some (n, d) := h; cases h; exact ⟨Or.inr (wd21 hw), (.array .int), by decide⟩
  | 5, n, d, h => by have h : some ("bidPrices", "[J") = some (n, d) := h; cases h; exact ⟨Or.inr (wd23 hw), (.array .long), by decide⟩
  | 6, n, d, h => by have h : some ("unassigned", "I") = some (n, d) := h; cases h; exact ⟨Or.inl (wd29 hw), .int, by decide⟩
  | 7, n, d, h => by have h : some ("bidCount", "I") = some (n, d) := h; cases h; exact ⟨Or.inl (wd36 hw), .int, by decide⟩
  | 8, n, d, h => by have h : some ("posts", "J") = some (n, d) := h; cases h; exact ⟨Or.inl (wd38 hw), .long, by decide⟩
  | j + 9, n, d, h => by have h : none = some (n, d) := h; cases h
theorem ly_C0 {Z : State} {a0 : Array Value} (hw : ∀ d ∈ tables_1, d.before a0 Z = true) : ∀ (j : Nat) (n d : String) (v : Value), fl_C0[j]? = some (n, d) → dv_C0[j]? = some v → Laid Z a0 "com/example/bidcrier/bidcrier/teams/Blackboard" "com/example/bidcrier/bidcrier/teams/Blackboard" n d ∧ ∃ ty, parseFieldDescriptor d = some ty ∧ defaultValue ty = v
  | 0, n, d, v, h, h' => by have h : some ("prices", "[J") = some (n, d) := h; have h' : some _ = some v := h'; cases h; cases h'; exact ⟨Or.inr (wd12 hw), (.array .long), by decide, rfl⟩
  | 1, n, d, v, h, h' => by have h : some ("holders", "[I") = some (n, d) := h; have h' : some _ = some v := h'; cases h; cases h'; exact ⟨Or.inr (wd15 hw), (.array .int), by decide, rfl⟩
  | 2, n, d, v, h, h' => by have h : some ("held", "[I") = some (n, d) := h; have h' : some _ = some v := h'; cases h; cases h'; exact ⟨Or.inr (wd17 hw), (.array .int), by decide, rfl⟩
  | 3, n, d, v, h, h' => by have h : some ("bidRows", "[I") = some (n, d) := h; have h' : some _ = some v := h'; cases h; cases h'; exact ⟨Or.inr (wd19 hw), (.array .int), by decide, rfl⟩
  | 4, n, d, v, h, h' => by have h : some ("bidColumns", "[I") = some (n, d) := h; have h' : some _ = some v := h'; cases h; cases h'; exact ⟨Or.inr (wd21 hw), (.array .int), by decide, rfl⟩
  | 5, n, d, v, h, h' => by have h : some ("bidPrices", "[J") = some (n, d) := h; have h' : some _ = some v := h'; cases h; cases h'; exact ⟨Or.inr (wd23 hw), (.array .long), by decide, rfl⟩
  | 6, n, d, v, h, h' => by have h : some ("unassigned", "I") = some (n, d) := h; have h' : some _ = some v := h'; cases h; cases h'; exact ⟨Or.inl (wd29 hw), .int, by decide, rfl⟩
  | 7, n, d, v, h, h' => by have h : some ("bidCount", "I") = some (n, d) := h; have h' : some _ = some v := h'; cases h; cases h'; exact ⟨Or.inl (wd36 hw), .int, by decide, rfl⟩
  | 8, n, d, v, h, h' => by have h : some ("posts", "J") = some (n, d) := h; have h' : some _ = some v := h'; cases h; cases h'; exact ⟨Or.inl (wd38 hw), .long, by decide, rfl⟩
  | j + 9, n, d, v, h, h' => by have h : none = some (n, d) := h; cases h
theorem di_C0 {Z : State} {a0 : Array Value} (hw : ∀ d ∈ tables_1, d.before a0 Z = true) : Dis Z "com/example/bidcrier/bidcrier/teams/Blackboard" fl_C0 := own_dis (la_C0 hw) (by decide +kernel)
theorem d3_0 : decode jdk_65_method_103_code 0 = .ok (.iconst 0, 1) := by decide +kernel
theorem d3_1 : decode jdk_65_method_103_code 1 = .ok (.istore_n 2, 1) := by decide +kernel
theorem d3_2 : decode jdk_65_method_103_code 2 = .ok (.aload_n 0, 1) := by decide +kernel
theorem d3_3 : decode jdk_65_method_103_code 3 = .ok (.arraylength, 1) := by decide +kernel
theorem d3_4 : decode jdk_65_method_103_code 4 = .ok (.istore_n 3, 1) := by decide +kernel
theorem d3_5 : decode jdk_65_method_103_code 5 = .ok (.iload_n 2, 1) := by decide +kernel
theorem d3_6 : decode jdk_65_method_103_code 6 = .ok (.iload_n 3, 1) := by decide +kernel
theorem d3_7 : decode jdk_65_method_103_code 7 = .ok (.if_icmp .ge 13, 3) := by decide +kernel
theorem d3_10 : decode jdk_65_method_103_code 10 = .ok (.aload_n 0, 1) := by decide +kernel
theorem d3_11 : decode jdk_65_method_103_code 11 = .ok (.iload_n 2, 1) := by decide +kernel
theorem d3_12 : decode jdk_65_method_103_code 12 = .ok (.iload_n 1, 1) := by decide +kernel
theorem d3_13 : decode jdk_65_method_103_code 13 = .ok (.iastore, 1) := by decide +kernel
theorem d3_14 : decode jdk_65_method_103_code 14 = .ok (.iinc 2 1, 3) := by decide +kernel
theorem d3_17 : decode jdk_65_method_103_code 17 = .ok (.goto (-12), 3) := by decide +kernel
theorem d3_20 : decode jdk_65_method_103_code 20 = .ok (.return_, 1) := by decide +kernel
theorem pn3 : plainFor (⟨"java/util/Arrays", "fill", "([II)V"⟩ : MethodName) = true := plainFor_of_name (by first | (simp [plainName, overriddenIn]; done) | decide +kernel)
theorem pd3 : parseMethodDescriptor (⟨"java/util/Arrays", "fill", "([II)V"⟩ : MethodName).desc = some ⟨[(.array .int), .int], none⟩ := by decide +kernel
def Q_rm3_1 (Z : State) (n0 : Nat) (o0 : Jvm.Cell) (k1 : ClassId) (u0 : Int64) (u1 : Int64) (u2 : Int64) (u3 : Int64) (k2 : ClassId) (u4 : Int32) (u5 : Int32) (u6 : Int32) (u7 : Int32) (k3 : ClassId) (u8 : Int32) (u9 : Int32) (u10 : Int32) (k4 : ClassId) (u11 : Int32) (u12 : Int32) (u13 : Int32) (k5 : ClassId) (u14 : Int32) (u15 : Int32) (u16 : Int32) (k6 : ClassId) (u17 : Int64) (u18 : Int64) (u19 : Int64) (v : Option Value) (h : Heap) (L : List Loc) : Prop := v = none ∧ Fr n0 L ∧ HP n0 h [o0, AC k1 [.long u0, .long u1, .long u2, .long u3], AC k2 [.int (-1 : Int32), .int (-1 : Int32), .int (-1 : Int32), .int (-1 : Int32)], AC k3 [.int u8, .int u9, .int u10], AC k4 [.int u11, .int u12, .int u13], AC k5 [.int u14, .int u15, .int u16], AC k6 [.long u17, .long u18, .long u19]]
theorem ef_rm3_1 (m : MethodId) (n0 : Nat) (u0 : Int64) (u1 : Int64) (u2 : Int64) (u3 : Int64) (u4 : Int32) (u5 : Int32) (u6 : Int32) (u7 : Int32) (u8 : Int32) (u9 : Int32) (u10 : Int32) (u11 : Int32) (u12 : Int32) (u13 : Int32) (u14 : Int32) (u15 : Int32) (u16 : Int32) (u17 : Int64) (u18 : Int64) (u19 : Int64) : entryFrame m #[.ref (n0 + 2), .int (-1 : Int32)] 4 = mkF m 0 #[.val (.ref (n0 + 2)), .val (.int (-1 : Int32)), .unset, .unset] [] := by first | (simp [entryFrame, mkF, argsToLocals, Value.category]; done) | rfl
set_option maxRecDepth 65536 in
set_option maxHeartbeats 40000000 in
theorem rm3_1 (l : Launch) (Z : State) (a0 : Array Value) (hw : ∀ d ∈ tables_1, d.before a0 Z = true) (ws : List Jvm.Cond) (n0 : Nat) (o0 : Jvm.Cell) (Fo0 : ObjF Z o0 "com/example/bidcrier/bidcrier/teams/Blackboard" fl_C0 [.ref (n0 + 1), .ref (n0 + 2), .ref (n0 + 3), .ref (n0 + 4), .ref (n0 + 5), .ref (n0 + 6), .int (0 : Int32), .int (0 : Int32), .long (0 : Int64)]) (k1 : ClassId) (hk1 : IsA Z k1 .long) (u0 : Int64) (u1 : Int64) (u2 : Int64) (u3 : Int64) (k2 : ClassId) (hk2 : IsA Z k2 .int) (u4 : Int32) (u5 : Int32) (u6 : Int32) (u7 : Int32) (k3 : ClassId) (hk3 : IsA Z k3 .int) (u8 : Int32) (u9 : Int32) (u10 : Int32) (k4 : ClassId) (hk4 : IsA Z k4 .int) (u11 : Int32) (u12 : Int32) (u13 : Int32) (k5 : ClassId) (hk5 : IsA Z k5 .int) (u14 : Int32) (u15 : Int32) (u16 : Int32) (k6 : ClassId) (hk6 : IsA Z k6 .long) (u17 : Int64) (u18 : Int64) (u19 : Int64) (h0 : Heap) (P0 : HP n0 h0 [o0, AC k1 [.long u0, .long u1, .long u2, .long u3], AC k2 [.int u4, .int u5, .int u6, .int u7], AC k3 [.int u8, .int u9, .int u10], AC k4 [.int u11, .int u12, .int u13], AC k5 [.int u14, .int u15, .int u16], AC k6 [.long u17, .long u18, .long u19]]) :
    MetFree l (⟨"java/util/Arrays", "fill", "([II)V"⟩ : MethodName) (head1 (Jvm.Cond.code (⟨"java/util/Arrays", "fill", "([II)V"⟩ : MethodName) jdk_65_method_103_code 4 none :: ws) ({ frames := 0, cells := 0, slots := 0, locals := 0 } : Room)) (fun a U => a = #[.ref (n0 + 2), .int (-1 : Int32)] ∧ Z.Warmed39 U.vm ∧ U.heap = h0) (fun _ _ _ _ _ => True) (fun _ U o U' => ∃ v L, o = .returned v ∧ Q_rm3_1 Z n0 o0 k1 u0 u1 u2 u3 k2 u4 u5 u6 u7 k3 u8 u9 u10 k4 u11 u12 u13 k5 u14 u15 u16 k6 u17 u18 u19 v U'.heap L ∧ FrameEnd U o U' L ({ frames := 0, cells := 0, slots := 0, locals := 0 } : Room).cells ({ frames := 0, cells := 0, slots := 0, locals := 0 } : Room).slots) := by
  refine own_body pn3 ?_
  intro p e s m below meth c T0 hx hby hml hret hlk hown hnm hZ X0 e0
  subst e0
  have N0 : Fr n0 [] := Fr.nil n0
  refine own_cast (ef_rm3_1 m n0 u0 u1 u2 u3 u4 u5 u6 u7 u8 u9 u10 u11 u12 u13 u14 u15 u16 u17 u18 u19) ?_
  refine w_iconst (v := (0 : Int32)) X0 hx (hb hby d3_0) rfl (pc' := 1) rfl ?_
  refine w_istoreN (l' := #[.val (.ref (n0 + 2)), .val (.int (-1 : Int32)), .val (.int (0 : Int32)), .unset]) X0 hx (hb hby d3_1) rfl (pc' := 2) rfl ?_
  refine w_aloadN X0 hx (hb hby d3_2) rfl rfl (pc' := 3) rfl ?_
  refine w_arrlen (i := 2) X0 hx hZ P0 rfl hk2 (hb hby d3_3) (z := (4 : Int32)) rfl (pc' := 4) rfl ?_
  refine w_istoreN (l' := #[.val (.ref (n0 + 2)), .val (.int (-1 : Int32)), .val (.int (0 : Int32)), .val (.int (4 : Int32))]) X0 hx (hb hby d3_4) rfl (pc' := 5) rfl ?_
  refine w_iloadN X0 hx (hb hby d3_5) rfl (pc' := 6) rfl ?_
  refine w_iloadN X0 hx (hb hby d3_6) rfl (pc' := 7) rfl ?_
  refine w_icmp_ge X0 hx (hb hby d3_7) (by decide) (pcY := 20) (by decide) (pc' := 10) rfl (fun h0 => absurd h0 (by decide)) (fun h0 => ?_)
  refine w_aloadN X0 hx (hb hby d3_10) rfl rfl (pc' := 11) rfl ?_
  refine w_iloadN X0 hx (hb hby d3_11) rfl (pc' := 12) rfl ?_
  refine w_iloadN X0 hx (hb hby d3_12) rfl (pc' := 13) rfl ?_
  refine w_iastore (i := 2) (jn := 0) X0 hx hZ N0 P0 rfl hk2 (hb hby d3_13) (by decide) (Nat.le_of_ble_eq_true rfl) (pc' := 14) rfl ?_
  intro T1 L1 N1 X1 P1
  replace P1 : HP n0 T1.heap [o0, AC k1 [.long u0, .long u1, .long u2, .long u3], AC k2 [.int (-1 : Int32), .int u5, .int u6, .int u7], AC k3 [.int u8, .int u9, .int u10], AC k4 [.int u11, .int u12, .int u13], AC k5 [.int u14, .int u15, .int u16], AC k6 [.long u17, .long u18, .long u19]] := P1
  refine w_iincE (z := (1 : Int32)) (l' := #[.val (.ref (n0 + 2)), .val (.int (-1 : Int32)), .val (.int (1 : Int32)), .val (.int (4 : Int32))]) X1 hx (hb hby d3_14) rfl (by decide) rfl (pc' := 17) rfl ?_
  refine w_goto X1 hx (hb hby d3_17) (by decide) (pc' := 5) (by decide) ?_
  refine w_iloadN X1 hx (hb hby d3_5) rfl (pc' := 6) rfl ?_
  refine w_iloadN X1 hx (hb hby d3_6) rfl (pc' := 7) rfl ?_
  refine w_icmp_ge X1 hx (hb hby d3_7) (by decide) (pcY := 20) (by decide) (pc' := 10) rfl (fun h1 => absurd h1 (by decide)) (fun h1 => ?_)
  refine w_aloadN X1 hx (hb hby d3_10) rfl rfl (pc' := 11) rfl ?_
  refine w_iloadN X1 hx (hb hby d3_11) rfl (pc' := 12) rfl ?_
  refine w_iloadN X1 hx (hb hby d3_12) rfl (pc' := 13) rfl ?_
  refine w_iastore (i := 2) (jn := 1) X1 hx hZ N1 P1 rfl hk2 (hb hby d3_13) (by decide) (Nat.le_of_ble_eq_true rfl) (pc' := 14) rfl ?_
  intro T2 L2 N2 X2 P2
  replace P2 : HP n0 T2.heap [o0, AC k1 [.long u0, .long u1, .long u2, .long u3], AC k2 [.int (-1 : Int32), .int (-1 : Int32), .int u6, .int u7], AC k3 [.int u8, .int u9, .int u10], AC k4 [.int u11, .int u12, .int u13], AC k5 [.int u14, .int u15, .int u16], AC k6 [.long u17, .long u18, .long u19]] := P2
  refine w_iincE (z := (2 : Int32)) (l' := #[.val (.ref (n0 + 2)), .val (.int (-1 : Int32)), .val (.int (2 : Int32)), .val (.int (4 : Int32))]) X2 hx (hb hby d3_14) rfl (by decide) rfl (pc' := 17) rfl ?_
  refine w_goto X2 hx (hb hby d3_17) (by decide) (pc' := 5) (by decide) ?_
  refine w_iloadN X2 hx (hb hby d3_5) rfl (pc' := 6) rfl ?_
  refine w_iloadN X2 hx (hb hby d3_6) rfl (pc' := 7) rfl ?_
  refine w_icmp_ge X2 hx (hb hby d3_7) (by decide) (pcY := 20) (by decide) (pc' := 10) rfl (fun h2 => absurd h2 (by decide)) (fun h2 => ?_)
  refine w_aloadN X2 hx (hb hby d3_10) rfl rfl (pc' := 11) rfl ?_
  refine w_iloadN X2 hx (hb hby d3_11) rfl (pc' := 12) rfl ?_
  refine w_iloadN X2 hx (hb hby d3_12) rfl (pc' := 13) rfl ?_
  refine w_iastore (i := 2) (jn := 2) X2 hx hZ N2 P2 rfl hk2 (hb hby d3_13) (by decide) (Nat.le_of_ble_eq_true rfl) (pc' := 14) rfl ?_
  intro T3 L3 N3 X3 P3
  replace P3 : HP n0 T3.heap [o0, AC k1 [.long u0, .long u1, .long u2, .long u3], AC k2 [.int (-1 : Int32), .int (-1 : Int32), .int (-1 : Int32), .int u7], AC k3 [.int u8, .int u9, .int u10], AC k4 [.int u11, .int u12, .int u13], AC k5 [.int u14, .int u15, .int u16], AC k6 [.long u17, .long u18, .long u19]] := P3
  refine w_iincE (z := (3 : Int32)) (l' := #[.val (.ref (n0 + 2)), .val (.int (-1 : Int32)), .val (.int (3 : Int32)), .val (.int (4 : Int32))]) X3 hx (hb hby d3_14) rfl (by decide) rfl (pc' := 17) rfl ?_
  refine w_goto X3 hx (hb hby d3_17) (by decide) (pc' := 5) (by decide) ?_
  refine w_iloadN X3 hx (hb hby d3_5) rfl (pc' := 6) rfl ?_
  refine w_iloadN X3 hx (hb hby d3_6) rfl (pc' := 7) rfl ?_
  refine w_icmp_ge X3 hx (hb hby d3_7) (by decide) (pcY := 20) (by decide) (pc' := 10) rfl (fun h3 => absurd h3 (by decide)) (fun h3 => ?_)
  refine w_aloadN X3 hx (hb hby d3_10) rfl rfl (pc' := 11) rfl ?_
  refine w_iloadN X3 hx (hb hby d3_11) rfl (pc' := 12) rfl ?_
  refine w_iloadN X3 hx (hb hby d3_12) rfl (pc' := 13) rfl ?_
  refine w_iastore (i := 2) (jn := 3) X3 hx hZ N3 P3 rfl hk2 (hb hby d3_13) (by decide) (Nat.le_of_ble_eq_true rfl) (pc' := 14) rfl ?_
  intro T4 L4 N4 X4 P4
  replace P4 : HP n0 T4.heap [o0, AC k1 [.long u0, .long u1, .long u2, .long u3], AC k2 [.int (-1 : Int32), .int (-1 : Int32), .int (-1 : Int32), .int (-1 : Int32)], AC k3 [.int u8, .int u9, .int u10], AC k4 [.int u11, .int u12, .int u13], AC k5 [.int u14, .int u15, .int u16], AC k6 [.long u17, .long u18, .long u19]] := P4
  refine w_iincE (z := (4 : Int32)) (l' := #[.val (.ref (n0 + 2)), .val (.int (-1 : Int32)), .val (.int (4 : Int32)), .val (.int (4 : Int32))]) X4 hx (hb hby d3_14) rfl (by decide) rfl (pc' := 17) rfl ?_
  refine w_goto X4 hx (hb hby d3_17) (by decide) (pc' := 5) (by decide) ?_
  refine w_iloadN X4 hx (hb hby d3_5) rfl (pc' := 6) rfl ?_
  refine w_iloadN X4 hx (hb hby d3_6) rfl (pc' := 7) rfl ?_
  refine w_icmp_ge X4 hx (hb hby d3_7) (by decide) (pcY := 20) (by decide) (pc' := 10) rfl (fun h4 => ?_) (fun h4 => absurd h4 (by decide))
  exact w_ret_v X4 hx hret hlk (hb hby d3_20) (by decide) (by decide) ⟨rfl, N4, P4⟩
def Q_rm3_2 (Z : State) (n0 : Nat) (o0 : Jvm.Cell) (k1 : ClassId) (u0 : Int64) (u1 : Int64) (u2 : Int64) (u3 : Int64) (k2 : ClassId) (u4 : Int32) (u5 : Int32) (u6 : Int32) (u7 : Int32) (k3 : ClassId) (u8 : Int32) (u9 : Int32) (u10 : Int32) (k4 : ClassId) (u11 : Int32) (u12 : Int32) (u13 : Int32) (k5 : ClassId) (u14 : Int32) (u15 : Int32) (u16 : Int32) (k6 : ClassId) (u17 : Int64) (u18 : Int64) (u19 : Int64) (v : Option Value) (h : Heap) (L : List Loc) : Prop := v = none ∧ Fr n0 L ∧ HP n0 h [o0, AC k1 [.long u0, .long u1, .long u2, .long u3], AC k2 [.int u4, .int u5, .int u6, .int u7], AC k3 [.int (-1 : Int32), .int (-1 : Int32), .int (-1 : Int32)], AC k4 [.int u11, .int u12, .int u13], AC k5 [.int u14, .int u15, .int u16], AC k6 [.long u17, .long u18, .long u19]]
theorem ef_rm3_2 (m : MethodId) (n0 : Nat) (u0 : Int64) (u1 : Int64) (u2 : Int64) (u3 : Int64) (u4 : Int32) (u5 : Int32) (u6 : Int32) (u7 : Int32) (u8 : Int32) (u9 : Int32) (u10 : Int32) (u11 : Int32) (u12 : Int32) (u13 : Int32) (u14 : Int32) (u15 : Int32) (u16 : Int32) (u17 : Int64) (u18 : Int64) (u19 : Int64) : entryFrame m #[.ref (n0 + 3), .int (-1 : Int32)] 4 = mkF m 0 #[.val (.ref (n0 + 3)), .val (.int (-1 : Int32)), .unset, .unset] [] := by first | (simp [entryFrame, mkF, argsToLocals, Value.category]; done) | rfl
set_option maxRecDepth 65536 in
set_option maxHeartbeats 40000000 in
theorem rm3_2 (l : Launch) (Z : State) (a0 : Array Value) (hw : ∀ d ∈ tables_1, d.before a0 Z = true) (ws : List Jvm.Cond) (n0 : Nat) (o0 : Jvm.Cell) (Fo0 : ObjF Z o0 "com/example/bidcrier/bidcrier/teams/Blackboard" fl_C0 [.ref (n0 + 1), .ref (n0 + 2), .ref (n0 + 3), .ref (n0 + 4), .ref (n0 + 5), .ref (n0 + 6), .int (0 : Int32), .int (0 : Int32), .long (0 : Int64)]) (k1 : ClassId) (hk1 : IsA Z k1 .long) (u0 : Int64) (u1 : Int64) (u2 : Int64) (u3 : Int64) (k2 : ClassId) (hk2 : IsA Z k2 .int) (u4 : Int32) (u5 : Int32) (u6 : Int32) (u7 : Int32) (k3 : ClassId) (hk3 : IsA Z k3 .int) (u8 : Int32) (u9 : Int32) (u10 : Int32) (k4 : ClassId) (hk4 : IsA Z k4 .int) (u11 : Int32) (u12 : Int32) (u13 : Int32) (k5 : ClassId) (hk5 : IsA Z k5 .int) (u14 : Int32) (u15 : Int32) (u16 : Int32) (k6 : ClassId) (hk6 : IsA Z k6 .long) (u17 : Int64) (u18 : Int64) (u19 : Int64) (h0 : Heap) (P0 : HP n0 h0 [o0, AC k1 [.long u0, .long u1, .long u2, .long u3], AC k2 [.int u4, .int u5, .int u6, .int u7], AC k3 [.int u8, .int u9, .int u10], AC k4 [.int u11, .int u12, .int u13], AC k5 [.int u14, .int u15, .int u16], AC k6 [.long u17, .long u18, .long u19]]) :
    MetFree l (⟨"java/util/Arrays", "fill", "([II)V"⟩ : MethodName) (head1 (Jvm.Cond.code (⟨"java/util/Arrays", "fill", "([II)V"⟩ : MethodName) jdk_65_method_103_code 4 none :: ws) ({ frames := 0, cells := 0, slots := 0, locals := 0 } : Room)) (fun a U => a = #[.ref (n0 + 3), .int (-1 : Int32)] ∧ Z.Warmed39 U.vm ∧ U.heap = h0) (fun _ _ _ _ _ => True) (fun _ U o U' => ∃ v L, o = .returned v ∧ Q_rm3_2 Z n0 o0 k1 u0 u1 u2 u3 k2 u4 u5 u6 u7 k3 u8 u9 u10 k4 u11 u12 u13 k5 u14 u15 u16 k6 u17 u18 u19 v U'.heap L ∧ FrameEnd U o U' L ({ frames := 0, cells := 0, slots := 0, locals := 0 } : Room).cells ({ frames := 0, cells := 0, slots := 0, locals := 0 } : Room).slots) := by
  refine own_body pn3 ?_
  intro p e s m below meth c T0 hx hby hml hret hlk hown hnm hZ X0 e0
  subst e0
  have N0 : Fr n0 [] := Fr.nil n0
  refine own_cast (ef_rm3_2 m n0 u0 u1 u2 u3 u4 u5 u6 u7 u8 u9 u10 u11 u12 u13 u14 u15 u16 u17 u18 u19) ?_
  refine w_iconst (v := (0 : Int32)) X0 hx (hb hby d3_0) rfl (pc' := 1) rfl ?_
  refine w_istoreN (l' := #[.val (.ref (n0 + 3)), .val (.int (-1 : Int32)), .val (.int (0 : Int32)), .unset]) X0 hx (hb hby d3_1) rfl (pc' := 2) rfl ?_
  refine w_aloadN X0 hx (hb hby d3_2) rfl rfl (pc' := 3) rfl ?_
  refine w_arrlen (i := 3) X0 hx hZ P0 rfl hk3 (hb hby d3_3) (z := (3 : Int32)) rfl (pc' := 4) rfl ?_
  refine w_istoreN (l' := #[.val (.ref (n0 + 3)), .val (.int (-1 : Int32)), .val (.int (0 : Int32)), .val (.int (3 : Int32))]) X0 hx (hb hby d3_4) rfl (pc' := 5) rfl ?_
  refine w_iloadN X0 hx (hb hby d3_5) rfl (pc' := 6) rfl ?_
  refine w_iloadN X0 hx (hb hby d3_6) rfl (pc' := 7) rfl ?_
  refine w_icmp_ge X0 hx (hb hby d3_7) (by decide) (pcY := 20) (by decide) (pc' := 10) rfl (fun h0 => absurd h0 (by decide)) (fun h0 => ?_)
  refine w_aloadN X0 hx (hb hby d3_10) rfl rfl (pc' := 11) rfl ?_
  refine w_iloadN X0 hx (hb hby d3_11) rfl (pc' := 12) rfl ?_
  refine w_iloadN X0 hx (hb hby d3_12) rfl (pc' := 13) rfl ?_
  refine w_iastore (i := 3) (jn := 0) X0 hx hZ N0 P0 rfl hk3 (hb hby d3_13) (by decide) (Nat.le_of_ble_eq_true rfl) (pc' := 14) rfl ?_
  intro T1 L1 N1 X1 P1
  replace P1 : HP n0 T1.heap [o0, AC k1 [.long u0, .long u1, .long u2, .long u3], AC k2 [.int u4, .int u5, .int u6, .int u7], AC k3 [.int (-1 : Int32), .int u9, .int u10], AC k4 [.int u11, .int u12, .int u13], AC k5 [.int u14, .int u15, .int u16], AC k6 [.long u17, .long u18, .long u19]] := P1
  refine w_iincE (z := (1 : Int32)) (l' := #[.val (.ref (n0 + 3)), .val (.int (-1 : Int32)), .val (.int (1 : Int32)), .val (.int (3 : Int32))]) X1 hx (hb hby d3_14) rfl (by decide) rfl (pc' := 17) rfl ?_
  refine w_goto X1 hx (hb hby d3_17) (by decide) (pc' := 5) (by decide) ?_
  refine w_iloadN X1 hx (hb hby d3_5) rfl (pc' := 6) rfl ?_
  refine w_iloadN X1 hx (hb hby d3_6) rfl (pc' := 7) rfl ?_
  refine w_icmp_ge X1 hx (hb hby d3_7) (by decide) (pcY := 20) (by decide) (pc' := 10) rfl (fun h1 => absurd h1 (by decide)) (fun h1 => ?_)
  refine w_aloadN X1 hx (hb hby d3_10) rfl rfl (pc' := 11) rfl ?_
  refine w_iloadN X1 hx (hb hby d3_11) rfl (pc' := 12) rfl ?_
  refine w_iloadN X1 hx (hb hby d3_12) rfl (pc' := 13) rfl ?_
  refine w_iastore (i := 3) (jn := 1) X1 hx hZ N1 P1 rfl hk3 (hb hby d3_13) (by decide) (Nat.le_of_ble_eq_true rfl) (pc' := 14) rfl ?_
  intro T2 L2 N2 X2 P2
  replace P2 : HP n0 T2.heap [o0, AC k1 [.long u0, .long u1, .long u2, .long u3], AC k2 [.int u4, .int u5, .int u6, .int u7], AC k3 [.int (-1 : Int32), .int (-1 : Int32), .int u10], AC k4 [.int u11, .int u12, .int u13], AC k5 [.int u14, .int u15, .int u16], AC k6 [.long u17, .long u18, .long u19]] := P2
  refine w_iincE (z := (2 : Int32)) (l' := #[.val (.ref (n0 + 3)), .val (.int (-1 : Int32)), .val (.int (2 : Int32)), .val (.int (3 : Int32))]) X2 hx (hb hby d3_14) rfl (by decide) rfl (pc' := 17) rfl ?_
  refine w_goto X2 hx (hb hby d3_17) (by decide) (pc' := 5) (by decide) ?_
  refine w_iloadN X2 hx (hb hby d3_5) rfl (pc' := 6) rfl ?_
  refine w_iloadN X2 hx (hb hby d3_6) rfl (pc' := 7) rfl ?_
  refine w_icmp_ge X2 hx (hb hby d3_7) (by decide) (pcY := 20) (by decide) (pc' := 10) rfl (fun h2 => absurd h2 (by decide)) (fun h2 => ?_)
  refine w_aloadN X2 hx (hb hby d3_10) rfl rfl (pc' := 11) rfl ?_
  refine w_iloadN X2 hx (hb hby d3_11) rfl (pc' := 12) rfl ?_
  refine w_iloadN X2 hx (hb hby d3_12) rfl (pc' := 13) rfl ?_
  refine w_iastore (i := 3) (jn := 2) X2 hx hZ N2 P2 rfl hk3 (hb hby d3_13) (by decide) (Nat.le_of_ble_eq_true rfl) (pc' := 14) rfl ?_
  intro T3 L3 N3 X3 P3
  replace P3 : HP n0 T3.heap [o0, AC k1 [.long u0, .long u1, .long u2, .long u3], AC k2 [.int u4, .int u5, .int u6, .int u7], AC k3 [.int (-1 : Int32), .int (-1 : Int32), .int (-1 : Int32)], AC k4 [.int u11, .int u12, .int u13], AC k5 [.int u14, .int u15, .int u16], AC k6 [.long u17, .long u18, .long u19]] := P3
  refine w_iincE (z := (3 : Int32)) (l' := #[.val (.ref (n0 + 3)), .val (.int (-1 : Int32)), .val (.int (3 : Int32)), .val (.int (3 : Int32))]) X3 hx (hb hby d3_14) rfl (by decide) rfl (pc' := 17) rfl ?_
  refine w_goto X3 hx (hb hby d3_17) (by decide) (pc' := 5) (by decide) ?_
  refine w_iloadN X3 hx (hb hby d3_5) rfl (pc' := 6) rfl ?_
  refine w_iloadN X3 hx (hb hby d3_6) rfl (pc' := 7) rfl ?_
  refine w_icmp_ge X3 hx (hb hby d3_7) (by decide) (pcY := 20) (by decide) (pc' := 10) rfl (fun h3 => ?_) (fun h3 => absurd h3 (by decide))
  exact w_ret_v X3 hx hret hlk (hb hby d3_20) (by decide) (by decide) ⟨rfl, N3, P3⟩
theorem d1_0 : decode prog_51_method_1_code 0 = .ok (.aload_n 0, 1) := by decide +kernel
theorem d1_1 : decode prog_51_method_1_code 1 = .ok (.invokespecial 1, 3) := by decide +kernel
theorem d1_4 : decode prog_51_method_1_code 4 = .ok (.aload_n 0, 1) := by decide +kernel
theorem d1_5 : decode prog_51_method_1_code 5 = .ok (.iload_n 2, 1) := by decide +kernel
theorem d1_6 : decode prog_51_method_1_code 6 = .ok (.newarray .long, 2) := by decide +kernel
theorem d1_8 : decode prog_51_method_1_code 8 = .ok (.putfield 7, 3) := by decide +kernel
theorem d1_11 : decode prog_51_method_1_code 11 = .ok (.aload_n 0, 1) := by decide +kernel
theorem d1_12 : decode prog_51_method_1_code 12 = .ok (.iload_n 2, 1) := by decide +kernel
theorem d1_13 : decode prog_51_method_1_code 13 = .ok (.newarray .int, 2) := by decide +kernel
theorem d1_15 : decode prog_51_method_1_code 15 = .ok (.putfield 13, 3) := by decide +kernel
theorem d1_18 : decode prog_51_method_1_code 18 = .ok (.aload_n 0, 1) := by decide +kernel
theorem d1_19 : decode prog_51_method_1_code 19 = .ok (.iload_n 1, 1) := by decide +kernel
theorem d1_20 : decode prog_51_method_1_code 20 = .ok (.newarray .int, 2) := by decide +kernel
theorem d1_22 : decode prog_51_method_1_code 22 = .ok (.putfield 17, 3) := by decide +kernel
theorem d1_25 : decode prog_51_method_1_code 25 = .ok (.aload_n 0, 1) := by decide +kernel
theorem d1_26 : decode prog_51_method_1_code 26 = .ok (.iload_n 1, 1) := by decide +kernel
theorem d1_27 : decode prog_51_method_1_code 27 = .ok (.newarray .int, 2) := by decide +kernel
theorem d1_29 : decode prog_51_method_1_code 29 = .ok (.putfield 20, 3) := by decide +kernel
theorem d1_32 : decode prog_51_method_1_code 32 = .ok (.aload_n 0, 1) := by decide +kernel
theorem d1_33 : decode prog_51_method_1_code 33 = .ok (.iload_n 1, 1) := by decide +kernel
theorem d1_34 : decode prog_51_method_1_code 34 = .ok (.newarray .int, 2) := by decide +kernel
theorem d1_36 : decode prog_51_method_1_code 36 = .ok (.putfield 23, 3) := by decide +kernel
theorem d1_39 : decode prog_51_method_1_code 39 = .ok (.aload_n 0, 1) := by decide +kernel
theorem d1_40 : decode prog_51_method_1_code 40 = .ok (.iload_n 1, 1) := by decide +kernel
theorem d1_41 : decode prog_51_method_1_code 41 = .ok (.newarray .long, 2) := by decide +kernel
theorem d1_43 : decode prog_51_method_1_code 43 = .ok (.putfield 26, 3) := by decide +kernel
theorem d1_46 : decode prog_51_method_1_code 46 = .ok (.aload_n 0, 1) := by decide +kernel
theorem d1_47 : decode prog_51_method_1_code 47 = .ok (.getfield 13, 3) := by decide +kernel
theorem d1_50 : decode prog_51_method_1_code 50 = .ok (.iconst (-1), 1) := by decide +kernel
theorem d1_51 : decode prog_51_method_1_code 51 = .ok (.invokestatic 29, 3) := by decide +kernel
theorem d1_54 : decode prog_51_method_1_code 54 = .ok (.aload_n 0, 1) := by decide +kernel
theorem d1_55 : decode prog_51_method_1_code 55 = .ok (.getfield 17, 3) := by decide +kernel
theorem d1_58 : decode prog_51_method_1_code 58 = .ok (.iconst (-1), 1) := by decide +kernel
theorem d1_59 : decode prog_51_method_1_code 59 = .ok (.invokestatic 29, 3) := by decide +kernel
theorem d1_62 : decode prog_51_method_1_code 62 = .ok (.aload_n 0, 1) := by decide +kernel
theorem d1_63 : decode prog_51_method_1_code 63 = .ok (.iload_n 1, 1) := by decide +kernel
theorem d1_64 : decode prog_51_method_1_code 64 = .ok (.putfield 35, 3) := by decide +kernel
theorem d1_67 : decode prog_51_method_1_code 67 = .ok (.return_, 1) := by decide +kernel
theorem pn1 : plainFor (⟨"com/example/bidcrier/bidcrier/teams/Blackboard", "<init>", "(II)V"⟩ : MethodName) = true := plainFor_of_name (by first | (simp [plainName, overriddenIn]; done) | decide +kernel)
theorem pd1 : parseMethodDescriptor (⟨"com/example/bidcrier/bidcrier/teams/Blackboard", "<init>", "(II)V"⟩ : MethodName).desc = some ⟨[.int, .int], none⟩ := by decide +kernel
def Q_rm1_0 (Z : State) (n0 : Nat) (o0 : Jvm.Cell) (v : Option Value) (h : Heap) (L : List Loc) : Prop := v = none ∧ Fr n0 L ∧ ∃ c13 : Jvm.Cell, ObjF Z c13 "com/example/bidcrier/bidcrier/teams/Blackboard" fl_C0 [.ref (n0 + 1), .ref (n0 + 2), .ref (n0 + 3), .ref (n0 + 4), .ref (n0 + 5), .ref (n0 + 6), .int (3 : Int32), .int (0 : Int32), .long (0 : Int64)] ∧ ∃ kA1 : ClassId, IsA Z kA1 .long ∧ ∃ kA3 : ClassId, IsA Z kA3 .int ∧ ∃ kA5 : ClassId, IsA Z kA5 .int ∧ ∃ kA7 : ClassId, IsA Z kA7 .int ∧ ∃ kA9 : ClassId, IsA Z kA9 .int ∧ ∃ kA11 : ClassId, IsA Z kA11 .long ∧ HP n0 h [c13, AC kA1 [.long (0 : Int64), .long (0 : Int64), .long (0 : Int64), .long (0 : Int64)], AC kA3 [.int (-1 : Int32), .int (-1 : Int32), .int (-1 : Int32), .int (-1 : Int32)], AC kA5 [.int (-1 : Int32), .int (-1 : Int32), .int (-1 : Int32)], AC kA7 [.int (0 : Int32), .int (0 : Int32), .int (0 : Int32)], AC kA9 [.int (0 : Int32), .int (0 : Int32), .int (0 : Int32)], AC kA11 [.long (0 : Int64), .long (0 : Int64), .long (0 : Int64)]]
theorem ef_rm1_0 (m : MethodId) (n0 : Nat) : entryFrame m #[.ref (n0 + 0), .int (3 : Int32), .int (4 : Int32)] 3 = mkF m 0 #[.val (.ref (n0 + 0)), .val (.int (3 : Int32)), .val (.int (4 : Int32))] [] := by first | (simp [entryFrame, mkF, argsToLocals, Value.category]; done) | rfl
set_option maxRecDepth 65536 in
set_option maxHeartbeats 40000000 in
theorem rm1_0 (l : Launch) (Z : State) (a0 : Array Value) (hw : ∀ d ∈ tables_1, d.before a0 Z = true) (ws : List Jvm.Cond) (n0 : Nat) (o0 : Jvm.Cell) (Fo0 : ObjF Z o0 "com/example/bidcrier/bidcrier/teams/Blackboard" fl_C0 [.null, .null, .null, .null, .null, .null, .int (0 : Int32), .int (0 : Int32), .long (0 : Int64)]) (h0 : Heap) (P0 : HP n0 h0 [o0]) :
    MetFree l (⟨"com/example/bidcrier/bidcrier/teams/Blackboard", "<init>", "(II)V"⟩ : MethodName) (head1 (Jvm.Cond.code (⟨"com/example/bidcrier/bidcrier/teams/Blackboard", "<init>", "(II)V"⟩ : MethodName) prog_51_method_1_code 3 none :: ws) ({ frames := 1, cells := 6, slots := 20, locals := 15 } : Room)) (fun a U => a = #[.ref (n0 + 0), .int (3 : Int32), .int (4 : Int32)] ∧ Z.Warmed39 U.vm ∧ U.heap = h0) (fun _ _ _ _ _ => True) (fun _ U o U' => ∃ v L, o = .returned v ∧ Q_rm1_0 Z n0 o0 v U'.heap L ∧ FrameEnd U o U' L ({ frames := 1, cells := 6, slots := 20, locals := 15 } : Room).cells ({ frames := 1, cells := 6, slots := 20, locals := 15 } : Room).slots) := by
  refine own_body pn1 ?_
  intro p e s m below meth c T0 hx hby hml hret hlk hown hnm hZ X0 e0
  subst e0
  have N0 : Fr n0 [] := Fr.nil n0
  refine own_cast (ef_rm1_0 m n0) ?_
  refine w_aloadN X0 hx (hb hby d1_0) rfl rfl (pc' := 1) rfl ?_
  refine w_initO (W := 0) X0 hx hZ hown (by rw [hml]; rfl) (wd7 hw) (wd8 hw) (wd9 hw) P0 (hb hby d1_1) (by decide) (Nat.le_of_eq rfl) (by decide) (pc' := 4) rfl ?_
  intro T1 X1 P1
  refine w_aloadN X1 hx (hb hby d1_4) rfl rfl (pc' := 5) rfl ?_
  refine w_iloadN X1 hx (hb hby d1_5) rfl (pc' := 6) rfl ?_
  refine w_newarr (N := 4) (j := 1) X1 hx hZ P1 (ty := .long) rfl (wd10 hw) (hb hby d1_6) (by decide) (by decide) (by decide) (by decide) rfl (pc' := 8) rfl ?_
  intro T2 kA1 X2 hk1 P2
  replace P2 : HP n0 T2.heap [o0, AC kA1 [.long (0 : Int64), .long (0 : Int64), .long (0 : Int64), .long (0 : Int64)]] := P2
  refine w_putf (i := 0) (ty := (.array .long)) X2 hx hZ hown (wd11 hw) N0 P2 rfl Fo0 (di_C0 hw) 0 rfl (Or.inr ⟨(wd12 hw), rfl, hnm⟩) (wd2 hw) (by decide) rfl rfl (hb hby d1_8) (pc' := 11) rfl ?_
  intro T3 L1 c2 N1 X3 P3 F2
  replace P3 : HP n0 T3.heap [c2, AC kA1 [.long (0 : Int64), .long (0 : Int64), .long (0 : Int64), .long (0 : Int64)]] := P3
  replace F2 : ObjF Z c2 "com/example/bidcrier/bidcrier/teams/Blackboard" fl_C0 [.ref (n0 + 1), .null, .null, .null, .null, .null, .int (0 : Int32), .int (0 : Int32), .long (0 : Int64)] := F2
  refine w_aloadN X3 hx (hb hby d1_11) rfl rfl (pc' := 12) rfl ?_
  refine w_iloadN X3 hx (hb hby d1_12) rfl (pc' := 13) rfl ?_
  refine w_newarr (N := 4) (j := 2) X3 hx hZ P3 (ty := .int) rfl (wd13 hw) (hb hby d1_13) (by decide) (by decide) (by decide) (by decide) rfl (pc' := 15) rfl ?_
  intro T4 kA3 X4 hk3 P4
  replace P4 : HP n0 T4.heap [c2, AC kA1 [.long (0 : Int64), .long (0 : Int64), .long (0 : Int64), .long (0 : Int64)], AC kA3 [.int (0 : Int32), .int (0 : Int32), .int (0 : Int32), .int (0 : Int32)]] := P4
  refine w_putf (i := 0) (ty := (.array .int)) X4 hx hZ hown (wd14 hw) N1 P4 rfl F2 (di_C0 hw) 1 rfl (Or.inr ⟨(wd15 hw), rfl, hnm⟩) (wd2 hw) (by decide) rfl rfl (hb hby d1_15) (pc' := 18) rfl ?_
  intro T5 L2 c4 N2 X5 P5 F4
  replace P5 : HP n0 T5.heap [c4, AC kA1 [.long (0 : Int64), .long (0 : Int64), .long (0 : Int64), .long (0 : Int64)], AC kA3 [.int (0 : Int32), .int (0 : Int32), .int (0 : Int32), .int (0 : Int32)]] := P5
  replace F4 : ObjF Z c4 "com/example/bidcrier/bidcrier/teams/Blackboard" fl_C0 [.ref (n0 + 1), .ref (n0 + 2), .null, .null, .null, .null, .int (0 : Int32), .int (0 : Int32), .long (0 : Int64)] := F4
  refine w_aloadN X5 hx (hb hby d1_18) rfl rfl (pc' := 19) rfl ?_
  refine w_iloadN X5 hx (hb hby d1_19) rfl (pc' := 20) rfl ?_
  refine w_newarr (N := 3) (j := 3) X5 hx hZ P5 (ty := .int) rfl (wd13 hw) (hb hby d1_20) (by decide) (by decide) (by decide) (by decide) rfl (pc' := 22) rfl ?_
  intro T6 kA5 X6 hk5 P6
  replace P6 : HP n0 T6.heap [c4, AC kA1 [.long (0 : Int64), .long (0 : Int64), .long (0 : Int64), .long (0 : Int64)], AC kA3 [.int (0 : Int32), .int (0 : Int32), .int (0 : Int32), .int (0 : Int32)], AC kA5 [.int (0 : Int32), .int (0 : Int32), .int (0 : Int32)]] := P6
  refine w_putf (i := 0) (ty := (.array .int)) X6 hx hZ hown (wd16 hw) N2 P6 rfl F4 (di_C0 hw) 2 rfl (Or.inr ⟨(wd17 hw), rfl, hnm⟩) (wd2 hw) (by decide) rfl rfl (hb hby d1_22) (pc' := 25) rfl ?_
  intro T7 L3 c6 N3 X7 P7 F6
  replace P7 : HP n0 T7.heap [c6, AC kA1 [.long (0 : Int64), .long (0 : Int64), .long (0 : Int64), .long (0 : Int64)], AC kA3 [.int (0 : Int32), .int (0 : Int32), .int (0 : Int32), .int (0 : Int32)], AC kA5 [.int (0 : Int32), .int (0 : Int32), .int (0 : Int32)]] := P7
  replace F6 : ObjF Z c6 "com/example/bidcrier/bidcrier/teams/Blackboard" fl_C0 [.ref (n0 + 1), .ref (n0 + 2), .ref (n0 + 3), .null, .null, .null, .int (0 : Int32), .int (0 : Int32), .long (0 : Int64)] := F6
  refine w_aloadN X7 hx (hb hby d1_25) rfl rfl (pc' := 26) rfl ?_
  refine w_iloadN X7 hx (hb hby d1_26) rfl (pc' := 27) rfl ?_
  refine w_newarr (N := 3) (j := 4) X7 hx hZ P7 (ty := .int) rfl (wd13 hw) (hb hby d1_27) (by decide) (by decide) (by decide) (by decide) rfl (pc' := 29) rfl ?_
  intro T8 kA7 X8 hk7 P8
  replace P8 : HP n0 T8.heap [c6, AC kA1 [.long (0 : Int64), .long (0 : Int64), .long (0 : Int64), .long (0 : Int64)], AC kA3 [.int (0 : Int32), .int (0 : Int32), .int (0 : Int32), .int (0 : Int32)], AC kA5 [.int (0 : Int32), .int (0 : Int32), .int (0 : Int32)], AC kA7 [.int (0 : Int32), .int (0 : Int32), .int (0 : Int32)]] := P8
  refine w_putf (i := 0) (ty := (.array .int)) X8 hx hZ hown (wd18 hw) N3 P8 rfl F6 (di_C0 hw) 3 rfl (Or.inr ⟨(wd19 hw), rfl, hnm⟩) (wd2 hw) (by decide) rfl rfl (hb hby d1_29) (pc' := 32) rfl ?_
  intro T9 L4 c8 N4 X9 P9 F8
  replace P9 : HP n0 T9.heap [c8, AC kA1 [.long (0 : Int64), .long (0 : Int64), .long (0 : Int64), .long (0 : Int64)], AC kA3 [.int (0 : Int32), .int (0 : Int32), .int (0 : Int32), .int (0 : Int32)], AC kA5 [.int (0 : Int32), .int (0 : Int32), .int (0 : Int32)], AC kA7 [.int (0 : Int32), .int (0 : Int32), .int (0 : Int32)]] := P9
  replace F8 : ObjF Z c8 "com/example/bidcrier/bidcrier/teams/Blackboard" fl_C0 [.ref (n0 + 1), .ref (n0 + 2), .ref (n0 + 3), .ref (n0 + 4), .null, .null, .int (0 : Int32), .int (0 : Int32), .long (0 : Int64)] := F8
  refine w_aloadN X9 hx (hb hby d1_32) rfl rfl (pc' := 33) rfl ?_
  refine w_iloadN X9 hx (hb hby d1_33) rfl (pc' := 34) rfl ?_
  refine w_newarr (N := 3) (j := 5) X9 hx hZ P9 (ty := .int) rfl (wd13 hw) (hb hby d1_34) (by decide) (by decide) (by decide) (by decide) rfl (pc' := 36) rfl ?_
  intro T10 kA9 X10 hk9 P10
  replace P10 : HP n0 T10.heap [c8, AC kA1 [.long (0 : Int64), .long (0 : Int64), .long (0 : Int64), .long (0 : Int64)], AC kA3 [.int (0 : Int32), .int (0 : Int32), .int (0 : Int32), .int (0 : Int32)], AC kA5 [.int (0 : Int32), .int (0 : Int32), .int (0 : Int32)], AC kA7 [.int (0 : Int32), .int (0 : Int32), .int (0 : Int32)], AC kA9 [.int (0 : Int32), .int (0 : Int32), .int (0 : Int32)]] := P10
  refine w_putf (i := 0) (ty := (.array .int)) X10 hx hZ hown (wd20 hw) N4 P10 rfl F8 (di_C0 hw) 4 rfl (Or.inr ⟨(wd21 hw), rfl, hnm⟩) (wd2 hw) (by decide) rfl rfl (hb hby d1_36) (pc' := 39) rfl ?_
  intro T11 L5 c10 N5 X11 P11 F10
  replace P11 : HP n0 T11.heap [c10, AC kA1 [.long (0 : Int64), .long (0 : Int64), .long (0 : Int64), .long (0 : Int64)], AC kA3 [.int (0 : Int32), .int (0 : Int32), .int (0 : Int32), .int (0 : Int32)], AC kA5 [.int (0 : Int32), .int (0 : Int32), .int (0 : Int32)], AC kA7 [.int (0 : Int32), .int (0 : Int32), .int (0 : Int32)], AC kA9 [.int (0 : Int32), .int (0 : Int32), .int (0 : Int32)]] := P11
  replace F10 : ObjF Z c10 "com/example/bidcrier/bidcrier/teams/Blackboard" fl_C0 [.ref (n0 + 1), .ref (n0 + 2), .ref (n0 + 3), .ref (n0 + 4), .ref (n0 + 5), .null, .int (0 : Int32), .int (0 : Int32), .long (0 : Int64)] := F10
  refine w_aloadN X11 hx (hb hby d1_39) rfl rfl (pc' := 40) rfl ?_
  refine w_iloadN X11 hx (hb hby d1_40) rfl (pc' := 41) rfl ?_
  refine w_newarr (N := 3) (j := 6) X11 hx hZ P11 (ty := .long) rfl (wd10 hw) (hb hby d1_41) (by decide) (by decide) (by decide) (by decide) rfl (pc' := 43) rfl ?_
  intro T12 kA11 X12 hk11 P12
  replace P12 : HP n0 T12.heap [c10, AC kA1 [.long (0 : Int64), .long (0 : Int64), .long (0 : Int64), .long (0 : Int64)], AC kA3 [.int (0 : Int32), .int (0 : Int32), .int (0 : Int32), .int (0 : Int32)], AC kA5 [.int (0 : Int32), .int (0 : Int32), .int (0 : Int32)], AC kA7 [.int (0 : Int32), .int (0 : Int32), .int (0 : Int32)], AC kA9 [.int (0 : Int32), .int (0 : Int32), .int (0 : Int32)], AC kA11 [.long (0 : Int64), .long (0 : Int64), .long (0 : Int64)]] := P12
  refine w_putf (i := 0) (ty := (.array .long)) X12 hx hZ hown (wd22 hw) N5 P12 rfl F10 (di_C0 hw) 5 rfl (Or.inr ⟨(wd23 hw), rfl, hnm⟩) (wd2 hw) (by decide) rfl rfl (hb hby d1_43) (pc' := 46) rfl ?_
  intro T13 L6 c12 N6 X13 P13 F12
  replace P13 : HP n0 T13.heap [c12, AC kA1 [.long (0 : Int64), .long (0 : Int64), .long (0 : Int64), .long (0 : Int64)], AC kA3 [.int (0 : Int32), .int (0 : Int32), .int (0 : Int32), .int (0 : Int32)], AC kA5 [.int (0 : Int32), .int (0 : Int32), .int (0 : Int32)], AC kA7 [.int (0 : Int32), .int (0 : Int32), .int (0 : Int32)], AC kA9 [.int (0 : Int32), .int (0 : Int32), .int (0 : Int32)], AC kA11 [.long (0 : Int64), .long (0 : Int64), .long (0 : Int64)]] := P13
  replace F12 : ObjF Z c12 "com/example/bidcrier/bidcrier/teams/Blackboard" fl_C0 [.ref (n0 + 1), .ref (n0 + 2), .ref (n0 + 3), .ref (n0 + 4), .ref (n0 + 5), .ref (n0 + 6), .int (0 : Int32), .int (0 : Int32), .long (0 : Int64)] := F12
  refine w_aloadN X13 hx (hb hby d1_46) rfl rfl (pc' := 47) rfl ?_
  refine w_getf (i := 0) (v := .ref (n0 + 2)) X13 hx hZ hown (wd14 hw) P13 rfl F12 1 rfl rfl (hb hby d1_47) (pc' := 50) rfl ?_
  intro T14 X14 P14
  refine w_iconst (v := (-1 : Int32)) X14 hx (hb hby d1_50) rfl (pc' := 51) rfl ?_
  refine own_call (W := 0) X14 hx hZ rfl hown hml.symm (wd24 hw) (wd25 hw) (wd26 hw) (wd27 hw) (rm3_1 l Z a0 hw [] n0 c12 F12 kA1 hk1 (0 : Int64) (0 : Int64) (0 : Int64) (0 : Int64) kA3 hk3 (0 : Int32) (0 : Int32) (0 : Int32) (0 : Int32) kA5 hk5 (0 : Int32) (0 : Int32) (0 : Int32) kA7 hk7 (0 : Int32) (0 : Int32) (0 : Int32) kA9 hk9 (0 : Int32) (0 : Int32) (0 : Int32) kA11 hk11 (0 : Int64) (0 : Int64) (0 : Int64) _ P14) (by decide) (by decide) (by decide) (by decide) (by decide) (argsL := [.ref (n0 + 2), .int (-1 : Int32)]) (rest := []) pd3 rfl rfl rfl (Nat.le_of_eq rfl) (hb hby d1_51) (pc' := 54) rfl ?_
  intro _ T15 L7 X15 hq
  obtain ⟨rfl, N7, P15⟩ := hq
  replace N7 := Fr.app N6 N7
  replace P15 : HP n0 T15.heap [c12, AC kA1 [.long (0 : Int64), .long (0 : Int64), .long (0 : Int64), .long (0 : Int64)], AC kA3 [.int (-1 : Int32), .int (-1 : Int32), .int (-1 : Int32), .int (-1 : Int32)], AC kA5 [.int (0 : Int32), .int (0 : Int32), .int (0 : Int32)], AC kA7 [.int (0 : Int32), .int (0 : Int32), .int (0 : Int32)], AC kA9 [.int (0 : Int32), .int (0 : Int32), .int (0 : Int32)], AC kA11 [.long (0 : Int64), .long (0 : Int64), .long (0 : Int64)]] := P15
  refine w_aloadN X15 hx (hb hby d1_54) rfl rfl (pc' := 55) rfl ?_
  refine w_getf (i := 0) (v := .ref (n0 + 3)) X15 hx hZ hown (wd16 hw) P15 rfl F12 2 rfl rfl (hb hby d1_55) (pc' := 58) rfl ?_
  intro T16 X16 P16
  refine w_iconst (v := (-1 : Int32)) X16 hx (hb hby d1_58) rfl (pc' := 59) rfl ?_
  refine own_call (W := 0) X16 hx hZ rfl hown hml.symm (wd24 hw) (wd25 hw) (wd26 hw) (wd27 hw) (rm3_2 l Z a0 hw [] n0 c12 F12 kA1 hk1 (0 : Int64) (0 : Int64) (0 : Int64) (0 : Int64) kA3 hk3 (-1 : Int32) (-1 : Int32) (-1 : Int32) (-1 : Int32) kA5 hk5 (0 : Int32) (0 : Int32) (0 : Int32) kA7 hk7 (0 : Int32) (0 : Int32) (0 : Int32) kA9 hk9 (0 : Int32) (0 : Int32) (0 : Int32) kA11 hk11 (0 : Int64) (0 : Int64) (0 : Int64) _ P16) (by decide) (by decide) (by decide) (by decide) (by decide) (argsL := [.ref (n0 + 3), .int (-1 : Int32)]) (rest := []) pd3 rfl rfl rfl (Nat.le_of_eq rfl) (hb hby d1_59) (pc' := 62) rfl ?_
  intro _ T17 L8 X17 hq
  obtain ⟨rfl, N8, P17⟩ := hq
  replace N8 := Fr.app N7 N8
  replace P17 : HP n0 T17.heap [c12, AC kA1 [.long (0 : Int64), .long (0 : Int64), .long (0 : Int64), .long (0 : Int64)], AC kA3 [.int (-1 : Int32), .int (-1 : Int32), .int (-1 : Int32), .int (-1 : Int32)], AC kA5 [.int (-1 : Int32), .int (-1 : Int32), .int (-1 : Int32)], AC kA7 [.int (0 : Int32), .int (0 : Int32), .int (0 : Int32)], AC kA9 [.int (0 : Int32), .int (0 : Int32), .int (0 : Int32)], AC kA11 [.long (0 : Int64), .long (0 : Int64), .long (0 : Int64)]] := P17
  refine w_aloadN X17 hx (hb hby d1_62) rfl rfl (pc' := 63) rfl ?_
  refine w_iloadN X17 hx (hb hby d1_63) rfl (pc' := 64) rfl ?_
  refine w_putf (i := 0) (ty := .int) X17 hx hZ hown (wd28 hw) N8 P17 rfl F12 (di_C0 hw) 6 rfl (Or.inl (wd29 hw)) (wd2 hw) (by decide) rfl rfl (hb hby d1_64) (pc' := 67) rfl ?_
  intro T18 L9 c13 N9 X18 P18 F13
  replace P18 : HP n0 T18.heap [c13, AC kA1 [.long (0 : Int64), .long (0 : Int64), .long (0 : Int64), .long (0 : Int64)], AC kA3 [.int (-1 : Int32), .int (-1 : Int32), .int (-1 : Int32), .int (-1 : Int32)], AC kA5 [.int (-1 : Int32), .int (-1 : Int32), .int (-1 : Int32)], AC kA7 [.int (0 : Int32), .int (0 : Int32), .int (0 : Int32)], AC kA9 [.int (0 : Int32), .int (0 : Int32), .int (0 : Int32)], AC kA11 [.long (0 : Int64), .long (0 : Int64), .long (0 : Int64)]] := P18
  replace F13 : ObjF Z c13 "com/example/bidcrier/bidcrier/teams/Blackboard" fl_C0 [.ref (n0 + 1), .ref (n0 + 2), .ref (n0 + 3), .ref (n0 + 4), .ref (n0 + 5), .ref (n0 + 6), .int (3 : Int32), .int (0 : Int32), .long (0 : Int64)] := F13
  exact w_ret_v X18 hx hret hlk (hb hby d1_67) (by decide) (by decide) ⟨rfl, N9, c13, F13, kA1, hk1, kA3, hk3, kA5, hk5, kA7, hk7, kA9, hk9, kA11, hk11, P18⟩
theorem d4_0 : decode prog_51_method_9_code 0 = .ok (.aload_n 0, 1) := by decide +kernel
theorem d4_1 : decode prog_51_method_9_code 1 = .ok (.getfield 20, 3) := by decide +kernel
theorem d4_4 : decode prog_51_method_9_code 4 = .ok (.aload_n 0, 1) := by decide +kernel
theorem d4_5 : decode prog_51_method_9_code 5 = .ok (.getfield 46, 3) := by decide +kernel
theorem d4_8 : decode prog_51_method_9_code 8 = .ok (.iload_n 1, 1) := by decide +kernel
theorem d4_9 : decode prog_51_method_9_code 9 = .ok (.iastore, 1) := by decide +kernel
theorem d4_10 : decode prog_51_method_9_code 10 = .ok (.aload_n 0, 1) := by decide +kernel
theorem d4_11 : decode prog_51_method_9_code 11 = .ok (.getfield 23, 3) := by decide +kernel
theorem d4_14 : decode prog_51_method_9_code 14 = .ok (.aload_n 0, 1) := by decide +kernel
theorem d4_15 : decode prog_51_method_9_code 15 = .ok (.getfield 46, 3) := by decide +kernel
theorem d4_18 : decode prog_51_method_9_code 18 = .ok (.iload_n 2, 1) := by decide +kernel
theorem d4_19 : decode prog_51_method_9_code 19 = .ok (.iastore, 1) := by decide +kernel
theorem d4_20 : decode prog_51_method_9_code 20 = .ok (.aload_n 0, 1) := by decide +kernel
theorem d4_21 : decode prog_51_method_9_code 21 = .ok (.getfield 26, 3) := by decide +kernel
theorem d4_24 : decode prog_51_method_9_code 24 = .ok (.aload_n 0, 1) := by decide +kernel
theorem d4_25 : decode prog_51_method_9_code 25 = .ok (.getfield 46, 3) := by decide +kernel
theorem d4_28 : decode prog_51_method_9_code 28 = .ok (.lload_n 3, 1) := by decide +kernel
theorem d4_29 : decode prog_51_method_9_code 29 = .ok (.lastore, 1) := by decide +kernel
theorem d4_30 : decode prog_51_method_9_code 30 = .ok (.aload_n 0, 1) := by decide +kernel
theorem d4_31 : decode prog_51_method_9_code 31 = .ok (.dup, 1) := by decide +kernel
theorem d4_32 : decode prog_51_method_9_code 32 = .ok (.getfield 46, 3) := by decide +kernel
theorem d4_35 : decode prog_51_method_9_code 35 = .ok (.iconst 1, 1) := by decide +kernel
theorem d4_36 : decode prog_51_method_9_code 36 = .ok (.iadd, 1) := by decide +kernel
theorem d4_37 : decode prog_51_method_9_code 37 = .ok (.putfield 46, 3) := by decide +kernel
theorem d4_40 : decode prog_51_method_9_code 40 = .ok (.aload_n 0, 1) := by decide +kernel
theorem d4_41 : decode prog_51_method_9_code 41 = .ok (.dup, 1) := by decide +kernel
theorem d4_42 : decode prog_51_method_9_code 42 = .ok (.getfield 43, 3) := by decide +kernel
theorem d4_45 : decode prog_51_method_9_code 45 = .ok (.lconst 1, 1) := by decide +kernel
theorem d4_46 : decode prog_51_method_9_code 46 = .ok (.ladd, 1) := by decide +kernel
theorem d4_47 : decode prog_51_method_9_code 47 = .ok (.putfield 43, 3) := by decide +kernel
theorem d4_50 : decode prog_51_method_9_code 50 = .ok (.return_, 1) := by decide +kernel
theorem pn4 : plainFor (⟨"com/example/bidcrier/bidcrier/teams/Blackboard", "post", "(IIJ)V"⟩ : MethodName) = true := plainFor_of_name (by first | (simp [plainName, overriddenIn]; done) | decide +kernel)
theorem pd4 : parseMethodDescriptor (⟨"com/example/bidcrier/bidcrier/teams/Blackboard", "post", "(IIJ)V"⟩ : MethodName).desc = some ⟨[.int, .int, .long], none⟩ := by decide +kernel
def Q_rm4_3 (Z : State) (n0 : Nat) (u0 : Int32) (u1 : Int64) (o0 : Jvm.Cell) (k1 : ClassId) (u2 : Int64) (u3 : Int64) (u4 : Int64) (u5 : Int64) (k2 : ClassId) (u6 : Int32) (u7 : Int32) (u8 : Int32) (u9 : Int32) (k3 : ClassId) (u10 : Int32) (u11 : Int32) (u12 : Int32) (k4 : ClassId) (u13 : Int32) (u14 : Int32) (u15 : Int32) (k5 : ClassId) (u16 : Int32) (u17 : Int32) (u18 : Int32) (k6 : ClassId) (u19 : Int64) (u20 : Int64) (u21 : Int64) (v : Option Value) (h : Heap) (L : List Loc) : Prop := v = none ∧ Fr n0 L ∧ ∃ c2 : Jvm.Cell, ObjF Z c2 "com/example/bidcrier/bidcrier/teams/Blackboard" fl_C0 [.ref (n0 + 1), .ref (n0 + 2), .ref (n0 + 3), .ref (n0 + 4), .ref (n0 + 5), .ref (n0 + 6), .int (3 : Int32), .int (1 : Int32), .long (1 : Int64)] ∧ HP n0 h [c2, AC k1 [.long u2, .long u3, .long u4, .long u5], AC k2 [.int u6, .int u7, .int u8, .int u9], AC k3 [.int u10, .int u11, .int u12], AC k4 [.int u0, .int u14, .int u15], AC k5 [.int (0 : Int32), .int u17, .int u18], AC k6 [.long u1, .long u20, .long u21]]
theorem ef_rm4_3 (m : MethodId) (n0 : Nat) (u0 : Int32) (u1 : Int64) (u2 : Int64) (u3 : Int64) (u4 : Int64) (u5 : Int64) (u6 : Int32) (u7 : Int32) (u8 : Int32) (u9 : Int32) (u10 : Int32) (u11 : Int32) (u12 : Int32) (u13 : Int32) (u14 : Int32) (u15 : Int32) (u16 : Int32) (u17 : Int32) (u18 : Int32) (u19 : Int64) (u20 : Int64) (u21 : Int64) : entryFrame m #[.ref (n0 + 0), .int u0, .int (0 : Int32), .long u1] 5 = mkF m 0 #[.val (.ref (n0 + 0)), .val (.int u0), .val (.int (0 : Int32)), .val (.long u1), .second] [] := by first | (simp [entryFrame, mkF, argsToLocals, Value.category]; done) | rfl
set_option maxRecDepth 65536 in
set_option maxHeartbeats 40000000 in
theorem rm4_3 (l : Launch) (Z : State) (a0 : Array Value) (hw : ∀ d ∈ tables_1, d.before a0 Z = true) (ws : List Jvm.Cond) (n0 : Nat) (u0 : Int32) (u1 : Int64) (o0 : Jvm.Cell) (Fo0 : ObjF Z o0 "com/example/bidcrier/bidcrier/teams/Blackboard" fl_C0 [.ref (n0 + 1), .ref (n0 + 2), .ref (n0 + 3), .ref (n0 + 4), .ref (n0 + 5), .ref (n0 + 6), .int (3 : Int32), .int (0 : Int32), .long (0 : Int64)]) (k1 : ClassId) (hk1 : IsA Z k1 .long) (u2 : Int64) (u3 : Int64) (u4 : Int64) (u5 : Int64) (k2 : ClassId) (hk2 : IsA Z k2 .int) (u6 : Int32) (u7 : Int32) (u8 : Int32) (u9 : Int32) (k3 : ClassId) (hk3 : IsA Z k3 .int) (u10 : Int32) (u11 : Int32) (u12 : Int32) (k4 : ClassId) (hk4 : IsA Z k4 .int) (u13 : Int32) (u14 : Int32) (u15 : Int32) (k5 : ClassId) (hk5 : IsA Z k5 .int) (u16 : Int32) (u17 : Int32) (u18 : Int32) (k6 : ClassId) (hk6 : IsA Z k6 .long) (u19 : Int64) (u20 : Int64) (u21 : Int64) (h0 : Heap) (P0 : HP n0 h0 [o0, AC k1 [.long u2, .long u3, .long u4, .long u5], AC k2 [.int u6, .int u7, .int u8, .int u9], AC k3 [.int u10, .int u11, .int u12], AC k4 [.int u13, .int u14, .int u15], AC k5 [.int u16, .int u17, .int u18], AC k6 [.long u19, .long u20, .long u21]]) :
    MetFree l (⟨"com/example/bidcrier/bidcrier/teams/Blackboard", "post", "(IIJ)V"⟩ : MethodName) (head1 (Jvm.Cond.code (⟨"com/example/bidcrier/bidcrier/teams/Blackboard", "post", "(IIJ)V"⟩ : MethodName) prog_51_method_9_code 5 none :: ws) ({ frames := 0, cells := 0, slots := 0, locals := 0 } : Room)) (fun a U => a = #[.ref (n0 + 0), .int u0, .int (0 : Int32), .long u1] ∧ Z.Warmed39 U.vm ∧ U.heap = h0) (fun _ _ _ _ _ => True) (fun _ U o U' => ∃ v L, o = .returned v ∧ Q_rm4_3 Z n0 u0 u1 o0 k1 u2 u3 u4 u5 k2 u6 u7 u8 u9 k3 u10 u11 u12 k4 u13 u14 u15 k5 u16 u17 u18 k6 u19 u20 u21 v U'.heap L ∧ FrameEnd U o U' L ({ frames := 0, cells := 0, slots := 0, locals := 0 } : Room).cells ({ frames := 0, cells := 0, slots := 0, locals := 0 } : Room).slots) := by
  refine own_body pn4 ?_
  intro p e s m below meth c T0 hx hby hml hret hlk hown hnm hZ X0 e0
  subst e0
  have N0 : Fr n0 [] := Fr.nil n0
  refine own_cast (ef_rm4_3 m n0 u0 u1 u2 u3 u4 u5 u6 u7 u8 u9 u10 u11 u12 u13 u14 u15 u16 u17 u18 u19 u20 u21) ?_
  refine w_aloadN X0 hx (hb hby d4_0) rfl rfl (pc' := 1) rfl ?_
  refine w_getf (i := 0) (v := .ref (n0 + 4)) X0 hx hZ hown (wd18 hw) P0 rfl Fo0 3 rfl rfl (hb hby d4_1) (pc' := 4) rfl ?_
  intro T1 X1 P1
  refine w_aloadN X1 hx (hb hby d4_4) rfl rfl (pc' := 5) rfl ?_
  refine w_getf (i := 0) (v := .int (0 : Int32)) X1 hx hZ hown (wd35 hw) P1 rfl Fo0 7 rfl rfl (hb hby d4_5) (pc' := 8) rfl ?_
  intro T2 X2 P2
  refine w_iloadN X2 hx (hb hby d4_8) rfl (pc' := 9) rfl ?_
  refine w_iastore (i := 4) (jn := 0) X2 hx hZ N0 P2 rfl hk4 (hb hby d4_9) (by decide) (Nat.le_of_ble_eq_true rfl) (pc' := 10) rfl ?_
  intro T3 L1 N1 X3 P3
  replace P3 : HP n0 T3.heap [o0, AC k1 [.long u2, .long u3, .long u4, .long u5], AC k2 [.int u6, .int u7, .int u8, .int u9], AC k3 [.int u10, .int u11, .int u12], AC k4 [.int u0, .int u14, .int u15], AC k5 [.int u16, .int u17, .int u18], AC k6 [.long u19, .long u20, .long u21]] := P3
  refine w_aloadN X3 hx (hb hby d4_10) rfl rfl (pc' := 11) rfl ?_
  refine w_getf (i := 0) (v := .ref (n0 + 5)) X3 hx hZ hown (wd20 hw) P3 rfl Fo0 4 rfl rfl (hb hby d4_11) (pc' := 14) rfl ?_
  intro T4 X4 P4
  refine w_aloadN X4 hx (hb hby d4_14) rfl rfl (pc' := 15) rfl ?_
  refine w_getf (i := 0) (v := .int (0 : Int32)) X4 hx hZ hown (wd35 hw) P4 rfl Fo0 7 rfl rfl (hb hby d4_15) (pc' := 18) rfl ?_
  intro T5 X5 P5
  refine w_iloadN X5 hx (hb hby d4_18) rfl (pc' := 19) rfl ?_
  refine w_iastore (i := 5) (jn := 0) X5 hx hZ N1 P5 rfl hk5 (hb hby d4_19) (by decide) (Nat.le_of_ble_eq_true rfl) (pc' := 20) rfl ?_
  intro T6 L2 N2 X6 P6
  replace P6 : HP n0 T6.heap [o0, AC k1 [.long u2, .long u3, .long u4, .long u5], AC k2 [.int u6, .int u7, .int u8, .int u9], AC k3 [.int u10, .int u11, .int u12], AC k4 [.int u0, .int u14, .int u15], AC k5 [.int (0 : Int32), .int u17, .int u18], AC k6 [.long u19, .long u20, .long u21]] := P6
  refine w_aloadN X6 hx (hb hby d4_20) rfl rfl (pc' := 21) rfl ?_
  refine w_getf (i := 0) (v := .ref (n0 + 6)) X6 hx hZ hown (wd22 hw) P6 rfl Fo0 5 rfl rfl (hb hby d4_21) (pc' := 24) rfl ?_
  intro T7 X7 P7
  refine w_aloadN X7 hx (hb hby d4_24) rfl rfl (pc' := 25) rfl ?_
  refine w_getf (i := 0) (v := .int (0 : Int32)) X7 hx hZ hown (wd35 hw) P7 rfl Fo0 7 rfl rfl (hb hby d4_25) (pc' := 28) rfl ?_
  intro T8 X8 P8
  refine w_lloadN X8 hx (hb hby d4_28) rfl (pc' := 29) rfl ?_
  refine w_lastore (i := 6) (jn := 0) X8 hx hZ N2 P8 rfl hk6 (hb hby d4_29) (by decide) (Nat.le_of_ble_eq_true rfl) (pc' := 30) rfl ?_
  intro T9 L3 N3 X9 P9
  replace P9 : HP n0 T9.heap [o0, AC k1 [.long u2, .long u3, .long u4, .long u5], AC k2 [.int u6, .int u7, .int u8, .int u9], AC k3 [.int u10, .int u11, .int u12], AC k4 [.int u0, .int u14, .int u15], AC k5 [.int (0 : Int32), .int u17, .int u18], AC k6 [.long u1, .long u20, .long u21]] := P9
  refine w_aloadN X9 hx (hb hby d4_30) rfl rfl (pc' := 31) rfl ?_
  refine w_dup X9 hx (hb hby d4_31) rfl (pc' := 32) rfl ?_
  refine w_getf (i := 0) (v := .int (0 : Int32)) X9 hx hZ hown (wd35 hw) P9 rfl Fo0 7 rfl rfl (hb hby d4_32) (pc' := 35) rfl ?_
  intro T10 X10 P10
  refine w_iconst (v := (1 : Int32)) X10 hx (hb hby d4_35) rfl (pc' := 36) rfl ?_
  refine w_iadd X10 hx (hb hby d4_36) (pc' := 37) rfl ?_
  refine w_eqI (z := (1 : Int32)) (by decide) ?_
  refine w_putf (i := 0) (ty := .int) X10 hx hZ hown (wd35 hw) N3 P10 rfl Fo0 (di_C0 hw) 7 rfl (Or.inl (wd36 hw)) (wd2 hw) (by decide) rfl rfl (hb hby d4_37) (pc' := 40) rfl ?_
  intro T11 L4 c1 N4 X11 P11 F1
  replace P11 : HP n0 T11.heap [c1, AC k1 [.long u2, .long u3, .long u4, .long u5], AC k2 [.int u6, .int u7, .int u8, .int u9], AC k3 [.int u10, .int u11, .int u12], AC k4 [.int u0, .int u14, .int u15], AC k5 [.int (0 : Int32), .int u17, .int u18], AC k6 [.long u1, .long u20, .long u21]] := P11
  replace F1 : ObjF Z c1 "com/example/bidcrier/bidcrier/teams/Blackboard" fl_C0 [.ref (n0 + 1), .ref (n0 + 2), .ref (n0 + 3), .ref (n0 + 4), .ref (n0 + 5), .ref (n0 + 6), .int (3 : Int32), .int (1 : Int32), .long (0 : Int64)] := F1
  refine w_aloadN X11 hx (hb hby d4_40) rfl rfl (pc' := 41) rfl ?_
  refine w_dup X11 hx (hb hby d4_41) rfl (pc' := 42) rfl ?_
  refine w_getf (i := 0) (v := .long (0 : Int64)) X11 hx hZ hown (wd37 hw) P11 rfl F1 8 rfl rfl (hb hby d4_42) (pc' := 45) rfl ?_
  intro T12 X12 P12
  refine w_lconst (v := (1 : Int64)) X12 hx (hb hby d4_45) rfl (pc' := 46) rfl ?_
  refine w_ladd X12 hx (hb hby d4_46) (pc' := 47) rfl ?_
  refine w_eqJ (z := (1 : Int64)) (by decide) ?_
  refine w_putf (i := 0) (ty := .long) X12 hx hZ hown (wd37 hw) N4 P12 rfl F1 (di_C0 hw) 8 rfl (Or.inl (wd38 hw)) (wd2 hw) (by decide) rfl rfl (hb hby d4_47) (pc' := 50) rfl ?_
  intro T13 L5 c2 N5 X13 P13 F2
  replace P13 : HP n0 T13.heap [c2, AC k1 [.long u2, .long u3, .long u4, .long u5], AC k2 [.int u6, .int u7, .int u8, .int u9], AC k3 [.int u10, .int u11, .int u12], AC k4 [.int u0, .int u14, .int u15], AC k5 [.int (0 : Int32), .int u17, .int u18], AC k6 [.long u1, .long u20, .long u21]] := P13
  replace F2 : ObjF Z c2 "com/example/bidcrier/bidcrier/teams/Blackboard" fl_C0 [.ref (n0 + 1), .ref (n0 + 2), .ref (n0 + 3), .ref (n0 + 4), .ref (n0 + 5), .ref (n0 + 6), .int (3 : Int32), .int (1 : Int32), .long (1 : Int64)] := F2
  exact w_ret_v X13 hx hret hlk (hb hby d4_50) (by decide) (by decide) ⟨rfl, N5, c2, F2, P13⟩
theorem d5_0 : decode prog_51_method_10_code 0 = .ok (.aload_n 0, 1) := by decide +kernel
theorem d5_1 : decode prog_51_method_10_code 1 = .ok (.getfield 46, 3) := by decide +kernel
theorem d5_4 : decode prog_51_method_10_code 4 = .ok (.ireturn, 1) := by decide +kernel
theorem pn5 : plainFor (⟨"com/example/bidcrier/bidcrier/teams/Blackboard", "bids", "()I"⟩ : MethodName) = true := plainFor_of_name (by first | (simp [plainName, overriddenIn]; done) | decide +kernel)
theorem pd5 : parseMethodDescriptor (⟨"com/example/bidcrier/bidcrier/teams/Blackboard", "bids", "()I"⟩ : MethodName).desc = some ⟨[], some .int⟩ := by decide +kernel
def Q_rm5_4 (Z : State) (n0 : Nat) (o0 : Jvm.Cell) (k1 : ClassId) (u0 : Int64) (u1 : Int64) (u2 : Int64) (u3 : Int64) (k2 : ClassId) (u4 : Int32) (u5 : Int32) (u6 : Int32) (u7 : Int32) (k3 : ClassId) (u8 : Int32) (u9 : Int32) (u10 : Int32) (k4 : ClassId) (u11 : Int32) (u12 : Int32) (u13 : Int32) (k5 : ClassId) (u14 : Int32) (u15 : Int32) (u16 : Int32) (k6 : ClassId) (u17 : Int64) (u18 : Int64) (u19 : Int64) (v : Option Value) (h : Heap) (L : List Loc) : Prop := v = some (.int (1 : Int32)) ∧ Fr n0 L ∧ HP n0 h [o0, AC k1 [.long u0, .long u1, .long u2, .long u3], AC k2 [.int u4, .int u5, .int u6, .int u7], AC k3 [.int u8, .int u9, .int u10], AC k4 [.int u11, .int u12, .int u13], AC k5 [.int u14, .int u15, .int u16], AC k6 [.long u17, .long u18, .long u19]]
theorem ef_rm5_4 (m : MethodId) (n0 : Nat) (u0 : Int64) (u1 : Int64) (u2 : Int64) (u3 : Int64) (u4 : Int32) (u5 : Int32) (u6 : Int32) (u7 : Int32) (u8 : Int32) (u9 : Int32) (u10 : Int32) (u11 : Int32) (u12 : Int32) (u13 : Int32) (u14 : Int32) (u15 : Int32) (u16 : Int32) (u17 : Int64) (u18 : Int64) (u19 : Int64) : entryFrame m #[.ref (n0 + 0)] 1 = mkF m 0 #[.val (.ref (n0 + 0))] [] := by first | (simp [entryFrame, mkF, argsToLocals, Value.category]; done) | rfl
set_option maxRecDepth 65536 in
set_option maxHeartbeats 40000000 in
theorem rm5_4 (l : Launch) (Z : State) (a0 : Array Value) (hw : ∀ d ∈ tables_1, d.before a0 Z = true) (ws : List Jvm.Cond) (n0 : Nat) (o0 : Jvm.Cell) (Fo0 : ObjF Z o0 "com/example/bidcrier/bidcrier/teams/Blackboard" fl_C0 [.ref (n0 + 1), .ref (n0 + 2), .ref (n0 + 3), .ref (n0 + 4), .ref (n0 + 5), .ref (n0 + 6), .int (3 : Int32), .int (1 : Int32), .long (1 : Int64)]) (k1 : ClassId) (hk1 : IsA Z k1 .long) (u0 : Int64) (u1 : Int64) (u2 : Int64) (u3 : Int64) (k2 : ClassId) (hk2 : IsA Z k2 .int) (u4 : Int32) (u5 : Int32) (u6 : Int32) (u7 : Int32) (k3 : ClassId) (hk3 : IsA Z k3 .int) (u8 : Int32) (u9 : Int32) (u10 : Int32) (k4 : ClassId) (hk4 : IsA Z k4 .int) (u11 : Int32) (u12 : Int32) (u13 : Int32) (k5 : ClassId) (hk5 : IsA Z k5 .int) (u14 : Int32) (u15 : Int32) (u16 : Int32) (k6 : ClassId) (hk6 : IsA Z k6 .long) (u17 : Int64) (u18 : Int64) (u19 : Int64) (h0 : Heap) (P0 : HP n0 h0 [o0, AC k1 [.long u0, .long u1, .long u2, .long u3], AC k2 [.int u4, .int u5, .int u6, .int u7], AC k3 [.int u8, .int u9, .int u10], AC k4 [.int u11, .int u12, .int u13], AC k5 [.int u14, .int u15, .int u16], AC k6 [.long u17, .long u18, .long u19]]) :
    MetFree l (⟨"com/example/bidcrier/bidcrier/teams/Blackboard", "bids", "()I"⟩ : MethodName) (head1 (Jvm.Cond.code (⟨"com/example/bidcrier/bidcrier/teams/Blackboard", "bids", "()I"⟩ : MethodName) prog_51_method_10_code 1 (some .int) :: ws) ({ frames := 0, cells := 0, slots := 0, locals := 0 } : Room)) (fun a U => a = #[.ref (n0 + 0)] ∧ Z.Warmed39 U.vm ∧ U.heap = h0) (fun _ _ _ _ _ => True) (fun _ U o U' => ∃ v L, o = .returned v ∧ Q_rm5_4 Z n0 o0 k1 u0 u1 u2 u3 k2 u4 u5 u6 u7 k3 u8 u9 u10 k4 u11 u12 u13 k5 u14 u15 u16 k6 u17 u18 u19 v U'.heap L ∧ FrameEnd U o U' L ({ frames := 0, cells := 0, slots := 0, locals := 0 } : Room).cells ({ frames := 0, cells := 0, slots := 0, locals := 0 } : Room).slots) := by
  refine own_body pn5 ?_
  intro p e s m below meth c T0 hx hby hml hret hlk hown hnm hZ X0 e0
  subst e0
  have N0 : Fr n0 [] := Fr.nil n0
  refine own_cast (ef_rm5_4 m n0 u0 u1 u2 u3 u4 u5 u6 u7 u8 u9 u10 u11 u12 u13 u14 u15 u16 u17 u18 u19) ?_
  refine w_aloadN X0 hx (hb hby d5_0) rfl rfl (pc' := 1) rfl ?_
  refine w_getf (i := 0) (v := .int (1 : Int32)) X0 hx hZ hown (wd35 hw) P0 rfl Fo0 7 rfl rfl (hb hby d5_1) (pc' := 4) rfl ?_
  intro T1 X1 P1
  exact w_ret_i X1 hx hret hlk (hb hby d5_4) (by decide) (by decide) ⟨rfl, N0, P1⟩
theorem d6_0 : decode prog_51_method_8_code 0 = .ok (.aload_n 0, 1) := by decide +kernel
theorem d6_1 : decode prog_51_method_8_code 1 = .ok (.getfield 43, 3) := by decide +kernel
theorem d6_4 : decode prog_51_method_8_code 4 = .ok (.lreturn, 1) := by decide +kernel
theorem pn6 : plainFor (⟨"com/example/bidcrier/bidcrier/teams/Blackboard", "posts", "()J"⟩ : MethodName) = true := plainFor_of_name (by first | (simp [plainName, overriddenIn]; done) | decide +kernel)
theorem pd6 : parseMethodDescriptor (⟨"com/example/bidcrier/bidcrier/teams/Blackboard", "posts", "()J"⟩ : MethodName).desc = some ⟨[], some .long⟩ := by decide +kernel
def Q_rm6_5 (Z : State) (n0 : Nat) (o0 : Jvm.Cell) (k1 : ClassId) (u0 : Int64) (u1 : Int64) (u2 : Int64) (u3 : Int64) (k2 : ClassId) (u4 : Int32) (u5 : Int32) (u6 : Int32) (u7 : Int32) (k3 : ClassId) (u8 : Int32) (u9 : Int32) (u10 : Int32) (k4 : ClassId) (u11 : Int32) (u12 : Int32) (u13 : Int32) (k5 : ClassId) (u14 : Int32) (u15 : Int32) (u16 : Int32) (k6 : ClassId) (u17 : Int64) (u18 : Int64) (u19 : Int64) (v : Option Value) (h : Heap) (L : List Loc) : Prop := v = some (.long (1 : Int64)) ∧ Fr n0 L ∧ HP n0 h [o0, AC k1 [.long u0, .long u1, .long u2, .long u3], AC k2 [.int u4, .int u5, .int u6, .int u7], AC k3 [.int u8, .int u9, .int u10], AC k4 [.int u11, .int u12, .int u13], AC k5 [.int u14, .int u15, .int u16], AC k6 [.long u17, .long u18, .long u19]]
theorem ef_rm6_5 (m : MethodId) (n0 : Nat) (u0 : Int64) (u1 : Int64) (u2 : Int64) (u3 : Int64) (u4 : Int32) (u5 : Int32) (u6 : Int32) (u7 : Int32) (u8 : Int32) (u9 : Int32) (u10 : Int32) (u11 : Int32) (u12 : Int32) (u13 : Int32) (u14 : Int32) (u15 : Int32) (u16 : Int32) (u17 : Int64) (u18 : Int64) (u19 : Int64) : entryFrame m #[.ref (n0 + 0)] 1 = mkF m 0 #[.val (.ref (n0 + 0))] [] := by first | (simp [entryFrame, mkF, argsToLocals, Value.category]; done) | rfl
set_option maxRecDepth 65536 in
set_option maxHeartbeats 40000000 in
theorem rm6_5 (l : Launch) (Z : State) (a0 : Array Value) (hw : ∀ d ∈ tables_1, d.before a0 Z = true) (ws : List Jvm.Cond) (n0 : Nat) (o0 : Jvm.Cell) (Fo0 : ObjF Z o0 "com/example/bidcrier/bidcrier/teams/Blackboard" fl_C0 [.ref (n0 + 1), .ref (n0 + 2), .ref (n0 + 3), .ref (n0 + 4), .ref (n0 + 5), .ref (n0 + 6), .int (3 : Int32), .int (1 : Int32), .long (1 : Int64)]) (k1 : ClassId) (hk1 : IsA Z k1 .long) (u0 : Int64) (u1 : Int64) (u2 : Int64) (u3 : Int64) (k2 : ClassId) (hk2 : IsA Z k2 .int) (u4 : Int32) (u5 : Int32) (u6 : Int32) (u7 : Int32) (k3 : ClassId) (hk3 : IsA Z k3 .int) (u8 : Int32) (u9 : Int32) (u10 : Int32) (k4 : ClassId) (hk4 : IsA Z k4 .int) (u11 : Int32) (u12 : Int32) (u13 : Int32) (k5 : ClassId) (hk5 : IsA Z k5 .int) (u14 : Int32) (u15 : Int32) (u16 : Int32) (k6 : ClassId) (hk6 : IsA Z k6 .long) (u17 : Int64) (u18 : Int64) (u19 : Int64) (h0 : Heap) (P0 : HP n0 h0 [o0, AC k1 [.long u0, .long u1, .long u2, .long u3], AC k2 [.int u4, .int u5, .int u6, .int u7], AC k3 [.int u8, .int u9, .int u10], AC k4 [.int u11, .int u12, .int u13], AC k5 [.int u14, .int u15, .int u16], AC k6 [.long u17, .long u18, .long u19]]) :
    MetFree l (⟨"com/example/bidcrier/bidcrier/teams/Blackboard", "posts", "()J"⟩ : MethodName) (head1 (Jvm.Cond.code (⟨"com/example/bidcrier/bidcrier/teams/Blackboard", "posts", "()J"⟩ : MethodName) prog_51_method_8_code 1 (some .long) :: ws) ({ frames := 0, cells := 0, slots := 0, locals := 0 } : Room)) (fun a U => a = #[.ref (n0 + 0)] ∧ Z.Warmed39 U.vm ∧ U.heap = h0) (fun _ _ _ _ _ => True) (fun _ U o U' => ∃ v L, o = .returned v ∧ Q_rm6_5 Z n0 o0 k1 u0 u1 u2 u3 k2 u4 u5 u6 u7 k3 u8 u9 u10 k4 u11 u12 u13 k5 u14 u15 u16 k6 u17 u18 u19 v U'.heap L ∧ FrameEnd U o U' L ({ frames := 0, cells := 0, slots := 0, locals := 0 } : Room).cells ({ frames := 0, cells := 0, slots := 0, locals := 0 } : Room).slots) := by
  refine own_body pn6 ?_
  intro p e s m below meth c T0 hx hby hml hret hlk hown hnm hZ X0 e0
  subst e0
  have N0 : Fr n0 [] := Fr.nil n0
  refine own_cast (ef_rm6_5 m n0 u0 u1 u2 u3 u4 u5 u6 u7 u8 u9 u10 u11 u12 u13 u14 u15 u16 u17 u18 u19) ?_
  refine w_aloadN X0 hx (hb hby d6_0) rfl rfl (pc' := 1) rfl ?_
  refine w_getf (i := 0) (v := .long (1 : Int64)) X0 hx hZ hown (wd37 hw) P0 rfl Fo0 8 rfl rfl (hb hby d6_1) (pc' := 4) rfl ?_
  intro T1 X1 P1
  exact w_ret_l X1 hx hret hlk (hb hby d6_4) (by decide) (by decide) ⟨rfl, N0, P1⟩
def Q_rm4_6 (Z : State) (n0 : Nat) (u0 : Int32) (u1 : Int32) (u2 : Int64) (o0 : Jvm.Cell) (k1 : ClassId) (u3 : Int64) (u4 : Int64) (u5 : Int64) (u6 : Int64) (k2 : ClassId) (u7 : Int32) (u8 : Int32) (u9 : Int32) (u10 : Int32) (k3 : ClassId) (u11 : Int32) (u12 : Int32) (u13 : Int32) (k4 : ClassId) (u14 : Int32) (u15 : Int32) (u16 : Int32) (k5 : ClassId) (u17 : Int32) (u18 : Int32) (u19 : Int32) (k6 : ClassId) (u20 : Int64) (u21 : Int64) (u22 : Int64) (v : Option Value) (h : Heap) (L : List Loc) : Prop := v = none ∧ Fr n0 L ∧ ∃ c2 : Jvm.Cell, ObjF Z c2 "com/example/bidcrier/bidcrier/teams/Blackboard" fl_C0 [.ref (n0 + 1), .ref (n0 + 2), .ref (n0 + 3), .ref (n0 + 4), .ref (n0 + 5), .ref (n0 + 6), .int (3 : Int32), .int (2 : Int32), .long (2 : Int64)] ∧ HP n0 h [c2, AC k1 [.long u3, .long u4, .long u5, .long u6], AC k2 [.int u7, .int u8, .int u9, .int u10], AC k3 [.int u11, .int u12, .int u13], AC k4 [.int u14, .int u0, .int u16], AC k5 [.int u17, .int u1, .int u19], AC k6 [.long u20, .long u2, .long u22]]
theorem ef_rm4_6 (m : MethodId) (n0 : Nat) (u0 : Int32) (u1 : Int32) (u2 : Int64) (u3 : Int64) (u4 : Int64) (u5 : Int64) (u6 : Int64) (u7 : Int32) (u8 : Int32) (u9 : Int32) (u10 : Int32) (u11 : Int32) (u12 : Int32) (u13 : Int32) (u14 : Int32) (u15 : Int32) (u16 : Int32) (u17 : Int32) (u18 : Int32) (u19 : Int32) (u20 : Int64) (u21 : Int64) (u22 : Int64) : entryFrame m #[.ref (n0 + 0), .int u0, .int u1, .long u2] 5 = mkF m 0 #[.val (.ref (n0 + 0)), .val (.int u0), .val (.int u1), .val (.long u2), .second] [] := by first | (simp [entryFrame, mkF, argsToLocals, Value.category]; done) | rfl
set_option maxRecDepth 65536 in
set_option maxHeartbeats 40000000 in
theorem rm4_6 (l : Launch) (Z : State) (a0 : Array Value) (hw : ∀ d ∈ tables_1, d.before a0 Z = true) (ws : List Jvm.Cond) (n0 : Nat) (u0 : Int32) (u1 : Int32) (u2 : Int64) (o0 : Jvm.Cell) (Fo0 : ObjF Z o0 "com/example/bidcrier/bidcrier/teams/Blackboard" fl_C0 [.ref (n0 + 1), .ref (n0 + 2), .ref (n0 + 3), .ref (n0 + 4), .ref (n0 + 5), .ref (n0 + 6), .int (3 : Int32), .int (1 : Int32), .long (1 : Int64)]) (k1 : ClassId) (hk1 : IsA Z k1 .long) (u3 : Int64) (u4 : Int64) (u5 : Int64) (u6 : Int64) (k2 : ClassId) (hk2 : IsA Z k2 .int) (u7 : Int32) (u8 : Int32) (u9 : Int32) (u10 : Int32) (k3 : ClassId) (hk3 : IsA Z k3 .int) (u11 : Int32) (u12 : Int32) (u13 : Int32) (k4 : ClassId) (hk4 : IsA Z k4 .int) (u14 : Int32) (u15 : Int32) (u16 : Int32) (k5 : ClassId) (hk5 : IsA Z k5 .int) (u17 : Int32) (u18 : Int32) (u19 : Int32) (k6 : ClassId) (hk6 : IsA Z k6 .long) (u20 : Int64) (u21 : Int64) (u22 : Int64) (h0 : Heap) (P0 : HP n0 h0 [o0, AC k1 [.long u3, .long u4, .long u5, .long u6], AC k2 [.int u7, .int u8, .int u9, .int u10], AC k3 [.int u11, .int u12, .int u13], AC k4 [.int u14, .int u15, .int u16], AC k5 [.int u17, .int u18, .int u19], AC k6 [.long u20, .long u21, .long u22]]) :
    MetFree l (⟨"com/example/bidcrier/bidcrier/teams/Blackboard", "post", "(IIJ)V"⟩ : MethodName) (head1 (Jvm.Cond.code (⟨"com/example/bidcrier/bidcrier/teams/Blackboard", "post", "(IIJ)V"⟩ : MethodName) prog_51_method_9_code 5 none :: ws) ({ frames := 0, cells := 0, slots := 0, locals := 0 } : Room)) (fun a U => a = #[.ref (n0 + 0), .int u0, .int u1, .long u2] ∧ Z.Warmed39 U.vm ∧ U.heap = h0) (fun _ _ _ _ _ => True) (fun _ U o U' => ∃ v L, o = .returned v ∧ Q_rm4_6 Z n0 u0 u1 u2 o0 k1 u3 u4 u5 u6 k2 u7 u8 u9 u10 k3 u11 u12 u13 k4 u14 u15 u16 k5 u17 u18 u19 k6 u20 u21 u22 v U'.heap L ∧ FrameEnd U o U' L ({ frames := 0, cells := 0, slots := 0, locals := 0 } : Room).cells ({ frames := 0, cells := 0, slots := 0, locals := 0 } : Room).slots) := by
  refine own_body pn4 ?_
  intro p e s m below meth c T0 hx hby hml hret hlk hown hnm hZ X0 e0
  subst e0
  have N0 : Fr n0 [] := Fr.nil n0
  refine own_cast (ef_rm4_6 m n0 u0 u1 u2 u3 u4 u5 u6 u7 u8 u9 u10 u11 u12 u13 u14 u15 u16 u17 u18 u19 u20 u21 u22) ?_
  refine w_aloadN X0 hx (hb hby d4_0) rfl rfl (pc' := 1) rfl ?_
  refine w_getf (i := 0) (v := .ref (n0 + 4)) X0 hx hZ hown (wd18 hw) P0 rfl Fo0 3 rfl rfl (hb hby d4_1) (pc' := 4) rfl ?_
  intro T1 X1 P1
  refine w_aloadN X1 hx (hb hby d4_4) rfl rfl (pc' := 5) rfl ?_
  refine w_getf (i := 0) (v := .int (1 : Int32)) X1 hx hZ hown (wd35 hw) P1 rfl Fo0 7 rfl rfl (hb hby d4_5) (pc' := 8) rfl ?_
  intro T2 X2 P2
  refine w_iloadN X2 hx (hb hby d4_8) rfl (pc' := 9) rfl ?_
  refine w_iastore (i := 4) (jn := 1) X2 hx hZ N0 P2 rfl hk4 (hb hby d4_9) (by decide) (Nat.le_of_ble_eq_true rfl) (pc' := 10) rfl ?_
  intro T3 L1 N1 X3 P3
  replace P3 : HP n0 T3.heap [o0, AC k1 [.long u3, .long u4, .long u5, .long u6], AC k2 [.int u7, .int u8, .int u9, .int u10], AC k3 [.int u11, .int u12, .int u13], AC k4 [.int u14, .int u0, .int u16], AC k5 [.int u17, .int u18, .int u19], AC k6 [.long u20, .long u21, .long u22]] := P3
  refine w_aloadN X3 hx (hb hby d4_10) rfl rfl (pc' := 11) rfl ?_
  refine w_getf (i := 0) (v := .ref (n0 + 5)) X3 hx hZ hown (wd20 hw) P3 rfl Fo0 4 rfl rfl (hb hby d4_11) (pc' := 14) rfl ?_
  intro T4 X4 P4
  refine w_aloadN X4 hx (hb hby d4_14) rfl rfl (pc' := 15) rfl ?_
  refine w_getf (i := 0) (v := .int (1 : Int32)) X4 hx hZ hown (wd35 hw) P4 rfl Fo0 7 rfl rfl (hb hby d4_15) (pc' := 18) rfl ?_
  intro T5 X5 P5
  refine w_iloadN X5 hx (hb hby d4_18) rfl (pc' := 19) rfl ?_
  refine w_iastore (i := 5) (jn := 1) X5 hx hZ N1 P5 rfl hk5 (hb hby d4_19) (by decide) (Nat.le_of_ble_eq_true rfl) (pc' := 20) rfl ?_
  intro T6 L2 N2 X6 P6
  replace P6 : HP n0 T6.heap [o0, AC k1 [.long u3, .long u4, .long u5, .long u6], AC k2 [.int u7, .int u8, .int u9, .int u10], AC k3 [.int u11, .int u12, .int u13], AC k4 [.int u14, .int u0, .int u16], AC k5 [.int u17, .int u1, .int u19], AC k6 [.long u20, .long u21, .long u22]] := P6
  refine w_aloadN X6 hx (hb hby d4_20) rfl rfl (pc' := 21) rfl ?_
  refine w_getf (i := 0) (v := .ref (n0 + 6)) X6 hx hZ hown (wd22 hw) P6 rfl Fo0 5 rfl rfl (hb hby d4_21) (pc' := 24) rfl ?_
  intro T7 X7 P7
  refine w_aloadN X7 hx (hb hby d4_24) rfl rfl (pc' := 25) rfl ?_
  refine w_getf (i := 0) (v := .int (1 : Int32)) X7 hx hZ hown (wd35 hw) P7 rfl Fo0 7 rfl rfl (hb hby d4_25) (pc' := 28) rfl ?_
  intro T8 X8 P8
  refine w_lloadN X8 hx (hb hby d4_28) rfl (pc' := 29) rfl ?_
  refine w_lastore (i := 6) (jn := 1) X8 hx hZ N2 P8 rfl hk6 (hb hby d4_29) (by decide) (Nat.le_of_ble_eq_true rfl) (pc' := 30) rfl ?_
  intro T9 L3 N3 X9 P9
  replace P9 : HP n0 T9.heap [o0, AC k1 [.long u3, .long u4, .long u5, .long u6], AC k2 [.int u7, .int u8, .int u9, .int u10], AC k3 [.int u11, .int u12, .int u13], AC k4 [.int u14, .int u0, .int u16], AC k5 [.int u17, .int u1, .int u19], AC k6 [.long u20, .long u2, .long u22]] := P9
  refine w_aloadN X9 hx (hb hby d4_30) rfl rfl (pc' := 31) rfl ?_
  refine w_dup X9 hx (hb hby d4_31) rfl (pc' := 32) rfl ?_
  refine w_getf (i := 0) (v := .int (1 : Int32)) X9 hx hZ hown (wd35 hw) P9 rfl Fo0 7 rfl rfl (hb hby d4_32) (pc' := 35) rfl ?_
  intro T10 X10 P10
  refine w_iconst (v := (1 : Int32)) X10 hx (hb hby d4_35) rfl (pc' := 36) rfl ?_
  refine w_iadd X10 hx (hb hby d4_36) (pc' := 37) rfl ?_
  refine w_eqI (z := (2 : Int32)) (by decide) ?_
  refine w_putf (i := 0) (ty := .int) X10 hx hZ hown (wd35 hw) N3 P10 rfl Fo0 (di_C0 hw) 7 rfl (Or.inl (wd36 hw)) (wd2 hw) (by decide) rfl rfl (hb hby d4_37) (pc' := 40) rfl ?_
  intro T11 L4 c1 N4 X11 P11 F1
  replace P11 : HP n0 T11.heap [c1, AC k1 [.long u3, .long u4, .long u5, .long u6], AC k2 [.int u7, .int u8, .int u9, .int u10], AC k3 [.int u11, .int u12, .int u13], AC k4 [.int u14, .int u0, .int u16], AC k5 [.int u17, .int u1, .int u19], AC k6 [.long u20, .long u2, .long u22]] := P11
  replace F1 : ObjF Z c1 "com/example/bidcrier/bidcrier/teams/Blackboard" fl_C0 [.ref (n0 + 1), .ref (n0 + 2), .ref (n0 + 3), .ref (n0 + 4), .ref (n0 + 5), .ref (n0 + 6), .int (3 : Int32), .int (2 : Int32), .long (1 : Int64)] := F1
  refine w_aloadN X11 hx (hb hby d4_40) rfl rfl (pc' := 41) rfl ?_
  refine w_dup X11 hx (hb hby d4_41) rfl (pc' := 42) rfl ?_
  refine w_getf (i := 0) (v := .long (1 : Int64)) X11 hx hZ hown (wd37 hw) P11 rfl F1 8 rfl rfl (hb hby d4_42) (pc' := 45) rfl ?_
  intro T12 X12 P12
  refine w_lconst (v := (1 : Int64)) X12 hx (hb hby d4_45) rfl (pc' := 46) rfl ?_
  refine w_ladd X12 hx (hb hby d4_46) (pc' := 47) rfl ?_
  refine w_eqJ (z := (2 : Int64)) (by decide) ?_
  refine w_putf (i := 0) (ty := .long) X12 hx hZ hown (wd37 hw) N4 P12 rfl F1 (di_C0 hw) 8 rfl (Or.inl (wd38 hw)) (wd2 hw) (by decide) rfl rfl (hb hby d4_47) (pc' := 50) rfl ?_
  intro T13 L5 c2 N5 X13 P13 F2
  replace P13 : HP n0 T13.heap [c2, AC k1 [.long u3, .long u4, .long u5, .long u6], AC k2 [.int u7, .int u8, .int u9, .int u10], AC k3 [.int u11, .int u12, .int u13], AC k4 [.int u14, .int u0, .int u16], AC k5 [.int u17, .int u1, .int u19], AC k6 [.long u20, .long u2, .long u22]] := P13
  replace F2 : ObjF Z c2 "com/example/bidcrier/bidcrier/teams/Blackboard" fl_C0 [.ref (n0 + 1), .ref (n0 + 2), .ref (n0 + 3), .ref (n0 + 4), .ref (n0 + 5), .ref (n0 + 6), .int (3 : Int32), .int (2 : Int32), .long (2 : Int64)] := F2
  exact w_ret_v X13 hx hret hlk (hb hby d4_50) (by decide) (by decide) ⟨rfl, N5, c2, F2, P13⟩
def Q_rm5_7 (Z : State) (n0 : Nat) (o0 : Jvm.Cell) (k1 : ClassId) (u0 : Int64) (u1 : Int64) (u2 : Int64) (u3 : Int64) (k2 : ClassId) (u4 : Int32) (u5 : Int32) (u6 : Int32) (u7 : Int32) (k3 : ClassId) (u8 : Int32) (u9 : Int32) (u10 : Int32) (k4 : ClassId) (u11 : Int32) (u12 : Int32) (u13 : Int32) (k5 : ClassId) (u14 : Int32) (u15 : Int32) (u16 : Int32) (k6 : ClassId) (u17 : Int64) (u18 : Int64) (u19 : Int64) (v : Option Value) (h : Heap) (L : List Loc) : Prop := v = some (.int (2 : Int32)) ∧ Fr n0 L ∧ HP n0 h [o0, AC k1 [.long u0, .long u1, .long u2, .long u3], AC k2 [.int u4, .int u5, .int u6, .int u7], AC k3 [.int u8, .int u9, .int u10], AC k4 [.int u11, .int u12, .int u13], AC k5 [.int u14, .int u15, .int u16], AC k6 [.long u17, .long u18, .long u19]]
theorem ef_rm5_7 (m : MethodId) (n0 : Nat) (u0 : Int64) (u1 : Int64) (u2 : Int64) (u3 : Int64) (u4 : Int32) (u5 : Int32) (u6 : Int32) (u7 : Int32) (u8 : Int32) (u9 : Int32) (u10 : Int32) (u11 : Int32) (u12 : Int32) (u13 : Int32) (u14 : Int32) (u15 : Int32) (u16 : Int32) (u17 : Int64) (u18 : Int64) (u19 : Int64) : entryFrame m #[.ref (n0 + 0)] 1 = mkF m 0 #[.val (.ref (n0 + 0))] [] := by first | (simp [entryFrame, mkF, argsToLocals, Value.category]; done) | rfl
set_option maxRecDepth 65536 in
set_option maxHeartbeats 40000000 in
theorem rm5_7 (l : Launch) (Z : State) (a0 : Array Value) (hw : ∀ d ∈ tables_1, d.before a0 Z = true) (ws : List Jvm.Cond) (n0 : Nat) (o0 : Jvm.Cell) (Fo0 : ObjF Z o0 "com/example/bidcrier/bidcrier/teams/Blackboard" fl_C0 [.ref (n0 + 1), .ref (n0 + 2), .ref (n0 + 3), .ref (n0 + 4), .ref (n0 + 5), .ref (n0 + 6), .int (3 : Int32), .int (2 : Int32), .long (2 : Int64)]) (k1 : ClassId) (hk1 : IsA Z k1 .long) (u0 : Int64) (u1 : Int64) (u2 : Int64) (u3 : Int64) (k2 : ClassId) (hk2 : IsA Z k2 .int) (u4 : Int32) (u5 : Int32) (u6 : Int32) (u7 : Int32) (k3 : ClassId) (hk3 : IsA Z k3 .int) (u8 : Int32) (u9 : Int32) (u10 : Int32) (k4 : ClassId) (hk4 : IsA Z k4 .int) (u11 : Int32) (u12 : Int32) (u13 : Int32) (k5 : ClassId) (hk5 : IsA Z k5 .int) (u14 : Int32) (u15 : Int32) (u16 : Int32) (k6 : ClassId) (hk6 : IsA Z k6 .long) (u17 : Int64) (u18 : Int64) (u19 : Int64) (h0 : Heap) (P0 : HP n0 h0 [o0, AC k1 [.long u0, .long u1, .long u2, .long u3], AC k2 [.int u4, .int u5, .int u6, .int u7], AC k3 [.int u8, .int u9, .int u10], AC k4 [.int u11, .int u12, .int u13], AC k5 [.int u14, .int u15, .int u16], AC k6 [.long u17, .long u18, .long u19]]) :
    MetFree l (⟨"com/example/bidcrier/bidcrier/teams/Blackboard", "bids", "()I"⟩ : MethodName) (head1 (Jvm.Cond.code (⟨"com/example/bidcrier/bidcrier/teams/Blackboard", "bids", "()I"⟩ : MethodName) prog_51_method_10_code 1 (some .int) :: ws) ({ frames := 0, cells := 0, slots := 0, locals := 0 } : Room)) (fun a U => a = #[.ref (n0 + 0)] ∧ Z.Warmed39 U.vm ∧ U.heap = h0) (fun _ _ _ _ _ => True) (fun _ U o U' => ∃ v L, o = .returned v ∧ Q_rm5_7 Z n0 o0 k1 u0 u1 u2 u3 k2 u4 u5 u6 u7 k3 u8 u9 u10 k4 u11 u12 u13 k5 u14 u15 u16 k6 u17 u18 u19 v U'.heap L ∧ FrameEnd U o U' L ({ frames := 0, cells := 0, slots := 0, locals := 0 } : Room).cells ({ frames := 0, cells := 0, slots := 0, locals := 0 } : Room).slots) := by
  refine own_body pn5 ?_
  intro p e s m below meth c T0 hx hby hml hret hlk hown hnm hZ X0 e0
  subst e0
  have N0 : Fr n0 [] := Fr.nil n0
  refine own_cast (ef_rm5_7 m n0 u0 u1 u2 u3 u4 u5 u6 u7 u8 u9 u10 u11 u12 u13 u14 u15 u16 u17 u18 u19) ?_
  refine w_aloadN X0 hx (hb hby d5_0) rfl rfl (pc' := 1) rfl ?_
  refine w_getf (i := 0) (v := .int (2 : Int32)) X0 hx hZ hown (wd35 hw) P0 rfl Fo0 7 rfl rfl (hb hby d5_1) (pc' := 4) rfl ?_
  intro T1 X1 P1
  exact w_ret_i X1 hx hret hlk (hb hby d5_4) (by decide) (by decide) ⟨rfl, N0, P1⟩
theorem d8_0 : decode prog_51_method_11_code 0 = .ok (.aload_n 0, 1) := by decide +kernel
theorem d8_1 : decode prog_51_method_11_code 1 = .ok (.getfield 20, 3) := by decide +kernel
theorem d8_4 : decode prog_51_method_11_code 4 = .ok (.iload_n 1, 1) := by decide +kernel
theorem d8_5 : decode prog_51_method_11_code 5 = .ok (.iaload, 1) := by decide +kernel
theorem d8_6 : decode prog_51_method_11_code 6 = .ok (.ireturn, 1) := by decide +kernel
theorem pn8 : plainFor (⟨"com/example/bidcrier/bidcrier/teams/Blackboard", "bidRow", "(I)I"⟩ : MethodName) = true := plainFor_of_name (by first | (simp [plainName, overriddenIn]; done) | decide +kernel)
theorem pd8 : parseMethodDescriptor (⟨"com/example/bidcrier/bidcrier/teams/Blackboard", "bidRow", "(I)I"⟩ : MethodName).desc = some ⟨[.int], some .int⟩ := by decide +kernel
def Q_rm8_8 (Z : State) (n0 : Nat) (o0 : Jvm.Cell) (k1 : ClassId) (u0 : Int64) (u1 : Int64) (u2 : Int64) (u3 : Int64) (k2 : ClassId) (u4 : Int32) (u5 : Int32) (u6 : Int32) (u7 : Int32) (k3 : ClassId) (u8 : Int32) (u9 : Int32) (u10 : Int32) (k4 : ClassId) (u11 : Int32) (u12 : Int32) (u13 : Int32) (k5 : ClassId) (u14 : Int32) (u15 : Int32) (u16 : Int32) (k6 : ClassId) (u17 : Int64) (u18 : Int64) (u19 : Int64) (v : Option Value) (h : Heap) (L : List Loc) : Prop := v = some (.int u12) ∧ Fr n0 L ∧ HP n0 h [o0, AC k1 [.long u0, .long u1, .long u2, .long u3], AC k2 [.int u4, .int u5, .int u6, .int u7], AC k3 [.int u8, .int u9, .int u10], AC k4 [.int u11, .int u12, .int u13], AC k5 [.int u14, .int u15, .int u16], AC k6 [.long u17, .long u18, .long u19]]
theorem ef_rm8_8 (m : MethodId) (n0 : Nat) (u0 : Int64) (u1 : Int64) (u2 : Int64) (u3 : Int64) (u4 : Int32) (u5 : Int32) (u6 : Int32) (u7 : Int32) (u8 : Int32) (u9 : Int32) (u10 : Int32) (u11 : Int32) (u12 : Int32) (u13 : Int32) (u14 : Int32) (u15 : Int32) (u16 : Int32) (u17 : Int64) (u18 : Int64) (u19 : Int64) : entryFrame m #[.ref (n0 + 0), .int (1 : Int32)] 2 = mkF m 0 #[.val (.ref (n0 + 0)), .val (.int (1 : Int32))] [] := by first | (simp [entryFrame, mkF, argsToLocals, Value.category]; done) | rfl
set_option maxRecDepth 65536 in
set_option maxHeartbeats 40000000 in
theorem rm8_8 (l : Launch) (Z : State) (a0 : Array Value) (hw : ∀ d ∈ tables_1, d.before a0 Z = true) (ws : List Jvm.Cond) (n0 : Nat) (o0 : Jvm.Cell) (Fo0 : ObjF Z o0 "com/example/bidcrier/bidcrier/teams/Blackboard" fl_C0 [.ref (n0 + 1), .ref (n0 + 2), .ref (n0 + 3), .ref (n0 + 4), .ref (n0 + 5), .ref (n0 + 6), .int (3 : Int32), .int (2 : Int32), .long (2 : Int64)]) (k1 : ClassId) (hk1 : IsA Z k1 .long) (u0 : Int64) (u1 : Int64) (u2 : Int64) (u3 : Int64) (k2 : ClassId) (hk2 : IsA Z k2 .int) (u4 : Int32) (u5 : Int32) (u6 : Int32) (u7 : Int32) (k3 : ClassId) (hk3 : IsA Z k3 .int) (u8 : Int32) (u9 : Int32) (u10 : Int32) (k4 : ClassId) (hk4 : IsA Z k4 .int) (u11 : Int32) (u12 : Int32) (u13 : Int32) (k5 : ClassId) (hk5 : IsA Z k5 .int) (u14 : Int32) (u15 : Int32) (u16 : Int32) (k6 : ClassId) (hk6 : IsA Z k6 .long) (u17 : Int64) (u18 : Int64) (u19 : Int64) (h0 : Heap) (P0 : HP n0 h0 [o0, AC k1 [.long u0, .long u1, .long u2, .long u3], AC k2 [.int u4, .int u5, .int u6, .int u7], AC k3 [.int u8, .int u9, .int u10], AC k4 [.int u11, .int u12, .int u13], AC k5 [.int u14, .int u15, .int u16], AC k6 [.long u17, .long u18, .long u19]]) :
    MetFree l (⟨"com/example/bidcrier/bidcrier/teams/Blackboard", "bidRow", "(I)I"⟩ : MethodName) (head1 (Jvm.Cond.code (⟨"com/example/bidcrier/bidcrier/teams/Blackboard", "bidRow", "(I)I"⟩ : MethodName) prog_51_method_11_code 2 (some .int) :: ws) ({ frames := 0, cells := 0, slots := 0, locals := 0 } : Room)) (fun a U => a = #[.ref (n0 + 0), .int (1 : Int32)] ∧ Z.Warmed39 U.vm ∧ U.heap = h0) (fun _ _ _ _ _ => True) (fun _ U o U' => ∃ v L, o = .returned v ∧ Q_rm8_8 Z n0 o0 k1 u0 u1 u2 u3 k2 u4 u5 u6 u7 k3 u8 u9 u10 k4 u11 u12 u13 k5 u14 u15 u16 k6 u17 u18 u19 v U'.heap L ∧ FrameEnd U o U' L ({ frames := 0, cells := 0, slots := 0, locals := 0 } : Room).cells ({ frames := 0, cells := 0, slots := 0, locals := 0 } : Room).slots) := by
  refine own_body pn8 ?_
  intro p e s m below meth c T0 hx hby hml hret hlk hown hnm hZ X0 e0
  subst e0
  have N0 : Fr n0 [] := Fr.nil n0
  refine own_cast (ef_rm8_8 m n0 u0 u1 u2 u3 u4 u5 u6 u7 u8 u9 u10 u11 u12 u13 u14 u15 u16 u17 u18 u19) ?_
  refine w_aloadN X0 hx (hb hby d8_0) rfl rfl (pc' := 1) rfl ?_
  refine w_getf (i := 0) (v := .ref (n0 + 4)) X0 hx hZ hown (wd18 hw) P0 rfl Fo0 3 rfl rfl (hb hby d8_1) (pc' := 4) rfl ?_
  intro T1 X1 P1
  refine w_iloadN X1 hx (hb hby d8_4) rfl (pc' := 5) rfl ?_
  refine w_iaload (i := 4) (jn := 1) (v := .int u12) X1 hx hZ P1 rfl hk4 (hb hby d8_5) (by decide) rfl (pc' := 6) rfl ?_
  exact w_ret_i X1 hx hret hlk (hb hby d8_6) (by decide) (by decide) ⟨rfl, N0, P1⟩
theorem d9_0 : decode prog_51_method_12_code 0 = .ok (.aload_n 0, 1) := by decide +kernel
theorem d9_1 : decode prog_51_method_12_code 1 = .ok (.getfield 23, 3) := by decide +kernel
theorem d9_4 : decode prog_51_method_12_code 4 = .ok (.iload_n 1, 1) := by decide +kernel
theorem d9_5 : decode prog_51_method_12_code 5 = .ok (.iaload, 1) := by decide +kernel
theorem d9_6 : decode prog_51_method_12_code 6 = .ok (.ireturn, 1) := by decide +kernel
theorem pn9 : plainFor (⟨"com/example/bidcrier/bidcrier/teams/Blackboard", "bidColumn", "(I)I"⟩ : MethodName) = true := plainFor_of_name (by first | (simp [plainName, overriddenIn]; done) | decide +kernel)
theorem pd9 : parseMethodDescriptor (⟨"com/example/bidcrier/bidcrier/teams/Blackboard", "bidColumn", "(I)I"⟩ : MethodName).desc = some ⟨[.int], some .int⟩ := by decide +kernel
def Q_rm9_9 (Z : State) (n0 : Nat) (o0 : Jvm.Cell) (k1 : ClassId) (u0 : Int64) (u1 : Int64) (u2 : Int64) (u3 : Int64) (k2 : ClassId) (u4 : Int32) (u5 : Int32) (u6 : Int32) (u7 : Int32) (k3 : ClassId) (u8 : Int32) (u9 : Int32) (u10 : Int32) (k4 : ClassId) (u11 : Int32) (u12 : Int32) (u13 : Int32) (k5 : ClassId) (u14 : Int32) (u15 : Int32) (u16 : Int32) (k6 : ClassId) (u17 : Int64) (u18 : Int64) (u19 : Int64) (v : Option Value) (h : Heap) (L : List Loc) : Prop := v = some (.int u15) ∧ Fr n0 L ∧ HP n0 h [o0, AC k1 [.long u0, .long u1, .long u2, .long u3], AC k2 [.int u4, .int u5, .int u6, .int u7], AC k3 [.int u8, .int u9, .int u10], AC k4 [.int u11, .int u12, .int u13], AC k5 [.int u14, .int u15, .int u16], AC k6 [.long u17, .long u18, .long u19]]
theorem ef_rm9_9 (m : MethodId) (n0 : Nat) (u0 : Int64) (u1 : Int64) (u2 : Int64) (u3 : Int64) (u4 : Int32) (u5 : Int32) (u6 : Int32) (u7 : Int32) (u8 : Int32) (u9 : Int32) (u10 : Int32) (u11 : Int32) (u12 : Int32) (u13 : Int32) (u14 : Int32) (u15 : Int32) (u16 : Int32) (u17 : Int64) (u18 : Int64) (u19 : Int64) : entryFrame m #[.ref (n0 + 0), .int (1 : Int32)] 2 = mkF m 0 #[.val (.ref (n0 + 0)), .val (.int (1 : Int32))] [] := by first | (simp [entryFrame, mkF, argsToLocals, Value.category]; done) | rfl
set_option maxRecDepth 65536 in
set_option maxHeartbeats 40000000 in
theorem rm9_9 (l : Launch) (Z : State) (a0 : Array Value) (hw : ∀ d ∈ tables_1, d.before a0 Z = true) (ws : List Jvm.Cond) (n0 : Nat) (o0 : Jvm.Cell) (Fo0 : ObjF Z o0 "com/example/bidcrier/bidcrier/teams/Blackboard" fl_C0 [.ref (n0 + 1), .ref (n0 + 2), .ref (n0 + 3), .ref (n0 + 4), .ref (n0 + 5), .ref (n0 + 6), .int (3 : Int32), .int (2 : Int32), .long (2 : Int64)]) (k1 : ClassId) (hk1 : IsA Z k1 .long) (u0 : Int64) (u1 : Int64) (u2 : Int64) (u3 : Int64) (k2 : ClassId) (hk2 : IsA Z k2 .int) (u4 : Int32) (u5 : Int32) (u6 : Int32) (u7 : Int32) (k3 : ClassId) (hk3 : IsA Z k3 .int) (u8 : Int32) (u9 : Int32) (u10 : Int32) (k4 : ClassId) (hk4 : IsA Z k4 .int) (u11 : Int32) (u12 : Int32) (u13 : Int32) (k5 : ClassId) (hk5 : IsA Z k5 .int) (u14 : Int32) (u15 : Int32) (u16 : Int32) (k6 : ClassId) (hk6 : IsA Z k6 .long) (u17 : Int64) (u18 : Int64) (u19 : Int64) (h0 : Heap) (P0 : HP n0 h0 [o0, AC k1 [.long u0, .long u1, .long u2, .long u3], AC k2 [.int u4, .int u5, .int u6, .int u7], AC k3 [.int u8, .int u9, .int u10], AC k4 [.int u11, .int u12, .int u13], AC k5 [.int u14, .int u15, .int u16], AC k6 [.long u17, .long u18, .long u19]]) :
    MetFree l (⟨"com/example/bidcrier/bidcrier/teams/Blackboard", "bidColumn", "(I)I"⟩ : MethodName) (head1 (Jvm.Cond.code (⟨"com/example/bidcrier/bidcrier/teams/Blackboard", "bidColumn", "(I)I"⟩ : MethodName) prog_51_method_12_code 2 (some .int) :: ws) ({ frames := 0, cells := 0, slots := 0, locals := 0 } : Room)) (fun a U => a = #[.ref (n0 + 0), .int (1 : Int32)] ∧ Z.Warmed39 U.vm ∧ U.heap = h0) (fun _ _ _ _ _ => True) (fun _ U o U' => ∃ v L, o = .returned v ∧ Q_rm9_9 Z n0 o0 k1 u0 u1 u2 u3 k2 u4 u5 u6 u7 k3 u8 u9 u10 k4 u11 u12 u13 k5 u14 u15 u16 k6 u17 u18 u19 v U'.heap L ∧ FrameEnd U o U' L ({ frames := 0, cells := 0, slots := 0, locals := 0 } : Room).cells ({ frames := 0, cells := 0, slots := 0, locals := 0 } : Room).slots) := by
  refine own_body pn9 ?_
  intro p e s m below meth c T0 hx hby hml hret hlk hown hnm hZ X0 e0
  subst e0
  have N0 : Fr n0 [] := Fr.nil n0
  refine own_cast (ef_rm9_9 m n0 u0 u1 u2 u3 u4 u5 u6 u7 u8 u9 u10 u11 u12 u13 u14 u15 u16 u17 u18 u19) ?_
  refine w_aloadN X0 hx (hb hby d9_0) rfl rfl (pc' := 1) rfl ?_
  refine w_getf (i := 0) (v := .ref (n0 + 5)) X0 hx hZ hown (wd20 hw) P0 rfl Fo0 4 rfl rfl (hb hby d9_1) (pc' := 4) rfl ?_
  intro T1 X1 P1
  refine w_iloadN X1 hx (hb hby d9_4) rfl (pc' := 5) rfl ?_
  refine w_iaload (i := 5) (jn := 1) (v := .int u15) X1 hx hZ P1 rfl hk5 (hb hby d9_5) (by decide) rfl (pc' := 6) rfl ?_
  exact w_ret_i X1 hx hret hlk (hb hby d9_6) (by decide) (by decide) ⟨rfl, N0, P1⟩
theorem d10_0 : decode prog_51_method_13_code 0 = .ok (.aload_n 0, 1) := by decide +kernel
theorem d10_1 : decode prog_51_method_13_code 1 = .ok (.getfield 26, 3) := by decide +kernel
theorem d10_4 : decode prog_51_method_13_code 4 = .ok (.iload_n 1, 1) := by decide +kernel
theorem d10_5 : decode prog_51_method_13_code 5 = .ok (.laload, 1) := by decide +kernel
theorem d10_6 : decode prog_51_method_13_code 6 = .ok (.lreturn, 1) := by decide +kernel
theorem pn10 : plainFor (⟨"com/example/bidcrier/bidcrier/teams/Blackboard", "bidPrice", "(I)J"⟩ : MethodName) = true := plainFor_of_name (by first | (simp [plainName, overriddenIn]; done) | decide +kernel)
theorem pd10 : parseMethodDescriptor (⟨"com/example/bidcrier/bidcrier/teams/Blackboard", "bidPrice", "(I)J"⟩ : MethodName).desc = some ⟨[.int], some .long⟩ := by decide +kernel
def Q_rm10_10 (Z : State) (n0 : Nat) (o0 : Jvm.Cell) (k1 : ClassId) (u0 : Int64) (u1 : Int64) (u2 : Int64) (u3 : Int64) (k2 : ClassId) (u4 : Int32) (u5 : Int32) (u6 : Int32) (u7 : Int32) (k3 : ClassId) (u8 : Int32) (u9 : Int32) (u10 : Int32) (k4 : ClassId) (u11 : Int32) (u12 : Int32) (u13 : Int32) (k5 : ClassId) (u14 : Int32) (u15 : Int32) (u16 : Int32) (k6 : ClassId) (u17 : Int64) (u18 : Int64) (u19 : Int64) (v : Option Value) (h : Heap) (L : List Loc) : Prop := v = some (.long u18) ∧ Fr n0 L ∧ HP n0 h [o0, AC k1 [.long u0, .long u1, .long u2, .long u3], AC k2 [.int u4, .int u5, .int u6, .int u7], AC k3 [.int u8, .int u9, .int u10], AC k4 [.int u11, .int u12, .int u13], AC k5 [.int u14, .int u15, .int u16], AC k6 [.long u17, .long u18, .long u19]]
theorem ef_rm10_10 (m : MethodId) (n0 : Nat) (u0 : Int64) (u1 : Int64) (u2 : Int64) (u3 : Int64) (u4 : Int32) (u5 : Int32) (u6 : Int32) (u7 : Int32) (u8 : Int32) (u9 : Int32) (u10 : Int32) (u11 : Int32) (u12 : Int32) (u13 : Int32) (u14 : Int32) (u15 : Int32) (u16 : Int32) (u17 : Int64) (u18 : Int64) (u19 : Int64) : entryFrame m #[.ref (n0 + 0), .int (1 : Int32)] 2 = mkF m 0 #[.val (.ref (n0 + 0)), .val (.int (1 : Int32))] [] := by first | (simp [entryFrame, mkF, argsToLocals, Value.category]; done) | rfl
set_option maxRecDepth 65536 in
set_option maxHeartbeats 40000000 in
theorem rm10_10 (l : Launch) (Z : State) (a0 : Array Value) (hw : ∀ d ∈ tables_1, d.before a0 Z = true) (ws : List Jvm.Cond) (n0 : Nat) (o0 : Jvm.Cell) (Fo0 : ObjF Z o0 "com/example/bidcrier/bidcrier/teams/Blackboard" fl_C0 [.ref (n0 + 1), .ref (n0 + 2), .ref (n0 + 3), .ref (n0 + 4), .ref (n0 + 5), .ref (n0 + 6), .int (3 : Int32), .int (2 : Int32), .long (2 : Int64)]) (k1 : ClassId) (hk1 : IsA Z k1 .long) (u0 : Int64) (u1 : Int64) (u2 : Int64) (u3 : Int64) (k2 : ClassId) (hk2 : IsA Z k2 .int) (u4 : Int32) (u5 : Int32) (u6 : Int32) (u7 : Int32) (k3 : ClassId) (hk3 : IsA Z k3 .int) (u8 : Int32) (u9 : Int32) (u10 : Int32) (k4 : ClassId) (hk4 : IsA Z k4 .int) (u11 : Int32) (u12 : Int32) (u13 : Int32) (k5 : ClassId) (hk5 : IsA Z k5 .int) (u14 : Int32) (u15 : Int32) (u16 : Int32) (k6 : ClassId) (hk6 : IsA Z k6 .long) (u17 : Int64) (u18 : Int64) (u19 : Int64) (h0 : Heap) (P0 : HP n0 h0 [o0, AC k1 [.long u0, .long u1, .long u2, .long u3], AC k2 [.int u4, .int u5, .int u6, .int u7], AC k3 [.int u8, .int u9, .int u10], AC k4 [.int u11, .int u12, .int u13], AC k5 [.int u14, .int u15, .int u16], AC k6 [.long u17, .long u18, .long u19]]) :
    MetFree l (⟨"com/example/bidcrier/bidcrier/teams/Blackboard", "bidPrice", "(I)J"⟩ : MethodName) (head1 (Jvm.Cond.code (⟨"com/example/bidcrier/bidcrier/teams/Blackboard", "bidPrice", "(I)J"⟩ : MethodName) prog_51_method_13_code 2 (some .long) :: ws) ({ frames := 0, cells := 0, slots := 0, locals := 0 } : Room)) (fun a U => a = #[.ref (n0 + 0), .int (1 : Int32)] ∧ Z.Warmed39 U.vm ∧ U.heap = h0) (fun _ _ _ _ _ => True) (fun _ U o U' => ∃ v L, o = .returned v ∧ Q_rm10_10 Z n0 o0 k1 u0 u1 u2 u3 k2 u4 u5 u6 u7 k3 u8 u9 u10 k4 u11 u12 u13 k5 u14 u15 u16 k6 u17 u18 u19 v U'.heap L ∧ FrameEnd U o U' L ({ frames := 0, cells := 0, slots := 0, locals := 0 } : Room).cells ({ frames := 0, cells := 0, slots := 0, locals := 0 } : Room).slots) := by
  refine own_body pn10 ?_
  intro p e s m below meth c T0 hx hby hml hret hlk hown hnm hZ X0 e0
  subst e0
  have N0 : Fr n0 [] := Fr.nil n0
  refine own_cast (ef_rm10_10 m n0 u0 u1 u2 u3 u4 u5 u6 u7 u8 u9 u10 u11 u12 u13 u14 u15 u16 u17 u18 u19) ?_
  refine w_aloadN X0 hx (hb hby d10_0) rfl rfl (pc' := 1) rfl ?_
  refine w_getf (i := 0) (v := .ref (n0 + 6)) X0 hx hZ hown (wd22 hw) P0 rfl Fo0 5 rfl rfl (hb hby d10_1) (pc' := 4) rfl ?_
  intro T1 X1 P1
  refine w_iloadN X1 hx (hb hby d10_4) rfl (pc' := 5) rfl ?_
  refine w_laload (i := 6) (jn := 1) (v := .long u18) X1 hx hZ P1 rfl hk6 (hb hby d10_5) (by decide) rfl (pc' := 6) rfl ?_
  exact w_ret_l X1 hx hret hlk (hb hby d10_6) (by decide) (by decide) ⟨rfl, N0, P1⟩
def Q_rm6_11 (Z : State) (n0 : Nat) (o0 : Jvm.Cell) (k1 : ClassId) (u0 : Int64) (u1 : Int64) (u2 : Int64) (u3 : Int64) (k2 : ClassId) (u4 : Int32) (u5 : Int32) (u6 : Int32) (u7 : Int32) (k3 : ClassId) (u8 : Int32) (u9 : Int32) (u10 : Int32) (k4 : ClassId) (u11 : Int32) (u12 : Int32) (u13 : Int32) (k5 : ClassId) (u14 : Int32) (u15 : Int32) (u16 : Int32) (k6 : ClassId) (u17 : Int64) (u18 : Int64) (u19 : Int64) (v : Option Value) (h : Heap) (L : List Loc) : Prop := v = some (.long (2 : Int64)) ∧ Fr n0 L ∧ HP n0 h [o0, AC k1 [.long u0, .long u1, .long u2, .long u3], AC k2 [.int u4, .int u5, .int u6, .int u7], AC k3 [.int u8, .int u9, .int u10], AC k4 [.int u11, .int u12, .int u13], AC k5 [.int u14, .int u15, .int u16], AC k6 [.long u17, .long u18, .long u19]]
theorem ef_rm6_11 (m : MethodId) (n0 : Nat) (u0 : Int64) (u1 : Int64) (u2 : Int64) (u3 : Int64) (u4 : Int32) (u5 : Int32) (u6 : Int32) (u7 : Int32) (u8 : Int32) (u9 : Int32) (u10 : Int32) (u11 : Int32) (u12 : Int32) (u13 : Int32) (u14 : Int32) (u15 : Int32) (u16 : Int32) (u17 : Int64) (u18 : Int64) (u19 : Int64) : entryFrame m #[.ref (n0 + 0)] 1 = mkF m 0 #[.val (.ref (n0 + 0))] [] := by first | (simp [entryFrame, mkF, argsToLocals, Value.category]; done) | rfl
set_option maxRecDepth 65536 in
set_option maxHeartbeats 40000000 in
theorem rm6_11 (l : Launch) (Z : State) (a0 : Array Value) (hw : ∀ d ∈ tables_1, d.before a0 Z = true) (ws : List Jvm.Cond) (n0 : Nat) (o0 : Jvm.Cell) (Fo0 : ObjF Z o0 "com/example/bidcrier/bidcrier/teams/Blackboard" fl_C0 [.ref (n0 + 1), .ref (n0 + 2), .ref (n0 + 3), .ref (n0 + 4), .ref (n0 + 5), .ref (n0 + 6), .int (3 : Int32), .int (2 : Int32), .long (2 : Int64)]) (k1 : ClassId) (hk1 : IsA Z k1 .long) (u0 : Int64) (u1 : Int64) (u2 : Int64) (u3 : Int64) (k2 : ClassId) (hk2 : IsA Z k2 .int) (u4 : Int32) (u5 : Int32) (u6 : Int32) (u7 : Int32) (k3 : ClassId) (hk3 : IsA Z k3 .int) (u8 : Int32) (u9 : Int32) (u10 : Int32) (k4 : ClassId) (hk4 : IsA Z k4 .int) (u11 : Int32) (u12 : Int32) (u13 : Int32) (k5 : ClassId) (hk5 : IsA Z k5 .int) (u14 : Int32) (u15 : Int32) (u16 : Int32) (k6 : ClassId) (hk6 : IsA Z k6 .long) (u17 : Int64) (u18 : Int64) (u19 : Int64) (h0 : Heap) (P0 : HP n0 h0 [o0, AC k1 [.long u0, .long u1, .long u2, .long u3], AC k2 [.int u4, .int u5, .int u6, .int u7], AC k3 [.int u8, .int u9, .int u10], AC k4 [.int u11, .int u12, .int u13], AC k5 [.int u14, .int u15, .int u16], AC k6 [.long u17, .long u18, .long u19]]) :
    MetFree l (⟨"com/example/bidcrier/bidcrier/teams/Blackboard", "posts", "()J"⟩ : MethodName) (head1 (Jvm.Cond.code (⟨"com/example/bidcrier/bidcrier/teams/Blackboard", "posts", "()J"⟩ : MethodName) prog_51_method_8_code 1 (some .long) :: ws) ({ frames := 0, cells := 0, slots := 0, locals := 0 } : Room)) (fun a U => a = #[.ref (n0 + 0)] ∧ Z.Warmed39 U.vm ∧ U.heap = h0) (fun _ _ _ _ _ => True) (fun _ U o U' => ∃ v L, o = .returned v ∧ Q_rm6_11 Z n0 o0 k1 u0 u1 u2 u3 k2 u4 u5 u6 u7 k3 u8 u9 u10 k4 u11 u12 u13 k5 u14 u15 u16 k6 u17 u18 u19 v U'.heap L ∧ FrameEnd U o U' L ({ frames := 0, cells := 0, slots := 0, locals := 0 } : Room).cells ({ frames := 0, cells := 0, slots := 0, locals := 0 } : Room).slots) := by
  refine own_body pn6 ?_
  intro p e s m below meth c T0 hx hby hml hret hlk hown hnm hZ X0 e0
  subst e0
  have N0 : Fr n0 [] := Fr.nil n0
  refine own_cast (ef_rm6_11 m n0 u0 u1 u2 u3 u4 u5 u6 u7 u8 u9 u10 u11 u12 u13 u14 u15 u16 u17 u18 u19) ?_
  refine w_aloadN X0 hx (hb hby d6_0) rfl rfl (pc' := 1) rfl ?_
  refine w_getf (i := 0) (v := .long (2 : Int64)) X0 hx hZ hown (wd37 hw) P0 rfl Fo0 8 rfl rfl (hb hby d6_1) (pc' := 4) rfl ?_
  intro T1 X1 P1
  exact w_ret_l X1 hx hret hlk (hb hby d6_4) (by decide) (by decide) ⟨rfl, N0, P1⟩
def Q_rm8_12 (Z : State) (n0 : Nat) (o0 : Jvm.Cell) (k1 : ClassId) (u0 : Int64) (u1 : Int64) (u2 : Int64) (u3 : Int64) (k2 : ClassId) (u4 : Int32) (u5 : Int32) (u6 : Int32) (u7 : Int32) (k3 : ClassId) (u8 : Int32) (u9 : Int32) (u10 : Int32) (k4 : ClassId) (u11 : Int32) (u12 : Int32) (u13 : Int32) (k5 : ClassId) (u14 : Int32) (u15 : Int32) (u16 : Int32) (k6 : ClassId) (u17 : Int64) (u18 : Int64) (u19 : Int64) (v : Option Value) (h : Heap) (L : List Loc) : Prop := v = some (.int u11) ∧ Fr n0 L ∧ HP n0 h [o0, AC k1 [.long u0, .long u1, .long u2, .long u3], AC k2 [.int u4, .int u5, .int u6, .int u7], AC k3 [.int u8, .int u9, .int u10], AC k4 [.int u11, .int u12, .int u13], AC k5 [.int u14, .int u15, .int u16], AC k6 [.long u17, .long u18, .long u19]]
theorem ef_rm8_12 (m : MethodId) (n0 : Nat) (u0 : Int64) (u1 : Int64) (u2 : Int64) (u3 : Int64) (u4 : Int32) (u5 : Int32) (u6 : Int32) (u7 : Int32) (u8 : Int32) (u9 : Int32) (u10 : Int32) (u11 : Int32) (u12 : Int32) (u13 : Int32) (u14 : Int32) (u15 : Int32) (u16 : Int32) (u17 : Int64) (u18 : Int64) (u19 : Int64) : entryFrame m #[.ref (n0 + 0), .int (0 : Int32)] 2 = mkF m 0 #[.val (.ref (n0 + 0)), .val (.int (0 : Int32))] [] := by first | (simp [entryFrame, mkF, argsToLocals, Value.category]; done) | rfl
set_option maxRecDepth 65536 in
set_option maxHeartbeats 40000000 in
theorem rm8_12 (l : Launch) (Z : State) (a0 : Array Value) (hw : ∀ d ∈ tables_1, d.before a0 Z = true) (ws : List Jvm.Cond) (n0 : Nat) (o0 : Jvm.Cell) (Fo0 : ObjF Z o0 "com/example/bidcrier/bidcrier/teams/Blackboard" fl_C0 [.ref (n0 + 1), .ref (n0 + 2), .ref (n0 + 3), .ref (n0 + 4), .ref (n0 + 5), .ref (n0 + 6), .int (3 : Int32), .int (2 : Int32), .long (2 : Int64)]) (k1 : ClassId) (hk1 : IsA Z k1 .long) (u0 : Int64) (u1 : Int64) (u2 : Int64) (u3 : Int64) (k2 : ClassId) (hk2 : IsA Z k2 .int) (u4 : Int32) (u5 : Int32) (u6 : Int32) (u7 : Int32) (k3 : ClassId) (hk3 : IsA Z k3 .int) (u8 : Int32) (u9 : Int32) (u10 : Int32) (k4 : ClassId) (hk4 : IsA Z k4 .int) (u11 : Int32) (u12 : Int32) (u13 : Int32) (k5 : ClassId) (hk5 : IsA Z k5 .int) (u14 : Int32) (u15 : Int32) (u16 : Int32) (k6 : ClassId) (hk6 : IsA Z k6 .long) (u17 : Int64) (u18 : Int64) (u19 : Int64) (h0 : Heap) (P0 : HP n0 h0 [o0, AC k1 [.long u0, .long u1, .long u2, .long u3], AC k2 [.int u4, .int u5, .int u6, .int u7], AC k3 [.int u8, .int u9, .int u10], AC k4 [.int u11, .int u12, .int u13], AC k5 [.int u14, .int u15, .int u16], AC k6 [.long u17, .long u18, .long u19]]) :
    MetFree l (⟨"com/example/bidcrier/bidcrier/teams/Blackboard", "bidRow", "(I)I"⟩ : MethodName) (head1 (Jvm.Cond.code (⟨"com/example/bidcrier/bidcrier/teams/Blackboard", "bidRow", "(I)I"⟩ : MethodName) prog_51_method_11_code 2 (some .int) :: ws) ({ frames := 0, cells := 0, slots := 0, locals := 0 } : Room)) (fun a U => a = #[.ref (n0 + 0), .int (0 : Int32)] ∧ Z.Warmed39 U.vm ∧ U.heap = h0) (fun _ _ _ _ _ => True) (fun _ U o U' => ∃ v L, o = .returned v ∧ Q_rm8_12 Z n0 o0 k1 u0 u1 u2 u3 k2 u4 u5 u6 u7 k3 u8 u9 u10 k4 u11 u12 u13 k5 u14 u15 u16 k6 u17 u18 u19 v U'.heap L ∧ FrameEnd U o U' L ({ frames := 0, cells := 0, slots := 0, locals := 0 } : Room).cells ({ frames := 0, cells := 0, slots := 0, locals := 0 } : Room).slots) := by
  refine own_body pn8 ?_
  intro p e s m below meth c T0 hx hby hml hret hlk hown hnm hZ X0 e0
  subst e0
  have N0 : Fr n0 [] := Fr.nil n0
  refine own_cast (ef_rm8_12 m n0 u0 u1 u2 u3 u4 u5 u6 u7 u8 u9 u10 u11 u12 u13 u14 u15 u16 u17 u18 u19) ?_
  refine w_aloadN X0 hx (hb hby d8_0) rfl rfl (pc' := 1) rfl ?_
  refine w_getf (i := 0) (v := .ref (n0 + 4)) X0 hx hZ hown (wd18 hw) P0 rfl Fo0 3 rfl rfl (hb hby d8_1) (pc' := 4) rfl ?_
  intro T1 X1 P1
  refine w_iloadN X1 hx (hb hby d8_4) rfl (pc' := 5) rfl ?_
  refine w_iaload (i := 4) (jn := 0) (v := .int u11) X1 hx hZ P1 rfl hk4 (hb hby d8_5) (by decide) rfl (pc' := 6) rfl ?_
  exact w_ret_i X1 hx hret hlk (hb hby d8_6) (by decide) (by decide) ⟨rfl, N0, P1⟩
def Q_rm9_13 (Z : State) (n0 : Nat) (o0 : Jvm.Cell) (k1 : ClassId) (u0 : Int64) (u1 : Int64) (u2 : Int64) (u3 : Int64) (k2 : ClassId) (u4 : Int32) (u5 : Int32) (u6 : Int32) (u7 : Int32) (k3 : ClassId) (u8 : Int32) (u9 : Int32) (u10 : Int32) (k4 : ClassId) (u11 : Int32) (u12 : Int32) (u13 : Int32) (k5 : ClassId) (u14 : Int32) (u15 : Int32) (u16 : Int32) (k6 : ClassId) (u17 : Int64) (u18 : Int64) (u19 : Int64) (v : Option Value) (h : Heap) (L : List Loc) : Prop := v = some (.int u14) ∧ Fr n0 L ∧ HP n0 h [o0, AC k1 [.long u0, .long u1, .long u2, .long u3], AC k2 [.int u4, .int u5, .int u6, .int u7], AC k3 [.int u8, .int u9, .int u10], AC k4 [.int u11, .int u12, .int u13], AC k5 [.int u14, .int u15, .int u16], AC k6 [.long u17, .long u18, .long u19]]
theorem ef_rm9_13 (m : MethodId) (n0 : Nat) (u0 : Int64) (u1 : Int64) (u2 : Int64) (u3 : Int64) (u4 : Int32) (u5 : Int32) (u6 : Int32) (u7 : Int32) (u8 : Int32) (u9 : Int32) (u10 : Int32) (u11 : Int32) (u12 : Int32) (u13 : Int32) (u14 : Int32) (u15 : Int32) (u16 : Int32) (u17 : Int64) (u18 : Int64) (u19 : Int64) : entryFrame m #[.ref (n0 + 0), .int (0 : Int32)] 2 = mkF m 0 #[.val (.ref (n0 + 0)), .val (.int (0 : Int32))] [] := by first | (simp [entryFrame, mkF, argsToLocals, Value.category]; done) | rfl
set_option maxRecDepth 65536 in
set_option maxHeartbeats 40000000 in
theorem rm9_13 (l : Launch) (Z : State) (a0 : Array Value) (hw : ∀ d ∈ tables_1, d.before a0 Z = true) (ws : List Jvm.Cond) (n0 : Nat) (o0 : Jvm.Cell) (Fo0 : ObjF Z o0 "com/example/bidcrier/bidcrier/teams/Blackboard" fl_C0 [.ref (n0 + 1), .ref (n0 + 2), .ref (n0 + 3), .ref (n0 + 4), .ref (n0 + 5), .ref (n0 + 6), .int (3 : Int32), .int (2 : Int32), .long (2 : Int64)]) (k1 : ClassId) (hk1 : IsA Z k1 .long) (u0 : Int64) (u1 : Int64) (u2 : Int64) (u3 : Int64) (k2 : ClassId) (hk2 : IsA Z k2 .int) (u4 : Int32) (u5 : Int32) (u6 : Int32) (u7 : Int32) (k3 : ClassId) (hk3 : IsA Z k3 .int) (u8 : Int32) (u9 : Int32) (u10 : Int32) (k4 : ClassId) (hk4 : IsA Z k4 .int) (u11 : Int32) (u12 : Int32) (u13 : Int32) (k5 : ClassId) (hk5 : IsA Z k5 .int) (u14 : Int32) (u15 : Int32) (u16 : Int32) (k6 : ClassId) (hk6 : IsA Z k6 .long) (u17 : Int64) (u18 : Int64) (u19 : Int64) (h0 : Heap) (P0 : HP n0 h0 [o0, AC k1 [.long u0, .long u1, .long u2, .long u3], AC k2 [.int u4, .int u5, .int u6, .int u7], AC k3 [.int u8, .int u9, .int u10], AC k4 [.int u11, .int u12, .int u13], AC k5 [.int u14, .int u15, .int u16], AC k6 [.long u17, .long u18, .long u19]]) :
    MetFree l (⟨"com/example/bidcrier/bidcrier/teams/Blackboard", "bidColumn", "(I)I"⟩ : MethodName) (head1 (Jvm.Cond.code (⟨"com/example/bidcrier/bidcrier/teams/Blackboard", "bidColumn", "(I)I"⟩ : MethodName) prog_51_method_12_code 2 (some .int) :: ws) ({ frames := 0, cells := 0, slots := 0, locals := 0 } : Room)) (fun a U => a = #[.ref (n0 + 0), .int (0 : Int32)] ∧ Z.Warmed39 U.vm ∧ U.heap = h0) (fun _ _ _ _ _ => True) (fun _ U o U' => ∃ v L, o = .returned v ∧ Q_rm9_13 Z n0 o0 k1 u0 u1 u2 u3 k2 u4 u5 u6 u7 k3 u8 u9 u10 k4 u11 u12 u13 k5 u14 u15 u16 k6 u17 u18 u19 v U'.heap L ∧ FrameEnd U o U' L ({ frames := 0, cells := 0, slots := 0, locals := 0 } : Room).cells ({ frames := 0, cells := 0, slots := 0, locals := 0 } : Room).slots) := by
  refine own_body pn9 ?_
  intro p e s m below meth c T0 hx hby hml hret hlk hown hnm hZ X0 e0
  subst e0
  have N0 : Fr n0 [] := Fr.nil n0
  refine own_cast (ef_rm9_13 m n0 u0 u1 u2 u3 u4 u5 u6 u7 u8 u9 u10 u11 u12 u13 u14 u15 u16 u17 u18 u19) ?_
  refine w_aloadN X0 hx (hb hby d9_0) rfl rfl (pc' := 1) rfl ?_
  refine w_getf (i := 0) (v := .ref (n0 + 5)) X0 hx hZ hown (wd20 hw) P0 rfl Fo0 4 rfl rfl (hb hby d9_1) (pc' := 4) rfl ?_
  intro T1 X1 P1
  refine w_iloadN X1 hx (hb hby d9_4) rfl (pc' := 5) rfl ?_
  refine w_iaload (i := 5) (jn := 0) (v := .int u14) X1 hx hZ P1 rfl hk5 (hb hby d9_5) (by decide) rfl (pc' := 6) rfl ?_
  exact w_ret_i X1 hx hret hlk (hb hby d9_6) (by decide) (by decide) ⟨rfl, N0, P1⟩
def Q_rm10_14 (Z : State) (n0 : Nat) (o0 : Jvm.Cell) (k1 : ClassId) (u0 : Int64) (u1 : Int64) (u2 : Int64) (u3 : Int64) (k2 : ClassId) (u4 : Int32) (u5 : Int32) (u6 : Int32) (u7 : Int32) (k3 : ClassId) (u8 : Int32) (u9 : Int32) (u10 : Int32) (k4 : ClassId) (u11 : Int32) (u12 : Int32) (u13 : Int32) (k5 : ClassId) (u14 : Int32) (u15 : Int32) (u16 : Int32) (k6 : ClassId) (u17 : Int64) (u18 : Int64) (u19 : Int64) (v : Option Value) (h : Heap) (L : List Loc) : Prop := v = some (.long u17) ∧ Fr n0 L ∧ HP n0 h [o0, AC k1 [.long u0, .long u1, .long u2, .long u3], AC k2 [.int u4, .int u5, .int u6, .int u7], AC k3 [.int u8, .int u9, .int u10], AC k4 [.int u11, .int u12, .int u13], AC k5 [.int u14, .int u15, .int u16], AC k6 [.long u17, .long u18, .long u19]]
theorem ef_rm10_14 (m : MethodId) (n0 : Nat) (u0 : Int64) (u1 : Int64) (u2 : Int64) (u3 : Int64) (u4 : Int32) (u5 : Int32) (u6 : Int32) (u7 : Int32) (u8 : Int32) (u9 : Int32) (u10 : Int32) (u11 : Int32) (u12 : Int32) (u13 : Int32) (u14 : Int32) (u15 : Int32) (u16 : Int32) (u17 : Int64) (u18 : Int64) (u19 : Int64) : entryFrame m #[.ref (n0 + 0), .int (0 : Int32)] 2 = mkF m 0 #[.val (.ref (n0 + 0)), .val (.int (0 : Int32))] [] := by first | (simp [entryFrame, mkF, argsToLocals, Value.category]; done) | rfl
set_option maxRecDepth 65536 in
set_option maxHeartbeats 40000000 in
theorem rm10_14 (l : Launch) (Z : State) (a0 : Array Value) (hw : ∀ d ∈ tables_1, d.before a0 Z = true) (ws : List Jvm.Cond) (n0 : Nat) (o0 : Jvm.Cell) (Fo0 : ObjF Z o0 "com/example/bidcrier/bidcrier/teams/Blackboard" fl_C0 [.ref (n0 + 1), .ref (n0 + 2), .ref (n0 + 3), .ref (n0 + 4), .ref (n0 + 5), .ref (n0 + 6), .int (3 : Int32), .int (2 : Int32), .long (2 : Int64)]) (k1 : ClassId) (hk1 : IsA Z k1 .long) (u0 : Int64) (u1 : Int64) (u2 : Int64) (u3 : Int64) (k2 : ClassId) (hk2 : IsA Z k2 .int) (u4 : Int32) (u5 : Int32) (u6 : Int32) (u7 : Int32) (k3 : ClassId) (hk3 : IsA Z k3 .int) (u8 : Int32) (u9 : Int32) (u10 : Int32) (k4 : ClassId) (hk4 : IsA Z k4 .int) (u11 : Int32) (u12 : Int32) (u13 : Int32) (k5 : ClassId) (hk5 : IsA Z k5 .int) (u14 : Int32) (u15 : Int32) (u16 : Int32) (k6 : ClassId) (hk6 : IsA Z k6 .long) (u17 : Int64) (u18 : Int64) (u19 : Int64) (h0 : Heap) (P0 : HP n0 h0 [o0, AC k1 [.long u0, .long u1, .long u2, .long u3], AC k2 [.int u4, .int u5, .int u6, .int u7], AC k3 [.int u8, .int u9, .int u10], AC k4 [.int u11, .int u12, .int u13], AC k5 [.int u14, .int u15, .int u16], AC k6 [.long u17, .long u18, .long u19]]) :
    MetFree l (⟨"com/example/bidcrier/bidcrier/teams/Blackboard", "bidPrice", "(I)J"⟩ : MethodName) (head1 (Jvm.Cond.code (⟨"com/example/bidcrier/bidcrier/teams/Blackboard", "bidPrice", "(I)J"⟩ : MethodName) prog_51_method_13_code 2 (some .long) :: ws) ({ frames := 0, cells := 0, slots := 0, locals := 0 } : Room)) (fun a U => a = #[.ref (n0 + 0), .int (0 : Int32)] ∧ Z.Warmed39 U.vm ∧ U.heap = h0) (fun _ _ _ _ _ => True) (fun _ U o U' => ∃ v L, o = .returned v ∧ Q_rm10_14 Z n0 o0 k1 u0 u1 u2 u3 k2 u4 u5 u6 u7 k3 u8 u9 u10 k4 u11 u12 u13 k5 u14 u15 u16 k6 u17 u18 u19 v U'.heap L ∧ FrameEnd U o U' L ({ frames := 0, cells := 0, slots := 0, locals := 0 } : Room).cells ({ frames := 0, cells := 0, slots := 0, locals := 0 } : Room).slots) := by
  refine own_body pn10 ?_
  intro p e s m below meth c T0 hx hby hml hret hlk hown hnm hZ X0 e0
  subst e0
  have N0 : Fr n0 [] := Fr.nil n0
  refine own_cast (ef_rm10_14 m n0 u0 u1 u2 u3 u4 u5 u6 u7 u8 u9 u10 u11 u12 u13 u14 u15 u16 u17 u18 u19) ?_
  refine w_aloadN X0 hx (hb hby d10_0) rfl rfl (pc' := 1) rfl ?_
  refine w_getf (i := 0) (v := .ref (n0 + 6)) X0 hx hZ hown (wd22 hw) P0 rfl Fo0 5 rfl rfl (hb hby d10_1) (pc' := 4) rfl ?_
  intro T1 X1 P1
  refine w_iloadN X1 hx (hb hby d10_4) rfl (pc' := 5) rfl ?_
  refine w_laload (i := 6) (jn := 0) (v := .long u17) X1 hx hZ P1 rfl hk6 (hb hby d10_5) (by decide) rfl (pc' := 6) rfl ?_
  exact w_ret_l X1 hx hret hlk (hb hby d10_6) (by decide) (by decide) ⟨rfl, N0, P1⟩
theorem d11_0 : decode prog_51_method_6_code 0 = .ok (.aload_n 0, 1) := by decide +kernel
theorem d11_1 : decode prog_51_method_6_code 1 = .ok (.getfield 35, 3) := by decide +kernel
theorem d11_4 : decode prog_51_method_6_code 4 = .ok (.ireturn, 1) := by decide +kernel
theorem pn11 : plainFor (⟨"com/example/bidcrier/bidcrier/teams/Blackboard", "unassigned", "()I"⟩ : MethodName) = true := plainFor_of_name (by first | (simp [plainName, overriddenIn]; done) | decide +kernel)
theorem pd11 : parseMethodDescriptor (⟨"com/example/bidcrier/bidcrier/teams/Blackboard", "unassigned", "()I"⟩ : MethodName).desc = some ⟨[], some .int⟩ := by decide +kernel
def Q_rm11_15 (Z : State) (n0 : Nat) (o0 : Jvm.Cell) (k1 : ClassId) (u0 : Int64) (u1 : Int64) (u2 : Int64) (u3 : Int64) (k2 : ClassId) (u4 : Int32) (u5 : Int32) (u6 : Int32) (u7 : Int32) (k3 : ClassId) (u8 : Int32) (u9 : Int32) (u10 : Int32) (k4 : ClassId) (u11 : Int32) (u12 : Int32) (u13 : Int32) (k5 : ClassId) (u14 : Int32) (u15 : Int32) (u16 : Int32) (k6 : ClassId) (u17 : Int64) (u18 : Int64) (u19 : Int64) (v : Option Value) (h : Heap) (L : List Loc) : Prop := v = some (.int (3 : Int32)) ∧ Fr n0 L ∧ HP n0 h [o0, AC k1 [.long u0, .long u1, .long u2, .long u3], AC k2 [.int u4, .int u5, .int u6, .int u7], AC k3 [.int u8, .int u9, .int u10], AC k4 [.int u11, .int u12, .int u13], AC k5 [.int u14, .int u15, .int u16], AC k6 [.long u17, .long u18, .long u19]]
theorem ef_rm11_15 (m : MethodId) (n0 : Nat) (u0 : Int64) (u1 : Int64) (u2 : Int64) (u3 : Int64) (u4 : Int32) (u5 : Int32) (u6 : Int32) (u7 : Int32) (u8 : Int32) (u9 : Int32) (u10 : Int32) (u11 : Int32) (u12 : Int32) (u13 : Int32) (u14 : Int32) (u15 : Int32) (u16 : Int32) (u17 : Int64) (u18 : Int64) (u19 : Int64) : entryFrame m #[.ref (n0 + 0)] 1 = mkF m 0 #[.val (.ref (n0 + 0))] [] := by first | (simp [entryFrame, mkF, argsToLocals, Value.category]; done) | rfl
set_option maxRecDepth 65536 in
set_option maxHeartbeats 40000000 in
theorem rm11_15 (l : Launch) (Z : State) (a0 : Array Value) (hw : ∀ d ∈ tables_1, d.before a0 Z = true) (ws : List Jvm.Cond) (n0 : Nat) (o0 : Jvm.Cell) (Fo0 : ObjF Z o0 "com/example/bidcrier/bidcrier/teams/Blackboard" fl_C0 [.ref (n0 + 1), .ref (n0 + 2), .ref (n0 + 3), .ref (n0 + 4), .ref (n0 + 5), .ref (n0 + 6), .int (3 : Int32), .int (2 : Int32), .long (2 : Int64)]) (k1 : ClassId) (hk1 : IsA Z k1 .long) (u0 : Int64) (u1 : Int64) (u2 : Int64) (u3 : Int64) (k2 : ClassId) (hk2 : IsA Z k2 .int) (u4 : Int32) (u5 : Int32) (u6 : Int32) (u7 : Int32) (k3 : ClassId) (hk3 : IsA Z k3 .int) (u8 : Int32) (u9 : Int32) (u10 : Int32) (k4 : ClassId) (hk4 : IsA Z k4 .int) (u11 : Int32) (u12 : Int32) (u13 : Int32) (k5 : ClassId) (hk5 : IsA Z k5 .int) (u14 : Int32) (u15 : Int32) (u16 : Int32) (k6 : ClassId) (hk6 : IsA Z k6 .long) (u17 : Int64) (u18 : Int64) (u19 : Int64) (h0 : Heap) (P0 : HP n0 h0 [o0, AC k1 [.long u0, .long u1, .long u2, .long u3], AC k2 [.int u4, .int u5, .int u6, .int u7], AC k3 [.int u8, .int u9, .int u10], AC k4 [.int u11, .int u12, .int u13], AC k5 [.int u14, .int u15, .int u16], AC k6 [.long u17, .long u18, .long u19]]) :
    MetFree l (⟨"com/example/bidcrier/bidcrier/teams/Blackboard", "unassigned", "()I"⟩ : MethodName) (head1 (Jvm.Cond.code (⟨"com/example/bidcrier/bidcrier/teams/Blackboard", "unassigned", "()I"⟩ : MethodName) prog_51_method_6_code 1 (some .int) :: ws) ({ frames := 0, cells := 0, slots := 0, locals := 0 } : Room)) (fun a U => a = #[.ref (n0 + 0)] ∧ Z.Warmed39 U.vm ∧ U.heap = h0) (fun _ _ _ _ _ => True) (fun _ U o U' => ∃ v L, o = .returned v ∧ Q_rm11_15 Z n0 o0 k1 u0 u1 u2 u3 k2 u4 u5 u6 u7 k3 u8 u9 u10 k4 u11 u12 u13 k5 u14 u15 u16 k6 u17 u18 u19 v U'.heap L ∧ FrameEnd U o U' L ({ frames := 0, cells := 0, slots := 0, locals := 0 } : Room).cells ({ frames := 0, cells := 0, slots := 0, locals := 0 } : Room).slots) := by
  refine own_body pn11 ?_
  intro p e s m below meth c T0 hx hby hml hret hlk hown hnm hZ X0 e0
  subst e0
  have N0 : Fr n0 [] := Fr.nil n0
  refine own_cast (ef_rm11_15 m n0 u0 u1 u2 u3 u4 u5 u6 u7 u8 u9 u10 u11 u12 u13 u14 u15 u16 u17 u18 u19) ?_
  refine w_aloadN X0 hx (hb hby d11_0) rfl rfl (pc' := 1) rfl ?_
  refine w_getf (i := 0) (v := .int (3 : Int32)) X0 hx hZ hown (wd28 hw) P0 rfl Fo0 6 rfl rfl (hb hby d11_1) (pc' := 4) rfl ?_
  intro T1 X1 P1
  exact w_ret_i X1 hx hret hlk (hb hby d11_4) (by decide) (by decide) ⟨rfl, N0, P1⟩
theorem d12_0 : decode prog_51_method_4_code 0 = .ok (.aload_n 0, 1) := by decide +kernel
theorem d12_1 : decode prog_51_method_4_code 1 = .ok (.getfield 7, 3) := by decide +kernel
theorem d12_4 : decode prog_51_method_4_code 4 = .ok (.iload_n 1, 1) := by decide +kernel
theorem d12_5 : decode prog_51_method_4_code 5 = .ok (.laload, 1) := by decide +kernel
theorem d12_6 : decode prog_51_method_4_code 6 = .ok (.lreturn, 1) := by decide +kernel
theorem pn12 : plainFor (⟨"com/example/bidcrier/bidcrier/teams/Blackboard", "price", "(I)J"⟩ : MethodName) = true := plainFor_of_name (by first | (simp [plainName, overriddenIn]; done) | decide +kernel)
theorem pd12 : parseMethodDescriptor (⟨"com/example/bidcrier/bidcrier/teams/Blackboard", "price", "(I)J"⟩ : MethodName).desc = some ⟨[.int], some .long⟩ := by decide +kernel
def Q_rm12_16 (Z : State) (n0 : Nat) (o0 : Jvm.Cell) (k1 : ClassId) (u0 : Int64) (u1 : Int64) (u2 : Int64) (u3 : Int64) (k2 : ClassId) (u4 : Int32) (u5 : Int32) (u6 : Int32) (u7 : Int32) (k3 : ClassId) (u8 : Int32) (u9 : Int32) (u10 : Int32) (k4 : ClassId) (u11 : Int32) (u12 : Int32) (u13 : Int32) (k5 : ClassId) (u14 : Int32) (u15 : Int32) (u16 : Int32) (k6 : ClassId) (u17 : Int64) (u18 : Int64) (u19 : Int64) (v : Option Value) (h : Heap) (L : List Loc) : Prop := v = some (.long u0) ∧ Fr n0 L ∧ HP n0 h [o0, AC k1 [.long u0, .long u1, .long u2, .long u3], AC k2 [.int u4, .int u5, .int u6, .int u7], AC k3 [.int u8, .int u9, .int u10], AC k4 [.int u11, .int u12, .int u13], AC k5 [.int u14, .int u15, .int u16], AC k6 [.long u17, .long u18, .long u19]]
theorem ef_rm12_16 (m : MethodId) (n0 : Nat) (u0 : Int64) (u1 : Int64) (u2 : Int64) (u3 : Int64) (u4 : Int32) (u5 : Int32) (u6 : Int32) (u7 : Int32) (u8 : Int32) (u9 : Int32) (u10 : Int32) (u11 : Int32) (u12 : Int32) (u13 : Int32) (u14 : Int32) (u15 : Int32) (u16 : Int32) (u17 : Int64) (u18 : Int64) (u19 : Int64) : entryFrame m #[.ref (n0 + 0), .int (0 : Int32)] 2 = mkF m 0 #[.val (.ref (n0 + 0)), .val (.int (0 : Int32))] [] := by first | (simp [entryFrame, mkF, argsToLocals, Value.category]; done) | rfl
set_option maxRecDepth 65536 in
set_option maxHeartbeats 40000000 in
theorem rm12_16 (l : Launch) (Z : State) (a0 : Array Value) (hw : ∀ d ∈ tables_1, d.before a0 Z = true) (ws : List Jvm.Cond) (n0 : Nat) (o0 : Jvm.Cell) (Fo0 : ObjF Z o0 "com/example/bidcrier/bidcrier/teams/Blackboard" fl_C0 [.ref (n0 + 1), .ref (n0 + 2), .ref (n0 + 3), .ref (n0 + 4), .ref (n0 + 5), .ref (n0 + 6), .int (3 : Int32), .int (2 : Int32), .long (2 : Int64)]) (k1 : ClassId) (hk1 : IsA Z k1 .long) (u0 : Int64) (u1 : Int64) (u2 : Int64) (u3 : Int64) (k2 : ClassId) (hk2 : IsA Z k2 .int) (u4 : Int32) (u5 : Int32) (u6 : Int32) (u7 : Int32) (k3 : ClassId) (hk3 : IsA Z k3 .int) (u8 : Int32) (u9 : Int32) (u10 : Int32) (k4 : ClassId) (hk4 : IsA Z k4 .int) (u11 : Int32) (u12 : Int32) (u13 : Int32) (k5 : ClassId) (hk5 : IsA Z k5 .int) (u14 : Int32) (u15 : Int32) (u16 : Int32) (k6 : ClassId) (hk6 : IsA Z k6 .long) (u17 : Int64) (u18 : Int64) (u19 : Int64) (h0 : Heap) (P0 : HP n0 h0 [o0, AC k1 [.long u0, .long u1, .long u2, .long u3], AC k2 [.int u4, .int u5, .int u6, .int u7], AC k3 [.int u8, .int u9, .int u10], AC k4 [.int u11, .int u12, .int u13], AC k5 [.int u14, .int u15, .int u16], AC k6 [.long u17, .long u18, .long u19]]) :
    MetFree l (⟨"com/example/bidcrier/bidcrier/teams/Blackboard", "price", "(I)J"⟩ : MethodName) (head1 (Jvm.Cond.code (⟨"com/example/bidcrier/bidcrier/teams/Blackboard", "price", "(I)J"⟩ : MethodName) prog_51_method_4_code 2 (some .long) :: ws) ({ frames := 0, cells := 0, slots := 0, locals := 0 } : Room)) (fun a U => a = #[.ref (n0 + 0), .int (0 : Int32)] ∧ Z.Warmed39 U.vm ∧ U.heap = h0) (fun _ _ _ _ _ => True) (fun _ U o U' => ∃ v L, o = .returned v ∧ Q_rm12_16 Z n0 o0 k1 u0 u1 u2 u3 k2 u4 u5 u6 u7 k3 u8 u9 u10 k4 u11 u12 u13 k5 u14 u15 u16 k6 u17 u18 u19 v U'.heap L ∧ FrameEnd U o U' L ({ frames := 0, cells := 0, slots := 0, locals := 0 } : Room).cells ({ frames := 0, cells := 0, slots := 0, locals := 0 } : Room).slots) := by
  refine own_body pn12 ?_
  intro p e s m below meth c T0 hx hby hml hret hlk hown hnm hZ X0 e0
  subst e0
  have N0 : Fr n0 [] := Fr.nil n0
  refine own_cast (ef_rm12_16 m n0 u0 u1 u2 u3 u4 u5 u6 u7 u8 u9 u10 u11 u12 u13 u14 u15 u16 u17 u18 u19) ?_
  refine w_aloadN X0 hx (hb hby d12_0) rfl rfl (pc' := 1) rfl ?_
  refine w_getf (i := 0) (v := .ref (n0 + 1)) X0 hx hZ hown (wd11 hw) P0 rfl Fo0 0 rfl rfl (hb hby d12_1) (pc' := 4) rfl ?_
  intro T1 X1 P1
  refine w_iloadN X1 hx (hb hby d12_4) rfl (pc' := 5) rfl ?_
  refine w_laload (i := 1) (jn := 0) (v := .long u0) X1 hx hZ P1 rfl hk1 (hb hby d12_5) (by decide) rfl (pc' := 6) rfl ?_
  exact w_ret_l X1 hx hret hlk (hb hby d12_6) (by decide) (by decide) ⟨rfl, N0, P1⟩
theorem d7_0 : decode prog_51_method_14_code 0 = .ok (.aload_n 0, 1) := by decide +kernel
theorem d7_1 : decode prog_51_method_14_code 1 = .ok (.iconst 0, 1) := by decide +kernel
theorem d7_2 : decode prog_51_method_14_code 2 = .ok (.putfield 46, 3) := by decide +kernel
theorem d7_5 : decode prog_51_method_14_code 5 = .ok (.return_, 1) := by decide +kernel
theorem pn7 : plainFor (⟨"com/example/bidcrier/bidcrier/teams/Blackboard", "openRound", "()V"⟩ : MethodName) = true := plainFor_of_name (by first | (simp [plainName, overriddenIn]; done) | decide +kernel)
theorem pd7 : parseMethodDescriptor (⟨"com/example/bidcrier/bidcrier/teams/Blackboard", "openRound", "()V"⟩ : MethodName).desc = some ⟨[], none⟩ := by decide +kernel
def Q_rm7_17 (Z : State) (n0 : Nat) (o0 : Jvm.Cell) (k1 : ClassId) (u0 : Int64) (u1 : Int64) (u2 : Int64) (u3 : Int64) (k2 : ClassId) (u4 : Int32) (u5 : Int32) (u6 : Int32) (u7 : Int32) (k3 : ClassId) (u8 : Int32) (u9 : Int32) (u10 : Int32) (k4 : ClassId) (u11 : Int32) (u12 : Int32) (u13 : Int32) (k5 : ClassId) (u14 : Int32) (u15 : Int32) (u16 : Int32) (k6 : ClassId) (u17 : Int64) (u18 : Int64) (u19 : Int64) (v : Option Value) (h : Heap) (L : List Loc) : Prop := v = none ∧ Fr n0 L ∧ ∃ c1 : Jvm.Cell, ObjF Z c1 "com/example/bidcrier/bidcrier/teams/Blackboard" fl_C0 [.ref (n0 + 1), .ref (n0 + 2), .ref (n0 + 3), .ref (n0 + 4), .ref (n0 + 5), .ref (n0 + 6), .int (3 : Int32), .int (0 : Int32), .long (1 : Int64)] ∧ HP n0 h [c1, AC k1 [.long u0, .long u1, .long u2, .long u3], AC k2 [.int u4, .int u5, .int u6, .int u7], AC k3 [.int u8, .int u9, .int u10], AC k4 [.int u11, .int u12, .int u13], AC k5 [.int u14, .int u15, .int u16], AC k6 [.long u17, .long u18, .long u19]]
theorem ef_rm7_17 (m : MethodId) (n0 : Nat) (u0 : Int64) (u1 : Int64) (u2 : Int64) (u3 : Int64) (u4 : Int32) (u5 : Int32) (u6 : Int32) (u7 : Int32) (u8 : Int32) (u9 : Int32) (u10 : Int32) (u11 : Int32) (u12 : Int32) (u13 : Int32) (u14 : Int32) (u15 : Int32) (u16 : Int32) (u17 : Int64) (u18 : Int64) (u19 : Int64) : entryFrame m #[.ref (n0 + 0)] 1 = mkF m 0 #[.val (.ref (n0 + 0))] [] := by first | (simp [entryFrame, mkF, argsToLocals, Value.category]; done) | rfl
set_option maxRecDepth 65536 in
set_option maxHeartbeats 40000000 in
theorem rm7_17 (l : Launch) (Z : State) (a0 : Array Value) (hw : ∀ d ∈ tables_1, d.before a0 Z = true) (ws : List Jvm.Cond) (n0 : Nat) (o0 : Jvm.Cell) (Fo0 : ObjF Z o0 "com/example/bidcrier/bidcrier/teams/Blackboard" fl_C0 [.ref (n0 + 1), .ref (n0 + 2), .ref (n0 + 3), .ref (n0 + 4), .ref (n0 + 5), .ref (n0 + 6), .int (3 : Int32), .int (1 : Int32), .long (1 : Int64)]) (k1 : ClassId) (hk1 : IsA Z k1 .long) (u0 : Int64) (u1 : Int64) (u2 : Int64) (u3 : Int64) (k2 : ClassId) (hk2 : IsA Z k2 .int) (u4 : Int32) (u5 : Int32) (u6 : Int32) (u7 : Int32) (k3 : ClassId) (hk3 : IsA Z k3 .int) (u8 : Int32) (u9 : Int32) (u10 : Int32) (k4 : ClassId) (hk4 : IsA Z k4 .int) (u11 : Int32) (u12 : Int32) (u13 : Int32) (k5 : ClassId) (hk5 : IsA Z k5 .int) (u14 : Int32) (u15 : Int32) (u16 : Int32) (k6 : ClassId) (hk6 : IsA Z k6 .long) (u17 : Int64) (u18 : Int64) (u19 : Int64) (h0 : Heap) (P0 : HP n0 h0 [o0, AC k1 [.long u0, .long u1, .long u2, .long u3], AC k2 [.int u4, .int u5, .int u6, .int u7], AC k3 [.int u8, .int u9, .int u10], AC k4 [.int u11, .int u12, .int u13], AC k5 [.int u14, .int u15, .int u16], AC k6 [.long u17, .long u18, .long u19]]) :
    MetFree l (⟨"com/example/bidcrier/bidcrier/teams/Blackboard", "openRound", "()V"⟩ : MethodName) (head1 (Jvm.Cond.code (⟨"com/example/bidcrier/bidcrier/teams/Blackboard", "openRound", "()V"⟩ : MethodName) prog_51_method_14_code 1 none :: ws) ({ frames := 0, cells := 0, slots := 0, locals := 0 } : Room)) (fun a U => a = #[.ref (n0 + 0)] ∧ Z.Warmed39 U.vm ∧ U.heap = h0) (fun _ _ _ _ _ => True) (fun _ U o U' => ∃ v L, o = .returned v ∧ Q_rm7_17 Z n0 o0 k1 u0 u1 u2 u3 k2 u4 u5 u6 u7 k3 u8 u9 u10 k4 u11 u12 u13 k5 u14 u15 u16 k6 u17 u18 u19 v U'.heap L ∧ FrameEnd U o U' L ({ frames := 0, cells := 0, slots := 0, locals := 0 } : Room).cells ({ frames := 0, cells := 0, slots := 0, locals := 0 } : Room).slots) := by
  refine own_body pn7 ?_
  intro p e s m below meth c T0 hx hby hml hret hlk hown hnm hZ X0 e0
  subst e0
  have N0 : Fr n0 [] := Fr.nil n0
  refine own_cast (ef_rm7_17 m n0 u0 u1 u2 u3 u4 u5 u6 u7 u8 u9 u10 u11 u12 u13 u14 u15 u16 u17 u18 u19) ?_
  refine w_aloadN X0 hx (hb hby d7_0) rfl rfl (pc' := 1) rfl ?_
  refine w_iconst (v := (0 : Int32)) X0 hx (hb hby d7_1) rfl (pc' := 2) rfl ?_
  refine w_putf (i := 0) (ty := .int) X0 hx hZ hown (wd35 hw) N0 P0 rfl Fo0 (di_C0 hw) 7 rfl (Or.inl (wd36 hw)) (wd2 hw) (by decide) rfl rfl (hb hby d7_2) (pc' := 5) rfl ?_
  intro T1 L1 c1 N1 X1 P1 F1
  replace P1 : HP n0 T1.heap [c1, AC k1 [.long u0, .long u1, .long u2, .long u3], AC k2 [.int u4, .int u5, .int u6, .int u7], AC k3 [.int u8, .int u9, .int u10], AC k4 [.int u11, .int u12, .int u13], AC k5 [.int u14, .int u15, .int u16], AC k6 [.long u17, .long u18, .long u19]] := P1
  replace F1 : ObjF Z c1 "com/example/bidcrier/bidcrier/teams/Blackboard" fl_C0 [.ref (n0 + 1), .ref (n0 + 2), .ref (n0 + 3), .ref (n0 + 4), .ref (n0 + 5), .ref (n0 + 6), .int (3 : Int32), .int (0 : Int32), .long (1 : Int64)] := F1
  exact w_ret_v X1 hx hret hlk (hb hby d7_5) (by decide) (by decide) ⟨rfl, N1, c1, F1, P1⟩
def Q_rm4_18 (Z : State) (n0 : Nat) (u0 : Int32) (u1 : Int32) (u2 : Int64) (o0 : Jvm.Cell) (k1 : ClassId) (u3 : Int64) (u4 : Int64) (u5 : Int64) (u6 : Int64) (k2 : ClassId) (u7 : Int32) (u8 : Int32) (u9 : Int32) (u10 : Int32) (k3 : ClassId) (u11 : Int32) (u12 : Int32) (u13 : Int32) (k4 : ClassId) (u14 : Int32) (u15 : Int32) (u16 : Int32) (k5 : ClassId) (u17 : Int32) (u18 : Int32) (u19 : Int32) (k6 : ClassId) (u20 : Int64) (u21 : Int64) (u22 : Int64) (v : Option Value) (h : Heap) (L : List Loc) : Prop := v = none ∧ Fr n0 L ∧ ∃ c2 : Jvm.Cell, ObjF Z c2 "com/example/bidcrier/bidcrier/teams/Blackboard" fl_C0 [.ref (n0 + 1), .ref (n0 + 2), .ref (n0 + 3), .ref (n0 + 4), .ref (n0 + 5), .ref (n0 + 6), .int (3 : Int32), .int (1 : Int32), .long (2 : Int64)] ∧ HP n0 h [c2, AC k1 [.long u3, .long u4, .long u5, .long u6], AC k2 [.int u7, .int u8, .int u9, .int u10], AC k3 [.int u11, .int u12, .int u13], AC k4 [.int u0, .int u15, .int u16], AC k5 [.int u1, .int u18, .int u19], AC k6 [.long u2, .long u21, .long u22]]
theorem ef_rm4_18 (m : MethodId) (n0 : Nat) (u0 : Int32) (u1 : Int32) (u2 : Int64) (u3 : Int64) (u4 : Int64) (u5 : Int64) (u6 : Int64) (u7 : Int32) (u8 : Int32) (u9 : Int32) (u10 : Int32) (u11 : Int32) (u12 : Int32) (u13 : Int32) (u14 : Int32) (u15 : Int32) (u16 : Int32) (u17 : Int32) (u18 : Int32) (u19 : Int32) (u20 : Int64) (u21 : Int64) (u22 : Int64) : entryFrame m #[.ref (n0 + 0), .int u0, .int u1, .long u2] 5 = mkF m 0 #[.val (.ref (n0 + 0)), .val (.int u0), .val (.int u1), .val (.long u2), .second] [] := by first | (simp [entryFrame, mkF, argsToLocals, Value.category]; done) | rfl
set_option maxRecDepth 65536 in
set_option maxHeartbeats 40000000 in
theorem rm4_18 (l : Launch) (Z : State) (a0 : Array Value) (hw : ∀ d ∈ tables_1, d.before a0 Z = true) (ws : List Jvm.Cond) (n0 : Nat) (u0 : Int32) (u1 : Int32) (u2 : Int64) (o0 : Jvm.Cell) (Fo0 : ObjF Z o0 "com/example/bidcrier/bidcrier/teams/Blackboard" fl_C0 [.ref (n0 + 1), .ref (n0 + 2), .ref (n0 + 3), .ref (n0 + 4), .ref (n0 + 5), .ref (n0 + 6), .int (3 : Int32), .int (0 : Int32), .long (1 : Int64)]) (k1 : ClassId) (hk1 : IsA Z k1 .long) (u3 : Int64) (u4 : Int64) (u5 : Int64) (u6 : Int64) (k2 : ClassId) (hk2 : IsA Z k2 .int) (u7 : Int32) (u8 : Int32) (u9 : Int32) (u10 : Int32) (k3 : ClassId) (hk3 : IsA Z k3 .int) (u11 : Int32) (u12 : Int32) (u13 : Int32) (k4 : ClassId) (hk4 : IsA Z k4 .int) (u14 : Int32) (u15 : Int32) (u16 : Int32) (k5 : ClassId) (hk5 : IsA Z k5 .int) (u17 : Int32) (u18 : Int32) (u19 : Int32) (k6 : ClassId) (hk6 : IsA Z k6 .long) (u20 : Int64) (u21 : Int64) (u22 : Int64) (h0 : Heap) (P0 : HP n0 h0 [o0, AC k1 [.long u3, .long u4, .long u5, .long u6], AC k2 [.int u7, .int u8, .int u9, .int u10], AC k3 [.int u11, .int u12, .int u13], AC k4 [.int u14, .int u15, .int u16], AC k5 [.int u17, .int u18, .int u19], AC k6 [.long u20, .long u21, .long u22]]) :
    MetFree l (⟨"com/example/bidcrier/bidcrier/teams/Blackboard", "post", "(IIJ)V"⟩ : MethodName) (head1 (Jvm.Cond.code (⟨"com/example/bidcrier/bidcrier/teams/Blackboard", "post", "(IIJ)V"⟩ : MethodName) prog_51_method_9_code 5 none :: ws) ({ frames := 0, cells := 0, slots := 0, locals := 0 } : Room)) (fun a U => a = #[.ref (n0 + 0), .int u0, .int u1, .long u2] ∧ Z.Warmed39 U.vm ∧ U.heap = h0) (fun _ _ _ _ _ => True) (fun _ U o U' => ∃ v L, o = .returned v ∧ Q_rm4_18 Z n0 u0 u1 u2 o0 k1 u3 u4 u5 u6 k2 u7 u8 u9 u10 k3 u11 u12 u13 k4 u14 u15 u16 k5 u17 u18 u19 k6 u20 u21 u22 v U'.heap L ∧ FrameEnd U o U' L ({ frames := 0, cells := 0, slots := 0, locals := 0 } : Room).cells ({ frames := 0, cells := 0, slots := 0, locals := 0 } : Room).slots) := by
  refine own_body pn4 ?_
  intro p e s m below meth c T0 hx hby hml hret hlk hown hnm hZ X0 e0
  subst e0
  have N0 : Fr n0 [] := Fr.nil n0
  refine own_cast (ef_rm4_18 m n0 u0 u1 u2 u3 u4 u5 u6 u7 u8 u9 u10 u11 u12 u13 u14 u15 u16 u17 u18 u19 u20 u21 u22) ?_
  refine w_aloadN X0 hx (hb hby d4_0) rfl rfl (pc' := 1) rfl ?_
  refine w_getf (i := 0) (v := .ref (n0 + 4)) X0 hx hZ hown (wd18 hw) P0 rfl Fo0 3 rfl rfl (hb hby d4_1) (pc' := 4) rfl ?_
  intro T1 X1 P1
  refine w_aloadN X1 hx (hb hby d4_4) rfl rfl (pc' := 5) rfl ?_
  refine w_getf (i := 0) (v := .int (0 : Int32)) X1 hx hZ hown (wd35 hw) P1 rfl Fo0 7 rfl rfl (hb hby d4_5) (pc' := 8) rfl ?_
  intro T2 X2 P2
  refine w_iloadN X2 hx (hb hby d4_8) rfl (pc' := 9) rfl ?_
  refine w_iastore (i := 4) (jn := 0) X2 hx hZ N0 P2 rfl hk4 (hb hby d4_9) (by decide) (Nat.le_of_ble_eq_true rfl) (pc' := 10) rfl ?_
  intro T3 L1 N1 X3 P3
  replace P3 : HP n0 T3.heap [o0, AC k1 [.long u3, .long u4, .long u5, .long u6], AC k2 [.int u7, .int u8, .int u9, .int u10], AC k3 [.int u11, .int u12, .int u13], AC k4 [.int u0, .int u15, .int u16], AC k5 [.int u17, .int u18, .int u19], AC k6 [.long u20, .long u21, .long u22]] := P3
  refine w_aloadN X3 hx (hb hby d4_10) rfl rfl (pc' := 11) rfl ?_
  refine w_getf (i := 0) (v := .ref (n0 + 5)) X3 hx hZ hown (wd20 hw) P3 rfl Fo0 4 rfl rfl (hb hby d4_11) (pc' := 14) rfl ?_
  intro T4 X4 P4
  refine w_aloadN X4 hx (hb hby d4_14) rfl rfl (pc' := 15) rfl ?_
  refine w_getf (i := 0) (v := .int (0 : Int32)) X4 hx hZ hown (wd35 hw) P4 rfl Fo0 7 rfl rfl (hb hby d4_15) (pc' := 18) rfl ?_
  intro T5 X5 P5
  refine w_iloadN X5 hx (hb hby d4_18) rfl (pc' := 19) rfl ?_
  refine w_iastore (i := 5) (jn := 0) X5 hx hZ N1 P5 rfl hk5 (hb hby d4_19) (by decide) (Nat.le_of_ble_eq_true rfl) (pc' := 20) rfl ?_
  intro T6 L2 N2 X6 P6
  replace P6 : HP n0 T6.heap [o0, AC k1 [.long u3, .long u4, .long u5, .long u6], AC k2 [.int u7, .int u8, .int u9, .int u10], AC k3 [.int u11, .int u12, .int u13], AC k4 [.int u0, .int u15, .int u16], AC k5 [.int u1, .int u18, .int u19], AC k6 [.long u20, .long u21, .long u22]] := P6
  refine w_aloadN X6 hx (hb hby d4_20) rfl rfl (pc' := 21) rfl ?_
  refine w_getf (i := 0) (v := .ref (n0 + 6)) X6 hx hZ hown (wd22 hw) P6 rfl Fo0 5 rfl rfl (hb hby d4_21) (pc' := 24) rfl ?_
  intro T7 X7 P7
  refine w_aloadN X7 hx (hb hby d4_24) rfl rfl (pc' := 25) rfl ?_
  refine w_getf (i := 0) (v := .int (0 : Int32)) X7 hx hZ hown (wd35 hw) P7 rfl Fo0 7 rfl rfl (hb hby d4_25) (pc' := 28) rfl ?_
  intro T8 X8 P8
  refine w_lloadN X8 hx (hb hby d4_28) rfl (pc' := 29) rfl ?_
  refine w_lastore (i := 6) (jn := 0) X8 hx hZ N2 P8 rfl hk6 (hb hby d4_29) (by decide) (Nat.le_of_ble_eq_true rfl) (pc' := 30) rfl ?_
  intro T9 L3 N3 X9 P9
  replace P9 : HP n0 T9.heap [o0, AC k1 [.long u3, .long u4, .long u5, .long u6], AC k2 [.int u7, .int u8, .int u9, .int u10], AC k3 [.int u11, .int u12, .int u13], AC k4 [.int u0, .int u15, .int u16], AC k5 [.int u1, .int u18, .int u19], AC k6 [.long u2, .long u21, .long u22]] := P9
  refine w_aloadN X9 hx (hb hby d4_30) rfl rfl (pc' := 31) rfl ?_
  refine w_dup X9 hx (hb hby d4_31) rfl (pc' := 32) rfl ?_
  refine w_getf (i := 0) (v := .int (0 : Int32)) X9 hx hZ hown (wd35 hw) P9 rfl Fo0 7 rfl rfl (hb hby d4_32) (pc' := 35) rfl ?_
  intro T10 X10 P10
  refine w_iconst (v := (1 : Int32)) X10 hx (hb hby d4_35) rfl (pc' := 36) rfl ?_
  refine w_iadd X10 hx (hb hby d4_36) (pc' := 37) rfl ?_
  refine w_eqI (z := (1 : Int32)) (by decide) ?_
  refine w_putf (i := 0) (ty := .int) X10 hx hZ hown (wd35 hw) N3 P10 rfl Fo0 (di_C0 hw) 7 rfl (Or.inl (wd36 hw)) (wd2 hw) (by decide) rfl rfl (hb hby d4_37) (pc' := 40) rfl ?_
  intro T11 L4 c1 N4 X11 P11 F1
  replace P11 : HP n0 T11.heap [c1, AC k1 [.long u3, .long u4, .long u5, .long u6], AC k2 [.int u7, .int u8, .int u9, .int u10], AC k3 [.int u11, .int u12, .int u13], AC k4 [.int u0, .int u15, .int u16], AC k5 [.int u1, .int u18, .int u19], AC k6 [.long u2, .long u21, .long u22]] := P11
  replace F1 : ObjF Z c1 "com/example/bidcrier/bidcrier/teams/Blackboard" fl_C0 [.ref (n0 + 1), .ref (n0 + 2), .ref (n0 + 3), .ref (n0 + 4), .ref (n0 + 5), .ref (n0 + 6), .int (3 : Int32), .int (1 : Int32), .long (1 : Int64)] := F1
  refine w_aloadN X11 hx (hb hby d4_40) rfl rfl (pc' := 41) rfl ?_
  refine w_dup X11 hx (hb hby d4_41) rfl (pc' := 42) rfl ?_
  refine w_getf (i := 0) (v := .long (1 : Int64)) X11 hx hZ hown (wd37 hw) P11 rfl F1 8 rfl rfl (hb hby d4_42) (pc' := 45) rfl ?_
  intro T12 X12 P12
  refine w_lconst (v := (1 : Int64)) X12 hx (hb hby d4_45) rfl (pc' := 46) rfl ?_
  refine w_ladd X12 hx (hb hby d4_46) (pc' := 47) rfl ?_
  refine w_eqJ (z := (2 : Int64)) (by decide) ?_
  refine w_putf (i := 0) (ty := .long) X12 hx hZ hown (wd37 hw) N4 P12 rfl F1 (di_C0 hw) 8 rfl (Or.inl (wd38 hw)) (wd2 hw) (by decide) rfl rfl (hb hby d4_47) (pc' := 50) rfl ?_
  intro T13 L5 c2 N5 X13 P13 F2
  replace P13 : HP n0 T13.heap [c2, AC k1 [.long u3, .long u4, .long u5, .long u6], AC k2 [.int u7, .int u8, .int u9, .int u10], AC k3 [.int u11, .int u12, .int u13], AC k4 [.int u0, .int u15, .int u16], AC k5 [.int u1, .int u18, .int u19], AC k6 [.long u2, .long u21, .long u22]] := P13
  replace F2 : ObjF Z c2 "com/example/bidcrier/bidcrier/teams/Blackboard" fl_C0 [.ref (n0 + 1), .ref (n0 + 2), .ref (n0 + 3), .ref (n0 + 4), .ref (n0 + 5), .ref (n0 + 6), .int (3 : Int32), .int (1 : Int32), .long (2 : Int64)] := F2
  exact w_ret_v X13 hx hret hlk (hb hby d4_50) (by decide) (by decide) ⟨rfl, N5, c2, F2, P13⟩
def Q_rm5_19 (Z : State) (n0 : Nat) (o0 : Jvm.Cell) (k1 : ClassId) (u0 : Int64) (u1 : Int64) (u2 : Int64) (u3 : Int64) (k2 : ClassId) (u4 : Int32) (u5 : Int32) (u6 : Int32) (u7 : Int32) (k3 : ClassId) (u8 : Int32) (u9 : Int32) (u10 : Int32) (k4 : ClassId) (u11 : Int32) (u12 : Int32) (u13 : Int32) (k5 : ClassId) (u14 : Int32) (u15 : Int32) (u16 : Int32) (k6 : ClassId) (u17 : Int64) (u18 : Int64) (u19 : Int64) (v : Option Value) (h : Heap) (L : List Loc) : Prop := v = some (.int (1 : Int32)) ∧ Fr n0 L ∧ HP n0 h [o0, AC k1 [.long u0, .long u1, .long u2, .long u3], AC k2 [.int u4, .int u5, .int u6, .int u7], AC k3 [.int u8, .int u9, .int u10], AC k4 [.int u11, .int u12, .int u13], AC k5 [.int u14, .int u15, .int u16], AC k6 [.long u17, .long u18, .long u19]]
theorem ef_rm5_19 (m : MethodId) (n0 : Nat) (u0 : Int64) (u1 : Int64) (u2 : Int64) (u3 : Int64) (u4 : Int32) (u5 : Int32) (u6 : Int32) (u7 : Int32) (u8 : Int32) (u9 : Int32) (u10 : Int32) (u11 : Int32) (u12 : Int32) (u13 : Int32) (u14 : Int32) (u15 : Int32) (u16 : Int32) (u17 : Int64) (u18 : Int64) (u19 : Int64) : entryFrame m #[.ref (n0 + 0)] 1 = mkF m 0 #[.val (.ref (n0 + 0))] [] := by first | (simp [entryFrame, mkF, argsToLocals, Value.category]; done) | rfl
set_option maxRecDepth 65536 in
set_option maxHeartbeats 40000000 in
theorem rm5_19 (l : Launch) (Z : State) (a0 : Array Value) (hw : ∀ d ∈ tables_1, d.before a0 Z = true) (ws : List Jvm.Cond) (n0 : Nat) (o0 : Jvm.Cell) (Fo0 : ObjF Z o0 "com/example/bidcrier/bidcrier/teams/Blackboard" fl_C0 [.ref (n0 + 1), .ref (n0 + 2), .ref (n0 + 3), .ref (n0 + 4), .ref (n0 + 5), .ref (n0 + 6), .int (3 : Int32), .int (1 : Int32), .long (2 : Int64)]) (k1 : ClassId) (hk1 : IsA Z k1 .long) (u0 : Int64) (u1 : Int64) (u2 : Int64) (u3 : Int64) (k2 : ClassId) (hk2 : IsA Z k2 .int) (u4 : Int32) (u5 : Int32) (u6 : Int32) (u7 : Int32) (k3 : ClassId) (hk3 : IsA Z k3 .int) (u8 : Int32) (u9 : Int32) (u10 : Int32) (k4 : ClassId) (hk4 : IsA Z k4 .int) (u11 : Int32) (u12 : Int32) (u13 : Int32) (k5 : ClassId) (hk5 : IsA Z k5 .int) (u14 : Int32) (u15 : Int32) (u16 : Int32) (k6 : ClassId) (hk6 : IsA Z k6 .long) (u17 : Int64) (u18 : Int64) (u19 : Int64) (h0 : Heap) (P0 : HP n0 h0 [o0, AC k1 [.long u0, .long u1, .long u2, .long u3], AC k2 [.int u4, .int u5, .int u6, .int u7], AC k3 [.int u8, .int u9, .int u10], AC k4 [.int u11, .int u12, .int u13], AC k5 [.int u14, .int u15, .int u16], AC k6 [.long u17, .long u18, .long u19]]) :
    MetFree l (⟨"com/example/bidcrier/bidcrier/teams/Blackboard", "bids", "()I"⟩ : MethodName) (head1 (Jvm.Cond.code (⟨"com/example/bidcrier/bidcrier/teams/Blackboard", "bids", "()I"⟩ : MethodName) prog_51_method_10_code 1 (some .int) :: ws) ({ frames := 0, cells := 0, slots := 0, locals := 0 } : Room)) (fun a U => a = #[.ref (n0 + 0)] ∧ Z.Warmed39 U.vm ∧ U.heap = h0) (fun _ _ _ _ _ => True) (fun _ U o U' => ∃ v L, o = .returned v ∧ Q_rm5_19 Z n0 o0 k1 u0 u1 u2 u3 k2 u4 u5 u6 u7 k3 u8 u9 u10 k4 u11 u12 u13 k5 u14 u15 u16 k6 u17 u18 u19 v U'.heap L ∧ FrameEnd U o U' L ({ frames := 0, cells := 0, slots := 0, locals := 0 } : Room).cells ({ frames := 0, cells := 0, slots := 0, locals := 0 } : Room).slots) := by
  refine own_body pn5 ?_
  intro p e s m below meth c T0 hx hby hml hret hlk hown hnm hZ X0 e0
  subst e0
  have N0 : Fr n0 [] := Fr.nil n0
  refine own_cast (ef_rm5_19 m n0 u0 u1 u2 u3 u4 u5 u6 u7 u8 u9 u10 u11 u12 u13 u14 u15 u16 u17 u18 u19) ?_
  refine w_aloadN X0 hx (hb hby d5_0) rfl rfl (pc' := 1) rfl ?_
  refine w_getf (i := 0) (v := .int (1 : Int32)) X0 hx hZ hown (wd35 hw) P0 rfl Fo0 7 rfl rfl (hb hby d5_1) (pc' := 4) rfl ?_
  intro T1 X1 P1
  exact w_ret_i X1 hx hret hlk (hb hby d5_4) (by decide) (by decide) ⟨rfl, N0, P1⟩
def Q_rm8_20 (Z : State) (n0 : Nat) (o0 : Jvm.Cell) (k1 : ClassId) (u0 : Int64) (u1 : Int64) (u2 : Int64) (u3 : Int64) (k2 : ClassId) (u4 : Int32) (u5 : Int32) (u6 : Int32) (u7 : Int32) (k3 : ClassId) (u8 : Int32) (u9 : Int32) (u10 : Int32) (k4 : ClassId) (u11 : Int32) (u12 : Int32) (u13 : Int32) (k5 : ClassId) (u14 : Int32) (u15 : Int32) (u16 : Int32) (k6 : ClassId) (u17 : Int64) (u18 : Int64) (u19 : Int64) (v : Option Value) (h : Heap) (L : List Loc) : Prop := v = some (.int u11) ∧ Fr n0 L ∧ HP n0 h [o0, AC k1 [.long u0, .long u1, .long u2, .long u3], AC k2 [.int u4, .int u5, .int u6, .int u7], AC k3 [.int u8, .int u9, .int u10], AC k4 [.int u11, .int u12, .int u13], AC k5 [.int u14, .int u15, .int u16], AC k6 [.long u17, .long u18, .long u19]]
theorem ef_rm8_20 (m : MethodId) (n0 : Nat) (u0 : Int64) (u1 : Int64) (u2 : Int64) (u3 : Int64) (u4 : Int32) (u5 : Int32) (u6 : Int32) (u7 : Int32) (u8 : Int32) (u9 : Int32) (u10 : Int32) (u11 : Int32) (u12 : Int32) (u13 : Int32) (u14 : Int32) (u15 : Int32) (u16 : Int32) (u17 : Int64) (u18 : Int64) (u19 : Int64) : entryFrame m #[.ref (n0 + 0), .int (0 : Int32)] 2 = mkF m 0 #[.val (.ref (n0 + 0)), .val (.int (0 : Int32))] [] := by first | (simp [entryFrame, mkF, argsToLocals, Value.category]; done) | rfl
set_option maxRecDepth 65536 in
set_option maxHeartbeats 40000000 in
theorem rm8_20 (l : Launch) (Z : State) (a0 : Array Value) (hw : ∀ d ∈ tables_1, d.before a0 Z = true) (ws : List Jvm.Cond) (n0 : Nat) (o0 : Jvm.Cell) (Fo0 : ObjF Z o0 "com/example/bidcrier/bidcrier/teams/Blackboard" fl_C0 [.ref (n0 + 1), .ref (n0 + 2), .ref (n0 + 3), .ref (n0 + 4), .ref (n0 + 5), .ref (n0 + 6), .int (3 : Int32), .int (1 : Int32), .long (2 : Int64)]) (k1 : ClassId) (hk1 : IsA Z k1 .long) (u0 : Int64) (u1 : Int64) (u2 : Int64) (u3 : Int64) (k2 : ClassId) (hk2 : IsA Z k2 .int) (u4 : Int32) (u5 : Int32) (u6 : Int32) (u7 : Int32) (k3 : ClassId) (hk3 : IsA Z k3 .int) (u8 : Int32) (u9 : Int32) (u10 : Int32) (k4 : ClassId) (hk4 : IsA Z k4 .int) (u11 : Int32) (u12 : Int32) (u13 : Int32) (k5 : ClassId) (hk5 : IsA Z k5 .int) (u14 : Int32) (u15 : Int32) (u16 : Int32) (k6 : ClassId) (hk6 : IsA Z k6 .long) (u17 : Int64) (u18 : Int64) (u19 : Int64) (h0 : Heap) (P0 : HP n0 h0 [o0, AC k1 [.long u0, .long u1, .long u2, .long u3], AC k2 [.int u4, .int u5, .int u6, .int u7], AC k3 [.int u8, .int u9, .int u10], AC k4 [.int u11, .int u12, .int u13], AC k5 [.int u14, .int u15, .int u16], AC k6 [.long u17, .long u18, .long u19]]) :
    MetFree l (⟨"com/example/bidcrier/bidcrier/teams/Blackboard", "bidRow", "(I)I"⟩ : MethodName) (head1 (Jvm.Cond.code (⟨"com/example/bidcrier/bidcrier/teams/Blackboard", "bidRow", "(I)I"⟩ : MethodName) prog_51_method_11_code 2 (some .int) :: ws) ({ frames := 0, cells := 0, slots := 0, locals := 0 } : Room)) (fun a U => a = #[.ref (n0 + 0), .int (0 : Int32)] ∧ Z.Warmed39 U.vm ∧ U.heap = h0) (fun _ _ _ _ _ => True) (fun _ U o U' => ∃ v L, o = .returned v ∧ Q_rm8_20 Z n0 o0 k1 u0 u1 u2 u3 k2 u4 u5 u6 u7 k3 u8 u9 u10 k4 u11 u12 u13 k5 u14 u15 u16 k6 u17 u18 u19 v U'.heap L ∧ FrameEnd U o U' L ({ frames := 0, cells := 0, slots := 0, locals := 0 } : Room).cells ({ frames := 0, cells := 0, slots := 0, locals := 0 } : Room).slots) := by
  refine own_body pn8 ?_
  intro p e s m below meth c T0 hx hby hml hret hlk hown hnm hZ X0 e0
  subst e0
  have N0 : Fr n0 [] := Fr.nil n0
  refine own_cast (ef_rm8_20 m n0 u0 u1 u2 u3 u4 u5 u6 u7 u8 u9 u10 u11 u12 u13 u14 u15 u16 u17 u18 u19) ?_
  refine w_aloadN X0 hx (hb hby d8_0) rfl rfl (pc' := 1) rfl ?_
  refine w_getf (i := 0) (v := .ref (n0 + 4)) X0 hx hZ hown (wd18 hw) P0 rfl Fo0 3 rfl rfl (hb hby d8_1) (pc' := 4) rfl ?_
  intro T1 X1 P1
  refine w_iloadN X1 hx (hb hby d8_4) rfl (pc' := 5) rfl ?_
  refine w_iaload (i := 4) (jn := 0) (v := .int u11) X1 hx hZ P1 rfl hk4 (hb hby d8_5) (by decide) rfl (pc' := 6) rfl ?_
  exact w_ret_i X1 hx hret hlk (hb hby d8_6) (by decide) (by decide) ⟨rfl, N0, P1⟩
def Q_rm9_21 (Z : State) (n0 : Nat) (o0 : Jvm.Cell) (k1 : ClassId) (u0 : Int64) (u1 : Int64) (u2 : Int64) (u3 : Int64) (k2 : ClassId) (u4 : Int32) (u5 : Int32) (u6 : Int32) (u7 : Int32) (k3 : ClassId) (u8 : Int32) (u9 : Int32) (u10 : Int32) (k4 : ClassId) (u11 : Int32) (u12 : Int32) (u13 : Int32) (k5 : ClassId) (u14 : Int32) (u15 : Int32) (u16 : Int32) (k6 : ClassId) (u17 : Int64) (u18 : Int64) (u19 : Int64) (v : Option Value) (h : Heap) (L : List Loc) : Prop := v = some (.int u14) ∧ Fr n0 L ∧ HP n0 h [o0, AC k1 [.long u0, .long u1, .long u2, .long u3], AC k2 [.int u4, .int u5, .int u6, .int u7], AC k3 [.int u8, .int u9, .int u10], AC k4 [.int u11, .int u12, .int u13], AC k5 [.int u14, .int u15, .int u16], AC k6 [.long u17, .long u18, .long u19]]
theorem ef_rm9_21 (m : MethodId) (n0 : Nat) (u0 : Int64) (u1 : Int64) (u2 : Int64) (u3 : Int64) (u4 : Int32) (u5 : Int32) (u6 : Int32) (u7 : Int32) (u8 : Int32) (u9 : Int32) (u10 : Int32) (u11 : Int32) (u12 : Int32) (u13 : Int32) (u14 : Int32) (u15 : Int32) (u16 : Int32) (u17 : Int64) (u18 : Int64) (u19 : Int64) : entryFrame m #[.ref (n0 + 0), .int (0 : Int32)] 2 = mkF m 0 #[.val (.ref (n0 + 0)), .val (.int (0 : Int32))] [] := by first | (simp [entryFrame, mkF, argsToLocals, Value.category]; done) | rfl
set_option maxRecDepth 65536 in
set_option maxHeartbeats 40000000 in
theorem rm9_21 (l : Launch) (Z : State) (a0 : Array Value) (hw : ∀ d ∈ tables_1, d.before a0 Z = true) (ws : List Jvm.Cond) (n0 : Nat) (o0 : Jvm.Cell) (Fo0 : ObjF Z o0 "com/example/bidcrier/bidcrier/teams/Blackboard" fl_C0 [.ref (n0 + 1), .ref (n0 + 2), .ref (n0 + 3), .ref (n0 + 4), .ref (n0 + 5), .ref (n0 + 6), .int (3 : Int32), .int (1 : Int32), .long (2 : Int64)]) (k1 : ClassId) (hk1 : IsA Z k1 .long) (u0 : Int64) (u1 : Int64) (u2 : Int64) (u3 : Int64) (k2 : ClassId) (hk2 : IsA Z k2 .int) (u4 : Int32) (u5 : Int32) (u6 : Int32) (u7 : Int32) (k3 : ClassId) (hk3 : IsA Z k3 .int) (u8 : Int32) (u9 : Int32) (u10 : Int32) (k4 : ClassId) (hk4 : IsA Z k4 .int) (u11 : Int32) (u12 : Int32) (u13 : Int32) (k5 : ClassId) (hk5 : IsA Z k5 .int) (u14 : Int32) (u15 : Int32) (u16 : Int32) (k6 : ClassId) (hk6 : IsA Z k6 .long) (u17 : Int64) (u18 : Int64) (u19 : Int64) (h0 : Heap) (P0 : HP n0 h0 [o0, AC k1 [.long u0, .long u1, .long u2, .long u3], AC k2 [.int u4, .int u5, .int u6, .int u7], AC k3 [.int u8, .int u9, .int u10], AC k4 [.int u11, .int u12, .int u13], AC k5 [.int u14, .int u15, .int u16], AC k6 [.long u17, .long u18, .long u19]]) :
    MetFree l (⟨"com/example/bidcrier/bidcrier/teams/Blackboard", "bidColumn", "(I)I"⟩ : MethodName) (head1 (Jvm.Cond.code (⟨"com/example/bidcrier/bidcrier/teams/Blackboard", "bidColumn", "(I)I"⟩ : MethodName) prog_51_method_12_code 2 (some .int) :: ws) ({ frames := 0, cells := 0, slots := 0, locals := 0 } : Room)) (fun a U => a = #[.ref (n0 + 0), .int (0 : Int32)] ∧ Z.Warmed39 U.vm ∧ U.heap = h0) (fun _ _ _ _ _ => True) (fun _ U o U' => ∃ v L, o = .returned v ∧ Q_rm9_21 Z n0 o0 k1 u0 u1 u2 u3 k2 u4 u5 u6 u7 k3 u8 u9 u10 k4 u11 u12 u13 k5 u14 u15 u16 k6 u17 u18 u19 v U'.heap L ∧ FrameEnd U o U' L ({ frames := 0, cells := 0, slots := 0, locals := 0 } : Room).cells ({ frames := 0, cells := 0, slots := 0, locals := 0 } : Room).slots) := by
  refine own_body pn9 ?_
  intro p e s m below meth c T0 hx hby hml hret hlk hown hnm hZ X0 e0
  subst e0
  have N0 : Fr n0 [] := Fr.nil n0
  refine own_cast (ef_rm9_21 m n0 u0 u1 u2 u3 u4 u5 u6 u7 u8 u9 u10 u11 u12 u13 u14 u15 u16 u17 u18 u19) ?_
  refine w_aloadN X0 hx (hb hby d9_0) rfl rfl (pc' := 1) rfl ?_
  refine w_getf (i := 0) (v := .ref (n0 + 5)) X0 hx hZ hown (wd20 hw) P0 rfl Fo0 4 rfl rfl (hb hby d9_1) (pc' := 4) rfl ?_
  intro T1 X1 P1
  refine w_iloadN X1 hx (hb hby d9_4) rfl (pc' := 5) rfl ?_
  refine w_iaload (i := 5) (jn := 0) (v := .int u14) X1 hx hZ P1 rfl hk5 (hb hby d9_5) (by decide) rfl (pc' := 6) rfl ?_
  exact w_ret_i X1 hx hret hlk (hb hby d9_6) (by decide) (by decide) ⟨rfl, N0, P1⟩
def Q_rm10_22 (Z : State) (n0 : Nat) (o0 : Jvm.Cell) (k1 : ClassId) (u0 : Int64) (u1 : Int64) (u2 : Int64) (u3 : Int64) (k2 : ClassId) (u4 : Int32) (u5 : Int32) (u6 : Int32) (u7 : Int32) (k3 : ClassId) (u8 : Int32) (u9 : Int32) (u10 : Int32) (k4 : ClassId) (u11 : Int32) (u12 : Int32) (u13 : Int32) (k5 : ClassId) (u14 : Int32) (u15 : Int32) (u16 : Int32) (k6 : ClassId) (u17 : Int64) (u18 : Int64) (u19 : Int64) (v : Option Value) (h : Heap) (L : List Loc) : Prop := v = some (.long u17) ∧ Fr n0 L ∧ HP n0 h [o0, AC k1 [.long u0, .long u1, .long u2, .long u3], AC k2 [.int u4, .int u5, .int u6, .int u7], AC k3 [.int u8, .int u9, .int u10], AC k4 [.int u11, .int u12, .int u13], AC k5 [.int u14, .int u15, .int u16], AC k6 [.long u17, .long u18, .long u19]]
theorem ef_rm10_22 (m : MethodId) (n0 : Nat) (u0 : Int64) (u1 : Int64) (u2 : Int64) (u3 : Int64) (u4 : Int32) (u5 : Int32) (u6 : Int32) (u7 : Int32) (u8 : Int32) (u9 : Int32) (u10 : Int32) (u11 : Int32) (u12 : Int32) (u13 : Int32) (u14 : Int32) (u15 : Int32) (u16 : Int32) (u17 : Int64) (u18 : Int64) (u19 : Int64) : entryFrame m #[.ref (n0 + 0), .int (0 : Int32)] 2 = mkF m 0 #[.val (.ref (n0 + 0)), .val (.int (0 : Int32))] [] := by first | (simp [entryFrame, mkF, argsToLocals, Value.category]; done) | rfl
set_option maxRecDepth 65536 in
set_option maxHeartbeats 40000000 in
theorem rm10_22 (l : Launch) (Z : State) (a0 : Array Value) (hw : ∀ d ∈ tables_1, d.before a0 Z = true) (ws : List Jvm.Cond) (n0 : Nat) (o0 : Jvm.Cell) (Fo0 : ObjF Z o0 "com/example/bidcrier/bidcrier/teams/Blackboard" fl_C0 [.ref (n0 + 1), .ref (n0 + 2), .ref (n0 + 3), .ref (n0 + 4), .ref (n0 + 5), .ref (n0 + 6), .int (3 : Int32), .int (1 : Int32), .long (2 : Int64)]) (k1 : ClassId) (hk1 : IsA Z k1 .long) (u0 : Int64) (u1 : Int64) (u2 : Int64) (u3 : Int64) (k2 : ClassId) (hk2 : IsA Z k2 .int) (u4 : Int32) (u5 : Int32) (u6 : Int32) (u7 : Int32) (k3 : ClassId) (hk3 : IsA Z k3 .int) (u8 : Int32) (u9 : Int32) (u10 : Int32) (k4 : ClassId) (hk4 : IsA Z k4 .int) (u11 : Int32) (u12 : Int32) (u13 : Int32) (k5 : ClassId) (hk5 : IsA Z k5 .int) (u14 : Int32) (u15 : Int32) (u16 : Int32) (k6 : ClassId) (hk6 : IsA Z k6 .long) (u17 : Int64) (u18 : Int64) (u19 : Int64) (h0 : Heap) (P0 : HP n0 h0 [o0, AC k1 [.long u0, .long u1, .long u2, .long u3], AC k2 [.int u4, .int u5, .int u6, .int u7], AC k3 [.int u8, .int u9, .int u10], AC k4 [.int u11, .int u12, .int u13], AC k5 [.int u14, .int u15, .int u16], AC k6 [.long u17, .long u18, .long u19]]) :
    MetFree l (⟨"com/example/bidcrier/bidcrier/teams/Blackboard", "bidPrice", "(I)J"⟩ : MethodName) (head1 (Jvm.Cond.code (⟨"com/example/bidcrier/bidcrier/teams/Blackboard", "bidPrice", "(I)J"⟩ : MethodName) prog_51_method_13_code 2 (some .long) :: ws) ({ frames := 0, cells := 0, slots := 0, locals := 0 } : Room)) (fun a U => a = #[.ref (n0 + 0), .int (0 : Int32)] ∧ Z.Warmed39 U.vm ∧ U.heap = h0) (fun _ _ _ _ _ => True) (fun _ U o U' => ∃ v L, o = .returned v ∧ Q_rm10_22 Z n0 o0 k1 u0 u1 u2 u3 k2 u4 u5 u6 u7 k3 u8 u9 u10 k4 u11 u12 u13 k5 u14 u15 u16 k6 u17 u18 u19 v U'.heap L ∧ FrameEnd U o U' L ({ frames := 0, cells := 0, slots := 0, locals := 0 } : Room).cells ({ frames := 0, cells := 0, slots := 0, locals := 0 } : Room).slots) := by
  refine own_body pn10 ?_
  intro p e s m below meth c T0 hx hby hml hret hlk hown hnm hZ X0 e0
  subst e0
  have N0 : Fr n0 [] := Fr.nil n0
  refine own_cast (ef_rm10_22 m n0 u0 u1 u2 u3 u4 u5 u6 u7 u8 u9 u10 u11 u12 u13 u14 u15 u16 u17 u18 u19) ?_
  refine w_aloadN X0 hx (hb hby d10_0) rfl rfl (pc' := 1) rfl ?_
  refine w_getf (i := 0) (v := .ref (n0 + 6)) X0 hx hZ hown (wd22 hw) P0 rfl Fo0 5 rfl rfl (hb hby d10_1) (pc' := 4) rfl ?_
  intro T1 X1 P1
  refine w_iloadN X1 hx (hb hby d10_4) rfl (pc' := 5) rfl ?_
  refine w_laload (i := 6) (jn := 0) (v := .long u17) X1 hx hZ P1 rfl hk6 (hb hby d10_5) (by decide) rfl (pc' := 6) rfl ?_
  exact w_ret_l X1 hx hret hlk (hb hby d10_6) (by decide) (by decide) ⟨rfl, N0, P1⟩
def Q_rm6_23 (Z : State) (n0 : Nat) (o0 : Jvm.Cell) (k1 : ClassId) (u0 : Int64) (u1 : Int64) (u2 : Int64) (u3 : Int64) (k2 : ClassId) (u4 : Int32) (u5 : Int32) (u6 : Int32) (u7 : Int32) (k3 : ClassId) (u8 : Int32) (u9 : Int32) (u10 : Int32) (k4 : ClassId) (u11 : Int32) (u12 : Int32) (u13 : Int32) (k5 : ClassId) (u14 : Int32) (u15 : Int32) (u16 : Int32) (k6 : ClassId) (u17 : Int64) (u18 : Int64) (u19 : Int64) (v : Option Value) (h : Heap) (L : List Loc) : Prop := v = some (.long (2 : Int64)) ∧ Fr n0 L ∧ HP n0 h [o0, AC k1 [.long u0, .long u1, .long u2, .long u3], AC k2 [.int u4, .int u5, .int u6, .int u7], AC k3 [.int u8, .int u9, .int u10], AC k4 [.int u11, .int u12, .int u13], AC k5 [.int u14, .int u15, .int u16], AC k6 [.long u17, .long u18, .long u19]]
theorem ef_rm6_23 (m : MethodId) (n0 : Nat) (u0 : Int64) (u1 : Int64) (u2 : Int64) (u3 : Int64) (u4 : Int32) (u5 : Int32) (u6 : Int32) (u7 : Int32) (u8 : Int32) (u9 : Int32) (u10 : Int32) (u11 : Int32) (u12 : Int32) (u13 : Int32) (u14 : Int32) (u15 : Int32) (u16 : Int32) (u17 : Int64) (u18 : Int64) (u19 : Int64) : entryFrame m #[.ref (n0 + 0)] 1 = mkF m 0 #[.val (.ref (n0 + 0))] [] := by first | (simp [entryFrame, mkF, argsToLocals, Value.category]; done) | rfl
set_option maxRecDepth 65536 in
set_option maxHeartbeats 40000000 in
theorem rm6_23 (l : Launch) (Z : State) (a0 : Array Value) (hw : ∀ d ∈ tables_1, d.before a0 Z = true) (ws : List Jvm.Cond) (n0 : Nat) (o0 : Jvm.Cell) (Fo0 : ObjF Z o0 "com/example/bidcrier/bidcrier/teams/Blackboard" fl_C0 [.ref (n0 + 1), .ref (n0 + 2), .ref (n0 + 3), .ref (n0 + 4), .ref (n0 + 5), .ref (n0 + 6), .int (3 : Int32), .int (1 : Int32), .long (2 : Int64)]) (k1 : ClassId) (hk1 : IsA Z k1 .long) (u0 : Int64) (u1 : Int64) (u2 : Int64) (u3 : Int64) (k2 : ClassId) (hk2 : IsA Z k2 .int) (u4 : Int32) (u5 : Int32) (u6 : Int32) (u7 : Int32) (k3 : ClassId) (hk3 : IsA Z k3 .int) (u8 : Int32) (u9 : Int32) (u10 : Int32) (k4 : ClassId) (hk4 : IsA Z k4 .int) (u11 : Int32) (u12 : Int32) (u13 : Int32) (k5 : ClassId) (hk5 : IsA Z k5 .int) (u14 : Int32) (u15 : Int32) (u16 : Int32) (k6 : ClassId) (hk6 : IsA Z k6 .long) (u17 : Int64) (u18 : Int64) (u19 : Int64) (h0 : Heap) (P0 : HP n0 h0 [o0, AC k1 [.long u0, .long u1, .long u2, .long u3], AC k2 [.int u4, .int u5, .int u6, .int u7], AC k3 [.int u8, .int u9, .int u10], AC k4 [.int u11, .int u12, .int u13], AC k5 [.int u14, .int u15, .int u16], AC k6 [.long u17, .long u18, .long u19]]) :
    MetFree l (⟨"com/example/bidcrier/bidcrier/teams/Blackboard", "posts", "()J"⟩ : MethodName) (head1 (Jvm.Cond.code (⟨"com/example/bidcrier/bidcrier/teams/Blackboard", "posts", "()J"⟩ : MethodName) prog_51_method_8_code 1 (some .long) :: ws) ({ frames := 0, cells := 0, slots := 0, locals := 0 } : Room)) (fun a U => a = #[.ref (n0 + 0)] ∧ Z.Warmed39 U.vm ∧ U.heap = h0) (fun _ _ _ _ _ => True) (fun _ U o U' => ∃ v L, o = .returned v ∧ Q_rm6_23 Z n0 o0 k1 u0 u1 u2 u3 k2 u4 u5 u6 u7 k3 u8 u9 u10 k4 u11 u12 u13 k5 u14 u15 u16 k6 u17 u18 u19 v U'.heap L ∧ FrameEnd U o U' L ({ frames := 0, cells := 0, slots := 0, locals := 0 } : Room).cells ({ frames := 0, cells := 0, slots := 0, locals := 0 } : Room).slots) := by
  refine own_body pn6 ?_
  intro p e s m below meth c T0 hx hby hml hret hlk hown hnm hZ X0 e0
  subst e0
  have N0 : Fr n0 [] := Fr.nil n0
  refine own_cast (ef_rm6_23 m n0 u0 u1 u2 u3 u4 u5 u6 u7 u8 u9 u10 u11 u12 u13 u14 u15 u16 u17 u18 u19) ?_
  refine w_aloadN X0 hx (hb hby d6_0) rfl rfl (pc' := 1) rfl ?_
  refine w_getf (i := 0) (v := .long (2 : Int64)) X0 hx hZ hown (wd37 hw) P0 rfl Fo0 8 rfl rfl (hb hby d6_1) (pc' := 4) rfl ?_
  intro T1 X1 P1
  exact w_ret_l X1 hx hret hlk (hb hby d6_4) (by decide) (by decide) ⟨rfl, N0, P1⟩
def Q_rm11_24 (Z : State) (n0 : Nat) (o0 : Jvm.Cell) (k1 : ClassId) (u0 : Int64) (u1 : Int64) (u2 : Int64) (u3 : Int64) (k2 : ClassId) (u4 : Int32) (u5 : Int32) (u6 : Int32) (u7 : Int32) (k3 : ClassId) (u8 : Int32) (u9 : Int32) (u10 : Int32) (k4 : ClassId) (u11 : Int32) (u12 : Int32) (u13 : Int32) (k5 : ClassId) (u14 : Int32) (u15 : Int32) (u16 : Int32) (k6 : ClassId) (u17 : Int64) (u18 : Int64) (u19 : Int64) (v : Option Value) (h : Heap) (L : List Loc) : Prop := v = some (.int (3 : Int32)) ∧ Fr n0 L ∧ HP n0 h [o0, AC k1 [.long u0, .long u1, .long u2, .long u3], AC k2 [.int u4, .int u5, .int u6, .int u7], AC k3 [.int u8, .int u9, .int u10], AC k4 [.int u11, .int u12, .int u13], AC k5 [.int u14, .int u15, .int u16], AC k6 [.long u17, .long u18, .long u19]]
theorem ef_rm11_24 (m : MethodId) (n0 : Nat) (u0 : Int64) (u1 : Int64) (u2 : Int64) (u3 : Int64) (u4 : Int32) (u5 : Int32) (u6 : Int32) (u7 : Int32) (u8 : Int32) (u9 : Int32) (u10 : Int32) (u11 : Int32) (u12 : Int32) (u13 : Int32) (u14 : Int32) (u15 : Int32) (u16 : Int32) (u17 : Int64) (u18 : Int64) (u19 : Int64) : entryFrame m #[.ref (n0 + 0)] 1 = mkF m 0 #[.val (.ref (n0 + 0))] [] := by first | (simp [entryFrame, mkF, argsToLocals, Value.category]; done) | rfl
set_option maxRecDepth 65536 in
set_option maxHeartbeats 40000000 in
theorem rm11_24 (l : Launch) (Z : State) (a0 : Array Value) (hw : ∀ d ∈ tables_1, d.before a0 Z = true) (ws : List Jvm.Cond) (n0 : Nat) (o0 : Jvm.Cell) (Fo0 : ObjF Z o0 "com/example/bidcrier/bidcrier/teams/Blackboard" fl_C0 [.ref (n0 + 1), .ref (n0 + 2), .ref (n0 + 3), .ref (n0 + 4), .ref (n0 + 5), .ref (n0 + 6), .int (3 : Int32), .int (1 : Int32), .long (2 : Int64)]) (k1 : ClassId) (hk1 : IsA Z k1 .long) (u0 : Int64) (u1 : Int64) (u2 : Int64) (u3 : Int64) (k2 : ClassId) (hk2 : IsA Z k2 .int) (u4 : Int32) (u5 : Int32) (u6 : Int32) (u7 : Int32) (k3 : ClassId) (hk3 : IsA Z k3 .int) (u8 : Int32) (u9 : Int32) (u10 : Int32) (k4 : ClassId) (hk4 : IsA Z k4 .int) (u11 : Int32) (u12 : Int32) (u13 : Int32) (k5 : ClassId) (hk5 : IsA Z k5 .int) (u14 : Int32) (u15 : Int32) (u16 : Int32) (k6 : ClassId) (hk6 : IsA Z k6 .long) (u17 : Int64) (u18 : Int64) (u19 : Int64) (h0 : Heap) (P0 : HP n0 h0 [o0, AC k1 [.long u0, .long u1, .long u2, .long u3], AC k2 [.int u4, .int u5, .int u6, .int u7], AC k3 [.int u8, .int u9, .int u10], AC k4 [.int u11, .int u12, .int u13], AC k5 [.int u14, .int u15, .int u16], AC k6 [.long u17, .long u18, .long u19]]) :
    MetFree l (⟨"com/example/bidcrier/bidcrier/teams/Blackboard", "unassigned", "()I"⟩ : MethodName) (head1 (Jvm.Cond.code (⟨"com/example/bidcrier/bidcrier/teams/Blackboard", "unassigned", "()I"⟩ : MethodName) prog_51_method_6_code 1 (some .int) :: ws) ({ frames := 0, cells := 0, slots := 0, locals := 0 } : Room)) (fun a U => a = #[.ref (n0 + 0)] ∧ Z.Warmed39 U.vm ∧ U.heap = h0) (fun _ _ _ _ _ => True) (fun _ U o U' => ∃ v L, o = .returned v ∧ Q_rm11_24 Z n0 o0 k1 u0 u1 u2 u3 k2 u4 u5 u6 u7 k3 u8 u9 u10 k4 u11 u12 u13 k5 u14 u15 u16 k6 u17 u18 u19 v U'.heap L ∧ FrameEnd U o U' L ({ frames := 0, cells := 0, slots := 0, locals := 0 } : Room).cells ({ frames := 0, cells := 0, slots := 0, locals := 0 } : Room).slots) := by
  refine own_body pn11 ?_
  intro p e s m below meth c T0 hx hby hml hret hlk hown hnm hZ X0 e0
  subst e0
  have N0 : Fr n0 [] := Fr.nil n0
  refine own_cast (ef_rm11_24 m n0 u0 u1 u2 u3 u4 u5 u6 u7 u8 u9 u10 u11 u12 u13 u14 u15 u16 u17 u18 u19) ?_
  refine w_aloadN X0 hx (hb hby d11_0) rfl rfl (pc' := 1) rfl ?_
  refine w_getf (i := 0) (v := .int (3 : Int32)) X0 hx hZ hown (wd28 hw) P0 rfl Fo0 6 rfl rfl (hb hby d11_1) (pc' := 4) rfl ?_
  intro T1 X1 P1
  exact w_ret_i X1 hx hret hlk (hb hby d11_4) (by decide) (by decide) ⟨rfl, N0, P1⟩
def Q_rm12_25 (Z : State) (n0 : Nat) (o0 : Jvm.Cell) (k1 : ClassId) (u0 : Int64) (u1 : Int64) (u2 : Int64) (u3 : Int64) (k2 : ClassId) (u4 : Int32) (u5 : Int32) (u6 : Int32) (u7 : Int32) (k3 : ClassId) (u8 : Int32) (u9 : Int32) (u10 : Int32) (k4 : ClassId) (u11 : Int32) (u12 : Int32) (u13 : Int32) (k5 : ClassId) (u14 : Int32) (u15 : Int32) (u16 : Int32) (k6 : ClassId) (u17 : Int64) (u18 : Int64) (u19 : Int64) (v : Option Value) (h : Heap) (L : List Loc) : Prop := v = some (.long u0) ∧ Fr n0 L ∧ HP n0 h [o0, AC k1 [.long u0, .long u1, .long u2, .long u3], AC k2 [.int u4, .int u5, .int u6, .int u7], AC k3 [.int u8, .int u9, .int u10], AC k4 [.int u11, .int u12, .int u13], AC k5 [.int u14, .int u15, .int u16], AC k6 [.long u17, .long u18, .long u19]]
theorem ef_rm12_25 (m : MethodId) (n0 : Nat) (u0 : Int64) (u1 : Int64) (u2 : Int64) (u3 : Int64) (u4 : Int32) (u5 : Int32) (u6 : Int32) (u7 : Int32) (u8 : Int32) (u9 : Int32) (u10 : Int32) (u11 : Int32) (u12 : Int32) (u13 : Int32) (u14 : Int32) (u15 : Int32) (u16 : Int32) (u17 : Int64) (u18 : Int64) (u19 : Int64) : entryFrame m #[.ref (n0 + 0), .int (0 : Int32)] 2 = mkF m 0 #[.val (.ref (n0 + 0)), .val (.int (0 : Int32))] [] := by first | (simp [entryFrame, mkF, argsToLocals, Value.category]; done) | rfl
set_option maxRecDepth 65536 in
set_option maxHeartbeats 40000000 in
theorem rm12_25 (l : Launch) (Z : State) (a0 : Array Value) (hw : ∀ d ∈ tables_1, d.before a0 Z = true) (ws : List Jvm.Cond) (n0 : Nat) (o0 : Jvm.Cell) (Fo0 : ObjF Z o0 "com/example/bidcrier/bidcrier/teams/Blackboard" fl_C0 [.ref (n0 + 1), .ref (n0 + 2), .ref (n0 + 3), .ref (n0 + 4), .ref (n0 + 5), .ref (n0 + 6), .int (3 : Int32), .int (1 : Int32), .long (2 : Int64)]) (k1 : ClassId) (hk1 : IsA Z k1 .long) (u0 : Int64) (u1 : Int64) (u2 : Int64) (u3 : Int64) (k2 : ClassId) (hk2 : IsA Z k2 .int) (u4 : Int32) (u5 : Int32) (u6 : Int32) (u7 : Int32) (k3 : ClassId) (hk3 : IsA Z k3 .int) (u8 : Int32) (u9 : Int32) (u10 : Int32) (k4 : ClassId) (hk4 : IsA Z k4 .int) (u11 : Int32) (u12 : Int32) (u13 : Int32) (k5 : ClassId) (hk5 : IsA Z k5 .int) (u14 : Int32) (u15 : Int32) (u16 : Int32) (k6 : ClassId) (hk6 : IsA Z k6 .long) (u17 : Int64) (u18 : Int64) (u19 : Int64) (h0 : Heap) (P0 : HP n0 h0 [o0, AC k1 [.long u0, .long u1, .long u2, .long u3], AC k2 [.int u4, .int u5, .int u6, .int u7], AC k3 [.int u8, .int u9, .int u10], AC k4 [.int u11, .int u12, .int u13], AC k5 [.int u14, .int u15, .int u16], AC k6 [.long u17, .long u18, .long u19]]) :
    MetFree l (⟨"com/example/bidcrier/bidcrier/teams/Blackboard", "price", "(I)J"⟩ : MethodName) (head1 (Jvm.Cond.code (⟨"com/example/bidcrier/bidcrier/teams/Blackboard", "price", "(I)J"⟩ : MethodName) prog_51_method_4_code 2 (some .long) :: ws) ({ frames := 0, cells := 0, slots := 0, locals := 0 } : Room)) (fun a U => a = #[.ref (n0 + 0), .int (0 : Int32)] ∧ Z.Warmed39 U.vm ∧ U.heap = h0) (fun _ _ _ _ _ => True) (fun _ U o U' => ∃ v L, o = .returned v ∧ Q_rm12_25 Z n0 o0 k1 u0 u1 u2 u3 k2 u4 u5 u6 u7 k3 u8 u9 u10 k4 u11 u12 u13 k5 u14 u15 u16 k6 u17 u18 u19 v U'.heap L ∧ FrameEnd U o U' L ({ frames := 0, cells := 0, slots := 0, locals := 0 } : Room).cells ({ frames := 0, cells := 0, slots := 0, locals := 0 } : Room).slots) := by
  refine own_body pn12 ?_
  intro p e s m below meth c T0 hx hby hml hret hlk hown hnm hZ X0 e0
  subst e0
  have N0 : Fr n0 [] := Fr.nil n0
  refine own_cast (ef_rm12_25 m n0 u0 u1 u2 u3 u4 u5 u6 u7 u8 u9 u10 u11 u12 u13 u14 u15 u16 u17 u18 u19) ?_
  refine w_aloadN X0 hx (hb hby d12_0) rfl rfl (pc' := 1) rfl ?_
  refine w_getf (i := 0) (v := .ref (n0 + 1)) X0 hx hZ hown (wd11 hw) P0 rfl Fo0 0 rfl rfl (hb hby d12_1) (pc' := 4) rfl ?_
  intro T1 X1 P1
  refine w_iloadN X1 hx (hb hby d12_4) rfl (pc' := 5) rfl ?_
  refine w_laload (i := 1) (jn := 0) (v := .long u0) X1 hx hZ P1 rfl hk1 (hb hby d12_5) (by decide) rfl (pc' := 6) rfl ?_
  exact w_ret_l X1 hx hret hlk (hb hby d12_6) (by decide) (by decide) ⟨rfl, N0, P1⟩
def Q_rm4_26 (Z : State) (n0 : Nat) (u0 : Int32) (u1 : Int64) (o0 : Jvm.Cell) (k1 : ClassId) (u2 : Int64) (u3 : Int64) (u4 : Int64) (u5 : Int64) (k2 : ClassId) (u6 : Int32) (u7 : Int32) (u8 : Int32) (u9 : Int32) (k3 : ClassId) (u10 : Int32) (u11 : Int32) (u12 : Int32) (k4 : ClassId) (u13 : Int32) (u14 : Int32) (u15 : Int32) (k5 : ClassId) (u16 : Int32) (u17 : Int32) (u18 : Int32) (k6 : ClassId) (u19 : Int64) (u20 : Int64) (u21 : Int64) (v : Option Value) (h : Heap) (L : List Loc) : Prop := v = none ∧ Fr n0 L ∧ ∃ c2 : Jvm.Cell, ObjF Z c2 "com/example/bidcrier/bidcrier/teams/Blackboard" fl_C0 [.ref (n0 + 1), .ref (n0 + 2), .ref (n0 + 3), .ref (n0 + 4), .ref (n0 + 5), .ref (n0 + 6), .int (3 : Int32), .int (1 : Int32), .long (1 : Int64)] ∧ HP n0 h [c2, AC k1 [.long u2, .long u3, .long u4, .long u5], AC k2 [.int u6, .int u7, .int u8, .int u9], AC k3 [.int u10, .int u11, .int u12], AC k4 [.int u0, .int u14, .int u15], AC k5 [.int (1 : Int32), .int u17, .int u18], AC k6 [.long u1, .long u20, .long u21]]
theorem ef_rm4_26 (m : MethodId) (n0 : Nat) (u0 : Int32) (u1 : Int64) (u2 : Int64) (u3 : Int64) (u4 : Int64) (u5 : Int64) (u6 : Int32) (u7 : Int32) (u8 : Int32) (u9 : Int32) (u10 : Int32) (u11 : Int32) (u12 : Int32) (u13 : Int32) (u14 : Int32) (u15 : Int32) (u16 : Int32) (u17 : Int32) (u18 : Int32) (u19 : Int64) (u20 : Int64) (u21 : Int64) : entryFrame m #[.ref (n0 + 0), .int u0, .int (1 : Int32), .long u1] 5 = mkF m 0 #[.val (.ref (n0 + 0)), .val (.int u0), .val (.int (1 : Int32)), .val (.long u1), .second] [] := by first | (simp [entryFrame, mkF, argsToLocals, Value.category]; done) | rfl
set_option maxRecDepth 65536 in
set_option maxHeartbeats 40000000 in
theorem rm4_26 (l : Launch) (Z : State) (a0 : Array Value) (hw : ∀ d ∈ tables_1, d.before a0 Z = true) (ws : List Jvm.Cond) (n0 : Nat) (u0 : Int32) (u1 : Int64) (o0 : Jvm.Cell) (Fo0 : ObjF Z o0 "com/example/bidcrier/bidcrier/teams/Blackboard" fl_C0 [.ref (n0 + 1), .ref (n0 + 2), .ref (n0 + 3), .ref (n0 + 4), .ref (n0 + 5), .ref (n0 + 6), .int (3 : Int32), .int (0 : Int32), .long (0 : Int64)]) (k1 : ClassId) (hk1 : IsA Z k1 .long) (u2 : Int64) (u3 : Int64) (u4 : Int64) (u5 : Int64) (k2 : ClassId) (hk2 : IsA Z k2 .int) (u6 : Int32) (u7 : Int32) (u8 : Int32) (u9 : Int32) (k3 : ClassId) (hk3 : IsA Z k3 .int) (u10 : Int32) (u11 : Int32) (u12 : Int32) (k4 : ClassId) (hk4 : IsA Z k4 .int) (u13 : Int32) (u14 : Int32) (u15 : Int32) (k5 : ClassId) (hk5 : IsA Z k5 .int) (u16 : Int32) (u17 : Int32) (u18 : Int32) (k6 : ClassId) (hk6 : IsA Z k6 .long) (u19 : Int64) (u20 : Int64) (u21 : Int64) (h0 : Heap) (P0 : HP n0 h0 [o0, AC k1 [.long u2, .long u3, .long u4, .long u5], AC k2 [.int u6, .int u7, .int u8, .int u9], AC k3 [.int u10, .int u11, .int u12], AC k4 [.int u13, .int u14, .int u15], AC k5 [.int u16, .int u17, .int u18], AC k6 [.long u19, .long u20, .long u21]]) :
    MetFree l (⟨"com/example/bidcrier/bidcrier/teams/Blackboard", "post", "(IIJ)V"⟩ : MethodName) (head1 (Jvm.Cond.code (⟨"com/example/bidcrier/bidcrier/teams/Blackboard", "post", "(IIJ)V"⟩ : MethodName) prog_51_method_9_code 5 none :: ws) ({ frames := 0, cells := 0, slots := 0, locals := 0 } : Room)) (fun a U => a = #[.ref (n0 + 0), .int u0, .int (1 : Int32), .long u1] ∧ Z.Warmed39 U.vm ∧ U.heap = h0) (fun _ _ _ _ _ => True) (fun _ U o U' => ∃ v L, o = .returned v ∧ Q_rm4_26 Z n0 u0 u1 o0 k1 u2 u3 u4 u5 k2 u6 u7 u8 u9 k3 u10 u11 u12 k4 u13 u14 u15 k5 u16 u17 u18 k6 u19 u20 u21 v U'.heap L ∧ FrameEnd U o U' L ({ frames := 0, cells := 0, slots := 0, locals := 0 } : Room).cells ({ frames := 0, cells := 0, slots := 0, locals := 0 } : Room).slots) := by
  refine own_body pn4 ?_
  intro p e s m below meth c T0 hx hby hml hret hlk hown hnm hZ X0 e0
  subst e0
  have N0 : Fr n0 [] := Fr.nil n0
  refine own_cast (ef_rm4_26 m n0 u0 u1 u2 u3 u4 u5 u6 u7 u8 u9 u10 u11 u12 u13 u14 u15 u16 u17 u18 u19 u20 u21) ?_
  refine w_aloadN X0 hx (hb hby d4_0) rfl rfl (pc' := 1) rfl ?_
  refine w_getf (i := 0) (v := .ref (n0 + 4)) X0 hx hZ hown (wd18 hw) P0 rfl Fo0 3 rfl rfl (hb hby d4_1) (pc' := 4) rfl ?_
  intro T1 X1 P1
  refine w_aloadN X1 hx (hb hby d4_4) rfl rfl (pc' := 5) rfl ?_
  refine w_getf (i := 0) (v := .int (0 : Int32)) X1 hx hZ hown (wd35 hw) P1 rfl Fo0 7 rfl rfl (hb hby d4_5) (pc' := 8) rfl ?_
  intro T2 X2 P2
  refine w_iloadN X2 hx (hb hby d4_8) rfl (pc' := 9) rfl ?_
  refine w_iastore (i := 4) (jn := 0) X2 hx hZ N0 P2 rfl hk4 (hb hby d4_9) (by decide) (Nat.le_of_ble_eq_true rfl) (pc' := 10) rfl ?_
  intro T3 L1 N1 X3 P3
  replace P3 : HP n0 T3.heap [o0, AC k1 [.long u2, .long u3, .long u4, .long u5], AC k2 [.int u6, .int u7, .int u8, .int u9], AC k3 [.int u10, .int u11, .int u12], AC k4 [.int u0, .int u14, .int u15], AC k5 [.int u16, .int u17, .int u18], AC k6 [.long u19, .long u20, .long u21]] := P3
  refine w_aloadN X3 hx (hb hby d4_10) rfl rfl (pc' := 11) rfl ?_
  refine w_getf (i := 0) (v := .ref (n0 + 5)) X3 hx hZ hown (wd20 hw) P3 rfl Fo0 4 rfl rfl (hb hby d4_11) (pc' := 14) rfl ?_
  intro T4 X4 P4
  refine w_aloadN X4 hx (hb hby d4_14) rfl rfl (pc' := 15) rfl ?_
  refine w_getf (i := 0) (v := .int (0 : Int32)) X4 hx hZ hown (wd35 hw) P4 rfl Fo0 7 rfl rfl (hb hby d4_15) (pc' := 18) rfl ?_
  intro T5 X5 P5
  refine w_iloadN X5 hx (hb hby d4_18) rfl (pc' := 19) rfl ?_
  refine w_iastore (i := 5) (jn := 0) X5 hx hZ N1 P5 rfl hk5 (hb hby d4_19) (by decide) (Nat.le_of_ble_eq_true rfl) (pc' := 20) rfl ?_
  intro T6 L2 N2 X6 P6
  replace P6 : HP n0 T6.heap [o0, AC k1 [.long u2, .long u3, .long u4, .long u5], AC k2 [.int u6, .int u7, .int u8, .int u9], AC k3 [.int u10, .int u11, .int u12], AC k4 [.int u0, .int u14, .int u15], AC k5 [.int (1 : Int32), .int u17, .int u18], AC k6 [.long u19, .long u20, .long u21]] := P6
  refine w_aloadN X6 hx (hb hby d4_20) rfl rfl (pc' := 21) rfl ?_
  refine w_getf (i := 0) (v := .ref (n0 + 6)) X6 hx hZ hown (wd22 hw) P6 rfl Fo0 5 rfl rfl (hb hby d4_21) (pc' := 24) rfl ?_
  intro T7 X7 P7
  refine w_aloadN X7 hx (hb hby d4_24) rfl rfl (pc' := 25) rfl ?_
  refine w_getf (i := 0) (v := .int (0 : Int32)) X7 hx hZ hown (wd35 hw) P7 rfl Fo0 7 rfl rfl (hb hby d4_25) (pc' := 28) rfl ?_
  intro T8 X8 P8
  refine w_lloadN X8 hx (hb hby d4_28) rfl (pc' := 29) rfl ?_
  refine w_lastore (i := 6) (jn := 0) X8 hx hZ N2 P8 rfl hk6 (hb hby d4_29) (by decide) (Nat.le_of_ble_eq_true rfl) (pc' := 30) rfl ?_
  intro T9 L3 N3 X9 P9
  replace P9 : HP n0 T9.heap [o0, AC k1 [.long u2, .long u3, .long u4, .long u5], AC k2 [.int u6, .int u7, .int u8, .int u9], AC k3 [.int u10, .int u11, .int u12], AC k4 [.int u0, .int u14, .int u15], AC k5 [.int (1 : Int32), .int u17, .int u18], AC k6 [.long u1, .long u20, .long u21]] := P9
  refine w_aloadN X9 hx (hb hby d4_30) rfl rfl (pc' := 31) rfl ?_
  refine w_dup X9 hx (hb hby d4_31) rfl (pc' := 32) rfl ?_
  refine w_getf (i := 0) (v := .int (0 : Int32)) X9 hx hZ hown (wd35 hw) P9 rfl Fo0 7 rfl rfl (hb hby d4_32) (pc' := 35) rfl ?_
  intro T10 X10 P10
  refine w_iconst (v := (1 : Int32)) X10 hx (hb hby d4_35) rfl (pc' := 36) rfl ?_
  refine w_iadd X10 hx (hb hby d4_36) (pc' := 37) rfl ?_
  refine w_eqI (z := (1 : Int32)) (by decide) ?_
  refine w_putf (i := 0) (ty := .int) X10 hx hZ hown (wd35 hw) N3 P10 rfl Fo0 (di_C0 hw) 7 rfl (Or.inl (wd36 hw)) (wd2 hw) (by decide) rfl rfl (hb hby d4_37) (pc' := 40) rfl ?_
  intro T11 L4 c1 N4 X11 P11 F1
  replace P11 : HP n0 T11.heap [c1, AC k1 [.long u2, .long u3, .long u4, .long u5], AC k2 [.int u6, .int u7, .int u8, .int u9], AC k3 [.int u10, .int u11, .int u12], AC k4 [.int u0, .int u14, .int u15], AC k5 [.int (1 : Int32), .int u17, .int u18], AC k6 [.long u1, .long u20, .long u21]] := P11
  replace F1 : ObjF Z c1 "com/example/bidcrier/bidcrier/teams/Blackboard" fl_C0 [.ref (n0 + 1), .ref (n0 + 2), .ref (n0 + 3), .ref (n0 + 4), .ref (n0 + 5), .ref (n0 + 6), .int (3 : Int32), .int (1 : Int32), .long (0 : Int64)] := F1
  refine w_aloadN X11 hx (hb hby d4_40) rfl rfl (pc' := 41) rfl ?_
  refine w_dup X11 hx (hb hby d4_41) rfl (pc' := 42) rfl ?_
  refine w_getf (i := 0) (v := .long (0 : Int64)) X11 hx hZ hown (wd37 hw) P11 rfl F1 8 rfl rfl (hb hby d4_42) (pc' := 45) rfl ?_
  intro T12 X12 P12
  refine w_lconst (v := (1 : Int64)) X12 hx (hb hby d4_45) rfl (pc' := 46) rfl ?_
  refine w_ladd X12 hx (hb hby d4_46) (pc' := 47) rfl ?_
  refine w_eqJ (z := (1 : Int64)) (by decide) ?_
  refine w_putf (i := 0) (ty := .long) X12 hx hZ hown (wd37 hw) N4 P12 rfl F1 (di_C0 hw) 8 rfl (Or.inl (wd38 hw)) (wd2 hw) (by decide) rfl rfl (hb hby d4_47) (pc' := 50) rfl ?_
  intro T13 L5 c2 N5 X13 P13 F2
  replace P13 : HP n0 T13.heap [c2, AC k1 [.long u2, .long u3, .long u4, .long u5], AC k2 [.int u6, .int u7, .int u8, .int u9], AC k3 [.int u10, .int u11, .int u12], AC k4 [.int u0, .int u14, .int u15], AC k5 [.int (1 : Int32), .int u17, .int u18], AC k6 [.long u1, .long u20, .long u21]] := P13
  replace F2 : ObjF Z c2 "com/example/bidcrier/bidcrier/teams/Blackboard" fl_C0 [.ref (n0 + 1), .ref (n0 + 2), .ref (n0 + 3), .ref (n0 + 4), .ref (n0 + 5), .ref (n0 + 6), .int (3 : Int32), .int (1 : Int32), .long (1 : Int64)] := F2
  exact w_ret_v X13 hx hret hlk (hb hby d4_50) (by decide) (by decide) ⟨rfl, N5, c2, F2, P13⟩
def Q_rm12_27 (Z : State) (n0 : Nat) (o0 : Jvm.Cell) (k1 : ClassId) (u0 : Int64) (u1 : Int64) (u2 : Int64) (u3 : Int64) (k2 : ClassId) (u4 : Int32) (u5 : Int32) (u6 : Int32) (u7 : Int32) (k3 : ClassId) (u8 : Int32) (u9 : Int32) (u10 : Int32) (k4 : ClassId) (u11 : Int32) (u12 : Int32) (u13 : Int32) (k5 : ClassId) (u14 : Int32) (u15 : Int32) (u16 : Int32) (k6 : ClassId) (u17 : Int64) (u18 : Int64) (u19 : Int64) (v : Option Value) (h : Heap) (L : List Loc) : Prop := v = some (.long u1) ∧ Fr n0 L ∧ HP n0 h [o0, AC k1 [.long u0, .long u1, .long u2, .long u3], AC k2 [.int u4, .int u5, .int u6, .int u7], AC k3 [.int u8, .int u9, .int u10], AC k4 [.int u11, .int u12, .int u13], AC k5 [.int u14, .int u15, .int u16], AC k6 [.long u17, .long u18, .long u19]]
theorem ef_rm12_27 (m : MethodId) (n0 : Nat) (u0 : Int64) (u1 : Int64) (u2 : Int64) (u3 : Int64) (u4 : Int32) (u5 : Int32) (u6 : Int32) (u7 : Int32) (u8 : Int32) (u9 : Int32) (u10 : Int32) (u11 : Int32) (u12 : Int32) (u13 : Int32) (u14 : Int32) (u15 : Int32) (u16 : Int32) (u17 : Int64) (u18 : Int64) (u19 : Int64) : entryFrame m #[.ref (n0 + 0), .int (1 : Int32)] 2 = mkF m 0 #[.val (.ref (n0 + 0)), .val (.int (1 : Int32))] [] := by first | (simp [entryFrame, mkF, argsToLocals, Value.category]; done) | rfl
set_option maxRecDepth 65536 in
set_option maxHeartbeats 40000000 in
theorem rm12_27 (l : Launch) (Z : State) (a0 : Array Value) (hw : ∀ d ∈ tables_1, d.before a0 Z = true) (ws : List Jvm.Cond) (n0 : Nat) (o0 : Jvm.Cell) (Fo0 : ObjF Z o0 "com/example/bidcrier/bidcrier/teams/Blackboard" fl_C0 [.ref (n0 + 1), .ref (n0 + 2), .ref (n0 + 3), .ref (n0 + 4), .ref (n0 + 5), .ref (n0 + 6), .int (3 : Int32), .int (2 : Int32), .long (2 : Int64)]) (k1 : ClassId) (hk1 : IsA Z k1 .long) (u0 : Int64) (u1 : Int64) (u2 : Int64) (u3 : Int64) (k2 : ClassId) (hk2 : IsA Z k2 .int) (u4 : Int32) (u5 : Int32) (u6 : Int32) (u7 : Int32) (k3 : ClassId) (hk3 : IsA Z k3 .int) (u8 : Int32) (u9 : Int32) (u10 : Int32) (k4 : ClassId) (hk4 : IsA Z k4 .int) (u11 : Int32) (u12 : Int32) (u13 : Int32) (k5 : ClassId) (hk5 : IsA Z k5 .int) (u14 : Int32) (u15 : Int32) (u16 : Int32) (k6 : ClassId) (hk6 : IsA Z k6 .long) (u17 : Int64) (u18 : Int64) (u19 : Int64) (h0 : Heap) (P0 : HP n0 h0 [o0, AC k1 [.long u0, .long u1, .long u2, .long u3], AC k2 [.int u4, .int u5, .int u6, .int u7], AC k3 [.int u8, .int u9, .int u10], AC k4 [.int u11, .int u12, .int u13], AC k5 [.int u14, .int u15, .int u16], AC k6 [.long u17, .long u18, .long u19]]) :
    MetFree l (⟨"com/example/bidcrier/bidcrier/teams/Blackboard", "price", "(I)J"⟩ : MethodName) (head1 (Jvm.Cond.code (⟨"com/example/bidcrier/bidcrier/teams/Blackboard", "price", "(I)J"⟩ : MethodName) prog_51_method_4_code 2 (some .long) :: ws) ({ frames := 0, cells := 0, slots := 0, locals := 0 } : Room)) (fun a U => a = #[.ref (n0 + 0), .int (1 : Int32)] ∧ Z.Warmed39 U.vm ∧ U.heap = h0) (fun _ _ _ _ _ => True) (fun _ U o U' => ∃ v L, o = .returned v ∧ Q_rm12_27 Z n0 o0 k1 u0 u1 u2 u3 k2 u4 u5 u6 u7 k3 u8 u9 u10 k4 u11 u12 u13 k5 u14 u15 u16 k6 u17 u18 u19 v U'.heap L ∧ FrameEnd U o U' L ({ frames := 0, cells := 0, slots := 0, locals := 0 } : Room).cells ({ frames := 0, cells := 0, slots := 0, locals := 0 } : Room).slots) := by
  refine own_body pn12 ?_
  intro p e s m below meth c T0 hx hby hml hret hlk hown hnm hZ X0 e0
  subst e0
  have N0 : Fr n0 [] := Fr.nil n0
  refine own_cast (ef_rm12_27 m n0 u0 u1 u2 u3 u4 u5 u6 u7 u8 u9 u10 u11 u12 u13 u14 u15 u16 u17 u18 u19) ?_
  refine w_aloadN X0 hx (hb hby d12_0) rfl rfl (pc' := 1) rfl ?_
  refine w_getf (i := 0) (v := .ref (n0 + 1)) X0 hx hZ hown (wd11 hw) P0 rfl Fo0 0 rfl rfl (hb hby d12_1) (pc' := 4) rfl ?_
  intro T1 X1 P1
  refine w_iloadN X1 hx (hb hby d12_4) rfl (pc' := 5) rfl ?_
  refine w_laload (i := 1) (jn := 1) (v := .long u1) X1 hx hZ P1 rfl hk1 (hb hby d12_5) (by decide) rfl (pc' := 6) rfl ?_
  exact w_ret_l X1 hx hret hlk (hb hby d12_6) (by decide) (by decide) ⟨rfl, N0, P1⟩
def Q_rm12_28 (Z : State) (n0 : Nat) (o0 : Jvm.Cell) (k1 : ClassId) (u0 : Int64) (u1 : Int64) (u2 : Int64) (u3 : Int64) (k2 : ClassId) (u4 : Int32) (u5 : Int32) (u6 : Int32) (u7 : Int32) (k3 : ClassId) (u8 : Int32) (u9 : Int32) (u10 : Int32) (k4 : ClassId) (u11 : Int32) (u12 : Int32) (u13 : Int32) (k5 : ClassId) (u14 : Int32) (u15 : Int32) (u16 : Int32) (k6 : ClassId) (u17 : Int64) (u18 : Int64) (u19 : Int64) (v : Option Value) (h : Heap) (L : List Loc) : Prop := v = some (.long u1) ∧ Fr n0 L ∧ HP n0 h [o0, AC k1 [.long u0, .long u1, .long u2, .long u3], AC k2 [.int u4, .int u5, .int u6, .int u7], AC k3 [.int u8, .int u9, .int u10], AC k4 [.int u11, .int u12, .int u13], AC k5 [.int u14, .int u15, .int u16], AC k6 [.long u17, .long u18, .long u19]]
theorem ef_rm12_28 (m : MethodId) (n0 : Nat) (u0 : Int64) (u1 : Int64) (u2 : Int64) (u3 : Int64) (u4 : Int32) (u5 : Int32) (u6 : Int32) (u7 : Int32) (u8 : Int32) (u9 : Int32) (u10 : Int32) (u11 : Int32) (u12 : Int32) (u13 : Int32) (u14 : Int32) (u15 : Int32) (u16 : Int32) (u17 : Int64) (u18 : Int64) (u19 : Int64) : entryFrame m #[.ref (n0 + 0), .int (1 : Int32)] 2 = mkF m 0 #[.val (.ref (n0 + 0)), .val (.int (1 : Int32))] [] := by first | (simp [entryFrame, mkF, argsToLocals, Value.category]; done) | rfl
set_option maxRecDepth 65536 in
set_option maxHeartbeats 40000000 in
theorem rm12_28 (l : Launch) (Z : State) (a0 : Array Value) (hw : ∀ d ∈ tables_1, d.before a0 Z = true) (ws : List Jvm.Cond) (n0 : Nat) (o0 : Jvm.Cell) (Fo0 : ObjF Z o0 "com/example/bidcrier/bidcrier/teams/Blackboard" fl_C0 [.ref (n0 + 1), .ref (n0 + 2), .ref (n0 + 3), .ref (n0 + 4), .ref (n0 + 5), .ref (n0 + 6), .int (3 : Int32), .int (1 : Int32), .long (2 : Int64)]) (k1 : ClassId) (hk1 : IsA Z k1 .long) (u0 : Int64) (u1 : Int64) (u2 : Int64) (u3 : Int64) (k2 : ClassId) (hk2 : IsA Z k2 .int) (u4 : Int32) (u5 : Int32) (u6 : Int32) (u7 : Int32) (k3 : ClassId) (hk3 : IsA Z k3 .int) (u8 : Int32) (u9 : Int32) (u10 : Int32) (k4 : ClassId) (hk4 : IsA Z k4 .int) (u11 : Int32) (u12 : Int32) (u13 : Int32) (k5 : ClassId) (hk5 : IsA Z k5 .int) (u14 : Int32) (u15 : Int32) (u16 : Int32) (k6 : ClassId) (hk6 : IsA Z k6 .long) (u17 : Int64) (u18 : Int64) (u19 : Int64) (h0 : Heap) (P0 : HP n0 h0 [o0, AC k1 [.long u0, .long u1, .long u2, .long u3], AC k2 [.int u4, .int u5, .int u6, .int u7], AC k3 [.int u8, .int u9, .int u10], AC k4 [.int u11, .int u12, .int u13], AC k5 [.int u14, .int u15, .int u16], AC k6 [.long u17, .long u18, .long u19]]) :
    MetFree l (⟨"com/example/bidcrier/bidcrier/teams/Blackboard", "price", "(I)J"⟩ : MethodName) (head1 (Jvm.Cond.code (⟨"com/example/bidcrier/bidcrier/teams/Blackboard", "price", "(I)J"⟩ : MethodName) prog_51_method_4_code 2 (some .long) :: ws) ({ frames := 0, cells := 0, slots := 0, locals := 0 } : Room)) (fun a U => a = #[.ref (n0 + 0), .int (1 : Int32)] ∧ Z.Warmed39 U.vm ∧ U.heap = h0) (fun _ _ _ _ _ => True) (fun _ U o U' => ∃ v L, o = .returned v ∧ Q_rm12_28 Z n0 o0 k1 u0 u1 u2 u3 k2 u4 u5 u6 u7 k3 u8 u9 u10 k4 u11 u12 u13 k5 u14 u15 u16 k6 u17 u18 u19 v U'.heap L ∧ FrameEnd U o U' L ({ frames := 0, cells := 0, slots := 0, locals := 0 } : Room).cells ({ frames := 0, cells := 0, slots := 0, locals := 0 } : Room).slots) := by
  refine own_body pn12 ?_
  intro p e s m below meth c T0 hx hby hml hret hlk hown hnm hZ X0 e0
  subst e0
  have N0 : Fr n0 [] := Fr.nil n0
  refine own_cast (ef_rm12_28 m n0 u0 u1 u2 u3 u4 u5 u6 u7 u8 u9 u10 u11 u12 u13 u14 u15 u16 u17 u18 u19) ?_
  refine w_aloadN X0 hx (hb hby d12_0) rfl rfl (pc' := 1) rfl ?_
  refine w_getf (i := 0) (v := .ref (n0 + 1)) X0 hx hZ hown (wd11 hw) P0 rfl Fo0 0 rfl rfl (hb hby d12_1) (pc' := 4) rfl ?_
  intro T1 X1 P1
  refine w_iloadN X1 hx (hb hby d12_4) rfl (pc' := 5) rfl ?_
  refine w_laload (i := 1) (jn := 1) (v := .long u1) X1 hx hZ P1 rfl hk1 (hb hby d12_5) (by decide) rfl (pc' := 6) rfl ?_
  exact w_ret_l X1 hx hret hlk (hb hby d12_6) (by decide) (by decide) ⟨rfl, N0, P1⟩
def Q_rm4_29 (Z : State) (n0 : Nat) (u0 : Int32) (u1 : Int64) (o0 : Jvm.Cell) (k1 : ClassId) (u2 : Int64) (u3 : Int64) (u4 : Int64) (u5 : Int64) (k2 : ClassId) (u6 : Int32) (u7 : Int32) (u8 : Int32) (u9 : Int32) (k3 : ClassId) (u10 : Int32) (u11 : Int32) (u12 : Int32) (k4 : ClassId) (u13 : Int32) (u14 : Int32) (u15 : Int32) (k5 : ClassId) (u16 : Int32) (u17 : Int32) (u18 : Int32) (k6 : ClassId) (u19 : Int64) (u20 : Int64) (u21 : Int64) (v : Option Value) (h : Heap) (L : List Loc) : Prop := v = none ∧ Fr n0 L ∧ ∃ c2 : Jvm.Cell, ObjF Z c2 "com/example/bidcrier/bidcrier/teams/Blackboard" fl_C0 [.ref (n0 + 1), .ref (n0 + 2), .ref (n0 + 3), .ref (n0 + 4), .ref (n0 + 5), .ref (n0 + 6), .int (3 : Int32), .int (1 : Int32), .long (1 : Int64)] ∧ HP n0 h [c2, AC k1 [.long u2, .long u3, .long u4, .long u5], AC k2 [.int u6, .int u7, .int u8, .int u9], AC k3 [.int u10, .int u11, .int u12], AC k4 [.int u0, .int u14, .int u15], AC k5 [.int (2 : Int32), .int u17, .int u18], AC k6 [.long u1, .long u20, .long u21]]
theorem ef_rm4_29 (m : MethodId) (n0 : Nat) (u0 : Int32) (u1 : Int64) (u2 : Int64) (u3 : Int64) (u4 : Int64) (u5 : Int64) (u6 : Int32) (u7 : Int32) (u8 : Int32) (u9 : Int32) (u10 : Int32) (u11 : Int32) (u12 : Int32) (u13 : Int32) (u14 : Int32) (u15 : Int32) (u16 : Int32) (u17 : Int32) (u18 : Int32) (u19 : Int64) (u20 : Int64) (u21 : Int64) : entryFrame m #[.ref (n0 + 0), .int u0, .int (2 : Int32), .long u1] 5 = mkF m 0 #[.val (.ref (n0 + 0)), .val (.int u0), .val (.int (2 : Int32)), .val (.long u1), .second] [] := by first | (simp [entryFrame, mkF, argsToLocals, Value.category]; done) | rfl
set_option maxRecDepth 65536 in
set_option maxHeartbeats 40000000 in
theorem rm4_29 (l : Launch) (Z : State) (a0 : Array Value) (hw : ∀ d ∈ tables_1, d.before a0 Z = true) (ws : List Jvm.Cond) (n0 : Nat) (u0 : Int32) (u1 : Int64) (o0 : Jvm.Cell) (Fo0 : ObjF Z o0 "com/example/bidcrier/bidcrier/teams/Blackboard" fl_C0 [.ref (n0 + 1), .ref (n0 + 2), .ref (n0 + 3), .ref (n0 + 4), .ref (n0 + 5), .ref (n0 + 6), .int (3 : Int32), .int (0 : Int32), .long (0 : Int64)]) (k1 : ClassId) (hk1 : IsA Z k1 .long) (u2 : Int64) (u3 : Int64) (u4 : Int64) (u5 : Int64) (k2 : ClassId) (hk2 : IsA Z k2 .int) (u6 : Int32) (u7 : Int32) (u8 : Int32) (u9 : Int32) (k3 : ClassId) (hk3 : IsA Z k3 .int) (u10 : Int32) (u11 : Int32) (u12 : Int32) (k4 : ClassId) (hk4 : IsA Z k4 .int) (u13 : Int32) (u14 : Int32) (u15 : Int32) (k5 : ClassId) (hk5 : IsA Z k5 .int) (u16 : Int32) (u17 : Int32) (u18 : Int32) (k6 : ClassId) (hk6 : IsA Z k6 .long) (u19 : Int64) (u20 : Int64) (u21 : Int64) (h0 : Heap) (P0 : HP n0 h0 [o0, AC k1 [.long u2, .long u3, .long u4, .long u5], AC k2 [.int u6, .int u7, .int u8, .int u9], AC k3 [.int u10, .int u11, .int u12], AC k4 [.int u13, .int u14, .int u15], AC k5 [.int u16, .int u17, .int u18], AC k6 [.long u19, .long u20, .long u21]]) :
    MetFree l (⟨"com/example/bidcrier/bidcrier/teams/Blackboard", "post", "(IIJ)V"⟩ : MethodName) (head1 (Jvm.Cond.code (⟨"com/example/bidcrier/bidcrier/teams/Blackboard", "post", "(IIJ)V"⟩ : MethodName) prog_51_method_9_code 5 none :: ws) ({ frames := 0, cells := 0, slots := 0, locals := 0 } : Room)) (fun a U => a = #[.ref (n0 + 0), .int u0, .int (2 : Int32), .long u1] ∧ Z.Warmed39 U.vm ∧ U.heap = h0) (fun _ _ _ _ _ => True) (fun _ U o U' => ∃ v L, o = .returned v ∧ Q_rm4_29 Z n0 u0 u1 o0 k1 u2 u3 u4 u5 k2 u6 u7 u8 u9 k3 u10 u11 u12 k4 u13 u14 u15 k5 u16 u17 u18 k6 u19 u20 u21 v U'.heap L ∧ FrameEnd U o U' L ({ frames := 0, cells := 0, slots := 0, locals := 0 } : Room).cells ({ frames := 0, cells := 0, slots := 0, locals := 0 } : Room).slots) := by
  refine own_body pn4 ?_
  intro p e s m below meth c T0 hx hby hml hret hlk hown hnm hZ X0 e0
  subst e0
  have N0 : Fr n0 [] := Fr.nil n0
  refine own_cast (ef_rm4_29 m n0 u0 u1 u2 u3 u4 u5 u6 u7 u8 u9 u10 u11 u12 u13 u14 u15 u16 u17 u18 u19 u20 u21) ?_
  refine w_aloadN X0 hx (hb hby d4_0) rfl rfl (pc' := 1) rfl ?_
  refine w_getf (i := 0) (v := .ref (n0 + 4)) X0 hx hZ hown (wd18 hw) P0 rfl Fo0 3 rfl rfl (hb hby d4_1) (pc' := 4) rfl ?_
  intro T1 X1 P1
  refine w_aloadN X1 hx (hb hby d4_4) rfl rfl (pc' := 5) rfl ?_
  refine w_getf (i := 0) (v := .int (0 : Int32)) X1 hx hZ hown (wd35 hw) P1 rfl Fo0 7 rfl rfl (hb hby d4_5) (pc' := 8) rfl ?_
  intro T2 X2 P2
  refine w_iloadN X2 hx (hb hby d4_8) rfl (pc' := 9) rfl ?_
  refine w_iastore (i := 4) (jn := 0) X2 hx hZ N0 P2 rfl hk4 (hb hby d4_9) (by decide) (Nat.le_of_ble_eq_true rfl) (pc' := 10) rfl ?_
  intro T3 L1 N1 X3 P3
  replace P3 : HP n0 T3.heap [o0, AC k1 [.long u2, .long u3, .long u4, .long u5], AC k2 [.int u6, .int u7, .int u8, .int u9], AC k3 [.int u10, .int u11, .int u12], AC k4 [.int u0, .int u14, .int u15], AC k5 [.int u16, .int u17, .int u18], AC k6 [.long u19, .long u20, .long u21]] := P3
  refine w_aloadN X3 hx (hb hby d4_10) rfl rfl (pc' := 11) rfl ?_
  refine w_getf (i := 0) (v := .ref (n0 + 5)) X3 hx hZ hown (wd20 hw) P3 rfl Fo0 4 rfl rfl (hb hby d4_11) (pc' := 14) rfl ?_
  intro T4 X4 P4
  refine w_aloadN X4 hx (hb hby d4_14) rfl rfl (pc' := 15) rfl ?_
  refine w_getf (i := 0) (v := .int (0 : Int32)) X4 hx hZ hown (wd35 hw) P4 rfl Fo0 7 rfl rfl (hb hby d4_15) (pc' := 18) rfl ?_
  intro T5 X5 P5
  refine w_iloadN X5 hx (hb hby d4_18) rfl (pc' := 19) rfl ?_
  refine w_iastore (i := 5) (jn := 0) X5 hx hZ N1 P5 rfl hk5 (hb hby d4_19) (by decide) (Nat.le_of_ble_eq_true rfl) (pc' := 20) rfl ?_
  intro T6 L2 N2 X6 P6
  replace P6 : HP n0 T6.heap [o0, AC k1 [.long u2, .long u3, .long u4, .long u5], AC k2 [.int u6, .int u7, .int u8, .int u9], AC k3 [.int u10, .int u11, .int u12], AC k4 [.int u0, .int u14, .int u15], AC k5 [.int (2 : Int32), .int u17, .int u18], AC k6 [.long u19, .long u20, .long u21]] := P6
  refine w_aloadN X6 hx (hb hby d4_20) rfl rfl (pc' := 21) rfl ?_
  refine w_getf (i := 0) (v := .ref (n0 + 6)) X6 hx hZ hown (wd22 hw) P6 rfl Fo0 5 rfl rfl (hb hby d4_21) (pc' := 24) rfl ?_
  intro T7 X7 P7
  refine w_aloadN X7 hx (hb hby d4_24) rfl rfl (pc' := 25) rfl ?_
  refine w_getf (i := 0) (v := .int (0 : Int32)) X7 hx hZ hown (wd35 hw) P7 rfl Fo0 7 rfl rfl (hb hby d4_25) (pc' := 28) rfl ?_
  intro T8 X8 P8
  refine w_lloadN X8 hx (hb hby d4_28) rfl (pc' := 29) rfl ?_
  refine w_lastore (i := 6) (jn := 0) X8 hx hZ N2 P8 rfl hk6 (hb hby d4_29) (by decide) (Nat.le_of_ble_eq_true rfl) (pc' := 30) rfl ?_
  intro T9 L3 N3 X9 P9
  replace P9 : HP n0 T9.heap [o0, AC k1 [.long u2, .long u3, .long u4, .long u5], AC k2 [.int u6, .int u7, .int u8, .int u9], AC k3 [.int u10, .int u11, .int u12], AC k4 [.int u0, .int u14, .int u15], AC k5 [.int (2 : Int32), .int u17, .int u18], AC k6 [.long u1, .long u20, .long u21]] := P9
  refine w_aloadN X9 hx (hb hby d4_30) rfl rfl (pc' := 31) rfl ?_
  refine w_dup X9 hx (hb hby d4_31) rfl (pc' := 32) rfl ?_
  refine w_getf (i := 0) (v := .int (0 : Int32)) X9 hx hZ hown (wd35 hw) P9 rfl Fo0 7 rfl rfl (hb hby d4_32) (pc' := 35) rfl ?_
  intro T10 X10 P10
  refine w_iconst (v := (1 : Int32)) X10 hx (hb hby d4_35) rfl (pc' := 36) rfl ?_
  refine w_iadd X10 hx (hb hby d4_36) (pc' := 37) rfl ?_
  refine w_eqI (z := (1 : Int32)) (by decide) ?_
  refine w_putf (i := 0) (ty := .int) X10 hx hZ hown (wd35 hw) N3 P10 rfl Fo0 (di_C0 hw) 7 rfl (Or.inl (wd36 hw)) (wd2 hw) (by decide) rfl rfl (hb hby d4_37) (pc' := 40) rfl ?_
  intro T11 L4 c1 N4 X11 P11 F1
  replace P11 : HP n0 T11.heap [c1, AC k1 [.long u2, .long u3, .long u4, .long u5], AC k2 [.int u6, .int u7, .int u8, .int u9], AC k3 [.int u10, .int u11, .int u12], AC k4 [.int u0, .int u14, .int u15], AC k5 [.int (2 : Int32), .int u17, .int u18], AC k6 [.long u1, .long u20, .long u21]] := P11
  replace F1 : ObjF Z c1 "com/example/bidcrier/bidcrier/teams/Blackboard" fl_C0 [.ref (n0 + 1), .ref (n0 + 2), .ref (n0 + 3), .ref (n0 + 4), .ref (n0 + 5), .ref (n0 + 6), .int (3 : Int32), .int (1 : Int32), .long (0 : Int64)] := F1
  refine w_aloadN X11 hx (hb hby d4_40) rfl rfl (pc' := 41) rfl ?_
  refine w_dup X11 hx (hb hby d4_41) rfl (pc' := 42) rfl ?_
  refine w_getf (i := 0) (v := .long (0 : Int64)) X11 hx hZ hown (wd37 hw) P11 rfl F1 8 rfl rfl (hb hby d4_42) (pc' := 45) rfl ?_
  intro T12 X12 P12
  refine w_lconst (v := (1 : Int64)) X12 hx (hb hby d4_45) rfl (pc' := 46) rfl ?_
  refine w_ladd X12 hx (hb hby d4_46) (pc' := 47) rfl ?_
  refine w_eqJ (z := (1 : Int64)) (by decide) ?_
  refine w_putf (i := 0) (ty := .long) X12 hx hZ hown (wd37 hw) N4 P12 rfl F1 (di_C0 hw) 8 rfl (Or.inl (wd38 hw)) (wd2 hw) (by decide) rfl rfl (hb hby d4_47) (pc' := 50) rfl ?_
  intro T13 L5 c2 N5 X13 P13 F2
  replace P13 : HP n0 T13.heap [c2, AC k1 [.long u2, .long u3, .long u4, .long u5], AC k2 [.int u6, .int u7, .int u8, .int u9], AC k3 [.int u10, .int u11, .int u12], AC k4 [.int u0, .int u14, .int u15], AC k5 [.int (2 : Int32), .int u17, .int u18], AC k6 [.long u1, .long u20, .long u21]] := P13
  replace F2 : ObjF Z c2 "com/example/bidcrier/bidcrier/teams/Blackboard" fl_C0 [.ref (n0 + 1), .ref (n0 + 2), .ref (n0 + 3), .ref (n0 + 4), .ref (n0 + 5), .ref (n0 + 6), .int (3 : Int32), .int (1 : Int32), .long (1 : Int64)] := F2
  exact w_ret_v X13 hx hret hlk (hb hby d4_50) (by decide) (by decide) ⟨rfl, N5, c2, F2, P13⟩
def Q_rm12_30 (Z : State) (n0 : Nat) (o0 : Jvm.Cell) (k1 : ClassId) (u0 : Int64) (u1 : Int64) (u2 : Int64) (u3 : Int64) (k2 : ClassId) (u4 : Int32) (u5 : Int32) (u6 : Int32) (u7 : Int32) (k3 : ClassId) (u8 : Int32) (u9 : Int32) (u10 : Int32) (k4 : ClassId) (u11 : Int32) (u12 : Int32) (u13 : Int32) (k5 : ClassId) (u14 : Int32) (u15 : Int32) (u16 : Int32) (k6 : ClassId) (u17 : Int64) (u18 : Int64) (u19 : Int64) (v : Option Value) (h : Heap) (L : List Loc) : Prop := v = some (.long u2) ∧ Fr n0 L ∧ HP n0 h [o0, AC k1 [.long u0, .long u1, .long u2, .long u3], AC k2 [.int u4, .int u5, .int u6, .int u7], AC k3 [.int u8, .int u9, .int u10], AC k4 [.int u11, .int u12, .int u13], AC k5 [.int u14, .int u15, .int u16], AC k6 [.long u17, .long u18, .long u19]]
theorem ef_rm12_30 (m : MethodId) (n0 : Nat) (u0 : Int64) (u1 : Int64) (u2 : Int64) (u3 : Int64) (u4 : Int32) (u5 : Int32) (u6 : Int32) (u7 : Int32) (u8 : Int32) (u9 : Int32) (u10 : Int32) (u11 : Int32) (u12 : Int32) (u13 : Int32) (u14 : Int32) (u15 : Int32) (u16 : Int32) (u17 : Int64) (u18 : Int64) (u19 : Int64) : entryFrame m #[.ref (n0 + 0), .int (2 : Int32)] 2 = mkF m 0 #[.val (.ref (n0 + 0)), .val (.int (2 : Int32))] [] := by first | (simp [entryFrame, mkF, argsToLocals, Value.category]; done) | rfl
set_option maxRecDepth 65536 in
set_option maxHeartbeats 40000000 in
theorem rm12_30 (l : Launch) (Z : State) (a0 : Array Value) (hw : ∀ d ∈ tables_1, d.before a0 Z = true) (ws : List Jvm.Cond) (n0 : Nat) (o0 : Jvm.Cell) (Fo0 : ObjF Z o0 "com/example/bidcrier/bidcrier/teams/Blackboard" fl_C0 [.ref (n0 + 1), .ref (n0 + 2), .ref (n0 + 3), .ref (n0 + 4), .ref (n0 + 5), .ref (n0 + 6), .int (3 : Int32), .int (2 : Int32), .long (2 : Int64)]) (k1 : ClassId) (hk1 : IsA Z k1 .long) (u0 : Int64) (u1 : Int64) (u2 : Int64) (u3 : Int64) (k2 : ClassId) (hk2 : IsA Z k2 .int) (u4 : Int32) (u5 : Int32) (u6 : Int32) (u7 : Int32) (k3 : ClassId) (hk3 : IsA Z k3 .int) (u8 : Int32) (u9 : Int32) (u10 : Int32) (k4 : ClassId) (hk4 : IsA Z k4 .int) (u11 : Int32) (u12 : Int32) (u13 : Int32) (k5 : ClassId) (hk5 : IsA Z k5 .int) (u14 : Int32) (u15 : Int32) (u16 : Int32) (k6 : ClassId) (hk6 : IsA Z k6 .long) (u17 : Int64) (u18 : Int64) (u19 : Int64) (h0 : Heap) (P0 : HP n0 h0 [o0, AC k1 [.long u0, .long u1, .long u2, .long u3], AC k2 [.int u4, .int u5, .int u6, .int u7], AC k3 [.int u8, .int u9, .int u10], AC k4 [.int u11, .int u12, .int u13], AC k5 [.int u14, .int u15, .int u16], AC k6 [.long u17, .long u18, .long u19]]) :
    MetFree l (⟨"com/example/bidcrier/bidcrier/teams/Blackboard", "price", "(I)J"⟩ : MethodName) (head1 (Jvm.Cond.code (⟨"com/example/bidcrier/bidcrier/teams/Blackboard", "price", "(I)J"⟩ : MethodName) prog_51_method_4_code 2 (some .long) :: ws) ({ frames := 0, cells := 0, slots := 0, locals := 0 } : Room)) (fun a U => a = #[.ref (n0 + 0), .int (2 : Int32)] ∧ Z.Warmed39 U.vm ∧ U.heap = h0) (fun _ _ _ _ _ => True) (fun _ U o U' => ∃ v L, o = .returned v ∧ Q_rm12_30 Z n0 o0 k1 u0 u1 u2 u3 k2 u4 u5 u6 u7 k3 u8 u9 u10 k4 u11 u12 u13 k5 u14 u15 u16 k6 u17 u18 u19 v U'.heap L ∧ FrameEnd U o U' L ({ frames := 0, cells := 0, slots := 0, locals := 0 } : Room).cells ({ frames := 0, cells := 0, slots := 0, locals := 0 } : Room).slots) := by
  refine own_body pn12 ?_
  intro p e s m below meth c T0 hx hby hml hret hlk hown hnm hZ X0 e0
  subst e0
  have N0 : Fr n0 [] := Fr.nil n0
  refine own_cast (ef_rm12_30 m n0 u0 u1 u2 u3 u4 u5 u6 u7 u8 u9 u10 u11 u12 u13 u14 u15 u16 u17 u18 u19) ?_
  refine w_aloadN X0 hx (hb hby d12_0) rfl rfl (pc' := 1) rfl ?_
  refine w_getf (i := 0) (v := .ref (n0 + 1)) X0 hx hZ hown (wd11 hw) P0 rfl Fo0 0 rfl rfl (hb hby d12_1) (pc' := 4) rfl ?_
  intro T1 X1 P1
  refine w_iloadN X1 hx (hb hby d12_4) rfl (pc' := 5) rfl ?_
  refine w_laload (i := 1) (jn := 2) (v := .long u2) X1 hx hZ P1 rfl hk1 (hb hby d12_5) (by decide) rfl (pc' := 6) rfl ?_
  exact w_ret_l X1 hx hret hlk (hb hby d12_6) (by decide) (by decide) ⟨rfl, N0, P1⟩
def Q_rm12_31 (Z : State) (n0 : Nat) (o0 : Jvm.Cell) (k1 : ClassId) (u0 : Int64) (u1 : Int64) (u2 : Int64) (u3 : Int64) (k2 : ClassId) (u4 : Int32) (u5 : Int32) (u6 : Int32) (u7 : Int32) (k3 : ClassId) (u8 : Int32) (u9 : Int32) (u10 : Int32) (k4 : ClassId) (u11 : Int32) (u12 : Int32) (u13 : Int32) (k5 : ClassId) (u14 : Int32) (u15 : Int32) (u16 : Int32) (k6 : ClassId) (u17 : Int64) (u18 : Int64) (u19 : Int64) (v : Option Value) (h : Heap) (L : List Loc) : Prop := v = some (.long u2) ∧ Fr n0 L ∧ HP n0 h [o0, AC k1 [.long u0, .long u1, .long u2, .long u3], AC k2 [.int u4, .int u5, .int u6, .int u7], AC k3 [.int u8, .int u9, .int u10], AC k4 [.int u11, .int u12, .int u13], AC k5 [.int u14, .int u15, .int u16], AC k6 [.long u17, .long u18, .long u19]]
theorem ef_rm12_31 (m : MethodId) (n0 : Nat) (u0 : Int64) (u1 : Int64) (u2 : Int64) (u3 : Int64) (u4 : Int32) (u5 : Int32) (u6 : Int32) (u7 : Int32) (u8 : Int32) (u9 : Int32) (u10 : Int32) (u11 : Int32) (u12 : Int32) (u13 : Int32) (u14 : Int32) (u15 : Int32) (u16 : Int32) (u17 : Int64) (u18 : Int64) (u19 : Int64) : entryFrame m #[.ref (n0 + 0), .int (2 : Int32)] 2 = mkF m 0 #[.val (.ref (n0 + 0)), .val (.int (2 : Int32))] [] := by first | (simp [entryFrame, mkF, argsToLocals, Value.category]; done) | rfl
set_option maxRecDepth 65536 in
set_option maxHeartbeats 40000000 in
theorem rm12_31 (l : Launch) (Z : State) (a0 : Array Value) (hw : ∀ d ∈ tables_1, d.before a0 Z = true) (ws : List Jvm.Cond) (n0 : Nat) (o0 : Jvm.Cell) (Fo0 : ObjF Z o0 "com/example/bidcrier/bidcrier/teams/Blackboard" fl_C0 [.ref (n0 + 1), .ref (n0 + 2), .ref (n0 + 3), .ref (n0 + 4), .ref (n0 + 5), .ref (n0 + 6), .int (3 : Int32), .int (1 : Int32), .long (2 : Int64)]) (k1 : ClassId) (hk1 : IsA Z k1 .long) (u0 : Int64) (u1 : Int64) (u2 : Int64) (u3 : Int64) (k2 : ClassId) (hk2 : IsA Z k2 .int) (u4 : Int32) (u5 : Int32) (u6 : Int32) (u7 : Int32) (k3 : ClassId) (hk3 : IsA Z k3 .int) (u8 : Int32) (u9 : Int32) (u10 : Int32) (k4 : ClassId) (hk4 : IsA Z k4 .int) (u11 : Int32) (u12 : Int32) (u13 : Int32) (k5 : ClassId) (hk5 : IsA Z k5 .int) (u14 : Int32) (u15 : Int32) (u16 : Int32) (k6 : ClassId) (hk6 : IsA Z k6 .long) (u17 : Int64) (u18 : Int64) (u19 : Int64) (h0 : Heap) (P0 : HP n0 h0 [o0, AC k1 [.long u0, .long u1, .long u2, .long u3], AC k2 [.int u4, .int u5, .int u6, .int u7], AC k3 [.int u8, .int u9, .int u10], AC k4 [.int u11, .int u12, .int u13], AC k5 [.int u14, .int u15, .int u16], AC k6 [.long u17, .long u18, .long u19]]) :
    MetFree l (⟨"com/example/bidcrier/bidcrier/teams/Blackboard", "price", "(I)J"⟩ : MethodName) (head1 (Jvm.Cond.code (⟨"com/example/bidcrier/bidcrier/teams/Blackboard", "price", "(I)J"⟩ : MethodName) prog_51_method_4_code 2 (some .long) :: ws) ({ frames := 0, cells := 0, slots := 0, locals := 0 } : Room)) (fun a U => a = #[.ref (n0 + 0), .int (2 : Int32)] ∧ Z.Warmed39 U.vm ∧ U.heap = h0) (fun _ _ _ _ _ => True) (fun _ U o U' => ∃ v L, o = .returned v ∧ Q_rm12_31 Z n0 o0 k1 u0 u1 u2 u3 k2 u4 u5 u6 u7 k3 u8 u9 u10 k4 u11 u12 u13 k5 u14 u15 u16 k6 u17 u18 u19 v U'.heap L ∧ FrameEnd U o U' L ({ frames := 0, cells := 0, slots := 0, locals := 0 } : Room).cells ({ frames := 0, cells := 0, slots := 0, locals := 0 } : Room).slots) := by
  refine own_body pn12 ?_
  intro p e s m below meth c T0 hx hby hml hret hlk hown hnm hZ X0 e0
  subst e0
  have N0 : Fr n0 [] := Fr.nil n0
  refine own_cast (ef_rm12_31 m n0 u0 u1 u2 u3 u4 u5 u6 u7 u8 u9 u10 u11 u12 u13 u14 u15 u16 u17 u18 u19) ?_
  refine w_aloadN X0 hx (hb hby d12_0) rfl rfl (pc' := 1) rfl ?_
  refine w_getf (i := 0) (v := .ref (n0 + 1)) X0 hx hZ hown (wd11 hw) P0 rfl Fo0 0 rfl rfl (hb hby d12_1) (pc' := 4) rfl ?_
  intro T1 X1 P1
  refine w_iloadN X1 hx (hb hby d12_4) rfl (pc' := 5) rfl ?_
  refine w_laload (i := 1) (jn := 2) (v := .long u2) X1 hx hZ P1 rfl hk1 (hb hby d12_5) (by decide) rfl (pc' := 6) rfl ?_
  exact w_ret_l X1 hx hret hlk (hb hby d12_6) (by decide) (by decide) ⟨rfl, N0, P1⟩
def Q_rm4_32 (Z : State) (n0 : Nat) (u0 : Int32) (u1 : Int64) (o0 : Jvm.Cell) (k1 : ClassId) (u2 : Int64) (u3 : Int64) (u4 : Int64) (u5 : Int64) (k2 : ClassId) (u6 : Int32) (u7 : Int32) (u8 : Int32) (u9 : Int32) (k3 : ClassId) (u10 : Int32) (u11 : Int32) (u12 : Int32) (k4 : ClassId) (u13 : Int32) (u14 : Int32) (u15 : Int32) (k5 : ClassId) (u16 : Int32) (u17 : Int32) (u18 : Int32) (k6 : ClassId) (u19 : Int64) (u20 : Int64) (u21 : Int64) (v : Option Value) (h : Heap) (L : List Loc) : Prop := v = none ∧ Fr n0 L ∧ ∃ c2 : Jvm.Cell, ObjF Z c2 "com/example/bidcrier/bidcrier/teams/Blackboard" fl_C0 [.ref (n0 + 1), .ref (n0 + 2), .ref (n0 + 3), .ref (n0 + 4), .ref (n0 + 5), .ref (n0 + 6), .int (3 : Int32), .int (1 : Int32), .long (1 : Int64)] ∧ HP n0 h [c2, AC k1 [.long u2, .long u3, .long u4, .long u5], AC k2 [.int u6, .int u7, .int u8, .int u9], AC k3 [.int u10, .int u11, .int u12], AC k4 [.int u0, .int u14, .int u15], AC k5 [.int (3 : Int32), .int u17, .int u18], AC k6 [.long u1, .long u20, .long u21]]
theorem ef_rm4_32 (m : MethodId) (n0 : Nat) (u0 : Int32) (u1 : Int64) (u2 : Int64) (u3 : Int64) (u4 : Int64) (u5 : Int64) (u6 : Int32) (u7 : Int32) (u8 : Int32) (u9 : Int32) (u10 : Int32) (u11 : Int32) (u12 : Int32) (u13 : Int32) (u14 : Int32) (u15 : Int32) (u16 : Int32) (u17 : Int32) (u18 : Int32) (u19 : Int64) (u20 : Int64) (u21 : Int64) : entryFrame m #[.ref (n0 + 0), .int u0, .int (3 : Int32), .long u1] 5 = mkF m 0 #[.val (.ref (n0 + 0)), .val (.int u0), .val (.int (3 : Int32)), .val (.long u1), .second] [] := by first | (simp [entryFrame, mkF, argsToLocals, Value.category]; done) | rfl
set_option maxRecDepth 65536 in
set_option maxHeartbeats 40000000 in
theorem rm4_32 (l : Launch) (Z : State) (a0 : Array Value) (hw : ∀ d ∈ tables_1, d.before a0 Z = true) (ws : List Jvm.Cond) (n0 : Nat) (u0 : Int32) (u1 : Int64) (o0 : Jvm.Cell) (Fo0 : ObjF Z o0 "com/example/bidcrier/bidcrier/teams/Blackboard" fl_C0 [.ref (n0 + 1), .ref (n0 + 2), .ref (n0 + 3), .ref (n0 + 4), .ref (n0 + 5), .ref (n0 + 6), .int (3 : Int32), .int (0 : Int32), .long (0 : Int64)]) (k1 : ClassId) (hk1 : IsA Z k1 .long) (u2 : Int64) (u3 : Int64) (u4 : Int64) (u5 : Int64) (k2 : ClassId) (hk2 : IsA Z k2 .int) (u6 : Int32) (u7 : Int32) (u8 : Int32) (u9 : Int32) (k3 : ClassId) (hk3 : IsA Z k3 .int) (u10 : Int32) (u11 : Int32) (u12 : Int32) (k4 : ClassId) (hk4 : IsA Z k4 .int) (u13 : Int32) (u14 : Int32) (u15 : Int32) (k5 : ClassId) (hk5 : IsA Z k5 .int) (u16 : Int32) (u17 : Int32) (u18 : Int32) (k6 : ClassId) (hk6 : IsA Z k6 .long) (u19 : Int64) (u20 : Int64) (u21 : Int64) (h0 : Heap) (P0 : HP n0 h0 [o0, AC k1 [.long u2, .long u3, .long u4, .long u5], AC k2 [.int u6, .int u7, .int u8, .int u9], AC k3 [.int u10, .int u11, .int u12], AC k4 [.int u13, .int u14, .int u15], AC k5 [.int u16, .int u17, .int u18], AC k6 [.long u19, .long u20, .long u21]]) :
    MetFree l (⟨"com/example/bidcrier/bidcrier/teams/Blackboard", "post", "(IIJ)V"⟩ : MethodName) (head1 (Jvm.Cond.code (⟨"com/example/bidcrier/bidcrier/teams/Blackboard", "post", "(IIJ)V"⟩ : MethodName) prog_51_method_9_code 5 none :: ws) ({ frames := 0, cells := 0, slots := 0, locals := 0 } : Room)) (fun a U => a = #[.ref (n0 + 0), .int u0, .int (3 : Int32), .long u1] ∧ Z.Warmed39 U.vm ∧ U.heap = h0) (fun _ _ _ _ _ => True) (fun _ U o U' => ∃ v L, o = .returned v ∧ Q_rm4_32 Z n0 u0 u1 o0 k1 u2 u3 u4 u5 k2 u6 u7 u8 u9 k3 u10 u11 u12 k4 u13 u14 u15 k5 u16 u17 u18 k6 u19 u20 u21 v U'.heap L ∧ FrameEnd U o U' L ({ frames := 0, cells := 0, slots := 0, locals := 0 } : Room).cells ({ frames := 0, cells := 0, slots := 0, locals := 0 } : Room).slots) := by
  refine own_body pn4 ?_
  intro p e s m below meth c T0 hx hby hml hret hlk hown hnm hZ X0 e0
  subst e0
  have N0 : Fr n0 [] := Fr.nil n0
  refine own_cast (ef_rm4_32 m n0 u0 u1 u2 u3 u4 u5 u6 u7 u8 u9 u10 u11 u12 u13 u14 u15 u16 u17 u18 u19 u20 u21) ?_
  refine w_aloadN X0 hx (hb hby d4_0) rfl rfl (pc' := 1) rfl ?_
  refine w_getf (i := 0) (v := .ref (n0 + 4)) X0 hx hZ hown (wd18 hw) P0 rfl Fo0 3 rfl rfl (hb hby d4_1) (pc' := 4) rfl ?_
  intro T1 X1 P1
  refine w_aloadN X1 hx (hb hby d4_4) rfl rfl (pc' := 5) rfl ?_
  refine w_getf (i := 0) (v := .int (0 : Int32)) X1 hx hZ hown (wd35 hw) P1 rfl Fo0 7 rfl rfl (hb hby d4_5) (pc' := 8) rfl ?_
  intro T2 X2 P2
  refine w_iloadN X2 hx (hb hby d4_8) rfl (pc' := 9) rfl ?_
  refine w_iastore (i := 4) (jn := 0) X2 hx hZ N0 P2 rfl hk4 (hb hby d4_9) (by decide) (Nat.le_of_ble_eq_true rfl) (pc' := 10) rfl ?_
  intro T3 L1 N1 X3 P3
  replace P3 : HP n0 T3.heap [o0, AC k1 [.long u2, .long u3, .long u4, .long u5], AC k2 [.int u6, .int u7, .int u8, .int u9], AC k3 [.int u10, .int u11, .int u12], AC k4 [.int u0, .int u14, .int u15], AC k5 [.int u16, .int u17, .int u18], AC k6 [.long u19, .long u20, .long u21]] := P3
  refine w_aloadN X3 hx (hb hby d4_10) rfl rfl (pc' := 11) rfl ?_
  refine w_getf (i := 0) (v := .ref (n0 + 5)) X3 hx hZ hown (wd20 hw) P3 rfl Fo0 4 rfl rfl (hb hby d4_11) (pc' := 14) rfl ?_
  intro T4 X4 P4
  refine w_aloadN X4 hx (hb hby d4_14) rfl rfl (pc' := 15) rfl ?_
  refine w_getf (i := 0) (v := .int (0 : Int32)) X4 hx hZ hown (wd35 hw) P4 rfl Fo0 7 rfl rfl (hb hby d4_15) (pc' := 18) rfl ?_
  intro T5 X5 P5
  refine w_iloadN X5 hx (hb hby d4_18) rfl (pc' := 19) rfl ?_
  refine w_iastore (i := 5) (jn := 0) X5 hx hZ N1 P5 rfl hk5 (hb hby d4_19) (by decide) (Nat.le_of_ble_eq_true rfl) (pc' := 20) rfl ?_
  intro T6 L2 N2 X6 P6
  replace P6 : HP n0 T6.heap [o0, AC k1 [.long u2, .long u3, .long u4, .long u5], AC k2 [.int u6, .int u7, .int u8, .int u9], AC k3 [.int u10, .int u11, .int u12], AC k4 [.int u0, .int u14, .int u15], AC k5 [.int (3 : Int32), .int u17, .int u18], AC k6 [.long u19, .long u20, .long u21]] := P6
  refine w_aloadN X6 hx (hb hby d4_20) rfl rfl (pc' := 21) rfl ?_
  refine w_getf (i := 0) (v := .ref (n0 + 6)) X6 hx hZ hown (wd22 hw) P6 rfl Fo0 5 rfl rfl (hb hby d4_21) (pc' := 24) rfl ?_
  intro T7 X7 P7
  refine w_aloadN X7 hx (hb hby d4_24) rfl rfl (pc' := 25) rfl ?_
  refine w_getf (i := 0) (v := .int (0 : Int32)) X7 hx hZ hown (wd35 hw) P7 rfl Fo0 7 rfl rfl (hb hby d4_25) (pc' := 28) rfl ?_
  intro T8 X8 P8
  refine w_lloadN X8 hx (hb hby d4_28) rfl (pc' := 29) rfl ?_
  refine w_lastore (i := 6) (jn := 0) X8 hx hZ N2 P8 rfl hk6 (hb hby d4_29) (by decide) (Nat.le_of_ble_eq_true rfl) (pc' := 30) rfl ?_
  intro T9 L3 N3 X9 P9
  replace P9 : HP n0 T9.heap [o0, AC k1 [.long u2, .long u3, .long u4, .long u5], AC k2 [.int u6, .int u7, .int u8, .int u9], AC k3 [.int u10, .int u11, .int u12], AC k4 [.int u0, .int u14, .int u15], AC k5 [.int (3 : Int32), .int u17, .int u18], AC k6 [.long u1, .long u20, .long u21]] := P9
  refine w_aloadN X9 hx (hb hby d4_30) rfl rfl (pc' := 31) rfl ?_
  refine w_dup X9 hx (hb hby d4_31) rfl (pc' := 32) rfl ?_
  refine w_getf (i := 0) (v := .int (0 : Int32)) X9 hx hZ hown (wd35 hw) P9 rfl Fo0 7 rfl rfl (hb hby d4_32) (pc' := 35) rfl ?_
  intro T10 X10 P10
  refine w_iconst (v := (1 : Int32)) X10 hx (hb hby d4_35) rfl (pc' := 36) rfl ?_
  refine w_iadd X10 hx (hb hby d4_36) (pc' := 37) rfl ?_
  refine w_eqI (z := (1 : Int32)) (by decide) ?_
  refine w_putf (i := 0) (ty := .int) X10 hx hZ hown (wd35 hw) N3 P10 rfl Fo0 (di_C0 hw) 7 rfl (Or.inl (wd36 hw)) (wd2 hw) (by decide) rfl rfl (hb hby d4_37) (pc' := 40) rfl ?_
  intro T11 L4 c1 N4 X11 P11 F1
  replace P11 : HP n0 T11.heap [c1, AC k1 [.long u2, .long u3, .long u4, .long u5], AC k2 [.int u6, .int u7, .int u8, .int u9], AC k3 [.int u10, .int u11, .int u12], AC k4 [.int u0, .int u14, .int u15], AC k5 [.int (3 : Int32), .int u17, .int u18], AC k6 [.long u1, .long u20, .long u21]] := P11
  replace F1 : ObjF Z c1 "com/example/bidcrier/bidcrier/teams/Blackboard" fl_C0 [.ref (n0 + 1), .ref (n0 + 2), .ref (n0 + 3), .ref (n0 + 4), .ref (n0 + 5), .ref (n0 + 6), .int (3 : Int32), .int (1 : Int32), .long (0 : Int64)] := F1
  refine w_aloadN X11 hx (hb hby d4_40) rfl rfl (pc' := 41) rfl ?_
  refine w_dup X11 hx (hb hby d4_41) rfl (pc' := 42) rfl ?_
  refine w_getf (i := 0) (v := .long (0 : Int64)) X11 hx hZ hown (wd37 hw) P11 rfl F1 8 rfl rfl (hb hby d4_42) (pc' := 45) rfl ?_
  intro T12 X12 P12
  refine w_lconst (v := (1 : Int64)) X12 hx (hb hby d4_45) rfl (pc' := 46) rfl ?_
  refine w_ladd X12 hx (hb hby d4_46) (pc' := 47) rfl ?_
  refine w_eqJ (z := (1 : Int64)) (by decide) ?_
  refine w_putf (i := 0) (ty := .long) X12 hx hZ hown (wd37 hw) N4 P12 rfl F1 (di_C0 hw) 8 rfl (Or.inl (wd38 hw)) (wd2 hw) (by decide) rfl rfl (hb hby d4_47) (pc' := 50) rfl ?_
  intro T13 L5 c2 N5 X13 P13 F2
  replace P13 : HP n0 T13.heap [c2, AC k1 [.long u2, .long u3, .long u4, .long u5], AC k2 [.int u6, .int u7, .int u8, .int u9], AC k3 [.int u10, .int u11, .int u12], AC k4 [.int u0, .int u14, .int u15], AC k5 [.int (3 : Int32), .int u17, .int u18], AC k6 [.long u1, .long u20, .long u21]] := P13
  replace F2 : ObjF Z c2 "com/example/bidcrier/bidcrier/teams/Blackboard" fl_C0 [.ref (n0 + 1), .ref (n0 + 2), .ref (n0 + 3), .ref (n0 + 4), .ref (n0 + 5), .ref (n0 + 6), .int (3 : Int32), .int (1 : Int32), .long (1 : Int64)] := F2
  exact w_ret_v X13 hx hret hlk (hb hby d4_50) (by decide) (by decide) ⟨rfl, N5, c2, F2, P13⟩
def Q_rm12_33 (Z : State) (n0 : Nat) (o0 : Jvm.Cell) (k1 : ClassId) (u0 : Int64) (u1 : Int64) (u2 : Int64) (u3 : Int64) (k2 : ClassId) (u4 : Int32) (u5 : Int32) (u6 : Int32) (u7 : Int32) (k3 : ClassId) (u8 : Int32) (u9 : Int32) (u10 : Int32) (k4 : ClassId) (u11 : Int32) (u12 : Int32) (u13 : Int32) (k5 : ClassId) (u14 : Int32) (u15 : Int32) (u16 : Int32) (k6 : ClassId) (u17 : Int64) (u18 : Int64) (u19 : Int64) (v : Option Value) (h : Heap) (L : List Loc) : Prop := v = some (.long u3) ∧ Fr n0 L ∧ HP n0 h [o0, AC k1 [.long u0, .long u1, .long u2, .long u3], AC k2 [.int u4, .int u5, .int u6, .int u7], AC k3 [.int u8, .int u9, .int u10], AC k4 [.int u11, .int u12, .int u13], AC k5 [.int u14, .int u15, .int u16], AC k6 [.long u17, .long u18, .long u19]]
theorem ef_rm12_33 (m : MethodId) (n0 : Nat) (u0 : Int64) (u1 : Int64) (u2 : Int64) (u3 : Int64) (u4 : Int32) (u5 : Int32) (u6 : Int32) (u7 : Int32) (u8 : Int32) (u9 : Int32) (u10 : Int32) (u11 : Int32) (u12 : Int32) (u13 : Int32) (u14 : Int32) (u15 : Int32) (u16 : Int32) (u17 : Int64) (u18 : Int64) (u19 : Int64) : entryFrame m #[.ref (n0 + 0), .int (3 : Int32)] 2 = mkF m 0 #[.val (.ref (n0 + 0)), .val (.int (3 : Int32))] [] := by first | (simp [entryFrame, mkF, argsToLocals, Value.category]; done) | rfl
set_option maxRecDepth 65536 in
set_option maxHeartbeats 40000000 in
theorem rm12_33 (l : Launch) (Z : State) (a0 : Array Value) (hw : ∀ d ∈ tables_1, d.before a0 Z = true) (ws : List Jvm.Cond) (n0 : Nat) (o0 : Jvm.Cell) (Fo0 : ObjF Z o0 "com/example/bidcrier/bidcrier/teams/Blackboard" fl_C0 [.ref (n0 + 1), .ref (n0 + 2), .ref (n0 + 3), .ref (n0 + 4), .ref (n0 + 5), .ref (n0 + 6), .int (3 : Int32), .int (2 : Int32), .long (2 : Int64)]) (k1 : ClassId) (hk1 : IsA Z k1 .long) (u0 : Int64) (u1 : Int64) (u2 : Int64) (u3 : Int64) (k2 : ClassId) (hk2 : IsA Z k2 .int) (u4 : Int32) (u5 : Int32) (u6 : Int32) (u7 : Int32) (k3 : ClassId) (hk3 : IsA Z k3 .int) (u8 : Int32) (u9 : Int32) (u10 : Int32) (k4 : ClassId) (hk4 : IsA Z k4 .int) (u11 : Int32) (u12 : Int32) (u13 : Int32) (k5 : ClassId) (hk5 : IsA Z k5 .int) (u14 : Int32) (u15 : Int32) (u16 : Int32) (k6 : ClassId) (hk6 : IsA Z k6 .long) (u17 : Int64) (u18 : Int64) (u19 : Int64) (h0 : Heap) (P0 : HP n0 h0 [o0, AC k1 [.long u0, .long u1, .long u2, .long u3], AC k2 [.int u4, .int u5, .int u6, .int u7], AC k3 [.int u8, .int u9, .int u10], AC k4 [.int u11, .int u12, .int u13], AC k5 [.int u14, .int u15, .int u16], AC k6 [.long u17, .long u18, .long u19]]) :
    MetFree l (⟨"com/example/bidcrier/bidcrier/teams/Blackboard", "price", "(I)J"⟩ : MethodName) (head1 (Jvm.Cond.code (⟨"com/example/bidcrier/bidcrier/teams/Blackboard", "price", "(I)J"⟩ : MethodName) prog_51_method_4_code 2 (some .long) :: ws) ({ frames := 0, cells := 0, slots := 0, locals := 0 } : Room)) (fun a U => a = #[.ref (n0 + 0), .int (3 : Int32)] ∧ Z.Warmed39 U.vm ∧ U.heap = h0) (fun _ _ _ _ _ => True) (fun _ U o U' => ∃ v L, o = .returned v ∧ Q_rm12_33 Z n0 o0 k1 u0 u1 u2 u3 k2 u4 u5 u6 u7 k3 u8 u9 u10 k4 u11 u12 u13 k5 u14 u15 u16 k6 u17 u18 u19 v U'.heap L ∧ FrameEnd U o U' L ({ frames := 0, cells := 0, slots := 0, locals := 0 } : Room).cells ({ frames := 0, cells := 0, slots := 0, locals := 0 } : Room).slots) := by
  refine own_body pn12 ?_
  intro p e s m below meth c T0 hx hby hml hret hlk hown hnm hZ X0 e0
  subst e0
  have N0 : Fr n0 [] := Fr.nil n0
  refine own_cast (ef_rm12_33 m n0 u0 u1 u2 u3 u4 u5 u6 u7 u8 u9 u10 u11 u12 u13 u14 u15 u16 u17 u18 u19) ?_
  refine w_aloadN X0 hx (hb hby d12_0) rfl rfl (pc' := 1) rfl ?_
  refine w_getf (i := 0) (v := .ref (n0 + 1)) X0 hx hZ hown (wd11 hw) P0 rfl Fo0 0 rfl rfl (hb hby d12_1) (pc' := 4) rfl ?_
  intro T1 X1 P1
  refine w_iloadN X1 hx (hb hby d12_4) rfl (pc' := 5) rfl ?_
  refine w_laload (i := 1) (jn := 3) (v := .long u3) X1 hx hZ P1 rfl hk1 (hb hby d12_5) (by decide) rfl (pc' := 6) rfl ?_
  exact w_ret_l X1 hx hret hlk (hb hby d12_6) (by decide) (by decide) ⟨rfl, N0, P1⟩
def Q_rm12_34 (Z : State) (n0 : Nat) (o0 : Jvm.Cell) (k1 : ClassId) (u0 : Int64) (u1 : Int64) (u2 : Int64) (u3 : Int64) (k2 : ClassId) (u4 : Int32) (u5 : Int32) (u6 : Int32) (u7 : Int32) (k3 : ClassId) (u8 : Int32) (u9 : Int32) (u10 : Int32) (k4 : ClassId) (u11 : Int32) (u12 : Int32) (u13 : Int32) (k5 : ClassId) (u14 : Int32) (u15 : Int32) (u16 : Int32) (k6 : ClassId) (u17 : Int64) (u18 : Int64) (u19 : Int64) (v : Option Value) (h : Heap) (L : List Loc) : Prop := v = some (.long u3) ∧ Fr n0 L ∧ HP n0 h [o0, AC k1 [.long u0, .long u1, .long u2, .long u3], AC k2 [.int u4, .int u5, .int u6, .int u7], AC k3 [.int u8, .int u9, .int u10], AC k4 [.int u11, .int u12, .int u13], AC k5 [.int u14, .int u15, .int u16], AC k6 [.long u17, .long u18, .long u19]]
theorem ef_rm12_34 (m : MethodId) (n0 : Nat) (u0 : Int64) (u1 : Int64) (u2 : Int64) (u3 : Int64) (u4 : Int32) (u5 : Int32) (u6 : Int32) (u7 : Int32) (u8 : Int32) (u9 : Int32) (u10 : Int32) (u11 : Int32) (u12 : Int32) (u13 : Int32) (u14 : Int32) (u15 : Int32) (u16 : Int32) (u17 : Int64) (u18 : Int64) (u19 : Int64) : entryFrame m #[.ref (n0 + 0), .int (3 : Int32)] 2 = mkF m 0 #[.val (.ref (n0 + 0)), .val (.int (3 : Int32))] [] := by first | (simp [entryFrame, mkF, argsToLocals, Value.category]; done) | rfl
set_option maxRecDepth 65536 in
set_option maxHeartbeats 40000000 in
theorem rm12_34 (l : Launch) (Z : State) (a0 : Array Value) (hw : ∀ d ∈ tables_1, d.before a0 Z = true) (ws : List Jvm.Cond) (n0 : Nat) (o0 : Jvm.Cell) (Fo0 : ObjF Z o0 "com/example/bidcrier/bidcrier/teams/Blackboard" fl_C0 [.ref (n0 + 1), .ref (n0 + 2), .ref (n0 + 3), .ref (n0 + 4), .ref (n0 + 5), .ref (n0 + 6), .int (3 : Int32), .int (1 : Int32), .long (2 : Int64)]) (k1 : ClassId) (hk1 : IsA Z k1 .long) (u0 : Int64) (u1 : Int64) (u2 : Int64) (u3 : Int64) (k2 : ClassId) (hk2 : IsA Z k2 .int) (u4 : Int32) (u5 : Int32) (u6 : Int32) (u7 : Int32) (k3 : ClassId) (hk3 : IsA Z k3 .int) (u8 : Int32) (u9 : Int32) (u10 : Int32) (k4 : ClassId) (hk4 : IsA Z k4 .int) (u11 : Int32) (u12 : Int32) (u13 : Int32) (k5 : ClassId) (hk5 : IsA Z k5 .int) (u14 : Int32) (u15 : Int32) (u16 : Int32) (k6 : ClassId) (hk6 : IsA Z k6 .long) (u17 : Int64) (u18 : Int64) (u19 : Int64) (h0 : Heap) (P0 : HP n0 h0 [o0, AC k1 [.long u0, .long u1, .long u2, .long u3], AC k2 [.int u4, .int u5, .int u6, .int u7], AC k3 [.int u8, .int u9, .int u10], AC k4 [.int u11, .int u12, .int u13], AC k5 [.int u14, .int u15, .int u16], AC k6 [.long u17, .long u18, .long u19]]) :
    MetFree l (⟨"com/example/bidcrier/bidcrier/teams/Blackboard", "price", "(I)J"⟩ : MethodName) (head1 (Jvm.Cond.code (⟨"com/example/bidcrier/bidcrier/teams/Blackboard", "price", "(I)J"⟩ : MethodName) prog_51_method_4_code 2 (some .long) :: ws) ({ frames := 0, cells := 0, slots := 0, locals := 0 } : Room)) (fun a U => a = #[.ref (n0 + 0), .int (3 : Int32)] ∧ Z.Warmed39 U.vm ∧ U.heap = h0) (fun _ _ _ _ _ => True) (fun _ U o U' => ∃ v L, o = .returned v ∧ Q_rm12_34 Z n0 o0 k1 u0 u1 u2 u3 k2 u4 u5 u6 u7 k3 u8 u9 u10 k4 u11 u12 u13 k5 u14 u15 u16 k6 u17 u18 u19 v U'.heap L ∧ FrameEnd U o U' L ({ frames := 0, cells := 0, slots := 0, locals := 0 } : Room).cells ({ frames := 0, cells := 0, slots := 0, locals := 0 } : Room).slots) := by
  refine own_body pn12 ?_
  intro p e s m below meth c T0 hx hby hml hret hlk hown hnm hZ X0 e0
  subst e0
  have N0 : Fr n0 [] := Fr.nil n0
  refine own_cast (ef_rm12_34 m n0 u0 u1 u2 u3 u4 u5 u6 u7 u8 u9 u10 u11 u12 u13 u14 u15 u16 u17 u18 u19) ?_
  refine w_aloadN X0 hx (hb hby d12_0) rfl rfl (pc' := 1) rfl ?_
  refine w_getf (i := 0) (v := .ref (n0 + 1)) X0 hx hZ hown (wd11 hw) P0 rfl Fo0 0 rfl rfl (hb hby d12_1) (pc' := 4) rfl ?_
  intro T1 X1 P1
  refine w_iloadN X1 hx (hb hby d12_4) rfl (pc' := 5) rfl ?_
  refine w_laload (i := 1) (jn := 3) (v := .long u3) X1 hx hZ P1 rfl hk1 (hb hby d12_5) (by decide) rfl (pc' := 6) rfl ?_
  exact w_ret_l X1 hx hret hlk (hb hby d12_6) (by decide) (by decide) ⟨rfl, N0, P1⟩
theorem pn0 : plainFor (⟨"com/example/bidcrier/bidcrier/teams/BlackboardPostPinLaw", "law", "(IIJIJI)Z"⟩ : MethodName) = true := plainFor_of_name (by first | (simp [plainName, overriddenIn]; done) | decide +kernel)
theorem pd0 : parseMethodDescriptor (⟨"com/example/bidcrier/bidcrier/teams/BlackboardPostPinLaw", "law", "(IIJIJI)Z"⟩ : MethodName).desc = some ⟨[.int, .int, .long, .int, .long, .int], some .boolean⟩ := by decide +kernel
theorem ef0 (m : MethodId) (x0 : Int32) (x1 : Int32) (x2 : Int64) (x3 : Int32) (x4 : Int64) (x5 : Int32) : entryFrame m #[Value.int x0, Value.int x1, Value.long x2, Value.int x3, Value.long x4, Value.int x5] maxLocals = mkF m 0 #[.val (.int x0), .val (.int x1), .val (.long x2), .second, .val (.int x3), .val (.long x4), .second, .val (.int x5), .unset, .unset, .unset, .unset, .unset, .unset, .unset, .unset] [] := by first | (simp [entryFrame, mkF, argsToLocals, Value.category, maxLocals]; done) | rfl
def LawQ (n0 : Nat) (v : Option Value) (h : Heap) (L : List Loc) : Prop := v = some (.int 1) ∧ Fr n0 L
set_option maxRecDepth 65536 in
set_option maxHeartbeats 40000000 in
theorem rm0 (l : Launch) (Z : State) (a0 : Array Value) (hw : ∀ d ∈ tables_1, d.before a0 Z = true) (ws : List Jvm.Cond) (x0 : Int32) (x1 : Int32) (x2 : Int64) (x3 : Int32) (x4 : Int64) (x5 : Int32) (h0 : Heap) (n0 : Nat) (Z0 : h0.size = n0) :
    MetFree l x (head1 (Jvm.Cond.code x code maxLocals ret :: ws) room_1) (fun a U => a = #[Value.int x0, Value.int x1, Value.long x2, Value.int x3, Value.long x4, Value.int x5] ∧ Z.Warmed39 U.vm ∧ U.heap = h0) (fun _ _ _ _ _ => True) (fun _ U o U' => ∃ v L, o = .returned v ∧ LawQ n0 v U'.heap L ∧ FrameEnd U o U' L room_1.cells room_1.slots) := by
  refine own_body pn0 ?_
  intro p e s m below meth c T0 hx hby hml hret hlk hown hnm hZ X0 e0
  subst e0 Z0
  have P0 := HP.nil T0.heap
  generalize T0.heap.size = n0 at P0 ⊢
  have N0 : Fr n0 [] := Fr.nil n0
  refine own_cast (ef0 m x0 x1 x2 x3 x4 x5) ?_
  refine w_iloadN X0 hx (hb hby at_0) rfl (pc' := 1) rfl ?_
  refine w_ldc X0 hx (hb hby at_1) hown (mvT hZ (wd0 hw)) (pc' := 3) rfl ?_
  refine w_iand X0 hx (hb hby at_3) (pc' := 4) rfl ?_
  refine w_iconst (v := (3 : Int32)) X0 hx (hb hby at_4) rfl (pc' := 5) rfl ?_
  refine w_irem X0 hx (hb hby at_5) (by decide) (pc' := 6) rfl ?_
  refine w_istore (l' := #[.val (.int x0), .val (.int x1), .val (.long x2), .second, .val (.int x3), .val (.long x4), .second, .val (.int x5), .val (.int ((x0 &&& (2147483647 : Int32)) % (3 : Int32))), .unset, .unset, .unset, .unset, .unset, .unset, .unset]) X0 hx (hb hby at_6) rfl (pc' := 8) rfl ?_
  refine w_iload X0 hx (hb hby at_8) rfl (pc' := 10) rfl ?_
  refine w_iconst (v := (1 : Int32)) X0 hx (hb hby at_10) rfl (pc' := 11) rfl ?_
  refine w_iadd X0 hx (hb hby at_11) (pc' := 12) rfl ?_
  refine w_iload X0 hx (hb hby at_12) rfl (pc' := 14) rfl ?_
  refine w_iconst (v := (1 : Int32)) X0 hx (hb hby at_14) rfl (pc' := 15) rfl ?_
  refine w_iand X0 hx (hb hby at_15) (pc' := 16) rfl ?_
  refine w_iadd X0 hx (hb hby at_16) (pc' := 17) rfl ?_
  refine w_iconst (v := (3 : Int32)) X0 hx (hb hby at_17) rfl (pc' := 18) rfl ?_
  refine w_irem X0 hx (hb hby at_18) (by decide) (pc' := 19) rfl ?_
  refine w_istore (l' := #[.val (.int x0), .val (.int x1), .val (.long x2), .second, .val (.int x3), .val (.long x4), .second, .val (.int x5), .val (.int ((x0 &&& (2147483647 : Int32)) % (3 : Int32))), .val (.int (((((x0 &&& (2147483647 : Int32)) % (3 : Int32)) + (1 : Int32)) + (x5 &&& (1 : Int32))) % (3 : Int32))), .unset, .unset, .unset, .unset, .unset, .unset]) X0 hx (hb hby at_19) rfl (pc' := 21) rfl ?_
  refine w_iloadN X0 hx (hb hby at_21) rfl (pc' := 22) rfl ?_
  refine w_ldc X0 hx (hb hby at_22) hown (mvT hZ (wd0 hw)) (pc' := 24) rfl ?_
  refine w_iand X0 hx (hb hby at_24) (pc' := 25) rfl ?_
  refine w_iconst (v := (4 : Int32)) X0 hx (hb hby at_25) rfl (pc' := 26) rfl ?_
  refine w_irem X0 hx (hb hby at_26) (by decide) (pc' := 27) rfl ?_
  rcases (own_c4 (own_rem x1 4 4 (by decide) (by decide))) with g0 | g1 | g2 | g3
  · refine w_eqI (z := (0 : Int32)) g0 ?_
    refine w_istore (l' := #[.val (.int x0), .val (.int x1), .val (.long x2), .second, .val (.int x3), .val (.long x4), .second, .val (.int x5), .val (.int ((x0 &&& (2147483647 : Int32)) % (3 : Int32))), .val (.int (((((x0 &&& (2147483647 : Int32)) % (3 : Int32)) + (1 : Int32)) + (x5 &&& (1 : Int32))) % (3 : Int32))), .val (.int (0 : Int32)), .unset, .unset, .unset, .unset, .unset]) X0 hx (hb hby at_27) rfl (pc' := 29) rfl ?_
    refine w_iload X0 hx (hb hby at_29) rfl (pc' := 31) rfl ?_
    refine w_ldc X0 hx (hb hby at_31) hown (mvT hZ (wd0 hw)) (pc' := 33) rfl ?_
    refine w_iand X0 hx (hb hby at_33) (pc' := 34) rfl ?_
    refine w_iconst (v := (4 : Int32)) X0 hx (hb hby at_34) rfl (pc' := 35) rfl ?_
    refine w_irem X0 hx (hb hby at_35) (by decide) (pc' := 36) rfl ?_
    refine w_istore (l' := #[.val (.int x0), .val (.int x1), .val (.long x2), .second, .val (.int x3), .val (.long x4), .second, .val (.int x5), .val (.int ((x0 &&& (2147483647 : Int32)) % (3 : Int32))), .val (.int (((((x0 &&& (2147483647 : Int32)) % (3 : Int32)) + (1 : Int32)) + (x5 &&& (1 : Int32))) % (3 : Int32))), .val (.int (0 : Int32)), .val (.int ((x3 &&& (2147483647 : Int32)) % (4 : Int32))), .unset, .unset, .unset, .unset]) X0 hx (hb hby at_36) rfl (pc' := 38) rfl ?_
    refine w_iload X0 hx (hb hby at_38) rfl (pc' := 40) rfl ?_
    refine w_iconst (v := (2 : Int32)) X0 hx (hb hby at_40) rfl (pc' := 41) rfl ?_
    refine w_iand X0 hx (hb hby at_41) (pc' := 42) rfl ?_
    refine w_if_eq X0 hx (hb hby at_42) (by decide) (pcY := 49) (by decide) (pc' := 45) rfl (fun h4 => ?_) (fun h4 => ?_)
    · refine w_iconst (v := (0 : Int32)) X0 hx (hb hby at_49) rfl (pc' := 50) rfl ?_
      refine w_istore (l' := #[.val (.int x0), .val (.int x1), .val (.long x2), .second, .val (.int x3), .val (.long x4), .second, .val (.int x5), .val (.int ((x0 &&& (2147483647 : Int32)) % (3 : Int32))), .val (.int (((((x0 &&& (2147483647 : Int32)) % (3 : Int32)) + (1 : Int32)) + (x5 &&& (1 : Int32))) % (3 : Int32))), .val (.int (0 : Int32)), .val (.int ((x3 &&& (2147483647 : Int32)) % (4 : Int32))), .val (.int (0 : Int32)), .unset, .unset, .unset]) X0 hx (hb hby at_50) rfl (pc' := 52) rfl ?_
      refine w_new (j := 0) X0 hx hZ hown (wd1 hw) (wd2 hw) (wd3 hw) P0 fl_C0 dv_C0 rfl (ly_C0 hw) (hb hby at_52) (by decide) (by decide) rfl (pc' := 55) rfl ?_
      intro T1 c1 X1 P1 F1
      replace P1 : HP n0 T1.heap [c1] := P1
      refine w_dup X1 hx (hb hby at_55) rfl (pc' := 56) rfl ?_
      refine w_iconst (v := (3 : Int32)) X1 hx (hb hby at_56) rfl (pc' := 57) rfl ?_
      refine w_iconst (v := (4 : Int32)) X1 hx (hb hby at_57) rfl (pc' := 58) rfl ?_
      refine own_callI (W := 1) X1 hx hZ rfl rfl hown hml.symm (wd4 hw) (wd5 hw) (wd3 hw) (wd6 hw) (rm1_0 l Z a0 hw [] n0 c1 F1 _ P1) (by decide) (by decide) (by decide) (by decide) (by decide) (a := (n0 + 0)) (argsL := [.int (3 : Int32), .int (4 : Int32)]) (rest := [.ref (n0 + 0)]) pd1 rfl rfl rfl (Nat.le_of_eq rfl) (hb hby at_58) (pc' := 61) rfl ?_
      intro _ T2 L1 X2 hq
      obtain ⟨rfl, N1, c2, F2, kA3, hk3, kA4, hk4, kA5, hk5, kA6, hk6, kA7, hk7, kA8, hk8, P2⟩ := hq
      replace N1 := Fr.app N0 N1
      replace P2 : HP n0 T2.heap [c2, AC kA3 [.long (0 : Int64), .long (0 : Int64), .long (0 : Int64), .long (0 : Int64)], AC kA4 [.int (-1 : Int32), .int (-1 : Int32), .int (-1 : Int32), .int (-1 : Int32)], AC kA5 [.int (-1 : Int32), .int (-1 : Int32), .int (-1 : Int32)], AC kA6 [.int (0 : Int32), .int (0 : Int32), .int (0 : Int32)], AC kA7 [.int (0 : Int32), .int (0 : Int32), .int (0 : Int32)], AC kA8 [.long (0 : Int64), .long (0 : Int64), .long (0 : Int64)]] := P2
      refine w_astore (l' := #[.val (.int x0), .val (.int x1), .val (.long x2), .second, .val (.int x3), .val (.long x4), .second, .val (.int x5), .val (.int ((x0 &&& (2147483647 : Int32)) % (3 : Int32))), .val (.int (((((x0 &&& (2147483647 : Int32)) % (3 : Int32)) + (1 : Int32)) + (x5 &&& (1 : Int32))) % (3 : Int32))), .val (.int (0 : Int32)), .val (.int ((x3 &&& (2147483647 : Int32)) % (4 : Int32))), .val (.int (0 : Int32)), .val (.ref (n0 + 0)), .unset, .unset]) X2 hx (hb hby at_61) rfl rfl (pc' := 63) rfl ?_
      refine w_aload X2 hx (hb hby at_63) rfl rfl (pc' := 65) rfl ?_
      refine w_iload X2 hx (hb hby at_65) rfl (pc' := 67) rfl ?_
      refine w_iload X2 hx (hb hby at_67) rfl (pc' := 69) rfl ?_
      refine w_lloadN X2 hx (hb hby at_69) rfl (pc' := 70) rfl ?_
      refine own_callV (W := 0) X2 hx hZ rfl hown hml.symm (wd30 hw) (wd31 hw) (wd33 hw) (wd32 hw) (wd3 hw) (wd34 hw) (rm4_3 l Z a0 hw [] n0 ((x0 &&& (2147483647 : Int32)) % (3 : Int32)) x2 c2 F2 kA3 hk3 (0 : Int64) (0 : Int64) (0 : Int64) (0 : Int64) kA4 hk4 (-1 : Int32) (-1 : Int32) (-1 : Int32) (-1 : Int32) kA5 hk5 (-1 : Int32) (-1 : Int32) (-1 : Int32) kA6 hk6 (0 : Int32) (0 : Int32) (0 : Int32) kA7 hk7 (0 : Int32) (0 : Int32) (0 : Int32) kA8 hk8 (0 : Int64) (0 : Int64) (0 : Int64) _ P2) (a := (n0 + 0)) (P2.exa (i := 0) rfl F2.1) (by decide) (by decide) (by decide) (by decide) (by decide) (argsL := [.int ((x0 &&& (2147483647 : Int32)) % (3 : Int32)), .int (0 : Int32), .long x2]) (rest := []) pd4 rfl rfl rfl (Nat.le_of_eq rfl) (hb hby at_70) (pc' := 73) rfl ?_
      intro _ T3 L2 X3 hq
      obtain ⟨rfl, N2, c9, F9, P3⟩ := hq
      replace N2 := Fr.app N1 N2
      replace P3 : HP n0 T3.heap [c9, AC kA3 [.long (0 : Int64), .long (0 : Int64), .long (0 : Int64), .long (0 : Int64)], AC kA4 [.int (-1 : Int32), .int (-1 : Int32), .int (-1 : Int32), .int (-1 : Int32)], AC kA5 [.int (-1 : Int32), .int (-1 : Int32), .int (-1 : Int32)], AC kA6 [.int ((x0 &&& (2147483647 : Int32)) % (3 : Int32)), .int (0 : Int32), .int (0 : Int32)], AC kA7 [.int (0 : Int32), .int (0 : Int32), .int (0 : Int32)], AC kA8 [.long x2, .long (0 : Int64), .long (0 : Int64)]] := P3
      refine w_aload X3 hx (hb hby at_73) rfl rfl (pc' := 75) rfl ?_
      refine own_callV (W := 0) X3 hx hZ rfl hown hml.symm (wd39 hw) (wd40 hw) (wd42 hw) (wd41 hw) (wd3 hw) (wd43 hw) (rm5_4 l Z a0 hw [] n0 c9 F9 kA3 hk3 (0 : Int64) (0 : Int64) (0 : Int64) (0 : Int64) kA4 hk4 (-1 : Int32) (-1 : Int32) (-1 : Int32) (-1 : Int32) kA5 hk5 (-1 : Int32) (-1 : Int32) (-1 : Int32) kA6 hk6 ((x0 &&& (2147483647 : Int32)) % (3 : Int32)) (0 : Int32) (0 : Int32) kA7 hk7 (0 : Int32) (0 : Int32) (0 : Int32) kA8 hk8 x2 (0 : Int64) (0 : Int64) _ P3) (a := (n0 + 0)) (P3.exa (i := 0) rfl F9.1) (by decide) (by decide) (by decide) (by decide) (by decide) (argsL := []) (rest := []) pd5 rfl rfl rfl (Nat.le_of_eq rfl) (hb hby at_75) (pc' := 78) rfl ?_
      intro _ T4 L3 X4 hq
      obtain ⟨rfl, N3, P4⟩ := hq
      replace N3 := Fr.app N2 N3
      replace P4 : HP n0 T4.heap [c9, AC kA3 [.long (0 : Int64), .long (0 : Int64), .long (0 : Int64), .long (0 : Int64)], AC kA4 [.int (-1 : Int32), .int (-1 : Int32), .int (-1 : Int32), .int (-1 : Int32)], AC kA5 [.int (-1 : Int32), .int (-1 : Int32), .int (-1 : Int32)], AC kA6 [.int ((x0 &&& (2147483647 : Int32)) % (3 : Int32)), .int (0 : Int32), .int (0 : Int32)], AC kA7 [.int (0 : Int32), .int (0 : Int32), .int (0 : Int32)], AC kA8 [.long x2, .long (0 : Int64), .long (0 : Int64)]] := P4
      refine w_iconst (v := (1 : Int32)) X4 hx (hb hby at_78) rfl (pc' := 79) rfl ?_
      refine w_icmp_ne X4 hx (hb hby at_79) (by decide) (pcY := 96) (by decide) (pc' := 82) rfl (fun h5 => absurd h5 (by decide)) (fun h5 => ?_)
      refine w_aload X4 hx (hb hby at_82) rfl rfl (pc' := 84) rfl ?_
      refine own_callV (W := 0) X4 hx hZ rfl hown hml.symm (wd44 hw) (wd45 hw) (wd47 hw) (wd46 hw) (wd3 hw) (wd48 hw) (rm6_5 l Z a0 hw [] n0 c9 F9 kA3 hk3 (0 : Int64) (0 : Int64) (0 : Int64) (0 : Int64) kA4 hk4 (-1 : Int32) (-1 : Int32) (-1 : Int32) (-1 : Int32) kA5 hk5 (-1 : Int32) (-1 : Int32) (-1 : Int32) kA6 hk6 ((x0 &&& (2147483647 : Int32)) % (3 : Int32)) (0 : Int32) (0 : Int32) kA7 hk7 (0 : Int32) (0 : Int32) (0 : Int32) kA8 hk8 x2 (0 : Int64) (0 : Int64) _ P4) (a := (n0 + 0)) (P4.exa (i := 0) rfl F9.1) (by decide) (by decide) (by decide) (by decide) (by decide) (argsL := []) (rest := []) pd6 rfl rfl rfl (Nat.le_of_eq rfl) (hb hby at_84) (pc' := 87) rfl ?_
      intro _ T5 L4 X5 hq
      obtain ⟨rfl, N4, P5⟩ := hq
      replace N4 := Fr.app N3 N4
      replace P5 : HP n0 T5.heap [c9, AC kA3 [.long (0 : Int64), .long (0 : Int64), .long (0 : Int64), .long (0 : Int64)], AC kA4 [.int (-1 : Int32), .int (-1 : Int32), .int (-1 : Int32), .int (-1 : Int32)], AC kA5 [.int (-1 : Int32), .int (-1 : Int32), .int (-1 : Int32)], AC kA6 [.int ((x0 &&& (2147483647 : Int32)) % (3 : Int32)), .int (0 : Int32), .int (0 : Int32)], AC kA7 [.int (0 : Int32), .int (0 : Int32), .int (0 : Int32)], AC kA8 [.long x2, .long (0 : Int64), .long (0 : Int64)]] := P5
      refine w_lconst (v := (1 : Int64)) X5 hx (hb hby at_87) rfl (pc' := 88) rfl ?_
      refine w_lcmp_ne X5 hx (hb hby at_88) rfl (hb hby at_89) (by decide) (pcY := 96) (by decide) (pc' := 92) rfl (fun h6 => absurd h6 (by decide)) (fun h6 => ?_)
      refine w_iconst (v := (1 : Int32)) X5 hx (hb hby at_92) rfl (pc' := 93) rfl ?_
      refine w_goto X5 hx (hb hby at_93) (by decide) (pc' := 97) (by decide) ?_
      refine w_istore (l' := #[.val (.int x0), .val (.int x1), .val (.long x2), .second, .val (.int x3), .val (.long x4), .second, .val (.int x5), .val (.int ((x0 &&& (2147483647 : Int32)) % (3 : Int32))), .val (.int (((((x0 &&& (2147483647 : Int32)) % (3 : Int32)) + (1 : Int32)) + (x5 &&& (1 : Int32))) % (3 : Int32))), .val (.int (0 : Int32)), .val (.int ((x3 &&& (2147483647 : Int32)) % (4 : Int32))), .val (.int (0 : Int32)), .val (.ref (n0 + 0)), .val (.int (1 : Int32)), .unset]) X5 hx (hb hby at_97) rfl (pc' := 99) rfl ?_
      refine w_iload X5 hx (hb hby at_99) rfl (pc' := 101) rfl ?_
      refine w_if_eq X5 hx (hb hby at_101) (by decide) (pcY := 109) (by decide) (pc' := 104) rfl (fun h7 => ?_) (fun h7 => absurd h7 (by decide))
      refine w_aload X5 hx (hb hby at_109) rfl rfl (pc' := 111) rfl ?_
      refine w_iload X5 hx (hb hby at_111) rfl (pc' := 113) rfl ?_
      refine w_iload X5 hx (hb hby at_113) rfl (pc' := 115) rfl ?_
      refine w_lload X5 hx (hb hby at_115) rfl (pc' := 117) rfl ?_
      refine own_callV (W := 0) X5 hx hZ rfl hown hml.symm (wd30 hw) (wd31 hw) (wd33 hw) (wd32 hw) (wd3 hw) (wd34 hw) (rm4_6 l Z a0 hw [] n0 (((((x0 &&& (2147483647 : Int32)) % (3 : Int32)) + (1 : Int32)) + (x5 &&& (1 : Int32))) % (3 : Int32)) ((x3 &&& (2147483647 : Int32)) % (4 : Int32)) x4 c9 F9 kA3 hk3 (0 : Int64) (0 : Int64) (0 : Int64) (0 : Int64) kA4 hk4 (-1 : Int32) (-1 : Int32) (-1 : Int32) (-1 : Int32) kA5 hk5 (-1 : Int32) (-1 : Int32) (-1 : Int32) kA6 hk6 ((x0 &&& (2147483647 : Int32)) % (3 : Int32)) (0 : Int32) (0 : Int32) kA7 hk7 (0 : Int32) (0 : Int32) (0 : Int32) kA8 hk8 x2 (0 : Int64) (0 : Int64) _ P5) (a := (n0 + 0)) (P5.exa (i := 0) rfl F9.1) (by decide) (by decide) (by decide) (by decide) (by decide) (argsL := [.int (((((x0 &&& (2147483647 : Int32)) % (3 : Int32)) + (1 : Int32)) + (x5 &&& (1 : Int32))) % (3 : Int32)), .int ((x3 &&& (2147483647 : Int32)) % (4 : Int32)), .long x4]) (rest := []) pd4 rfl rfl rfl (Nat.le_of_eq rfl) (hb hby at_117) (pc' := 120) rfl ?_
      intro _ T6 L5 X6 hq
      obtain ⟨rfl, N5, c10, F10, P6⟩ := hq
      replace N5 := Fr.app N4 N5
      replace P6 : HP n0 T6.heap [c10, AC kA3 [.long (0 : Int64), .long (0 : Int64), .long (0 : Int64), .long (0 : Int64)], AC kA4 [.int (-1 : Int32), .int (-1 : Int32), .int (-1 : Int32), .int (-1 : Int32)], AC kA5 [.int (-1 : Int32), .int (-1 : Int32), .int (-1 : Int32)], AC kA6 [.int ((x0 &&& (2147483647 : Int32)) % (3 : Int32)), .int (((((x0 &&& (2147483647 : Int32)) % (3 : Int32)) + (1 : Int32)) + (x5 &&& (1 : Int32))) % (3 : Int32)), .int (0 : Int32)], AC kA7 [.int (0 : Int32), .int ((x3 &&& (2147483647 : Int32)) % (4 : Int32)), .int (0 : Int32)], AC kA8 [.long x2, .long x4, .long (0 : Int64)]] := P6
      refine w_iload X6 hx (hb hby at_120) rfl (pc' := 122) rfl ?_
      refine w_if_eq X6 hx (hb hby at_122) (by decide) (pcY := 129) (by decide) (pc' := 125) rfl (fun h8 => ?_) (fun h8 => absurd h8 (by decide))
      refine w_iconst (v := (1 : Int32)) X6 hx (hb hby at_129) rfl (pc' := 130) rfl ?_
      refine w_istore (l' := #[.val (.int x0), .val (.int x1), .val (.long x2), .second, .val (.int x3), .val (.long x4), .second, .val (.int x5), .val (.int ((x0 &&& (2147483647 : Int32)) % (3 : Int32))), .val (.int (((((x0 &&& (2147483647 : Int32)) % (3 : Int32)) + (1 : Int32)) + (x5 &&& (1 : Int32))) % (3 : Int32))), .val (.int (0 : Int32)), .val (.int ((x3 &&& (2147483647 : Int32)) % (4 : Int32))), .val (.int (0 : Int32)), .val (.ref (n0 + 0)), .val (.int (1 : Int32)), .val (.int (1 : Int32))]) X6 hx (hb hby at_130) rfl (pc' := 132) rfl ?_
      refine w_iload X6 hx (hb hby at_132) rfl (pc' := 134) rfl ?_
      refine w_if_eq X6 hx (hb hby at_134) (by decide) (pcY := 202) (by decide) (pc' := 137) rfl (fun h9 => absurd h9 (by decide)) (fun h9 => ?_)
      refine w_aload X6 hx (hb hby at_137) rfl rfl (pc' := 139) rfl ?_
      refine own_callV (W := 0) X6 hx hZ rfl hown hml.symm (wd39 hw) (wd40 hw) (wd42 hw) (wd41 hw) (wd3 hw) (wd43 hw) (rm5_7 l Z a0 hw [] n0 c10 F10 kA3 hk3 (0 : Int64) (0 : Int64) (0 : Int64) (0 : Int64) kA4 hk4 (-1 : Int32) (-1 : Int32) (-1 : Int32) (-1 : Int32) kA5 hk5 (-1 : Int32) (-1 : Int32) (-1 : Int32) kA6 hk6 ((x0 &&& (2147483647 : Int32)) % (3 : Int32)) (((((x0 &&& (2147483647 : Int32)) % (3 : Int32)) + (1 : Int32)) + (x5 &&& (1 : Int32))) % (3 : Int32)) (0 : Int32) kA7 hk7 (0 : Int32) ((x3 &&& (2147483647 : Int32)) % (4 : Int32)) (0 : Int32) kA8 hk8 x2 x4 (0 : Int64) _ P6) (a := (n0 + 0)) (P6.exa (i := 0) rfl F10.1) (by decide) (by decide) (by decide) (by decide) (by decide) (argsL := []) (rest := []) pd5 rfl rfl rfl (Nat.le_of_eq rfl) (hb hby at_139) (pc' := 142) rfl ?_
      intro _ T7 L6 X7 hq
      obtain ⟨rfl, N6, P7⟩ := hq
      replace N6 := Fr.app N5 N6
      replace P7 : HP n0 T7.heap [c10, AC kA3 [.long (0 : Int64), .long (0 : Int64), .long (0 : Int64), .long (0 : Int64)], AC kA4 [.int (-1 : Int32), .int (-1 : Int32), .int (-1 : Int32), .int (-1 : Int32)], AC kA5 [.int (-1 : Int32), .int (-1 : Int32), .int (-1 : Int32)], AC kA6 [.int ((x0 &&& (2147483647 : Int32)) % (3 : Int32)), .int (((((x0 &&& (2147483647 : Int32)) % (3 : Int32)) + (1 : Int32)) + (x5 &&& (1 : Int32))) % (3 : Int32)), .int (0 : Int32)], AC kA7 [.int (0 : Int32), .int ((x3 &&& (2147483647 : Int32)) % (4 : Int32)), .int (0 : Int32)], AC kA8 [.long x2, .long x4, .long (0 : Int64)]] := P7
      refine w_iload X7 hx (hb hby at_142) rfl (pc' := 144) rfl ?_
      refine w_iconst (v := (1 : Int32)) X7 hx (hb hby at_144) rfl (pc' := 145) rfl ?_
      refine w_iadd X7 hx (hb hby at_145) (pc' := 146) rfl ?_
      refine w_eqI (z := (2 : Int32)) (by decide) ?_
      refine w_icmp_ne X7 hx (hb hby at_146) (by decide) (pcY := 202) (by decide) (pc' := 149) rfl (fun h10 => absurd h10 (by decide)) (fun h10 => ?_)
      refine w_aload X7 hx (hb hby at_149) rfl rfl (pc' := 151) rfl ?_
      refine w_iload X7 hx (hb hby at_151) rfl (pc' := 153) rfl ?_
      refine own_callV (W := 0) X7 hx hZ rfl hown hml.symm (wd54 hw) (wd55 hw) (wd57 hw) (wd56 hw) (wd3 hw) (wd58 hw) (rm8_8 l Z a0 hw [] n0 c10 F10 kA3 hk3 (0 : Int64) (0 : Int64) (0 : Int64) (0 : Int64) kA4 hk4 (-1 : Int32) (-1 : Int32) (-1 : Int32) (-1 : Int32) kA5 hk5 (-1 : Int32) (-1 : Int32) (-1 : Int32) kA6 hk6 ((x0 &&& (2147483647 : Int32)) % (3 : Int32)) (((((x0 &&& (2147483647 : Int32)) % (3 : Int32)) + (1 : Int32)) + (x5 &&& (1 : Int32))) % (3 : Int32)) (0 : Int32) kA7 hk7 (0 : Int32) ((x3 &&& (2147483647 : Int32)) % (4 : Int32)) (0 : Int32) kA8 hk8 x2 x4 (0 : Int64) _ P7) (a := (n0 + 0)) (P7.exa (i := 0) rfl F10.1) (by decide) (by decide) (by decide) (by decide) (by decide) (argsL := [.int (1 : Int32)]) (rest := []) pd8 rfl rfl rfl (Nat.le_of_eq rfl) (hb hby at_153) (pc' := 156) rfl ?_
      intro _ T8 L7 X8 hq
      obtain ⟨rfl, N7, P8⟩ := hq
      replace N7 := Fr.app N6 N7
      replace P8 : HP n0 T8.heap [c10, AC kA3 [.long (0 : Int64), .long (0 : Int64), .long (0 : Int64), .long (0 : Int64)], AC kA4 [.int (-1 : Int32), .int (-1 : Int32), .int (-1 : Int32), .int (-1 : Int32)], AC kA5 [.int (-1 : Int32), .int (-1 : Int32), .int (-1 : Int32)], AC kA6 [.int ((x0 &&& (2147483647 : Int32)) % (3 : Int32)), .int (((((x0 &&& (2147483647 : Int32)) % (3 : Int32)) + (1 : Int32)) + (x5 &&& (1 : Int32))) % (3 : Int32)), .int (0 : Int32)], AC kA7 [.int (0 : Int32), .int ((x3 &&& (2147483647 : Int32)) % (4 : Int32)), .int (0 : Int32)], AC kA8 [.long x2, .long x4, .long (0 : Int64)]] := P8
      refine w_iload X8 hx (hb hby at_156) rfl (pc' := 158) rfl ?_
      refine w_icmp_ne X8 hx (hb hby at_158) (by decide) (pcY := 202) (by decide) (pc' := 161) rfl (fun h11 => absurd rfl h11) (fun h11 => ?_)
      refine w_aload X8 hx (hb hby at_161) rfl rfl (pc' := 163) rfl ?_
      refine w_iload X8 hx (hb hby at_163) rfl (pc' := 165) rfl ?_
      refine own_callV (W := 0) X8 hx hZ rfl hown hml.symm (wd59 hw) (wd60 hw) (wd62 hw) (wd61 hw) (wd3 hw) (wd63 hw) (rm9_9 l Z a0 hw [] n0 c10 F10 kA3 hk3 (0 : Int64) (0 : Int64) (0 : Int64) (0 : Int64) kA4 hk4 (-1 : Int32) (-1 : Int32) (-1 : Int32) (-1 : Int32) kA5 hk5 (-1 : Int32) (-1 : Int32) (-1 : Int32) kA6 hk6 ((x0 &&& (2147483647 : Int32)) % (3 : Int32)) (((((x0 &&& (2147483647 : Int32)) % (3 : Int32)) + (1 : Int32)) + (x5 &&& (1 : Int32))) % (3 : Int32)) (0 : Int32) kA7 hk7 (0 : Int32) ((x3 &&& (2147483647 : Int32)) % (4 : Int32)) (0 : Int32) kA8 hk8 x2 x4 (0 : Int64) _ P8) (a := (n0 + 0)) (P8.exa (i := 0) rfl F10.1) (by decide) (by decide) (by decide) (by decide) (by decide) (argsL := [.int (1 : Int32)]) (rest := []) pd9 rfl rfl rfl (Nat.le_of_eq rfl) (hb hby at_165) (pc' := 168) rfl ?_
      intro _ T9 L8 X9 hq
      obtain ⟨rfl, N8, P9⟩ := hq
      replace N8 := Fr.app N7 N8
      replace P9 : HP n0 T9.heap [c10, AC kA3 [.long (0 : Int64), .long (0 : Int64), .long (0 : Int64), .long (0 : Int64)], AC kA4 [.int (-1 : Int32), .int (-1 : Int32), .int (-1 : Int32), .int (-1 : Int32)], AC kA5 [.int (-1 : Int32), .int (-1 : Int32), .int (-1 : Int32)], AC kA6 [.int ((x0 &&& (2147483647 : Int32)) % (3 : Int32)), .int (((((x0 &&& (2147483647 : Int32)) % (3 : Int32)) + (1 : Int32)) + (x5 &&& (1 : Int32))) % (3 : Int32)), .int (0 : Int32)], AC kA7 [.int (0 : Int32), .int ((x3 &&& (2147483647 : Int32)) % (4 : Int32)), .int (0 : Int32)], AC kA8 [.long x2, .long x4, .long (0 : Int64)]] := P9
      refine w_iload X9 hx (hb hby at_168) rfl (pc' := 170) rfl ?_
      refine w_icmp_ne X9 hx (hb hby at_170) (by decide) (pcY := 202) (by decide) (pc' := 173) rfl (fun h12 => absurd rfl h12) (fun h12 => ?_)
      refine w_aload X9 hx (hb hby at_173) rfl rfl (pc' := 175) rfl ?_
      refine w_iload X9 hx (hb hby at_175) rfl (pc' := 177) rfl ?_
      refine own_callV (W := 0) X9 hx hZ rfl hown hml.symm (wd64 hw) (wd65 hw) (wd67 hw) (wd66 hw) (wd3 hw) (wd68 hw) (rm10_10 l Z a0 hw [] n0 c10 F10 kA3 hk3 (0 : Int64) (0 : Int64) (0 : Int64) (0 : Int64) kA4 hk4 (-1 : Int32) (-1 : Int32) (-1 : Int32) (-1 : Int32) kA5 hk5 (-1 : Int32) (-1 : Int32) (-1 : Int32) kA6 hk6 ((x0 &&& (2147483647 : Int32)) % (3 : Int32)) (((((x0 &&& (2147483647 : Int32)) % (3 : Int32)) + (1 : Int32)) + (x5 &&& (1 : Int32))) % (3 : Int32)) (0 : Int32) kA7 hk7 (0 : Int32) ((x3 &&& (2147483647 : Int32)) % (4 : Int32)) (0 : Int32) kA8 hk8 x2 x4 (0 : Int64) _ P9) (a := (n0 + 0)) (P9.exa (i := 0) rfl F10.1) (by decide) (by decide) (by decide) (by decide) (by decide) (argsL := [.int (1 : Int32)]) (rest := []) pd10 rfl rfl rfl (Nat.le_of_eq rfl) (hb hby at_177) (pc' := 180) rfl ?_
      intro _ T10 L9 X10 hq
      obtain ⟨rfl, N9, P10⟩ := hq
      replace N9 := Fr.app N8 N9
      replace P10 : HP n0 T10.heap [c10, AC kA3 [.long (0 : Int64), .long (0 : Int64), .long (0 : Int64), .long (0 : Int64)], AC kA4 [.int (-1 : Int32), .int (-1 : Int32), .int (-1 : Int32), .int (-1 : Int32)], AC kA5 [.int (-1 : Int32), .int (-1 : Int32), .int (-1 : Int32)], AC kA6 [.int ((x0 &&& (2147483647 : Int32)) % (3 : Int32)), .int (((((x0 &&& (2147483647 : Int32)) % (3 : Int32)) + (1 : Int32)) + (x5 &&& (1 : Int32))) % (3 : Int32)), .int (0 : Int32)], AC kA7 [.int (0 : Int32), .int ((x3 &&& (2147483647 : Int32)) % (4 : Int32)), .int (0 : Int32)], AC kA8 [.long x2, .long x4, .long (0 : Int64)]] := P10
      refine w_lload X10 hx (hb hby at_180) rfl (pc' := 182) rfl ?_
      refine w_lcmp_ne X10 hx (hb hby at_182) rfl (hb hby at_183) (by decide) (pcY := 202) (by decide) (pc' := 186) rfl (fun h13 => absurd rfl h13) (fun h13 => ?_)
      refine w_aload X10 hx (hb hby at_186) rfl rfl (pc' := 188) rfl ?_
      refine own_callV (W := 0) X10 hx hZ rfl hown hml.symm (wd44 hw) (wd45 hw) (wd47 hw) (wd46 hw) (wd3 hw) (wd48 hw) (rm6_11 l Z a0 hw [] n0 c10 F10 kA3 hk3 (0 : Int64) (0 : Int64) (0 : Int64) (0 : Int64) kA4 hk4 (-1 : Int32) (-1 : Int32) (-1 : Int32) (-1 : Int32) kA5 hk5 (-1 : Int32) (-1 : Int32) (-1 : Int32) kA6 hk6 ((x0 &&& (2147483647 : Int32)) % (3 : Int32)) (((((x0 &&& (2147483647 : Int32)) % (3 : Int32)) + (1 : Int32)) + (x5 &&& (1 : Int32))) % (3 : Int32)) (0 : Int32) kA7 hk7 (0 : Int32) ((x3 &&& (2147483647 : Int32)) % (4 : Int32)) (0 : Int32) kA8 hk8 x2 x4 (0 : Int64) _ P10) (a := (n0 + 0)) (P10.exa (i := 0) rfl F10.1) (by decide) (by decide) (by decide) (by decide) (by decide) (argsL := []) (rest := []) pd6 rfl rfl rfl (Nat.le_of_eq rfl) (hb hby at_188) (pc' := 191) rfl ?_
      intro _ T11 L10 X11 hq
      obtain ⟨rfl, N10, P11⟩ := hq
      replace N10 := Fr.app N9 N10
      replace P11 : HP n0 T11.heap [c10, AC kA3 [.long (0 : Int64), .long (0 : Int64), .long (0 : Int64), .long (0 : Int64)], AC kA4 [.int (-1 : Int32), .int (-1 : Int32), .int (-1 : Int32), .int (-1 : Int32)], AC kA5 [.int (-1 : Int32), .int (-1 : Int32), .int (-1 : Int32)], AC kA6 [.int ((x0 &&& (2147483647 : Int32)) % (3 : Int32)), .int (((((x0 &&& (2147483647 : Int32)) % (3 : Int32)) + (1 : Int32)) + (x5 &&& (1 : Int32))) % (3 : Int32)), .int (0 : Int32)], AC kA7 [.int (0 : Int32), .int ((x3 &&& (2147483647 : Int32)) % (4 : Int32)), .int (0 : Int32)], AC kA8 [.long x2, .long x4, .long (0 : Int64)]] := P11
      refine w_ldc2 X11 hx (hb hby at_191) hown (mvT hZ (wd69 hw)) (pc' := 194) rfl ?_
      refine w_lcmp_ne X11 hx (hb hby at_194) rfl (hb hby at_195) (by decide) (pcY := 202) (by decide) (pc' := 198) rfl (fun h14 => absurd h14 (by decide)) (fun h14 => ?_)
      refine w_iconst (v := (1 : Int32)) X11 hx (hb hby at_198) rfl (pc' := 199) rfl ?_
      refine w_goto X11 hx (hb hby at_199) (by decide) (pc' := 203) (by decide) ?_
      refine w_istore (l' := #[.val (.int x0), .val (.int x1), .val (.long x2), .second, .val (.int x3), .val (.long x4), .second, .val (.int x5), .val (.int ((x0 &&& (2147483647 : Int32)) % (3 : Int32))), .val (.int (((((x0 &&& (2147483647 : Int32)) % (3 : Int32)) + (1 : Int32)) + (x5 &&& (1 : Int32))) % (3 : Int32))), .val (.int (0 : Int32)), .val (.int ((x3 &&& (2147483647 : Int32)) % (4 : Int32))), .val (.int (0 : Int32)), .val (.ref (n0 + 0)), .val (.int (1 : Int32)), .val (.int (1 : Int32))]) X11 hx (hb hby at_203) rfl (pc' := 205) rfl ?_
      refine w_iload X11 hx (hb hby at_205) rfl (pc' := 207) rfl ?_
      refine w_if_ne X11 hx (hb hby at_207) (by decide) (pcY := 255) (by decide) (pc' := 210) rfl (fun h15 => absurd h15 (by decide)) (fun h15 => ?_)
      refine w_iload X11 hx (hb hby at_210) rfl (pc' := 212) rfl ?_
      refine w_if_eq X11 hx (hb hby at_212) (by decide) (pcY := 252) (by decide) (pc' := 215) rfl (fun h16 => absurd h16 (by decide)) (fun h16 => ?_)
      refine w_aload X11 hx (hb hby at_215) rfl rfl (pc' := 217) rfl ?_
      refine w_iconst (v := (0 : Int32)) X11 hx (hb hby at_217) rfl (pc' := 218) rfl ?_
      refine own_callV (W := 0) X11 hx hZ rfl hown hml.symm (wd54 hw) (wd55 hw) (wd57 hw) (wd56 hw) (wd3 hw) (wd58 hw) (rm8_12 l Z a0 hw [] n0 c10 F10 kA3 hk3 (0 : Int64) (0 : Int64) (0 : Int64) (0 : Int64) kA4 hk4 (-1 : Int32) (-1 : Int32) (-1 : Int32) (-1 : Int32) kA5 hk5 (-1 : Int32) (-1 : Int32) (-1 : Int32) kA6 hk6 ((x0 &&& (2147483647 : Int32)) % (3 : Int32)) (((((x0 &&& (2147483647 : Int32)) % (3 : Int32)) + (1 : Int32)) + (x5 &&& (1 : Int32))) % (3 : Int32)) (0 : Int32) kA7 hk7 (0 : Int32) ((x3 &&& (2147483647 : Int32)) % (4 : Int32)) (0 : Int32) kA8 hk8 x2 x4 (0 : Int64) _ P11) (a := (n0 + 0)) (P11.exa (i := 0) rfl F10.1) (by decide) (by decide) (by decide) (by decide) (by decide) (argsL := [.int (0 : Int32)]) (rest := []) pd8 rfl rfl rfl (Nat.le_of_eq rfl) (hb hby at_218) (pc' := 221) rfl ?_
      intro _ T12 L11 X12 hq
      obtain ⟨rfl, N11, P12⟩ := hq
      replace N11 := Fr.app N10 N11
      replace P12 : HP n0 T12.heap [c10, AC kA3 [.long (0 : Int64), .long (0 : Int64), .long (0 : Int64), .long (0 : Int64)], AC kA4 [.int (-1 : Int32), .int (-1 : Int32), .int (-1 : Int32), .int (-1 : Int32)], AC kA5 [.int (-1 : Int32), .int (-1 : Int32), .int (-1 : Int32)], AC kA6 [.int ((x0 &&& (2147483647 : Int32)) % (3 : Int32)), .int (((((x0 &&& (2147483647 : Int32)) % (3 : Int32)) + (1 : Int32)) + (x5 &&& (1 : Int32))) % (3 : Int32)), .int (0 : Int32)], AC kA7 [.int (0 : Int32), .int ((x3 &&& (2147483647 : Int32)) % (4 : Int32)), .int (0 : Int32)], AC kA8 [.long x2, .long x4, .long (0 : Int64)]] := P12
      refine w_iload X12 hx (hb hby at_221) rfl (pc' := 223) rfl ?_
      refine w_icmp_ne X12 hx (hb hby at_223) (by decide) (pcY := 252) (by decide) (pc' := 226) rfl (fun h17 => absurd rfl h17) (fun h17 => ?_)
      refine w_aload X12 hx (hb hby at_226) rfl rfl (pc' := 228) rfl ?_
      refine w_iconst (v := (0 : Int32)) X12 hx (hb hby at_228) rfl (pc' := 229) rfl ?_
      refine own_callV (W := 0) X12 hx hZ rfl hown hml.symm (wd59 hw) (wd60 hw) (wd62 hw) (wd61 hw) (wd3 hw) (wd63 hw) (rm9_13 l Z a0 hw [] n0 c10 F10 kA3 hk3 (0 : Int64) (0 : Int64) (0 : Int64) (0 : Int64) kA4 hk4 (-1 : Int32) (-1 : Int32) (-1 : Int32) (-1 : Int32) kA5 hk5 (-1 : Int32) (-1 : Int32) (-1 : Int32) kA6 hk6 ((x0 &&& (2147483647 : Int32)) % (3 : Int32)) (((((x0 &&& (2147483647 : Int32)) % (3 : Int32)) + (1 : Int32)) + (x5 &&& (1 : Int32))) % (3 : Int32)) (0 : Int32) kA7 hk7 (0 : Int32) ((x3 &&& (2147483647 : Int32)) % (4 : Int32)) (0 : Int32) kA8 hk8 x2 x4 (0 : Int64) _ P12) (a := (n0 + 0)) (P12.exa (i := 0) rfl F10.1) (by decide) (by decide) (by decide) (by decide) (by decide) (argsL := [.int (0 : Int32)]) (rest := []) pd9 rfl rfl rfl (Nat.le_of_eq rfl) (hb hby at_229) (pc' := 232) rfl ?_
      intro _ T13 L12 X13 hq
      obtain ⟨rfl, N12, P13⟩ := hq
      replace N12 := Fr.app N11 N12
      replace P13 : HP n0 T13.heap [c10, AC kA3 [.long (0 : Int64), .long (0 : Int64), .long (0 : Int64), .long (0 : Int64)], AC kA4 [.int (-1 : Int32), .int (-1 : Int32), .int (-1 : Int32), .int (-1 : Int32)], AC kA5 [.int (-1 : Int32), .int (-1 : Int32), .int (-1 : Int32)], AC kA6 [.int ((x0 &&& (2147483647 : Int32)) % (3 : Int32)), .int (((((x0 &&& (2147483647 : Int32)) % (3 : Int32)) + (1 : Int32)) + (x5 &&& (1 : Int32))) % (3 : Int32)), .int (0 : Int32)], AC kA7 [.int (0 : Int32), .int ((x3 &&& (2147483647 : Int32)) % (4 : Int32)), .int (0 : Int32)], AC kA8 [.long x2, .long x4, .long (0 : Int64)]] := P13
      refine w_iload X13 hx (hb hby at_232) rfl (pc' := 234) rfl ?_
      refine w_icmp_ne X13 hx (hb hby at_234) (by decide) (pcY := 252) (by decide) (pc' := 237) rfl (fun h18 => absurd h18 (by decide)) (fun h18 => ?_)
      refine w_aload X13 hx (hb hby at_237) rfl rfl (pc' := 239) rfl ?_
      refine w_iconst (v := (0 : Int32)) X13 hx (hb hby at_239) rfl (pc' := 240) rfl ?_
      refine own_callV (W := 0) X13 hx hZ rfl hown hml.symm (wd64 hw) (wd65 hw) (wd67 hw) (wd66 hw) (wd3 hw) (wd68 hw) (rm10_14 l Z a0 hw [] n0 c10 F10 kA3 hk3 (0 : Int64) (0 : Int64) (0 : Int64) (0 : Int64) kA4 hk4 (-1 : Int32) (-1 : Int32) (-1 : Int32) (-1 : Int32) kA5 hk5 (-1 : Int32) (-1 : Int32) (-1 : Int32) kA6 hk6 ((x0 &&& (2147483647 : Int32)) % (3 : Int32)) (((((x0 &&& (2147483647 : Int32)) % (3 : Int32)) + (1 : Int32)) + (x5 &&& (1 : Int32))) % (3 : Int32)) (0 : Int32) kA7 hk7 (0 : Int32) ((x3 &&& (2147483647 : Int32)) % (4 : Int32)) (0 : Int32) kA8 hk8 x2 x4 (0 : Int64) _ P13) (a := (n0 + 0)) (P13.exa (i := 0) rfl F10.1) (by decide) (by decide) (by decide) (by decide) (by decide) (argsL := [.int (0 : Int32)]) (rest := []) pd10 rfl rfl rfl (Nat.le_of_eq rfl) (hb hby at_240) (pc' := 243) rfl ?_
      intro _ T14 L13 X14 hq
      obtain ⟨rfl, N13, P14⟩ := hq
      replace N13 := Fr.app N12 N13
      replace P14 : HP n0 T14.heap [c10, AC kA3 [.long (0 : Int64), .long (0 : Int64), .long (0 : Int64), .long (0 : Int64)], AC kA4 [.int (-1 : Int32), .int (-1 : Int32), .int (-1 : Int32), .int (-1 : Int32)], AC kA5 [.int (-1 : Int32), .int (-1 : Int32), .int (-1 : Int32)], AC kA6 [.int ((x0 &&& (2147483647 : Int32)) % (3 : Int32)), .int (((((x0 &&& (2147483647 : Int32)) % (3 : Int32)) + (1 : Int32)) + (x5 &&& (1 : Int32))) % (3 : Int32)), .int (0 : Int32)], AC kA7 [.int (0 : Int32), .int ((x3 &&& (2147483647 : Int32)) % (4 : Int32)), .int (0 : Int32)], AC kA8 [.long x2, .long x4, .long (0 : Int64)]] := P14
      refine w_lloadN X14 hx (hb hby at_243) rfl (pc' := 244) rfl ?_
      refine w_lcmp_ne X14 hx (hb hby at_244) rfl (hb hby at_245) (by decide) (pcY := 252) (by decide) (pc' := 248) rfl (fun h19 => absurd rfl h19) (fun h19 => ?_)
      refine w_iconst (v := (1 : Int32)) X14 hx (hb hby at_248) rfl (pc' := 249) rfl ?_
      refine w_goto X14 hx (hb hby at_249) (by decide) (pc' := 253) (by decide) ?_
      refine w_istore (l' := #[.val (.int x0), .val (.int x1), .val (.long x2), .second, .val (.int x3), .val (.long x4), .second, .val (.int x5), .val (.int ((x0 &&& (2147483647 : Int32)) % (3 : Int32))), .val (.int (((((x0 &&& (2147483647 : Int32)) % (3 : Int32)) + (1 : Int32)) + (x5 &&& (1 : Int32))) % (3 : Int32))), .val (.int (0 : Int32)), .val (.int ((x3 &&& (2147483647 : Int32)) % (4 : Int32))), .val (.int (0 : Int32)), .val (.ref (n0 + 0)), .val (.int (1 : Int32)), .val (.int (1 : Int32))]) X14 hx (hb hby at_253) rfl (pc' := 255) rfl ?_
      refine w_iload X14 hx (hb hby at_255) rfl (pc' := 257) rfl ?_
      refine w_if_eq X14 hx (hb hby at_257) (by decide) (pcY := 285) (by decide) (pc' := 260) rfl (fun h20 => absurd h20 (by decide)) (fun h20 => ?_)
      refine w_aload X14 hx (hb hby at_260) rfl rfl (pc' := 262) rfl ?_
      refine own_callV (W := 0) X14 hx hZ rfl hown hml.symm (wd70 hw) (wd71 hw) (wd73 hw) (wd72 hw) (wd3 hw) (wd74 hw) (rm11_15 l Z a0 hw [] n0 c10 F10 kA3 hk3 (0 : Int64) (0 : Int64) (0 : Int64) (0 : Int64) kA4 hk4 (-1 : Int32) (-1 : Int32) (-1 : Int32) (-1 : Int32) kA5 hk5 (-1 : Int32) (-1 : Int32) (-1 : Int32) kA6 hk6 ((x0 &&& (2147483647 : Int32)) % (3 : Int32)) (((((x0 &&& (2147483647 : Int32)) % (3 : Int32)) + (1 : Int32)) + (x5 &&& (1 : Int32))) % (3 : Int32)) (0 : Int32) kA7 hk7 (0 : Int32) ((x3 &&& (2147483647 : Int32)) % (4 : Int32)) (0 : Int32) kA8 hk8 x2 x4 (0 : Int64) _ P14) (a := (n0 + 0)) (P14.exa (i := 0) rfl F10.1) (by decide) (by decide) (by decide) (by decide) (by decide) (argsL := []) (rest := []) pd11 rfl rfl rfl (Nat.le_of_eq rfl) (hb hby at_262) (pc' := 265) rfl ?_
      intro _ T15 L14 X15 hq
      obtain ⟨rfl, N14, P15⟩ := hq
      replace N14 := Fr.app N13 N14
      replace P15 : HP n0 T15.heap [c10, AC kA3 [.long (0 : Int64), .long (0 : Int64), .long (0 : Int64), .long (0 : Int64)], AC kA4 [.int (-1 : Int32), .int (-1 : Int32), .int (-1 : Int32), .int (-1 : Int32)], AC kA5 [.int (-1 : Int32), .int (-1 : Int32), .int (-1 : Int32)], AC kA6 [.int ((x0 &&& (2147483647 : Int32)) % (3 : Int32)), .int (((((x0 &&& (2147483647 : Int32)) % (3 : Int32)) + (1 : Int32)) + (x5 &&& (1 : Int32))) % (3 : Int32)), .int (0 : Int32)], AC kA7 [.int (0 : Int32), .int ((x3 &&& (2147483647 : Int32)) % (4 : Int32)), .int (0 : Int32)], AC kA8 [.long x2, .long x4, .long (0 : Int64)]] := P15
      refine w_iconst (v := (3 : Int32)) X15 hx (hb hby at_265) rfl (pc' := 266) rfl ?_
      refine w_icmp_ne X15 hx (hb hby at_266) (by decide) (pcY := 285) (by decide) (pc' := 269) rfl (fun h21 => absurd h21 (by decide)) (fun h21 => ?_)
      refine w_aload X15 hx (hb hby at_269) rfl rfl (pc' := 271) rfl ?_
      refine w_iload X15 hx (hb hby at_271) rfl (pc' := 273) rfl ?_
      refine own_callV (W := 0) X15 hx hZ rfl hown hml.symm (wd75 hw) (wd76 hw) (wd78 hw) (wd77 hw) (wd3 hw) (wd79 hw) (rm12_16 l Z a0 hw [] n0 c10 F10 kA3 hk3 (0 : Int64) (0 : Int64) (0 : Int64) (0 : Int64) kA4 hk4 (-1 : Int32) (-1 : Int32) (-1 : Int32) (-1 : Int32) kA5 hk5 (-1 : Int32) (-1 : Int32) (-1 : Int32) kA6 hk6 ((x0 &&& (2147483647 : Int32)) % (3 : Int32)) (((((x0 &&& (2147483647 : Int32)) % (3 : Int32)) + (1 : Int32)) + (x5 &&& (1 : Int32))) % (3 : Int32)) (0 : Int32) kA7 hk7 (0 : Int32) ((x3 &&& (2147483647 : Int32)) % (4 : Int32)) (0 : Int32) kA8 hk8 x2 x4 (0 : Int64) _ P15) (a := (n0 + 0)) (P15.exa (i := 0) rfl F10.1) (by decide) (by decide) (by decide) (by decide) (by decide) (argsL := [.int (0 : Int32)]) (rest := []) pd12 rfl rfl rfl (Nat.le_of_eq rfl) (hb hby at_273) (pc' := 276) rfl ?_
      intro _ T16 L15 X16 hq
      obtain ⟨rfl, N15, P16⟩ := hq
      replace N15 := Fr.app N14 N15
      replace P16 : HP n0 T16.heap [c10, AC kA3 [.long (0 : Int64), .long (0 : Int64), .long (0 : Int64), .long (0 : Int64)], AC kA4 [.int (-1 : Int32), .int (-1 : Int32), .int (-1 : Int32), .int (-1 : Int32)], AC kA5 [.int (-1 : Int32), .int (-1 : Int32), .int (-1 : Int32)], AC kA6 [.int ((x0 &&& (2147483647 : Int32)) % (3 : Int32)), .int (((((x0 &&& (2147483647 : Int32)) % (3 : Int32)) + (1 : Int32)) + (x5 &&& (1 : Int32))) % (3 : Int32)), .int (0 : Int32)], AC kA7 [.int (0 : Int32), .int ((x3 &&& (2147483647 : Int32)) % (4 : Int32)), .int (0 : Int32)], AC kA8 [.long x2, .long x4, .long (0 : Int64)]] := P16
      refine w_lconst (v := (0 : Int64)) X16 hx (hb hby at_276) rfl (pc' := 277) rfl ?_
      refine w_lcmp_ne X16 hx (hb hby at_277) rfl (hb hby at_278) (by decide) (pcY := 285) (by decide) (pc' := 281) rfl (fun h22 => absurd h22 (by decide)) (fun h22 => ?_)
      refine w_iconst (v := (1 : Int32)) X16 hx (hb hby at_281) rfl (pc' := 282) rfl ?_
      refine w_goto X16 hx (hb hby at_282) (by decide) (pc' := 286) (by decide) ?_
      refine w_istore (l' := #[.val (.int x0), .val (.int x1), .val (.long x2), .second, .val (.int x3), .val (.long x4), .second, .val (.int x5), .val (.int ((x0 &&& (2147483647 : Int32)) % (3 : Int32))), .val (.int (((((x0 &&& (2147483647 : Int32)) % (3 : Int32)) + (1 : Int32)) + (x5 &&& (1 : Int32))) % (3 : Int32))), .val (.int (0 : Int32)), .val (.int ((x3 &&& (2147483647 : Int32)) % (4 : Int32))), .val (.int (0 : Int32)), .val (.ref (n0 + 0)), .val (.int (1 : Int32)), .val (.int (1 : Int32))]) X16 hx (hb hby at_286) rfl (pc' := 288) rfl ?_
      refine w_iload X16 hx (hb hby at_288) rfl (pc' := 290) rfl ?_
      exact w_ret_n (t := .boolean) X16 hx hret hlk (by simp) (hb hby at_290) (z' := (1 : Int32)) rfl (by decide) (by decide) ⟨rfl, N15⟩
    · refine w_iconst (v := (1 : Int32)) X0 hx (hb hby at_45) rfl (pc' := 46) rfl ?_
      refine w_goto X0 hx (hb hby at_46) (by decide) (pc' := 50) (by decide) ?_
      refine w_istore (l' := #[.val (.int x0), .val (.int x1), .val (.long x2), .second, .val (.int x3), .val (.long x4), .second, .val (.int x5), .val (.int ((x0 &&& (2147483647 : Int32)) % (3 : Int32))), .val (.int (((((x0 &&& (2147483647 : Int32)) % (3 : Int32)) + (1 : Int32)) + (x5 &&& (1 : Int32))) % (3 : Int32))), .val (.int (0 : Int32)), .val (.int ((x3 &&& (2147483647 : Int32)) % (4 : Int32))), .val (.int (1 : Int32)), .unset, .unset, .unset]) X0 hx (hb hby at_50) rfl (pc' := 52) rfl ?_
      refine w_new (j := 0) X0 hx hZ hown (wd1 hw) (wd2 hw) (wd3 hw) P0 fl_C0 dv_C0 rfl (ly_C0 hw) (hb hby at_52) (by decide) (by decide) rfl (pc' := 55) rfl ?_
      intro T17 c11 X17 P17 F11
      replace P17 : HP n0 T17.heap [c11] := P17
      refine w_dup X17 hx (hb hby at_55) rfl (pc' := 56) rfl ?_
      refine w_iconst (v := (3 : Int32)) X17 hx (hb hby at_56) rfl (pc' := 57) rfl ?_
      refine w_iconst (v := (4 : Int32)) X17 hx (hb hby at_57) rfl (pc' := 58) rfl ?_
      refine own_callI (W := 1) X17 hx hZ rfl rfl hown hml.symm (wd4 hw) (wd5 hw) (wd3 hw) (wd6 hw) (rm1_0 l Z a0 hw [] n0 c11 F11 _ P17) (by decide) (by decide) (by decide) (by decide) (by decide) (a := (n0 + 0)) (argsL := [.int (3 : Int32), .int (4 : Int32)]) (rest := [.ref (n0 + 0)]) pd1 rfl rfl rfl (Nat.le_of_eq rfl) (hb hby at_58) (pc' := 61) rfl ?_
      intro _ T18 L16 X18 hq
      obtain ⟨rfl, N16, c12, F12, kA13, hk13, kA14, hk14, kA15, hk15, kA16, hk16, kA17, hk17, kA18, hk18, P18⟩ := hq
      replace N16 := Fr.app N0 N16
      replace P18 : HP n0 T18.heap [c12, AC kA13 [.long (0 : Int64), .long (0 : Int64), .long (0 : Int64), .long (0 : Int64)], AC kA14 [.int (-1 : Int32), .int (-1 : Int32), .int (-1 : Int32), .int (-1 : Int32)], AC kA15 [.int (-1 : Int32), .int (-1 : Int32), .int (-1 : Int32)], AC kA16 [.int (0 : Int32), .int (0 : Int32), .int (0 : Int32)], AC kA17 [.int (0 : Int32), .int (0 : Int32), .int (0 : Int32)], AC kA18 [.long (0 : Int64), .long (0 : Int64), .long (0 : Int64)]] := P18
      refine w_astore (l' := #[.val (.int x0), .val (.int x1), .val (.long x2), .second, .val (.int x3), .val (.long x4), .second, .val (.int x5), .val (.int ((x0 &&& (2147483647 : Int32)) % (3 : Int32))), .val (.int (((((x0 &&& (2147483647 : Int32)) % (3 : Int32)) + (1 : Int32)) + (x5 &&& (1 : Int32))) % (3 : Int32))), .val (.int (0 : Int32)), .val (.int ((x3 &&& (2147483647 : Int32)) % (4 : Int32))), .val (.int (1 : Int32)), .val (.ref (n0 + 0)), .unset, .unset]) X18 hx (hb hby at_61) rfl rfl (pc' := 63) rfl ?_
      refine w_aload X18 hx (hb hby at_63) rfl rfl (pc' := 65) rfl ?_
      refine w_iload X18 hx (hb hby at_65) rfl (pc' := 67) rfl ?_
      refine w_iload X18 hx (hb hby at_67) rfl (pc' := 69) rfl ?_
      refine w_lloadN X18 hx (hb hby at_69) rfl (pc' := 70) rfl ?_
      refine own_callV (W := 0) X18 hx hZ rfl hown hml.symm (wd30 hw) (wd31 hw) (wd33 hw) (wd32 hw) (wd3 hw) (wd34 hw) (rm4_3 l Z a0 hw [] n0 ((x0 &&& (2147483647 : Int32)) % (3 : Int32)) x2 c12 F12 kA13 hk13 (0 : Int64) (0 : Int64) (0 : Int64) (0 : Int64) kA14 hk14 (-1 : Int32) (-1 : Int32) (-1 : Int32) (-1 : Int32) kA15 hk15 (-1 : Int32) (-1 : Int32) (-1 : Int32) kA16 hk16 (0 : Int32) (0 : Int32) (0 : Int32) kA17 hk17 (0 : Int32) (0 : Int32) (0 : Int32) kA18 hk18 (0 : Int64) (0 : Int64) (0 : Int64) _ P18) (a := (n0 + 0)) (P18.exa (i := 0) rfl F12.1) (by decide) (by decide) (by decide) (by decide) (by decide) (argsL := [.int ((x0 &&& (2147483647 : Int32)) % (3 : Int32)), .int (0 : Int32), .long x2]) (rest := []) pd4 rfl rfl rfl (Nat.le_of_eq rfl) (hb hby at_70) (pc' := 73) rfl ?_
      intro _ T19 L17 X19 hq
      obtain ⟨rfl, N17, c19, F19, P19⟩ := hq
      replace N17 := Fr.app N16 N17
      replace P19 : HP n0 T19.heap [c19, AC kA13 [.long (0 : Int64), .long (0 : Int64), .long (0 : Int64), .long (0 : Int64)], AC kA14 [.int (-1 : Int32), .int (-1 : Int32), .int (-1 : Int32), .int (-1 : Int32)], AC kA15 [.int (-1 : Int32), .int (-1 : Int32), .int (-1 : Int32)], AC kA16 [.int ((x0 &&& (2147483647 : Int32)) % (3 : Int32)), .int (0 : Int32), .int (0 : Int32)], AC kA17 [.int (0 : Int32), .int (0 : Int32), .int (0 : Int32)], AC kA18 [.long x2, .long (0 : Int64), .long (0 : Int64)]] := P19
      refine w_aload X19 hx (hb hby at_73) rfl rfl (pc' := 75) rfl ?_
      refine own_callV (W := 0) X19 hx hZ rfl hown hml.symm (wd39 hw) (wd40 hw) (wd42 hw) (wd41 hw) (wd3 hw) (wd43 hw) (rm5_4 l Z a0 hw [] n0 c19 F19 kA13 hk13 (0 : Int64) (0 : Int64) (0 : Int64) (0 : Int64) kA14 hk14 (-1 : Int32) (-1 : Int32) (-1 : Int32) (-1 : Int32) kA15 hk15 (-1 : Int32) (-1 : Int32) (-1 : Int32) kA16 hk16 ((x0 &&& (2147483647 : Int32)) % (3 : Int32)) (0 : Int32) (0 : Int32) kA17 hk17 (0 : Int32) (0 : Int32) (0 : Int32) kA18 hk18 x2 (0 : Int64) (0 : Int64) _ P19) (a := (n0 + 0)) (P19.exa (i := 0) rfl F19.1) (by decide) (by decide) (by decide) (by decide) (by decide) (argsL := []) (rest := []) pd5 rfl rfl rfl (Nat.le_of_eq rfl) (hb hby at_75) (pc' := 78) rfl ?_
      intro _ T20 L18 X20 hq
      obtain ⟨rfl, N18, P20⟩ := hq
      replace N18 := Fr.app N17 N18
      replace P20 : HP n0 T20.heap [c19, AC kA13 [.long (0 : Int64), .long (0 : Int64), .long (0 : Int64), .long (0 : Int64)], AC kA14 [.int (-1 : Int32), .int (-1 : Int32), .int (-1 : Int32), .int (-1 : Int32)], AC kA15 [.int (-1 : Int32), .int (-1 : Int32), .int (-1 : Int32)], AC kA16 [.int ((x0 &&& (2147483647 : Int32)) % (3 : Int32)), .int (0 : Int32), .int (0 : Int32)], AC kA17 [.int (0 : Int32), .int (0 : Int32), .int (0 : Int32)], AC kA18 [.long x2, .long (0 : Int64), .long (0 : Int64)]] := P20
      refine w_iconst (v := (1 : Int32)) X20 hx (hb hby at_78) rfl (pc' := 79) rfl ?_
      refine w_icmp_ne X20 hx (hb hby at_79) (by decide) (pcY := 96) (by decide) (pc' := 82) rfl (fun h23 => absurd h23 (by decide)) (fun h23 => ?_)
      refine w_aload X20 hx (hb hby at_82) rfl rfl (pc' := 84) rfl ?_
      refine own_callV (W := 0) X20 hx hZ rfl hown hml.symm (wd44 hw) (wd45 hw) (wd47 hw) (wd46 hw) (wd3 hw) (wd48 hw) (rm6_5 l Z a0 hw [] n0 c19 F19 kA13 hk13 (0 : Int64) (0 : Int64) (0 : Int64) (0 : Int64) kA14 hk14 (-1 : Int32) (-1 : Int32) (-1 : Int32) (-1 : Int32) kA15 hk15 (-1 : Int32) (-1 : Int32) (-1 : Int32) kA16 hk16 ((x0 &&& (2147483647 : Int32)) % (3 : Int32)) (0 : Int32) (0 : Int32) kA17 hk17 (0 : Int32) (0 : Int32) (0 : Int32) kA18 hk18 x2 (0 : Int64) (0 : Int64) _ P20) (a := (n0 + 0)) (P20.exa (i := 0) rfl F19.1) (by decide) (by decide) (by decide) (by decide) (by decide) (argsL := []) (rest := []) pd6 rfl rfl rfl (Nat.le_of_eq rfl) (hb hby at_84) (pc' := 87) rfl ?_
      intro _ T21 L19 X21 hq
      obtain ⟨rfl, N19, P21⟩ := hq
      replace N19 := Fr.app N18 N19
      replace P21 : HP n0 T21.heap [c19, AC kA13 [.long (0 : Int64), .long (0 : Int64), .long (0 : Int64), .long (0 : Int64)], AC kA14 [.int (-1 : Int32), .int (-1 : Int32), .int (-1 : Int32), .int (-1 : Int32)], AC kA15 [.int (-1 : Int32), .int (-1 : Int32), .int (-1 : Int32)], AC kA16 [.int ((x0 &&& (2147483647 : Int32)) % (3 : Int32)), .int (0 : Int32), .int (0 : Int32)], AC kA17 [.int (0 : Int32), .int (0 : Int32), .int (0 : Int32)], AC kA18 [.long x2, .long (0 : Int64), .long (0 : Int64)]] := P21
      refine w_lconst (v := (1 : Int64)) X21 hx (hb hby at_87) rfl (pc' := 88) rfl ?_
      refine w_lcmp_ne X21 hx (hb hby at_88) rfl (hb hby at_89) (by decide) (pcY := 96) (by decide) (pc' := 92) rfl (fun h24 => absurd h24 (by decide)) (fun h24 => ?_)
      refine w_iconst (v := (1 : Int32)) X21 hx (hb hby at_92) rfl (pc' := 93) rfl ?_
      refine w_goto X21 hx (hb hby at_93) (by decide) (pc' := 97) (by decide) ?_
      refine w_istore (l' := #[.val (.int x0), .val (.int x1), .val (.long x2), .second, .val (.int x3), .val (.long x4), .second, .val (.int x5), .val (.int ((x0 &&& (2147483647 : Int32)) % (3 : Int32))), .val (.int (((((x0 &&& (2147483647 : Int32)) % (3 : Int32)) + (1 : Int32)) + (x5 &&& (1 : Int32))) % (3 : Int32))), .val (.int (0 : Int32)), .val (.int ((x3 &&& (2147483647 : Int32)) % (4 : Int32))), .val (.int (1 : Int32)), .val (.ref (n0 + 0)), .val (.int (1 : Int32)), .unset]) X21 hx (hb hby at_97) rfl (pc' := 99) rfl ?_
      refine w_iload X21 hx (hb hby at_99) rfl (pc' := 101) rfl ?_
      refine w_if_eq X21 hx (hb hby at_101) (by decide) (pcY := 109) (by decide) (pc' := 104) rfl (fun h25 => absurd h25 (by decide)) (fun h25 => ?_)
      refine w_aload X21 hx (hb hby at_104) rfl rfl (pc' := 106) rfl ?_
      refine own_callV (W := 0) X21 hx hZ rfl hown hml.symm (wd49 hw) (wd50 hw) (wd52 hw) (wd51 hw) (wd3 hw) (wd53 hw) (rm7_17 l Z a0 hw [] n0 c19 F19 kA13 hk13 (0 : Int64) (0 : Int64) (0 : Int64) (0 : Int64) kA14 hk14 (-1 : Int32) (-1 : Int32) (-1 : Int32) (-1 : Int32) kA15 hk15 (-1 : Int32) (-1 : Int32) (-1 : Int32) kA16 hk16 ((x0 &&& (2147483647 : Int32)) % (3 : Int32)) (0 : Int32) (0 : Int32) kA17 hk17 (0 : Int32) (0 : Int32) (0 : Int32) kA18 hk18 x2 (0 : Int64) (0 : Int64) _ P21) (a := (n0 + 0)) (P21.exa (i := 0) rfl F19.1) (by decide) (by decide) (by decide) (by decide) (by decide) (argsL := []) (rest := []) pd7 rfl rfl rfl (Nat.le_of_eq rfl) (hb hby at_106) (pc' := 109) rfl ?_
      intro _ T22 L20 X22 hq
      obtain ⟨rfl, N20, c20, F20, P22⟩ := hq
      replace N20 := Fr.app N19 N20
      replace P22 : HP n0 T22.heap [c20, AC kA13 [.long (0 : Int64), .long (0 : Int64), .long (0 : Int64), .long (0 : Int64)], AC kA14 [.int (-1 : Int32), .int (-1 : Int32), .int (-1 : Int32), .int (-1 : Int32)], AC kA15 [.int (-1 : Int32), .int (-1 : Int32), .int (-1 : Int32)], AC kA16 [.int ((x0 &&& (2147483647 : Int32)) % (3 : Int32)), .int (0 : Int32), .int (0 : Int32)], AC kA17 [.int (0 : Int32), .int (0 : Int32), .int (0 : Int32)], AC kA18 [.long x2, .long (0 : Int64), .long (0 : Int64)]] := P22
      refine w_aload X22 hx (hb hby at_109) rfl rfl (pc' := 111) rfl ?_
      refine w_iload X22 hx (hb hby at_111) rfl (pc' := 113) rfl ?_
      refine w_iload X22 hx (hb hby at_113) rfl (pc' := 115) rfl ?_
      refine w_lload X22 hx (hb hby at_115) rfl (pc' := 117) rfl ?_
      refine own_callV (W := 0) X22 hx hZ rfl hown hml.symm (wd30 hw) (wd31 hw) (wd33 hw) (wd32 hw) (wd3 hw) (wd34 hw) (rm4_18 l Z a0 hw [] n0 (((((x0 &&& (2147483647 : Int32)) % (3 : Int32)) + (1 : Int32)) + (x5 &&& (1 : Int32))) % (3 : Int32)) ((x3 &&& (2147483647 : Int32)) % (4 : Int32)) x4 c20 F20 kA13 hk13 (0 : Int64) (0 : Int64) (0 : Int64) (0 : Int64) kA14 hk14 (-1 : Int32) (-1 : Int32) (-1 : Int32) (-1 : Int32) kA15 hk15 (-1 : Int32) (-1 : Int32) (-1 : Int32) kA16 hk16 ((x0 &&& (2147483647 : Int32)) % (3 : Int32)) (0 : Int32) (0 : Int32) kA17 hk17 (0 : Int32) (0 : Int32) (0 : Int32) kA18 hk18 x2 (0 : Int64) (0 : Int64) _ P22) (a := (n0 + 0)) (P22.exa (i := 0) rfl F20.1) (by decide) (by decide) (by decide) (by decide) (by decide) (argsL := [.int (((((x0 &&& (2147483647 : Int32)) % (3 : Int32)) + (1 : Int32)) + (x5 &&& (1 : Int32))) % (3 : Int32)), .int ((x3 &&& (2147483647 : Int32)) % (4 : Int32)), .long x4]) (rest := []) pd4 rfl rfl rfl (Nat.le_of_eq rfl) (hb hby at_117) (pc' := 120) rfl ?_
      intro _ T23 L21 X23 hq
      obtain ⟨rfl, N21, c21, F21, P23⟩ := hq
      replace N21 := Fr.app N20 N21
      replace P23 : HP n0 T23.heap [c21, AC kA13 [.long (0 : Int64), .long (0 : Int64), .long (0 : Int64), .long (0 : Int64)], AC kA14 [.int (-1 : Int32), .int (-1 : Int32), .int (-1 : Int32), .int (-1 : Int32)], AC kA15 [.int (-1 : Int32), .int (-1 : Int32), .int (-1 : Int32)], AC kA16 [.int (((((x0 &&& (2147483647 : Int32)) % (3 : Int32)) + (1 : Int32)) + (x5 &&& (1 : Int32))) % (3 : Int32)), .int (0 : Int32), .int (0 : Int32)], AC kA17 [.int ((x3 &&& (2147483647 : Int32)) % (4 : Int32)), .int (0 : Int32), .int (0 : Int32)], AC kA18 [.long x4, .long (0 : Int64), .long (0 : Int64)]] := P23
      refine w_iload X23 hx (hb hby at_120) rfl (pc' := 122) rfl ?_
      refine w_if_eq X23 hx (hb hby at_122) (by decide) (pcY := 129) (by decide) (pc' := 125) rfl (fun h26 => absurd h26 (by decide)) (fun h26 => ?_)
      refine w_iconst (v := (0 : Int32)) X23 hx (hb hby at_125) rfl (pc' := 126) rfl ?_
      refine w_goto X23 hx (hb hby at_126) (by decide) (pc' := 130) (by decide) ?_
      refine w_istore (l' := #[.val (.int x0), .val (.int x1), .val (.long x2), .second, .val (.int x3), .val (.long x4), .second, .val (.int x5), .val (.int ((x0 &&& (2147483647 : Int32)) % (3 : Int32))), .val (.int (((((x0 &&& (2147483647 : Int32)) % (3 : Int32)) + (1 : Int32)) + (x5 &&& (1 : Int32))) % (3 : Int32))), .val (.int (0 : Int32)), .val (.int ((x3 &&& (2147483647 : Int32)) % (4 : Int32))), .val (.int (1 : Int32)), .val (.ref (n0 + 0)), .val (.int (1 : Int32)), .val (.int (0 : Int32))]) X23 hx (hb hby at_130) rfl (pc' := 132) rfl ?_
      refine w_iload X23 hx (hb hby at_132) rfl (pc' := 134) rfl ?_
      refine w_if_eq X23 hx (hb hby at_134) (by decide) (pcY := 202) (by decide) (pc' := 137) rfl (fun h27 => absurd h27 (by decide)) (fun h27 => ?_)
      refine w_aload X23 hx (hb hby at_137) rfl rfl (pc' := 139) rfl ?_
      refine own_callV (W := 0) X23 hx hZ rfl hown hml.symm (wd39 hw) (wd40 hw) (wd42 hw) (wd41 hw) (wd3 hw) (wd43 hw) (rm5_19 l Z a0 hw [] n0 c21 F21 kA13 hk13 (0 : Int64) (0 : Int64) (0 : Int64) (0 : Int64) kA14 hk14 (-1 : Int32) (-1 : Int32) (-1 : Int32) (-1 : Int32) kA15 hk15 (-1 : Int32) (-1 : Int32) (-1 : Int32) kA16 hk16 (((((x0 &&& (2147483647 : Int32)) % (3 : Int32)) + (1 : Int32)) + (x5 &&& (1 : Int32))) % (3 : Int32)) (0 : Int32) (0 : Int32) kA17 hk17 ((x3 &&& (2147483647 : Int32)) % (4 : Int32)) (0 : Int32) (0 : Int32) kA18 hk18 x4 (0 : Int64) (0 : Int64) _ P23) (a := (n0 + 0)) (P23.exa (i := 0) rfl F21.1) (by decide) (by decide) (by decide) (by decide) (by decide) (argsL := []) (rest := []) pd5 rfl rfl rfl (Nat.le_of_eq rfl) (hb hby at_139) (pc' := 142) rfl ?_
      intro _ T24 L22 X24 hq
      obtain ⟨rfl, N22, P24⟩ := hq
      replace N22 := Fr.app N21 N22
      replace P24 : HP n0 T24.heap [c21, AC kA13 [.long (0 : Int64), .long (0 : Int64), .long (0 : Int64), .long (0 : Int64)], AC kA14 [.int (-1 : Int32), .int (-1 : Int32), .int (-1 : Int32), .int (-1 : Int32)], AC kA15 [.int (-1 : Int32), .int (-1 : Int32), .int (-1 : Int32)], AC kA16 [.int (((((x0 &&& (2147483647 : Int32)) % (3 : Int32)) + (1 : Int32)) + (x5 &&& (1 : Int32))) % (3 : Int32)), .int (0 : Int32), .int (0 : Int32)], AC kA17 [.int ((x3 &&& (2147483647 : Int32)) % (4 : Int32)), .int (0 : Int32), .int (0 : Int32)], AC kA18 [.long x4, .long (0 : Int64), .long (0 : Int64)]] := P24
      refine w_iload X24 hx (hb hby at_142) rfl (pc' := 144) rfl ?_
      refine w_iconst (v := (1 : Int32)) X24 hx (hb hby at_144) rfl (pc' := 145) rfl ?_
      refine w_iadd X24 hx (hb hby at_145) (pc' := 146) rfl ?_
      refine w_eqI (z := (1 : Int32)) (by decide) ?_
      refine w_icmp_ne X24 hx (hb hby at_146) (by decide) (pcY := 202) (by decide) (pc' := 149) rfl (fun h28 => absurd h28 (by decide)) (fun h28 => ?_)
      refine w_aload X24 hx (hb hby at_149) rfl rfl (pc' := 151) rfl ?_
      refine w_iload X24 hx (hb hby at_151) rfl (pc' := 153) rfl ?_
      refine own_callV (W := 0) X24 hx hZ rfl hown hml.symm (wd54 hw) (wd55 hw) (wd57 hw) (wd56 hw) (wd3 hw) (wd58 hw) (rm8_20 l Z a0 hw [] n0 c21 F21 kA13 hk13 (0 : Int64) (0 : Int64) (0 : Int64) (0 : Int64) kA14 hk14 (-1 : Int32) (-1 : Int32) (-1 : Int32) (-1 : Int32) kA15 hk15 (-1 : Int32) (-1 : Int32) (-1 : Int32) kA16 hk16 (((((x0 &&& (2147483647 : Int32)) % (3 : Int32)) + (1 : Int32)) + (x5 &&& (1 : Int32))) % (3 : Int32)) (0 : Int32) (0 : Int32) kA17 hk17 ((x3 &&& (2147483647 : Int32)) % (4 : Int32)) (0 : Int32) (0 : Int32) kA18 hk18 x4 (0 : Int64) (0 : Int64) _ P24) (a := (n0 + 0)) (P24.exa (i := 0) rfl F21.1) (by decide) (by decide) (by decide) (by decide) (by decide) (argsL := [.int (0 : Int32)]) (rest := []) pd8 rfl rfl rfl (Nat.le_of_eq rfl) (hb hby at_153) (pc' := 156) rfl ?_
      intro _ T25 L23 X25 hq
      obtain ⟨rfl, N23, P25⟩ := hq
      replace N23 := Fr.app N22 N23
      replace P25 : HP n0 T25.heap [c21, AC kA13 [.long (0 : Int64), .long (0 : Int64), .long (0 : Int64), .long (0 : Int64)], AC kA14 [.int (-1 : Int32), .int (-1 : Int32), .int (-1 : Int32), .int (-1 : Int32)], AC kA15 [.int (-1 : Int32), .int (-1 : Int32), .int (-1 : Int32)], AC kA16 [.int (((((x0 &&& (2147483647 : Int32)) % (3 : Int32)) + (1 : Int32)) + (x5 &&& (1 : Int32))) % (3 : Int32)), .int (0 : Int32), .int (0 : Int32)], AC kA17 [.int ((x3 &&& (2147483647 : Int32)) % (4 : Int32)), .int (0 : Int32), .int (0 : Int32)], AC kA18 [.long x4, .long (0 : Int64), .long (0 : Int64)]] := P25
      refine w_iload X25 hx (hb hby at_156) rfl (pc' := 158) rfl ?_
      refine w_icmp_ne X25 hx (hb hby at_158) (by decide) (pcY := 202) (by decide) (pc' := 161) rfl (fun h29 => absurd rfl h29) (fun h29 => ?_)
      refine w_aload X25 hx (hb hby at_161) rfl rfl (pc' := 163) rfl ?_
      refine w_iload X25 hx (hb hby at_163) rfl (pc' := 165) rfl ?_
      refine own_callV (W := 0) X25 hx hZ rfl hown hml.symm (wd59 hw) (wd60 hw) (wd62 hw) (wd61 hw) (wd3 hw) (wd63 hw) (rm9_21 l Z a0 hw [] n0 c21 F21 kA13 hk13 (0 : Int64) (0 : Int64) (0 : Int64) (0 : Int64) kA14 hk14 (-1 : Int32) (-1 : Int32) (-1 : Int32) (-1 : Int32) kA15 hk15 (-1 : Int32) (-1 : Int32) (-1 : Int32) kA16 hk16 (((((x0 &&& (2147483647 : Int32)) % (3 : Int32)) + (1 : Int32)) + (x5 &&& (1 : Int32))) % (3 : Int32)) (0 : Int32) (0 : Int32) kA17 hk17 ((x3 &&& (2147483647 : Int32)) % (4 : Int32)) (0 : Int32) (0 : Int32) kA18 hk18 x4 (0 : Int64) (0 : Int64) _ P25) (a := (n0 + 0)) (P25.exa (i := 0) rfl F21.1) (by decide) (by decide) (by decide) (by decide) (by decide) (argsL := [.int (0 : Int32)]) (rest := []) pd9 rfl rfl rfl (Nat.le_of_eq rfl) (hb hby at_165) (pc' := 168) rfl ?_
      intro _ T26 L24 X26 hq
      obtain ⟨rfl, N24, P26⟩ := hq
      replace N24 := Fr.app N23 N24
      replace P26 : HP n0 T26.heap [c21, AC kA13 [.long (0 : Int64), .long (0 : Int64), .long (0 : Int64), .long (0 : Int64)], AC kA14 [.int (-1 : Int32), .int (-1 : Int32), .int (-1 : Int32), .int (-1 : Int32)], AC kA15 [.int (-1 : Int32), .int (-1 : Int32), .int (-1 : Int32)], AC kA16 [.int (((((x0 &&& (2147483647 : Int32)) % (3 : Int32)) + (1 : Int32)) + (x5 &&& (1 : Int32))) % (3 : Int32)), .int (0 : Int32), .int (0 : Int32)], AC kA17 [.int ((x3 &&& (2147483647 : Int32)) % (4 : Int32)), .int (0 : Int32), .int (0 : Int32)], AC kA18 [.long x4, .long (0 : Int64), .long (0 : Int64)]] := P26
      refine w_iload X26 hx (hb hby at_168) rfl (pc' := 170) rfl ?_
      refine w_icmp_ne X26 hx (hb hby at_170) (by decide) (pcY := 202) (by decide) (pc' := 173) rfl (fun h30 => absurd rfl h30) (fun h30 => ?_)
      refine w_aload X26 hx (hb hby at_173) rfl rfl (pc' := 175) rfl ?_
      refine w_iload X26 hx (hb hby at_175) rfl (pc' := 177) rfl ?_
      refine own_callV (W := 0) X26 hx hZ rfl hown hml.symm (wd64 hw) (wd65 hw) (wd67 hw) (wd66 hw) (wd3 hw) (wd68 hw) (rm10_22 l Z a0 hw [] n0 c21 F21 kA13 hk13 (0 : Int64) (0 : Int64) (0 : Int64) (0 : Int64) kA14 hk14 (-1 : Int32) (-1 : Int32) (-1 : Int32) (-1 : Int32) kA15 hk15 (-1 : Int32) (-1 : Int32) (-1 : Int32) kA16 hk16 (((((x0 &&& (2147483647 : Int32)) % (3 : Int32)) + (1 : Int32)) + (x5 &&& (1 : Int32))) % (3 : Int32)) (0 : Int32) (0 : Int32) kA17 hk17 ((x3 &&& (2147483647 : Int32)) % (4 : Int32)) (0 : Int32) (0 : Int32) kA18 hk18 x4 (0 : Int64) (0 : Int64) _ P26) (a := (n0 + 0)) (P26.exa (i := 0) rfl F21.1) (by decide) (by decide) (by decide) (by decide) (by decide) (argsL := [.int (0 : Int32)]) (rest := []) pd10 rfl rfl rfl (Nat.le_of_eq rfl) (hb hby at_177) (pc' := 180) rfl ?_
      intro _ T27 L25 X27 hq
      obtain ⟨rfl, N25, P27⟩ := hq
      replace N25 := Fr.app N24 N25
      replace P27 : HP n0 T27.heap [c21, AC kA13 [.long (0 : Int64), .long (0 : Int64), .long (0 : Int64), .long (0 : Int64)], AC kA14 [.int (-1 : Int32), .int (-1 : Int32), .int (-1 : Int32), .int (-1 : Int32)], AC kA15 [.int (-1 : Int32), .int (-1 : Int32), .int (-1 : Int32)], AC kA16 [.int (((((x0 &&& (2147483647 : Int32)) % (3 : Int32)) + (1 : Int32)) + (x5 &&& (1 : Int32))) % (3 : Int32)), .int (0 : Int32), .int (0 : Int32)], AC kA17 [.int ((x3 &&& (2147483647 : Int32)) % (4 : Int32)), .int (0 : Int32), .int (0 : Int32)], AC kA18 [.long x4, .long (0 : Int64), .long (0 : Int64)]] := P27
      refine w_lload X27 hx (hb hby at_180) rfl (pc' := 182) rfl ?_
      refine w_lcmp_ne X27 hx (hb hby at_182) rfl (hb hby at_183) (by decide) (pcY := 202) (by decide) (pc' := 186) rfl (fun h31 => absurd rfl h31) (fun h31 => ?_)
      refine w_aload X27 hx (hb hby at_186) rfl rfl (pc' := 188) rfl ?_
      refine own_callV (W := 0) X27 hx hZ rfl hown hml.symm (wd44 hw) (wd45 hw) (wd47 hw) (wd46 hw) (wd3 hw) (wd48 hw) (rm6_23 l Z a0 hw [] n0 c21 F21 kA13 hk13 (0 : Int64) (0 : Int64) (0 : Int64) (0 : Int64) kA14 hk14 (-1 : Int32) (-1 : Int32) (-1 : Int32) (-1 : Int32) kA15 hk15 (-1 : Int32) (-1 : Int32) (-1 : Int32) kA16 hk16 (((((x0 &&& (2147483647 : Int32)) % (3 : Int32)) + (1 : Int32)) + (x5 &&& (1 : Int32))) % (3 : Int32)) (0 : Int32) (0 : Int32) kA17 hk17 ((x3 &&& (2147483647 : Int32)) % (4 : Int32)) (0 : Int32) (0 : Int32) kA18 hk18 x4 (0 : Int64) (0 : Int64) _ P27) (a := (n0 + 0)) (P27.exa (i := 0) rfl F21.1) (by decide) (by decide) (by decide) (by decide) (by decide) (argsL := []) (rest := []) pd6 rfl rfl rfl (Nat.le_of_eq rfl) (hb hby at_188) (pc' := 191) rfl ?_
      intro _ T28 L26 X28 hq
      obtain ⟨rfl, N26, P28⟩ := hq
      replace N26 := Fr.app N25 N26
      replace P28 : HP n0 T28.heap [c21, AC kA13 [.long (0 : Int64), .long (0 : Int64), .long (0 : Int64), .long (0 : Int64)], AC kA14 [.int (-1 : Int32), .int (-1 : Int32), .int (-1 : Int32), .int (-1 : Int32)], AC kA15 [.int (-1 : Int32), .int (-1 : Int32), .int (-1 : Int32)], AC kA16 [.int (((((x0 &&& (2147483647 : Int32)) % (3 : Int32)) + (1 : Int32)) + (x5 &&& (1 : Int32))) % (3 : Int32)), .int (0 : Int32), .int (0 : Int32)], AC kA17 [.int ((x3 &&& (2147483647 : Int32)) % (4 : Int32)), .int (0 : Int32), .int (0 : Int32)], AC kA18 [.long x4, .long (0 : Int64), .long (0 : Int64)]] := P28
      refine w_ldc2 X28 hx (hb hby at_191) hown (mvT hZ (wd69 hw)) (pc' := 194) rfl ?_
      refine w_lcmp_ne X28 hx (hb hby at_194) rfl (hb hby at_195) (by decide) (pcY := 202) (by decide) (pc' := 198) rfl (fun h32 => absurd h32 (by decide)) (fun h32 => ?_)
      refine w_iconst (v := (1 : Int32)) X28 hx (hb hby at_198) rfl (pc' := 199) rfl ?_
      refine w_goto X28 hx (hb hby at_199) (by decide) (pc' := 203) (by decide) ?_
      refine w_istore (l' := #[.val (.int x0), .val (.int x1), .val (.long x2), .second, .val (.int x3), .val (.long x4), .second, .val (.int x5), .val (.int ((x0 &&& (2147483647 : Int32)) % (3 : Int32))), .val (.int (((((x0 &&& (2147483647 : Int32)) % (3 : Int32)) + (1 : Int32)) + (x5 &&& (1 : Int32))) % (3 : Int32))), .val (.int (0 : Int32)), .val (.int ((x3 &&& (2147483647 : Int32)) % (4 : Int32))), .val (.int (1 : Int32)), .val (.ref (n0 + 0)), .val (.int (1 : Int32)), .val (.int (0 : Int32))]) X28 hx (hb hby at_203) rfl (pc' := 205) rfl ?_
      refine w_iload X28 hx (hb hby at_205) rfl (pc' := 207) rfl ?_
      refine w_if_ne X28 hx (hb hby at_207) (by decide) (pcY := 255) (by decide) (pc' := 210) rfl (fun h33 => ?_) (fun h33 => absurd h33 (by decide))
      refine w_iload X28 hx (hb hby at_255) rfl (pc' := 257) rfl ?_
      refine w_if_eq X28 hx (hb hby at_257) (by decide) (pcY := 285) (by decide) (pc' := 260) rfl (fun h34 => absurd h34 (by decide)) (fun h34 => ?_)
      refine w_aload X28 hx (hb hby at_260) rfl rfl (pc' := 262) rfl ?_
      refine own_callV (W := 0) X28 hx hZ rfl hown hml.symm (wd70 hw) (wd71 hw) (wd73 hw) (wd72 hw) (wd3 hw) (wd74 hw) (rm11_24 l Z a0 hw [] n0 c21 F21 kA13 hk13 (0 : Int64) (0 : Int64) (0 : Int64) (0 : Int64) kA14 hk14 (-1 : Int32) (-1 : Int32) (-1 : Int32) (-1 : Int32) kA15 hk15 (-1 : Int32) (-1 : Int32) (-1 : Int32) kA16 hk16 (((((x0 &&& (2147483647 : Int32)) % (3 : Int32)) + (1 : Int32)) + (x5 &&& (1 : Int32))) % (3 : Int32)) (0 : Int32) (0 : Int32) kA17 hk17 ((x3 &&& (2147483647 : Int32)) % (4 : Int32)) (0 : Int32) (0 : Int32) kA18 hk18 x4 (0 : Int64) (0 : Int64) _ P28) (a := (n0 + 0)) (P28.exa (i := 0) rfl F21.1) (by decide) (by decide) (by decide) (by decide) (by decide) (argsL := []) (rest := []) pd11 rfl rfl rfl (Nat.le_of_eq rfl) (hb hby at_262) (pc' := 265) rfl ?_
      intro _ T29 L27 X29 hq
      obtain ⟨rfl, N27, P29⟩ := hq
      replace N27 := Fr.app N26 N27
      replace P29 : HP n0 T29.heap [c21, AC kA13 [.long (0 : Int64), .long (0 : Int64), .long (0 : Int64), .long (0 : Int64)], AC kA14 [.int (-1 : Int32), .int (-1 : Int32), .int (-1 : Int32), .int (-1 : Int32)], AC kA15 [.int (-1 : Int32), .int (-1 : Int32), .int (-1 : Int32)], AC kA16 [.int (((((x0 &&& (2147483647 : Int32)) % (3 : Int32)) + (1 : Int32)) + (x5 &&& (1 : Int32))) % (3 : Int32)), .int (0 : Int32), .int (0 : Int32)], AC kA17 [.int ((x3 &&& (2147483647 : Int32)) % (4 : Int32)), .int (0 : Int32), .int (0 : Int32)], AC kA18 [.long x4, .long (0 : Int64), .long (0 : Int64)]] := P29
      refine w_iconst (v := (3 : Int32)) X29 hx (hb hby at_265) rfl (pc' := 266) rfl ?_
      refine w_icmp_ne X29 hx (hb hby at_266) (by decide) (pcY := 285) (by decide) (pc' := 269) rfl (fun h35 => absurd h35 (by decide)) (fun h35 => ?_)
      refine w_aload X29 hx (hb hby at_269) rfl rfl (pc' := 271) rfl ?_
      refine w_iload X29 hx (hb hby at_271) rfl (pc' := 273) rfl ?_
      refine own_callV (W := 0) X29 hx hZ rfl hown hml.symm (wd75 hw) (wd76 hw) (wd78 hw) (wd77 hw) (wd3 hw) (wd79 hw) (rm12_25 l Z a0 hw [] n0 c21 F21 kA13 hk13 (0 : Int64) (0 : Int64) (0 : Int64) (0 : Int64) kA14 hk14 (-1 : Int32) (-1 : Int32) (-1 : Int32) (-1 : Int32) kA15 hk15 (-1 : Int32) (-1 : Int32) (-1 : Int32) kA16 hk16 (((((x0 &&& (2147483647 : Int32)) % (3 : Int32)) + (1 : Int32)) + (x5 &&& (1 : Int32))) % (3 : Int32)) (0 : Int32) (0 : Int32) kA17 hk17 ((x3 &&& (2147483647 : Int32)) % (4 : Int32)) (0 : Int32) (0 : Int32) kA18 hk18 x4 (0 : Int64) (0 : Int64) _ P29) (a := (n0 + 0)) (P29.exa (i := 0) rfl F21.1) (by decide) (by decide) (by decide) (by decide) (by decide) (argsL := [.int (0 : Int32)]) (rest := []) pd12 rfl rfl rfl (Nat.le_of_eq rfl) (hb hby at_273) (pc' := 276) rfl ?_
      intro _ T30 L28 X30 hq
      obtain ⟨rfl, N28, P30⟩ := hq
      replace N28 := Fr.app N27 N28
      replace P30 : HP n0 T30.heap [c21, AC kA13 [.long (0 : Int64), .long (0 : Int64), .long (0 : Int64), .long (0 : Int64)], AC kA14 [.int (-1 : Int32), .int (-1 : Int32), .int (-1 : Int32), .int (-1 : Int32)], AC kA15 [.int (-1 : Int32), .int (-1 : Int32), .int (-1 : Int32)], AC kA16 [.int (((((x0 &&& (2147483647 : Int32)) % (3 : Int32)) + (1 : Int32)) + (x5 &&& (1 : Int32))) % (3 : Int32)), .int (0 : Int32), .int (0 : Int32)], AC kA17 [.int ((x3 &&& (2147483647 : Int32)) % (4 : Int32)), .int (0 : Int32), .int (0 : Int32)], AC kA18 [.long x4, .long (0 : Int64), .long (0 : Int64)]] := P30
      refine w_lconst (v := (0 : Int64)) X30 hx (hb hby at_276) rfl (pc' := 277) rfl ?_
      refine w_lcmp_ne X30 hx (hb hby at_277) rfl (hb hby at_278) (by decide) (pcY := 285) (by decide) (pc' := 281) rfl (fun h36 => absurd h36 (by decide)) (fun h36 => ?_)
      refine w_iconst (v := (1 : Int32)) X30 hx (hb hby at_281) rfl (pc' := 282) rfl ?_
      refine w_goto X30 hx (hb hby at_282) (by decide) (pc' := 286) (by decide) ?_
      refine w_istore (l' := #[.val (.int x0), .val (.int x1), .val (.long x2), .second, .val (.int x3), .val (.long x4), .second, .val (.int x5), .val (.int ((x0 &&& (2147483647 : Int32)) % (3 : Int32))), .val (.int (((((x0 &&& (2147483647 : Int32)) % (3 : Int32)) + (1 : Int32)) + (x5 &&& (1 : Int32))) % (3 : Int32))), .val (.int (0 : Int32)), .val (.int ((x3 &&& (2147483647 : Int32)) % (4 : Int32))), .val (.int (1 : Int32)), .val (.ref (n0 + 0)), .val (.int (1 : Int32)), .val (.int (0 : Int32))]) X30 hx (hb hby at_286) rfl (pc' := 288) rfl ?_
      refine w_iload X30 hx (hb hby at_288) rfl (pc' := 290) rfl ?_
      exact w_ret_n (t := .boolean) X30 hx hret hlk (by simp) (hb hby at_290) (z' := (1 : Int32)) rfl (by decide) (by decide) ⟨rfl, N28⟩
  · refine w_eqI (z := (1 : Int32)) g1 ?_
    refine w_istore (l' := #[.val (.int x0), .val (.int x1), .val (.long x2), .second, .val (.int x3), .val (.long x4), .second, .val (.int x5), .val (.int ((x0 &&& (2147483647 : Int32)) % (3 : Int32))), .val (.int (((((x0 &&& (2147483647 : Int32)) % (3 : Int32)) + (1 : Int32)) + (x5 &&& (1 : Int32))) % (3 : Int32))), .val (.int (1 : Int32)), .unset, .unset, .unset, .unset, .unset]) X0 hx (hb hby at_27) rfl (pc' := 29) rfl ?_
    refine w_iload X0 hx (hb hby at_29) rfl (pc' := 31) rfl ?_
    refine w_ldc X0 hx (hb hby at_31) hown (mvT hZ (wd0 hw)) (pc' := 33) rfl ?_
    refine w_iand X0 hx (hb hby at_33) (pc' := 34) rfl ?_
    refine w_iconst (v := (4 : Int32)) X0 hx (hb hby at_34) rfl (pc' := 35) rfl ?_
    refine w_irem X0 hx (hb hby at_35) (by decide) (pc' := 36) rfl ?_
    refine w_istore (l' := #[.val (.int x0), .val (.int x1), .val (.long x2), .second, .val (.int x3), .val (.long x4), .second, .val (.int x5), .val (.int ((x0 &&& (2147483647 : Int32)) % (3 : Int32))), .val (.int (((((x0 &&& (2147483647 : Int32)) % (3 : Int32)) + (1 : Int32)) + (x5 &&& (1 : Int32))) % (3 : Int32))), .val (.int (1 : Int32)), .val (.int ((x3 &&& (2147483647 : Int32)) % (4 : Int32))), .unset, .unset, .unset, .unset]) X0 hx (hb hby at_36) rfl (pc' := 38) rfl ?_
    refine w_iload X0 hx (hb hby at_38) rfl (pc' := 40) rfl ?_
    refine w_iconst (v := (2 : Int32)) X0 hx (hb hby at_40) rfl (pc' := 41) rfl ?_
    refine w_iand X0 hx (hb hby at_41) (pc' := 42) rfl ?_
    refine w_if_eq X0 hx (hb hby at_42) (by decide) (pcY := 49) (by decide) (pc' := 45) rfl (fun h37 => ?_) (fun h37 => ?_)
    · refine w_iconst (v := (0 : Int32)) X0 hx (hb hby at_49) rfl (pc' := 50) rfl ?_
      refine w_istore (l' := #[.val (.int x0), .val (.int x1), .val (.long x2), .second, .val (.int x3), .val (.long x4), .second, .val (.int x5), .val (.int ((x0 &&& (2147483647 : Int32)) % (3 : Int32))), .val (.int (((((x0 &&& (2147483647 : Int32)) % (3 : Int32)) + (1 : Int32)) + (x5 &&& (1 : Int32))) % (3 : Int32))), .val (.int (1 : Int32)), .val (.int ((x3 &&& (2147483647 : Int32)) % (4 : Int32))), .val (.int (0 : Int32)), .unset, .unset, .unset]) X0 hx (hb hby at_50) rfl (pc' := 52) rfl ?_
      refine w_new (j := 0) X0 hx hZ hown (wd1 hw) (wd2 hw) (wd3 hw) P0 fl_C0 dv_C0 rfl (ly_C0 hw) (hb hby at_52) (by decide) (by decide) rfl (pc' := 55) rfl ?_
      intro T31 c22 X31 P31 F22
      replace P31 : HP n0 T31.heap [c22] := P31
      refine w_dup X31 hx (hb hby at_55) rfl (pc' := 56) rfl ?_
      refine w_iconst (v := (3 : Int32)) X31 hx (hb hby at_56) rfl (pc' := 57) rfl ?_
      refine w_iconst (v := (4 : Int32)) X31 hx (hb hby at_57) rfl (pc' := 58) rfl ?_
      refine own_callI (W := 1) X31 hx hZ rfl rfl hown hml.symm (wd4 hw) (wd5 hw) (wd3 hw) (wd6 hw) (rm1_0 l Z a0 hw [] n0 c22 F22 _ P31) (by decide) (by decide) (by decide) (by decide) (by decide) (a := (n0 + 0)) (argsL := [.int (3 : Int32), .int (4 : Int32)]) (rest := [.ref (n0 + 0)]) pd1 rfl rfl rfl (Nat.le_of_eq rfl) (hb hby at_58) (pc' := 61) rfl ?_
      intro _ T32 L29 X32 hq
      obtain ⟨rfl, N29, c23, F23, kA24, hk24, kA25, hk25, kA26, hk26, kA27, hk27, kA28, hk28, kA29, hk29, P32⟩ := hq
      replace N29 := Fr.app N0 N29
      replace P32 : HP n0 T32.heap [c23, AC kA24 [.long (0 : Int64), .long (0 : Int64), .long (0 : Int64), .long (0 : Int64)], AC kA25 [.int (-1 : Int32), .int (-1 : Int32), .int (-1 : Int32), .int (-1 : Int32)], AC kA26 [.int (-1 : Int32), .int (-1 : Int32), .int (-1 : Int32)], AC kA27 [.int (0 : Int32), .int (0 : Int32), .int (0 : Int32)], AC kA28 [.int (0 : Int32), .int (0 : Int32), .int (0 : Int32)], AC kA29 [.long (0 : Int64), .long (0 : Int64), .long (0 : Int64)]] := P32
      refine w_astore (l' := #[.val (.int x0), .val (.int x1), .val (.long x2), .second, .val (.int x3), .val (.long x4), .second, .val (.int x5), .val (.int ((x0 &&& (2147483647 : Int32)) % (3 : Int32))), .val (.int (((((x0 &&& (2147483647 : Int32)) % (3 : Int32)) + (1 : Int32)) + (x5 &&& (1 : Int32))) % (3 : Int32))), .val (.int (1 : Int32)), .val (.int ((x3 &&& (2147483647 : Int32)) % (4 : Int32))), .val (.int (0 : Int32)), .val (.ref (n0 + 0)), .unset, .unset]) X32 hx (hb hby at_61) rfl rfl (pc' := 63) rfl ?_
      refine w_aload X32 hx (hb hby at_63) rfl rfl (pc' := 65) rfl ?_
      refine w_iload X32 hx (hb hby at_65) rfl (pc' := 67) rfl ?_
      refine w_iload X32 hx (hb hby at_67) rfl (pc' := 69) rfl ?_
      refine w_lloadN X32 hx (hb hby at_69) rfl (pc' := 70) rfl ?_
      refine own_callV (W := 0) X32 hx hZ rfl hown hml.symm (wd30 hw) (wd31 hw) (wd33 hw) (wd32 hw) (wd3 hw) (wd34 hw) (rm4_26 l Z a0 hw [] n0 ((x0 &&& (2147483647 : Int32)) % (3 : Int32)) x2 c23 F23 kA24 hk24 (0 : Int64) (0 : Int64) (0 : Int64) (0 : Int64) kA25 hk25 (-1 : Int32) (-1 : Int32) (-1 : Int32) (-1 : Int32) kA26 hk26 (-1 : Int32) (-1 : Int32) (-1 : Int32) kA27 hk27 (0 : Int32) (0 : Int32) (0 : Int32) kA28 hk28 (0 : Int32) (0 : Int32) (0 : Int32) kA29 hk29 (0 : Int64) (0 : Int64) (0 : Int64) _ P32) (a := (n0 + 0)) (P32.exa (i := 0) rfl F23.1) (by decide) (by decide) (by decide) (by decide) (by decide) (argsL := [.int ((x0 &&& (2147483647 : Int32)) % (3 : Int32)), .int (1 : Int32), .long x2]) (rest := []) pd4 rfl rfl rfl (Nat.le_of_eq rfl) (hb hby at_70) (pc' := 73) rfl ?_
      intro _ T33 L30 X33 hq
      obtain ⟨rfl, N30, c30, F30, P33⟩ := hq
      replace N30 := Fr.app N29 N30
      replace P33 : HP n0 T33.heap [c30, AC kA24 [.long (0 : Int64), .long (0 : Int64), .long (0 : Int64), .long (0 : Int64)], AC kA25 [.int (-1 : Int32), .int (-1 : Int32), .int (-1 : Int32), .int (-1 : Int32)], AC kA26 [.int (-1 : Int32), .int (-1 : Int32), .int (-1 : Int32)], AC kA27 [.int ((x0 &&& (2147483647 : Int32)) % (3 : Int32)), .int (0 : Int32), .int (0 : Int32)], AC kA28 [.int (1 : Int32), .int (0 : Int32), .int (0 : Int32)], AC kA29 [.long x2, .long (0 : Int64), .long (0 : Int64)]] := P33
      refine w_aload X33 hx (hb hby at_73) rfl rfl (pc' := 75) rfl ?_
      refine own_callV (W := 0) X33 hx hZ rfl hown hml.symm (wd39 hw) (wd40 hw) (wd42 hw) (wd41 hw) (wd3 hw) (wd43 hw) (rm5_4 l Z a0 hw [] n0 c30 F30 kA24 hk24 (0 : Int64) (0 : Int64) (0 : Int64) (0 : Int64) kA25 hk25 (-1 : Int32) (-1 : Int32) (-1 : Int32) (-1 : Int32) kA26 hk26 (-1 : Int32) (-1 : Int32) (-1 : Int32) kA27 hk27 ((x0 &&& (2147483647 : Int32)) % (3 : Int32)) (0 : Int32) (0 : Int32) kA28 hk28 (1 : Int32) (0 : Int32) (0 : Int32) kA29 hk29 x2 (0 : Int64) (0 : Int64) _ P33) (a := (n0 + 0)) (P33.exa (i := 0) rfl F30.1) (by decide) (by decide) (by decide) (by decide) (by decide) (argsL := []) (rest := []) pd5 rfl rfl rfl (Nat.le_of_eq rfl) (hb hby at_75) (pc' := 78) rfl ?_
      intro _ T34 L31 X34 hq
      obtain ⟨rfl, N31, P34⟩ := hq
      replace N31 := Fr.app N30 N31
      replace P34 : HP n0 T34.heap [c30, AC kA24 [.long (0 : Int64), .long (0 : Int64), .long (0 : Int64), .long (0 : Int64)], AC kA25 [.int (-1 : Int32), .int (-1 : Int32), .int (-1 : Int32), .int (-1 : Int32)], AC kA26 [.int (-1 : Int32), .int (-1 : Int32), .int (-1 : Int32)], AC kA27 [.int ((x0 &&& (2147483647 : Int32)) % (3 : Int32)), .int (0 : Int32), .int (0 : Int32)], AC kA28 [.int (1 : Int32), .int (0 : Int32), .int (0 : Int32)], AC kA29 [.long x2, .long (0 : Int64), .long (0 : Int64)]] := P34
      refine w_iconst (v := (1 : Int32)) X34 hx (hb hby at_78) rfl (pc' := 79) rfl ?_
      refine w_icmp_ne X34 hx (hb hby at_79) (by decide) (pcY := 96) (by decide) (pc' := 82) rfl (fun h38 => absurd h38 (by decide)) (fun h38 => ?_)
      refine w_aload X34 hx (hb hby at_82) rfl rfl (pc' := 84) rfl ?_
      refine own_callV (W := 0) X34 hx hZ rfl hown hml.symm (wd44 hw) (wd45 hw) (wd47 hw) (wd46 hw) (wd3 hw) (wd48 hw) (rm6_5 l Z a0 hw [] n0 c30 F30 kA24 hk24 (0 : Int64) (0 : Int64) (0 : Int64) (0 : Int64) kA25 hk25 (-1 : Int32) (-1 : Int32) (-1 : Int32) (-1 : Int32) kA26 hk26 (-1 : Int32) (-1 : Int32) (-1 : Int32) kA27 hk27 ((x0 &&& (2147483647 : Int32)) % (3 : Int32)) (0 : Int32) (0 : Int32) kA28 hk28 (1 : Int32) (0 : Int32) (0 : Int32) kA29 hk29 x2 (0 : Int64) (0 : Int64) _ P34) (a := (n0 + 0)) (P34.exa (i := 0) rfl F30.1) (by decide) (by decide) (by decide) (by decide) (by decide) (argsL := []) (rest := []) pd6 rfl rfl rfl (Nat.le_of_eq rfl) (hb hby at_84) (pc' := 87) rfl ?_
      intro _ T35 L32 X35 hq
      obtain ⟨rfl, N32, P35⟩ := hq
      replace N32 := Fr.app N31 N32
      replace P35 : HP n0 T35.heap [c30, AC kA24 [.long (0 : Int64), .long (0 : Int64), .long (0 : Int64), .long (0 : Int64)], AC kA25 [.int (-1 : Int32), .int (-1 : Int32), .int (-1 : Int32), .int (-1 : Int32)], AC kA26 [.int (-1 : Int32), .int (-1 : Int32), .int (-1 : Int32)], AC kA27 [.int ((x0 &&& (2147483647 : Int32)) % (3 : Int32)), .int (0 : Int32), .int (0 : Int32)], AC kA28 [.int (1 : Int32), .int (0 : Int32), .int (0 : Int32)], AC kA29 [.long x2, .long (0 : Int64), .long (0 : Int64)]] := P35
      refine w_lconst (v := (1 : Int64)) X35 hx (hb hby at_87) rfl (pc' := 88) rfl ?_
      refine w_lcmp_ne X35 hx (hb hby at_88) rfl (hb hby at_89) (by decide) (pcY := 96) (by decide) (pc' := 92) rfl (fun h39 => absurd h39 (by decide)) (fun h39 => ?_)
      refine w_iconst (v := (1 : Int32)) X35 hx (hb hby at_92) rfl (pc' := 93) rfl ?_
      refine w_goto X35 hx (hb hby at_93) (by decide) (pc' := 97) (by decide) ?_
      refine w_istore (l' := #[.val (.int x0), .val (.int x1), .val (.long x2), .second, .val (.int x3), .val (.long x4), .second, .val (.int x5), .val (.int ((x0 &&& (2147483647 : Int32)) % (3 : Int32))), .val (.int (((((x0 &&& (2147483647 : Int32)) % (3 : Int32)) + (1 : Int32)) + (x5 &&& (1 : Int32))) % (3 : Int32))), .val (.int (1 : Int32)), .val (.int ((x3 &&& (2147483647 : Int32)) % (4 : Int32))), .val (.int (0 : Int32)), .val (.ref (n0 + 0)), .val (.int (1 : Int32)), .unset]) X35 hx (hb hby at_97) rfl (pc' := 99) rfl ?_
      refine w_iload X35 hx (hb hby at_99) rfl (pc' := 101) rfl ?_
      refine w_if_eq X35 hx (hb hby at_101) (by decide) (pcY := 109) (by decide) (pc' := 104) rfl (fun h40 => ?_) (fun h40 => absurd h40 (by decide))
      refine w_aload X35 hx (hb hby at_109) rfl rfl (pc' := 111) rfl ?_
      refine w_iload X35 hx (hb hby at_111) rfl (pc' := 113) rfl ?_
      refine w_iload X35 hx (hb hby at_113) rfl (pc' := 115) rfl ?_
      refine w_lload X35 hx (hb hby at_115) rfl (pc' := 117) rfl ?_
      refine own_callV (W := 0) X35 hx hZ rfl hown hml.symm (wd30 hw) (wd31 hw) (wd33 hw) (wd32 hw) (wd3 hw) (wd34 hw) (rm4_6 l Z a0 hw [] n0 (((((x0 &&& (2147483647 : Int32)) % (3 : Int32)) + (1 : Int32)) + (x5 &&& (1 : Int32))) % (3 : Int32)) ((x3 &&& (2147483647 : Int32)) % (4 : Int32)) x4 c30 F30 kA24 hk24 (0 : Int64) (0 : Int64) (0 : Int64) (0 : Int64) kA25 hk25 (-1 : Int32) (-1 : Int32) (-1 : Int32) (-1 : Int32) kA26 hk26 (-1 : Int32) (-1 : Int32) (-1 : Int32) kA27 hk27 ((x0 &&& (2147483647 : Int32)) % (3 : Int32)) (0 : Int32) (0 : Int32) kA28 hk28 (1 : Int32) (0 : Int32) (0 : Int32) kA29 hk29 x2 (0 : Int64) (0 : Int64) _ P35) (a := (n0 + 0)) (P35.exa (i := 0) rfl F30.1) (by decide) (by decide) (by decide) (by decide) (by decide) (argsL := [.int (((((x0 &&& (2147483647 : Int32)) % (3 : Int32)) + (1 : Int32)) + (x5 &&& (1 : Int32))) % (3 : Int32)), .int ((x3 &&& (2147483647 : Int32)) % (4 : Int32)), .long x4]) (rest := []) pd4 rfl rfl rfl (Nat.le_of_eq rfl) (hb hby at_117) (pc' := 120) rfl ?_
      intro _ T36 L33 X36 hq
      obtain ⟨rfl, N33, c31, F31, P36⟩ := hq
      replace N33 := Fr.app N32 N33
      replace P36 : HP n0 T36.heap [c31, AC kA24 [.long (0 : Int64), .long (0 : Int64), .long (0 : Int64), .long (0 : Int64)], AC kA25 [.int (-1 : Int32), .int (-1 : Int32), .int (-1 : Int32), .int (-1 : Int32)], AC kA26 [.int (-1 : Int32), .int (-1 : Int32), .int (-1 : Int32)], AC kA27 [.int ((x0 &&& (2147483647 : Int32)) % (3 : Int32)), .int (((((x0 &&& (2147483647 : Int32)) % (3 : Int32)) + (1 : Int32)) + (x5 &&& (1 : Int32))) % (3 : Int32)), .int (0 : Int32)], AC kA28 [.int (1 : Int32), .int ((x3 &&& (2147483647 : Int32)) % (4 : Int32)), .int (0 : Int32)], AC kA29 [.long x2, .long x4, .long (0 : Int64)]] := P36
      refine w_iload X36 hx (hb hby at_120) rfl (pc' := 122) rfl ?_
      refine w_if_eq X36 hx (hb hby at_122) (by decide) (pcY := 129) (by decide) (pc' := 125) rfl (fun h41 => ?_) (fun h41 => absurd h41 (by decide))
      refine w_iconst (v := (1 : Int32)) X36 hx (hb hby at_129) rfl (pc' := 130) rfl ?_
      refine w_istore (l' := #[.val (.int x0), .val (.int x1), .val (.long x2), .second, .val (.int x3), .val (.long x4), .second, .val (.int x5), .val (.int ((x0 &&& (2147483647 : Int32)) % (3 : Int32))), .val (.int (((((x0 &&& (2147483647 : Int32)) % (3 : Int32)) + (1 : Int32)) + (x5 &&& (1 : Int32))) % (3 : Int32))), .val (.int (1 : Int32)), .val (.int ((x3 &&& (2147483647 : Int32)) % (4 : Int32))), .val (.int (0 : Int32)), .val (.ref (n0 + 0)), .val (.int (1 : Int32)), .val (.int (1 : Int32))]) X36 hx (hb hby at_130) rfl (pc' := 132) rfl ?_
      refine w_iload X36 hx (hb hby at_132) rfl (pc' := 134) rfl ?_
      refine w_if_eq X36 hx (hb hby at_134) (by decide) (pcY := 202) (by decide) (pc' := 137) rfl (fun h42 => absurd h42 (by decide)) (fun h42 => ?_)
      refine w_aload X36 hx (hb hby at_137) rfl rfl (pc' := 139) rfl ?_
      refine own_callV (W := 0) X36 hx hZ rfl hown hml.symm (wd39 hw) (wd40 hw) (wd42 hw) (wd41 hw) (wd3 hw) (wd43 hw) (rm5_7 l Z a0 hw [] n0 c31 F31 kA24 hk24 (0 : Int64) (0 : Int64) (0 : Int64) (0 : Int64) kA25 hk25 (-1 : Int32) (-1 : Int32) (-1 : Int32) (-1 : Int32) kA26 hk26 (-1 : Int32) (-1 : Int32) (-1 : Int32) kA27 hk27 ((x0 &&& (2147483647 : Int32)) % (3 : Int32)) (((((x0 &&& (2147483647 : Int32)) % (3 : Int32)) + (1 : Int32)) + (x5 &&& (1 : Int32))) % (3 : Int32)) (0 : Int32) kA28 hk28 (1 : Int32) ((x3 &&& (2147483647 : Int32)) % (4 : Int32)) (0 : Int32) kA29 hk29 x2 x4 (0 : Int64) _ P36) (a := (n0 + 0)) (P36.exa (i := 0) rfl F31.1) (by decide) (by decide) (by decide) (by decide) (by decide) (argsL := []) (rest := []) pd5 rfl rfl rfl (Nat.le_of_eq rfl) (hb hby at_139) (pc' := 142) rfl ?_
      intro _ T37 L34 X37 hq
      obtain ⟨rfl, N34, P37⟩ := hq
      replace N34 := Fr.app N33 N34
      replace P37 : HP n0 T37.heap [c31, AC kA24 [.long (0 : Int64), .long (0 : Int64), .long (0 : Int64), .long (0 : Int64)], AC kA25 [.int (-1 : Int32), .int (-1 : Int32), .int (-1 : Int32), .int (-1 : Int32)], AC kA26 [.int (-1 : Int32), .int (-1 : Int32), .int (-1 : Int32)], AC kA27 [.int ((x0 &&& (2147483647 : Int32)) % (3 : Int32)), .int (((((x0 &&& (2147483647 : Int32)) % (3 : Int32)) + (1 : Int32)) + (x5 &&& (1 : Int32))) % (3 : Int32)), .int (0 : Int32)], AC kA28 [.int (1 : Int32), .int ((x3 &&& (2147483647 : Int32)) % (4 : Int32)), .int (0 : Int32)], AC kA29 [.long x2, .long x4, .long (0 : Int64)]] := P37
      refine w_iload X37 hx (hb hby at_142) rfl (pc' := 144) rfl ?_
      refine w_iconst (v := (1 : Int32)) X37 hx (hb hby at_144) rfl (pc' := 145) rfl ?_
      refine w_iadd X37 hx (hb hby at_145) (pc' := 146) rfl ?_
      refine w_eqI (z := (2 : Int32)) (by decide) ?_
      refine w_icmp_ne X37 hx (hb hby at_146) (by decide) (pcY := 202) (by decide) (pc' := 149) rfl (fun h43 => absurd h43 (by decide)) (fun h43 => ?_)
      refine w_aload X37 hx (hb hby at_149) rfl rfl (pc' := 151) rfl ?_
      refine w_iload X37 hx (hb hby at_151) rfl (pc' := 153) rfl ?_
      refine own_callV (W := 0) X37 hx hZ rfl hown hml.symm (wd54 hw) (wd55 hw) (wd57 hw) (wd56 hw) (wd3 hw) (wd58 hw) (rm8_8 l Z a0 hw [] n0 c31 F31 kA24 hk24 (0 : Int64) (0 : Int64) (0 : Int64) (0 : Int64) kA25 hk25 (-1 : Int32) (-1 : Int32) (-1 : Int32) (-1 : Int32) kA26 hk26 (-1 : Int32) (-1 : Int32) (-1 : Int32) kA27 hk27 ((x0 &&& (2147483647 : Int32)) % (3 : Int32)) (((((x0 &&& (2147483647 : Int32)) % (3 : Int32)) + (1 : Int32)) + (x5 &&& (1 : Int32))) % (3 : Int32)) (0 : Int32) kA28 hk28 (1 : Int32) ((x3 &&& (2147483647 : Int32)) % (4 : Int32)) (0 : Int32) kA29 hk29 x2 x4 (0 : Int64) _ P37) (a := (n0 + 0)) (P37.exa (i := 0) rfl F31.1) (by decide) (by decide) (by decide) (by decide) (by decide) (argsL := [.int (1 : Int32)]) (rest := []) pd8 rfl rfl rfl (Nat.le_of_eq rfl) (hb hby at_153) (pc' := 156) rfl ?_
      intro _ T38 L35 X38 hq
      obtain ⟨rfl, N35, P38⟩ := hq
      replace N35 := Fr.app N34 N35
      replace P38 : HP n0 T38.heap [c31, AC kA24 [.long (0 : Int64), .long (0 : Int64), .long (0 : Int64), .long (0 : Int64)], AC kA25 [.int (-1 : Int32), .int (-1 : Int32), .int (-1 : Int32), .int (-1 : Int32)], AC kA26 [.int (-1 : Int32), .int (-1 : Int32), .int (-1 : Int32)], AC kA27 [.int ((x0 &&& (2147483647 : Int32)) % (3 : Int32)), .int (((((x0 &&& (2147483647 : Int32)) % (3 : Int32)) + (1 : Int32)) + (x5 &&& (1 : Int32))) % (3 : Int32)), .int (0 : Int32)], AC kA28 [.int (1 : Int32), .int ((x3 &&& (2147483647 : Int32)) % (4 : Int32)), .int (0 : Int32)], AC kA29 [.long x2, .long x4, .long (0 : Int64)]] := P38
      refine w_iload X38 hx (hb hby at_156) rfl (pc' := 158) rfl ?_
      refine w_icmp_ne X38 hx (hb hby at_158) (by decide) (pcY := 202) (by decide) (pc' := 161) rfl (fun h44 => absurd rfl h44) (fun h44 => ?_)
      refine w_aload X38 hx (hb hby at_161) rfl rfl (pc' := 163) rfl ?_
      refine w_iload X38 hx (hb hby at_163) rfl (pc' := 165) rfl ?_
      refine own_callV (W := 0) X38 hx hZ rfl hown hml.symm (wd59 hw) (wd60 hw) (wd62 hw) (wd61 hw) (wd3 hw) (wd63 hw) (rm9_9 l Z a0 hw [] n0 c31 F31 kA24 hk24 (0 : Int64) (0 : Int64) (0 : Int64) (0 : Int64) kA25 hk25 (-1 : Int32) (-1 : Int32) (-1 : Int32) (-1 : Int32) kA26 hk26 (-1 : Int32) (-1 : Int32) (-1 : Int32) kA27 hk27 ((x0 &&& (2147483647 : Int32)) % (3 : Int32)) (((((x0 &&& (2147483647 : Int32)) % (3 : Int32)) + (1 : Int32)) + (x5 &&& (1 : Int32))) % (3 : Int32)) (0 : Int32) kA28 hk28 (1 : Int32) ((x3 &&& (2147483647 : Int32)) % (4 : Int32)) (0 : Int32) kA29 hk29 x2 x4 (0 : Int64) _ P38) (a := (n0 + 0)) (P38.exa (i := 0) rfl F31.1) (by decide) (by decide) (by decide) (by decide) (by decide) (argsL := [.int (1 : Int32)]) (rest := []) pd9 rfl rfl rfl (Nat.le_of_eq rfl) (hb hby at_165) (pc' := 168) rfl ?_
      intro _ T39 L36 X39 hq
      obtain ⟨rfl, N36, P39⟩ := hq
      replace N36 := Fr.app N35 N36
      replace P39 : HP n0 T39.heap [c31, AC kA24 [.long (0 : Int64), .long (0 : Int64), .long (0 : Int64), .long (0 : Int64)], AC kA25 [.int (-1 : Int32), .int (-1 : Int32), .int (-1 : Int32), .int (-1 : Int32)], AC kA26 [.int (-1 : Int32), .int (-1 : Int32), .int (-1 : Int32)], AC kA27 [.int ((x0 &&& (2147483647 : Int32)) % (3 : Int32)), .int (((((x0 &&& (2147483647 : Int32)) % (3 : Int32)) + (1 : Int32)) + (x5 &&& (1 : Int32))) % (3 : Int32)), .int (0 : Int32)], AC kA28 [.int (1 : Int32), .int ((x3 &&& (2147483647 : Int32)) % (4 : Int32)), .int (0 : Int32)], AC kA29 [.long x2, .long x4, .long (0 : Int64)]] := P39
      refine w_iload X39 hx (hb hby at_168) rfl (pc' := 170) rfl ?_
      refine w_icmp_ne X39 hx (hb hby at_170) (by decide) (pcY := 202) (by decide) (pc' := 173) rfl (fun h45 => absurd rfl h45) (fun h45 => ?_)
      refine w_aload X39 hx (hb hby at_173) rfl rfl (pc' := 175) rfl ?_
      refine w_iload X39 hx (hb hby at_175) rfl (pc' := 177) rfl ?_
      refine own_callV (W := 0) X39 hx hZ rfl hown hml.symm (wd64 hw) (wd65 hw) (wd67 hw) (wd66 hw) (wd3 hw) (wd68 hw) (rm10_10 l Z a0 hw [] n0 c31 F31 kA24 hk24 (0 : Int64) (0 : Int64) (0 : Int64) (0 : Int64) kA25 hk25 (-1 : Int32) (-1 : Int32) (-1 : Int32) (-1 : Int32) kA26 hk26 (-1 : Int32) (-1 : Int32) (-1 : Int32) kA27 hk27 ((x0 &&& (2147483647 : Int32)) % (3 : Int32)) (((((x0 &&& (2147483647 : Int32)) % (3 : Int32)) + (1 : Int32)) + (x5 &&& (1 : Int32))) % (3 : Int32)) (0 : Int32) kA28 hk28 (1 : Int32) ((x3 &&& (2147483647 : Int32)) % (4 : Int32)) (0 : Int32) kA29 hk29 x2 x4 (0 : Int64) _ P39) (a := (n0 + 0)) (P39.exa (i := 0) rfl F31.1) (by decide) (by decide) (by decide) (by decide) (by decide) (argsL := [.int (1 : Int32)]) (rest := []) pd10 rfl rfl rfl (Nat.le_of_eq rfl) (hb hby at_177) (pc' := 180) rfl ?_
      intro _ T40 L37 X40 hq
      obtain ⟨rfl, N37, P40⟩ := hq
      replace N37 := Fr.app N36 N37
      replace P40 : HP n0 T40.heap [c31, AC kA24 [.long (0 : Int64), .long (0 : Int64), .long (0 : Int64), .long (0 : Int64)], AC kA25 [.int (-1 : Int32), .int (-1 : Int32), .int (-1 : Int32), .int (-1 : Int32)], AC kA26 [.int (-1 : Int32), .int (-1 : Int32), .int (-1 : Int32)], AC kA27 [.int ((x0 &&& (2147483647 : Int32)) % (3 : Int32)), .int (((((x0 &&& (2147483647 : Int32)) % (3 : Int32)) + (1 : Int32)) + (x5 &&& (1 : Int32))) % (3 : Int32)), .int (0 : Int32)], AC kA28 [.int (1 : Int32), .int ((x3 &&& (2147483647 : Int32)) % (4 : Int32)), .int (0 : Int32)], AC kA29 [.long x2, .long x4, .long (0 : Int64)]] := P40
      refine w_lload X40 hx (hb hby at_180) rfl (pc' := 182) rfl ?_
      refine w_lcmp_ne X40 hx (hb hby at_182) rfl (hb hby at_183) (by decide) (pcY := 202) (by decide) (pc' := 186) rfl (fun h46 => absurd rfl h46) (fun h46 => ?_)
      refine w_aload X40 hx (hb hby at_186) rfl rfl (pc' := 188) rfl ?_
      refine own_callV (W := 0) X40 hx hZ rfl hown hml.symm (wd44 hw) (wd45 hw) (wd47 hw) (wd46 hw) (wd3 hw) (wd48 hw) (rm6_11 l Z a0 hw [] n0 c31 F31 kA24 hk24 (0 : Int64) (0 : Int64) (0 : Int64) (0 : Int64) kA25 hk25 (-1 : Int32) (-1 : Int32) (-1 : Int32) (-1 : Int32) kA26 hk26 (-1 : Int32) (-1 : Int32) (-1 : Int32) kA27 hk27 ((x0 &&& (2147483647 : Int32)) % (3 : Int32)) (((((x0 &&& (2147483647 : Int32)) % (3 : Int32)) + (1 : Int32)) + (x5 &&& (1 : Int32))) % (3 : Int32)) (0 : Int32) kA28 hk28 (1 : Int32) ((x3 &&& (2147483647 : Int32)) % (4 : Int32)) (0 : Int32) kA29 hk29 x2 x4 (0 : Int64) _ P40) (a := (n0 + 0)) (P40.exa (i := 0) rfl F31.1) (by decide) (by decide) (by decide) (by decide) (by decide) (argsL := []) (rest := []) pd6 rfl rfl rfl (Nat.le_of_eq rfl) (hb hby at_188) (pc' := 191) rfl ?_
      intro _ T41 L38 X41 hq
      obtain ⟨rfl, N38, P41⟩ := hq
      replace N38 := Fr.app N37 N38
      replace P41 : HP n0 T41.heap [c31, AC kA24 [.long (0 : Int64), .long (0 : Int64), .long (0 : Int64), .long (0 : Int64)], AC kA25 [.int (-1 : Int32), .int (-1 : Int32), .int (-1 : Int32), .int (-1 : Int32)], AC kA26 [.int (-1 : Int32), .int (-1 : Int32), .int (-1 : Int32)], AC kA27 [.int ((x0 &&& (2147483647 : Int32)) % (3 : Int32)), .int (((((x0 &&& (2147483647 : Int32)) % (3 : Int32)) + (1 : Int32)) + (x5 &&& (1 : Int32))) % (3 : Int32)), .int (0 : Int32)], AC kA28 [.int (1 : Int32), .int ((x3 &&& (2147483647 : Int32)) % (4 : Int32)), .int (0 : Int32)], AC kA29 [.long x2, .long x4, .long (0 : Int64)]] := P41
      refine w_ldc2 X41 hx (hb hby at_191) hown (mvT hZ (wd69 hw)) (pc' := 194) rfl ?_
      refine w_lcmp_ne X41 hx (hb hby at_194) rfl (hb hby at_195) (by decide) (pcY := 202) (by decide) (pc' := 198) rfl (fun h47 => absurd h47 (by decide)) (fun h47 => ?_)
      refine w_iconst (v := (1 : Int32)) X41 hx (hb hby at_198) rfl (pc' := 199) rfl ?_
      refine w_goto X41 hx (hb hby at_199) (by decide) (pc' := 203) (by decide) ?_
      refine w_istore (l' := #[.val (.int x0), .val (.int x1), .val (.long x2), .second, .val (.int x3), .val (.long x4), .second, .val (.int x5), .val (.int ((x0 &&& (2147483647 : Int32)) % (3 : Int32))), .val (.int (((((x0 &&& (2147483647 : Int32)) % (3 : Int32)) + (1 : Int32)) + (x5 &&& (1 : Int32))) % (3 : Int32))), .val (.int (1 : Int32)), .val (.int ((x3 &&& (2147483647 : Int32)) % (4 : Int32))), .val (.int (0 : Int32)), .val (.ref (n0 + 0)), .val (.int (1 : Int32)), .val (.int (1 : Int32))]) X41 hx (hb hby at_203) rfl (pc' := 205) rfl ?_
      refine w_iload X41 hx (hb hby at_205) rfl (pc' := 207) rfl ?_
      refine w_if_ne X41 hx (hb hby at_207) (by decide) (pcY := 255) (by decide) (pc' := 210) rfl (fun h48 => absurd h48 (by decide)) (fun h48 => ?_)
      refine w_iload X41 hx (hb hby at_210) rfl (pc' := 212) rfl ?_
      refine w_if_eq X41 hx (hb hby at_212) (by decide) (pcY := 252) (by decide) (pc' := 215) rfl (fun h49 => absurd h49 (by decide)) (fun h49 => ?_)
      refine w_aload X41 hx (hb hby at_215) rfl rfl (pc' := 217) rfl ?_
      refine w_iconst (v := (0 : Int32)) X41 hx (hb hby at_217) rfl (pc' := 218) rfl ?_
      refine own_callV (W := 0) X41 hx hZ rfl hown hml.symm (wd54 hw) (wd55 hw) (wd57 hw) (wd56 hw) (wd3 hw) (wd58 hw) (rm8_12 l Z a0 hw [] n0 c31 F31 kA24 hk24 (0 : Int64) (0 : Int64) (0 : Int64) (0 : Int64) kA25 hk25 (-1 : Int32) (-1 : Int32) (-1 : Int32) (-1 : Int32) kA26 hk26 (-1 : Int32) (-1 : Int32) (-1 : Int32) kA27 hk27 ((x0 &&& (2147483647 : Int32)) % (3 : Int32)) (((((x0 &&& (2147483647 : Int32)) % (3 : Int32)) + (1 : Int32)) + (x5 &&& (1 : Int32))) % (3 : Int32)) (0 : Int32) kA28 hk28 (1 : Int32) ((x3 &&& (2147483647 : Int32)) % (4 : Int32)) (0 : Int32) kA29 hk29 x2 x4 (0 : Int64) _ P41) (a := (n0 + 0)) (P41.exa (i := 0) rfl F31.1) (by decide) (by decide) (by decide) (by decide) (by decide) (argsL := [.int (0 : Int32)]) (rest := []) pd8 rfl rfl rfl (Nat.le_of_eq rfl) (hb hby at_218) (pc' := 221) rfl ?_
      intro _ T42 L39 X42 hq
      obtain ⟨rfl, N39, P42⟩ := hq
      replace N39 := Fr.app N38 N39
      replace P42 : HP n0 T42.heap [c31, AC kA24 [.long (0 : Int64), .long (0 : Int64), .long (0 : Int64), .long (0 : Int64)], AC kA25 [.int (-1 : Int32), .int (-1 : Int32), .int (-1 : Int32), .int (-1 : Int32)], AC kA26 [.int (-1 : Int32), .int (-1 : Int32), .int (-1 : Int32)], AC kA27 [.int ((x0 &&& (2147483647 : Int32)) % (3 : Int32)), .int (((((x0 &&& (2147483647 : Int32)) % (3 : Int32)) + (1 : Int32)) + (x5 &&& (1 : Int32))) % (3 : Int32)), .int (0 : Int32)], AC kA28 [.int (1 : Int32), .int ((x3 &&& (2147483647 : Int32)) % (4 : Int32)), .int (0 : Int32)], AC kA29 [.long x2, .long x4, .long (0 : Int64)]] := P42
      refine w_iload X42 hx (hb hby at_221) rfl (pc' := 223) rfl ?_
      refine w_icmp_ne X42 hx (hb hby at_223) (by decide) (pcY := 252) (by decide) (pc' := 226) rfl (fun h50 => absurd rfl h50) (fun h50 => ?_)
      refine w_aload X42 hx (hb hby at_226) rfl rfl (pc' := 228) rfl ?_
      refine w_iconst (v := (0 : Int32)) X42 hx (hb hby at_228) rfl (pc' := 229) rfl ?_
      refine own_callV (W := 0) X42 hx hZ rfl hown hml.symm (wd59 hw) (wd60 hw) (wd62 hw) (wd61 hw) (wd3 hw) (wd63 hw) (rm9_13 l Z a0 hw [] n0 c31 F31 kA24 hk24 (0 : Int64) (0 : Int64) (0 : Int64) (0 : Int64) kA25 hk25 (-1 : Int32) (-1 : Int32) (-1 : Int32) (-1 : Int32) kA26 hk26 (-1 : Int32) (-1 : Int32) (-1 : Int32) kA27 hk27 ((x0 &&& (2147483647 : Int32)) % (3 : Int32)) (((((x0 &&& (2147483647 : Int32)) % (3 : Int32)) + (1 : Int32)) + (x5 &&& (1 : Int32))) % (3 : Int32)) (0 : Int32) kA28 hk28 (1 : Int32) ((x3 &&& (2147483647 : Int32)) % (4 : Int32)) (0 : Int32) kA29 hk29 x2 x4 (0 : Int64) _ P42) (a := (n0 + 0)) (P42.exa (i := 0) rfl F31.1) (by decide) (by decide) (by decide) (by decide) (by decide) (argsL := [.int (0 : Int32)]) (rest := []) pd9 rfl rfl rfl (Nat.le_of_eq rfl) (hb hby at_229) (pc' := 232) rfl ?_
      intro _ T43 L40 X43 hq
      obtain ⟨rfl, N40, P43⟩ := hq
      replace N40 := Fr.app N39 N40
      replace P43 : HP n0 T43.heap [c31, AC kA24 [.long (0 : Int64), .long (0 : Int64), .long (0 : Int64), .long (0 : Int64)], AC kA25 [.int (-1 : Int32), .int (-1 : Int32), .int (-1 : Int32), .int (-1 : Int32)], AC kA26 [.int (-1 : Int32), .int (-1 : Int32), .int (-1 : Int32)], AC kA27 [.int ((x0 &&& (2147483647 : Int32)) % (3 : Int32)), .int (((((x0 &&& (2147483647 : Int32)) % (3 : Int32)) + (1 : Int32)) + (x5 &&& (1 : Int32))) % (3 : Int32)), .int (0 : Int32)], AC kA28 [.int (1 : Int32), .int ((x3 &&& (2147483647 : Int32)) % (4 : Int32)), .int (0 : Int32)], AC kA29 [.long x2, .long x4, .long (0 : Int64)]] := P43
      refine w_iload X43 hx (hb hby at_232) rfl (pc' := 234) rfl ?_
      refine w_icmp_ne X43 hx (hb hby at_234) (by decide) (pcY := 252) (by decide) (pc' := 237) rfl (fun h51 => absurd h51 (by decide)) (fun h51 => ?_)
      refine w_aload X43 hx (hb hby at_237) rfl rfl (pc' := 239) rfl ?_
      refine w_iconst (v := (0 : Int32)) X43 hx (hb hby at_239) rfl (pc' := 240) rfl ?_
      refine own_callV (W := 0) X43 hx hZ rfl hown hml.symm (wd64 hw) (wd65 hw) (wd67 hw) (wd66 hw) (wd3 hw) (wd68 hw) (rm10_14 l Z a0 hw [] n0 c31 F31 kA24 hk24 (0 : Int64) (0 : Int64) (0 : Int64) (0 : Int64) kA25 hk25 (-1 : Int32) (-1 : Int32) (-1 : Int32) (-1 : Int32) kA26 hk26 (-1 : Int32) (-1 : Int32) (-1 : Int32) kA27 hk27 ((x0 &&& (2147483647 : Int32)) % (3 : Int32)) (((((x0 &&& (2147483647 : Int32)) % (3 : Int32)) + (1 : Int32)) + (x5 &&& (1 : Int32))) % (3 : Int32)) (0 : Int32) kA28 hk28 (1 : Int32) ((x3 &&& (2147483647 : Int32)) % (4 : Int32)) (0 : Int32) kA29 hk29 x2 x4 (0 : Int64) _ P43) (a := (n0 + 0)) (P43.exa (i := 0) rfl F31.1) (by decide) (by decide) (by decide) (by decide) (by decide) (argsL := [.int (0 : Int32)]) (rest := []) pd10 rfl rfl rfl (Nat.le_of_eq rfl) (hb hby at_240) (pc' := 243) rfl ?_
      intro _ T44 L41 X44 hq
      obtain ⟨rfl, N41, P44⟩ := hq
      replace N41 := Fr.app N40 N41
      replace P44 : HP n0 T44.heap [c31, AC kA24 [.long (0 : Int64), .long (0 : Int64), .long (0 : Int64), .long (0 : Int64)], AC kA25 [.int (-1 : Int32), .int (-1 : Int32), .int (-1 : Int32), .int (-1 : Int32)], AC kA26 [.int (-1 : Int32), .int (-1 : Int32), .int (-1 : Int32)], AC kA27 [.int ((x0 &&& (2147483647 : Int32)) % (3 : Int32)), .int (((((x0 &&& (2147483647 : Int32)) % (3 : Int32)) + (1 : Int32)) + (x5 &&& (1 : Int32))) % (3 : Int32)), .int (0 : Int32)], AC kA28 [.int (1 : Int32), .int ((x3 &&& (2147483647 : Int32)) % (4 : Int32)), .int (0 : Int32)], AC kA29 [.long x2, .long x4, .long (0 : Int64)]] := P44
      refine w_lloadN X44 hx (hb hby at_243) rfl (pc' := 244) rfl ?_
      refine w_lcmp_ne X44 hx (hb hby at_244) rfl (hb hby at_245) (by decide) (pcY := 252) (by decide) (pc' := 248) rfl (fun h52 => absurd rfl h52) (fun h52 => ?_)
      refine w_iconst (v := (1 : Int32)) X44 hx (hb hby at_248) rfl (pc' := 249) rfl ?_
      refine w_goto X44 hx (hb hby at_249) (by decide) (pc' := 253) (by decide) ?_
      refine w_istore (l' := #[.val (.int x0), .val (.int x1), .val (.long x2), .second, .val (.int x3), .val (.long x4), .second, .val (.int x5), .val (.int ((x0 &&& (2147483647 : Int32)) % (3 : Int32))), .val (.int (((((x0 &&& (2147483647 : Int32)) % (3 : Int32)) + (1 : Int32)) + (x5 &&& (1 : Int32))) % (3 : Int32))), .val (.int (1 : Int32)), .val (.int ((x3 &&& (2147483647 : Int32)) % (4 : Int32))), .val (.int (0 : Int32)), .val (.ref (n0 + 0)), .val (.int (1 : Int32)), .val (.int (1 : Int32))]) X44 hx (hb hby at_253) rfl (pc' := 255) rfl ?_
      refine w_iload X44 hx (hb hby at_255) rfl (pc' := 257) rfl ?_
      refine w_if_eq X44 hx (hb hby at_257) (by decide) (pcY := 285) (by decide) (pc' := 260) rfl (fun h53 => absurd h53 (by decide)) (fun h53 => ?_)
      refine w_aload X44 hx (hb hby at_260) rfl rfl (pc' := 262) rfl ?_
      refine own_callV (W := 0) X44 hx hZ rfl hown hml.symm (wd70 hw) (wd71 hw) (wd73 hw) (wd72 hw) (wd3 hw) (wd74 hw) (rm11_15 l Z a0 hw [] n0 c31 F31 kA24 hk24 (0 : Int64) (0 : Int64) (0 : Int64) (0 : Int64) kA25 hk25 (-1 : Int32) (-1 : Int32) (-1 : Int32) (-1 : Int32) kA26 hk26 (-1 : Int32) (-1 : Int32) (-1 : Int32) kA27 hk27 ((x0 &&& (2147483647 : Int32)) % (3 : Int32)) (((((x0 &&& (2147483647 : Int32)) % (3 : Int32)) + (1 : Int32)) + (x5 &&& (1 : Int32))) % (3 : Int32)) (0 : Int32) kA28 hk28 (1 : Int32) ((x3 &&& (2147483647 : Int32)) % (4 : Int32)) (0 : Int32) kA29 hk29 x2 x4 (0 : Int64) _ P44) (a := (n0 + 0)) (P44.exa (i := 0) rfl F31.1) (by decide) (by decide) (by decide) (by decide) (by decide) (argsL := []) (rest := []) pd11 rfl rfl rfl (Nat.le_of_eq rfl) (hb hby at_262) (pc' := 265) rfl ?_
      intro _ T45 L42 X45 hq
      obtain ⟨rfl, N42, P45⟩ := hq
      replace N42 := Fr.app N41 N42
      replace P45 : HP n0 T45.heap [c31, AC kA24 [.long (0 : Int64), .long (0 : Int64), .long (0 : Int64), .long (0 : Int64)], AC kA25 [.int (-1 : Int32), .int (-1 : Int32), .int (-1 : Int32), .int (-1 : Int32)], AC kA26 [.int (-1 : Int32), .int (-1 : Int32), .int (-1 : Int32)], AC kA27 [.int ((x0 &&& (2147483647 : Int32)) % (3 : Int32)), .int (((((x0 &&& (2147483647 : Int32)) % (3 : Int32)) + (1 : Int32)) + (x5 &&& (1 : Int32))) % (3 : Int32)), .int (0 : Int32)], AC kA28 [.int (1 : Int32), .int ((x3 &&& (2147483647 : Int32)) % (4 : Int32)), .int (0 : Int32)], AC kA29 [.long x2, .long x4, .long (0 : Int64)]] := P45
      refine w_iconst (v := (3 : Int32)) X45 hx (hb hby at_265) rfl (pc' := 266) rfl ?_
      refine w_icmp_ne X45 hx (hb hby at_266) (by decide) (pcY := 285) (by decide) (pc' := 269) rfl (fun h54 => absurd h54 (by decide)) (fun h54 => ?_)
      refine w_aload X45 hx (hb hby at_269) rfl rfl (pc' := 271) rfl ?_
      refine w_iload X45 hx (hb hby at_271) rfl (pc' := 273) rfl ?_
      refine own_callV (W := 0) X45 hx hZ rfl hown hml.symm (wd75 hw) (wd76 hw) (wd78 hw) (wd77 hw) (wd3 hw) (wd79 hw) (rm12_27 l Z a0 hw [] n0 c31 F31 kA24 hk24 (0 : Int64) (0 : Int64) (0 : Int64) (0 : Int64) kA25 hk25 (-1 : Int32) (-1 : Int32) (-1 : Int32) (-1 : Int32) kA26 hk26 (-1 : Int32) (-1 : Int32) (-1 : Int32) kA27 hk27 ((x0 &&& (2147483647 : Int32)) % (3 : Int32)) (((((x0 &&& (2147483647 : Int32)) % (3 : Int32)) + (1 : Int32)) + (x5 &&& (1 : Int32))) % (3 : Int32)) (0 : Int32) kA28 hk28 (1 : Int32) ((x3 &&& (2147483647 : Int32)) % (4 : Int32)) (0 : Int32) kA29 hk29 x2 x4 (0 : Int64) _ P45) (a := (n0 + 0)) (P45.exa (i := 0) rfl F31.1) (by decide) (by decide) (by decide) (by decide) (by decide) (argsL := [.int (1 : Int32)]) (rest := []) pd12 rfl rfl rfl (Nat.le_of_eq rfl) (hb hby at_273) (pc' := 276) rfl ?_
      intro _ T46 L43 X46 hq
      obtain ⟨rfl, N43, P46⟩ := hq
      replace N43 := Fr.app N42 N43
      replace P46 : HP n0 T46.heap [c31, AC kA24 [.long (0 : Int64), .long (0 : Int64), .long (0 : Int64), .long (0 : Int64)], AC kA25 [.int (-1 : Int32), .int (-1 : Int32), .int (-1 : Int32), .int (-1 : Int32)], AC kA26 [.int (-1 : Int32), .int (-1 : Int32), .int (-1 : Int32)], AC kA27 [.int ((x0 &&& (2147483647 : Int32)) % (3 : Int32)), .int (((((x0 &&& (2147483647 : Int32)) % (3 : Int32)) + (1 : Int32)) + (x5 &&& (1 : Int32))) % (3 : Int32)), .int (0 : Int32)], AC kA28 [.int (1 : Int32), .int ((x3 &&& (2147483647 : Int32)) % (4 : Int32)), .int (0 : Int32)], AC kA29 [.long x2, .long x4, .long (0 : Int64)]] := P46
      refine w_lconst (v := (0 : Int64)) X46 hx (hb hby at_276) rfl (pc' := 277) rfl ?_
      refine w_lcmp_ne X46 hx (hb hby at_277) rfl (hb hby at_278) (by decide) (pcY := 285) (by decide) (pc' := 281) rfl (fun h55 => absurd h55 (by decide)) (fun h55 => ?_)
      refine w_iconst (v := (1 : Int32)) X46 hx (hb hby at_281) rfl (pc' := 282) rfl ?_
      refine w_goto X46 hx (hb hby at_282) (by decide) (pc' := 286) (by decide) ?_
      refine w_istore (l' := #[.val (.int x0), .val (.int x1), .val (.long x2), .second, .val (.int x3), .val (.long x4), .second, .val (.int x5), .val (.int ((x0 &&& (2147483647 : Int32)) % (3 : Int32))), .val (.int (((((x0 &&& (2147483647 : Int32)) % (3 : Int32)) + (1 : Int32)) + (x5 &&& (1 : Int32))) % (3 : Int32))), .val (.int (1 : Int32)), .val (.int ((x3 &&& (2147483647 : Int32)) % (4 : Int32))), .val (.int (0 : Int32)), .val (.ref (n0 + 0)), .val (.int (1 : Int32)), .val (.int (1 : Int32))]) X46 hx (hb hby at_286) rfl (pc' := 288) rfl ?_
      refine w_iload X46 hx (hb hby at_288) rfl (pc' := 290) rfl ?_
      exact w_ret_n (t := .boolean) X46 hx hret hlk (by simp) (hb hby at_290) (z' := (1 : Int32)) rfl (by decide) (by decide) ⟨rfl, N43⟩
    · refine w_iconst (v := (1 : Int32)) X0 hx (hb hby at_45) rfl (pc' := 46) rfl ?_
      refine w_goto X0 hx (hb hby at_46) (by decide) (pc' := 50) (by decide) ?_
      refine w_istore (l' := #[.val (.int x0), .val (.int x1), .val (.long x2), .second, .val (.int x3), .val (.long x4), .second, .val (.int x5), .val (.int ((x0 &&& (2147483647 : Int32)) % (3 : Int32))), .val (.int (((((x0 &&& (2147483647 : Int32)) % (3 : Int32)) + (1 : Int32)) + (x5 &&& (1 : Int32))) % (3 : Int32))), .val (.int (1 : Int32)), .val (.int ((x3 &&& (2147483647 : Int32)) % (4 : Int32))), .val (.int (1 : Int32)), .unset, .unset, .unset]) X0 hx (hb hby at_50) rfl (pc' := 52) rfl ?_
      refine w_new (j := 0) X0 hx hZ hown (wd1 hw) (wd2 hw) (wd3 hw) P0 fl_C0 dv_C0 rfl (ly_C0 hw) (hb hby at_52) (by decide) (by decide) rfl (pc' := 55) rfl ?_
      intro T47 c32 X47 P47 F32
      replace P47 : HP n0 T47.heap [c32] := P47
      refine w_dup X47 hx (hb hby at_55) rfl (pc' := 56) rfl ?_
      refine w_iconst (v := (3 : Int32)) X47 hx (hb hby at_56) rfl (pc' := 57) rfl ?_
      refine w_iconst (v := (4 : Int32)) X47 hx (hb hby at_57) rfl (pc' := 58) rfl ?_
      refine own_callI (W := 1) X47 hx hZ rfl rfl hown hml.symm (wd4 hw) (wd5 hw) (wd3 hw) (wd6 hw) (rm1_0 l Z a0 hw [] n0 c32 F32 _ P47) (by decide) (by decide) (by decide) (by decide) (by decide) (a := (n0 + 0)) (argsL := [.int (3 : Int32), .int (4 : Int32)]) (rest := [.ref (n0 + 0)]) pd1 rfl rfl rfl (Nat.le_of_eq rfl) (hb hby at_58) (pc' := 61) rfl ?_
      intro _ T48 L44 X48 hq
      obtain ⟨rfl, N44, c33, F33, kA34, hk34, kA35, hk35, kA36, hk36, kA37, hk37, kA38, hk38, kA39, hk39, P48⟩ := hq
      replace N44 := Fr.app N0 N44
      replace P48 : HP n0 T48.heap [c33, AC kA34 [.long (0 : Int64), .long (0 : Int64), .long (0 : Int64), .long (0 : Int64)], AC kA35 [.int (-1 : Int32), .int (-1 : Int32), .int (-1 : Int32), .int (-1 : Int32)], AC kA36 [.int (-1 : Int32), .int (-1 : Int32), .int (-1 : Int32)], AC kA37 [.int (0 : Int32), .int (0 : Int32), .int (0 : Int32)], AC kA38 [.int (0 : Int32), .int (0 : Int32), .int (0 : Int32)], AC kA39 [.long (0 : Int64), .long (0 : Int64), .long (0 : Int64)]] := P48
      refine w_astore (l' := #[.val (.int x0), .val (.int x1), .val (.long x2), .second, .val (.int x3), .val (.long x4), .second, .val (.int x5), .val (.int ((x0 &&& (2147483647 : Int32)) % (3 : Int32))), .val (.int (((((x0 &&& (2147483647 : Int32)) % (3 : Int32)) + (1 : Int32)) + (x5 &&& (1 : Int32))) % (3 : Int32))), .val (.int (1 : Int32)), .val (.int ((x3 &&& (2147483647 : Int32)) % (4 : Int32))), .val (.int (1 : Int32)), .val (.ref (n0 + 0)), .unset, .unset]) X48 hx (hb hby at_61) rfl rfl (pc' := 63) rfl ?_
      refine w_aload X48 hx (hb hby at_63) rfl rfl (pc' := 65) rfl ?_
      refine w_iload X48 hx (hb hby at_65) rfl (pc' := 67) rfl ?_
      refine w_iload X48 hx (hb hby at_67) rfl (pc' := 69) rfl ?_
      refine w_lloadN X48 hx (hb hby at_69) rfl (pc' := 70) rfl ?_
      refine own_callV (W := 0) X48 hx hZ rfl hown hml.symm (wd30 hw) (wd31 hw) (wd33 hw) (wd32 hw) (wd3 hw) (wd34 hw) (rm4_26 l Z a0 hw [] n0 ((x0 &&& (2147483647 : Int32)) % (3 : Int32)) x2 c33 F33 kA34 hk34 (0 : Int64) (0 : Int64) (0 : Int64) (0 : Int64) kA35 hk35 (-1 : Int32) (-1 : Int32) (-1 : Int32) (-1 : Int32) kA36 hk36 (-1 : Int32) (-1 : Int32) (-1 : Int32) kA37 hk37 (0 : Int32) (0 : Int32) (0 : Int32) kA38 hk38 (0 : Int32) (0 : Int32) (0 : Int32) kA39 hk39 (0 : Int64) (0 : Int64) (0 : Int64) _ P48) (a := (n0 + 0)) (P48.exa (i := 0) rfl F33.1) (by decide) (by decide) (by decide) (by decide) (by decide) (argsL := [.int ((x0 &&& (2147483647 : Int32)) % (3 : Int32)), .int (1 : Int32), .long x2]) (rest := []) pd4 rfl rfl rfl (Nat.le_of_eq rfl) (hb hby at_70) (pc' := 73) rfl ?_
      intro _ T49 L45 X49 hq
      obtain ⟨rfl, N45, c40, F40, P49⟩ := hq
      replace N45 := Fr.app N44 N45
      replace P49 : HP n0 T49.heap [c40, AC kA34 [.long (0 : Int64), .long (0 : Int64), .long (0 : Int64), .long (0 : Int64)], AC kA35 [.int (-1 : Int32), .int (-1 : Int32), .int (-1 : Int32), .int (-1 : Int32)], AC kA36 [.int (-1 : Int32), .int (-1 : Int32), .int (-1 : Int32)], AC kA37 [.int ((x0 &&& (2147483647 : Int32)) % (3 : Int32)), .int (0 : Int32), .int (0 : Int32)], AC kA38 [.int (1 : Int32), .int (0 : Int32), .int (0 : Int32)], AC kA39 [.long x2, .long (0 : Int64), .long (0 : Int64)]] := P49
      refine w_aload X49 hx (hb hby at_73) rfl rfl (pc' := 75) rfl ?_
      refine own_callV (W := 0) X49 hx hZ rfl hown hml.symm (wd39 hw) (wd40 hw) (wd42 hw) (wd41 hw) (wd3 hw) (wd43 hw) (rm5_4 l Z a0 hw [] n0 c40 F40 kA34 hk34 (0 : Int64) (0 : Int64) (0 : Int64) (0 : Int64) kA35 hk35 (-1 : Int32) (-1 : Int32) (-1 : Int32) (-1 : Int32) kA36 hk36 (-1 : Int32) (-1 : Int32) (-1 : Int32) kA37 hk37 ((x0 &&& (2147483647 : Int32)) % (3 : Int32)) (0 : Int32) (0 : Int32) kA38 hk38 (1 : Int32) (0 : Int32) (0 : Int32) kA39 hk39 x2 (0 : Int64) (0 : Int64) _ P49) (a := (n0 + 0)) (P49.exa (i := 0) rfl F40.1) (by decide) (by decide) (by decide) (by decide) (by decide) (argsL := []) (rest := []) pd5 rfl rfl rfl (Nat.le_of_eq rfl) (hb hby at_75) (pc' := 78) rfl ?_
      intro _ T50 L46 X50 hq
      obtain ⟨rfl, N46, P50⟩ := hq
      replace N46 := Fr.app N45 N46
      replace P50 : HP n0 T50.heap [c40, AC kA34 [.long (0 : Int64), .long (0 : Int64), .long (0 : Int64), .long (0 : Int64)], AC kA35 [.int (-1 : Int32), .int (-1 : Int32), .int (-1 : Int32), .int (-1 : Int32)], AC kA36 [.int (-1 : Int32), .int (-1 : Int32), .int (-1 : Int32)], AC kA37 [.int ((x0 &&& (2147483647 : Int32)) % (3 : Int32)), .int (0 : Int32), .int (0 : Int32)], AC kA38 [.int (1 : Int32), .int (0 : Int32), .int (0 : Int32)], AC kA39 [.long x2, .long (0 : Int64), .long (0 : Int64)]] := P50
      refine w_iconst (v := (1 : Int32)) X50 hx (hb hby at_78) rfl (pc' := 79) rfl ?_
      refine w_icmp_ne X50 hx (hb hby at_79) (by decide) (pcY := 96) (by decide) (pc' := 82) rfl (fun h56 => absurd h56 (by decide)) (fun h56 => ?_)
      refine w_aload X50 hx (hb hby at_82) rfl rfl (pc' := 84) rfl ?_
      refine own_callV (W := 0) X50 hx hZ rfl hown hml.symm (wd44 hw) (wd45 hw) (wd47 hw) (wd46 hw) (wd3 hw) (wd48 hw) (rm6_5 l Z a0 hw [] n0 c40 F40 kA34 hk34 (0 : Int64) (0 : Int64) (0 : Int64) (0 : Int64) kA35 hk35 (-1 : Int32) (-1 : Int32) (-1 : Int32) (-1 : Int32) kA36 hk36 (-1 : Int32) (-1 : Int32) (-1 : Int32) kA37 hk37 ((x0 &&& (2147483647 : Int32)) % (3 : Int32)) (0 : Int32) (0 : Int32) kA38 hk38 (1 : Int32) (0 : Int32) (0 : Int32) kA39 hk39 x2 (0 : Int64) (0 : Int64) _ P50) (a := (n0 + 0)) (P50.exa (i := 0) rfl F40.1) (by decide) (by decide) (by decide) (by decide) (by decide) (argsL := []) (rest := []) pd6 rfl rfl rfl (Nat.le_of_eq rfl) (hb hby at_84) (pc' := 87) rfl ?_
      intro _ T51 L47 X51 hq
      obtain ⟨rfl, N47, P51⟩ := hq
      replace N47 := Fr.app N46 N47
      replace P51 : HP n0 T51.heap [c40, AC kA34 [.long (0 : Int64), .long (0 : Int64), .long (0 : Int64), .long (0 : Int64)], AC kA35 [.int (-1 : Int32), .int (-1 : Int32), .int (-1 : Int32), .int (-1 : Int32)], AC kA36 [.int (-1 : Int32), .int (-1 : Int32), .int (-1 : Int32)], AC kA37 [.int ((x0 &&& (2147483647 : Int32)) % (3 : Int32)), .int (0 : Int32), .int (0 : Int32)], AC kA38 [.int (1 : Int32), .int (0 : Int32), .int (0 : Int32)], AC kA39 [.long x2, .long (0 : Int64), .long (0 : Int64)]] := P51
      refine w_lconst (v := (1 : Int64)) X51 hx (hb hby at_87) rfl (pc' := 88) rfl ?_
      refine w_lcmp_ne X51 hx (hb hby at_88) rfl (hb hby at_89) (by decide) (pcY := 96) (by decide) (pc' := 92) rfl (fun h57 => absurd h57 (by decide)) (fun h57 => ?_)
      refine w_iconst (v := (1 : Int32)) X51 hx (hb hby at_92) rfl (pc' := 93) rfl ?_
      refine w_goto X51 hx (hb hby at_93) (by decide) (pc' := 97) (by decide) ?_
      refine w_istore (l' := #[.val (.int x0), .val (.int x1), .val (.long x2), .second, .val (.int x3), .val (.long x4), .second, .val (.int x5), .val (.int ((x0 &&& (2147483647 : Int32)) % (3 : Int32))), .val (.int (((((x0 &&& (2147483647 : Int32)) % (3 : Int32)) + (1 : Int32)) + (x5 &&& (1 : Int32))) % (3 : Int32))), .val (.int (1 : Int32)), .val (.int ((x3 &&& (2147483647 : Int32)) % (4 : Int32))), .val (.int (1 : Int32)), .val (.ref (n0 + 0)), .val (.int (1 : Int32)), .unset]) X51 hx (hb hby at_97) rfl (pc' := 99) rfl ?_
      refine w_iload X51 hx (hb hby at_99) rfl (pc' := 101) rfl ?_
      refine w_if_eq X51 hx (hb hby at_101) (by decide) (pcY := 109) (by decide) (pc' := 104) rfl (fun h58 => absurd h58 (by decide)) (fun h58 => ?_)
      refine w_aload X51 hx (hb hby at_104) rfl rfl (pc' := 106) rfl ?_
      refine own_callV (W := 0) X51 hx hZ rfl hown hml.symm (wd49 hw) (wd50 hw) (wd52 hw) (wd51 hw) (wd3 hw) (wd53 hw) (rm7_17 l Z a0 hw [] n0 c40 F40 kA34 hk34 (0 : Int64) (0 : Int64) (0 : Int64) (0 : Int64) kA35 hk35 (-1 : Int32) (-1 : Int32) (-1 : Int32) (-1 : Int32) kA36 hk36 (-1 : Int32) (-1 : Int32) (-1 : Int32) kA37 hk37 ((x0 &&& (2147483647 : Int32)) % (3 : Int32)) (0 : Int32) (0 : Int32) kA38 hk38 (1 : Int32) (0 : Int32) (0 : Int32) kA39 hk39 x2 (0 : Int64) (0 : Int64) _ P51) (a := (n0 + 0)) (P51.exa (i := 0) rfl F40.1) (by decide) (by decide) (by decide) (by decide) (by decide) (argsL := []) (rest := []) pd7 rfl rfl rfl (Nat.le_of_eq rfl) (hb hby at_106) (pc' := 109) rfl ?_
      intro _ T52 L48 X52 hq
      obtain ⟨rfl, N48, c41, F41, P52⟩ := hq
      replace N48 := Fr.app N47 N48
      replace P52 : HP n0 T52.heap [c41, AC kA34 [.long (0 : Int64), .long (0 : Int64), .long (0 : Int64), .long (0 : Int64)], AC kA35 [.int (-1 : Int32), .int (-1 : Int32), .int (-1 : Int32), .int (-1 : Int32)], AC kA36 [.int (-1 : Int32), .int (-1 : Int32), .int (-1 : Int32)], AC kA37 [.int ((x0 &&& (2147483647 : Int32)) % (3 : Int32)), .int (0 : Int32), .int (0 : Int32)], AC kA38 [.int (1 : Int32), .int (0 : Int32), .int (0 : Int32)], AC kA39 [.long x2, .long (0 : Int64), .long (0 : Int64)]] := P52
      refine w_aload X52 hx (hb hby at_109) rfl rfl (pc' := 111) rfl ?_
      refine w_iload X52 hx (hb hby at_111) rfl (pc' := 113) rfl ?_
      refine w_iload X52 hx (hb hby at_113) rfl (pc' := 115) rfl ?_
      refine w_lload X52 hx (hb hby at_115) rfl (pc' := 117) rfl ?_
      refine own_callV (W := 0) X52 hx hZ rfl hown hml.symm (wd30 hw) (wd31 hw) (wd33 hw) (wd32 hw) (wd3 hw) (wd34 hw) (rm4_18 l Z a0 hw [] n0 (((((x0 &&& (2147483647 : Int32)) % (3 : Int32)) + (1 : Int32)) + (x5 &&& (1 : Int32))) % (3 : Int32)) ((x3 &&& (2147483647 : Int32)) % (4 : Int32)) x4 c41 F41 kA34 hk34 (0 : Int64) (0 : Int64) (0 : Int64) (0 : Int64) kA35 hk35 (-1 : Int32) (-1 : Int32) (-1 : Int32) (-1 : Int32) kA36 hk36 (-1 : Int32) (-1 : Int32) (-1 : Int32) kA37 hk37 ((x0 &&& (2147483647 : Int32)) % (3 : Int32)) (0 : Int32) (0 : Int32) kA38 hk38 (1 : Int32) (0 : Int32) (0 : Int32) kA39 hk39 x2 (0 : Int64) (0 : Int64) _ P52) (a := (n0 + 0)) (P52.exa (i := 0) rfl F41.1) (by decide) (by decide) (by decide) (by decide) (by decide) (argsL := [.int (((((x0 &&& (2147483647 : Int32)) % (3 : Int32)) + (1 : Int32)) + (x5 &&& (1 : Int32))) % (3 : Int32)), .int ((x3 &&& (2147483647 : Int32)) % (4 : Int32)), .long x4]) (rest := []) pd4 rfl rfl rfl (Nat.le_of_eq rfl) (hb hby at_117) (pc' := 120) rfl ?_
      intro _ T53 L49 X53 hq
      obtain ⟨rfl, N49, c42, F42, P53⟩ := hq
      replace N49 := Fr.app N48 N49
      replace P53 : HP n0 T53.heap [c42, AC kA34 [.long (0 : Int64), .long (0 : Int64), .long (0 : Int64), .long (0 : Int64)], AC kA35 [.int (-1 : Int32), .int (-1 : Int32), .int (-1 : Int32), .int (-1 : Int32)], AC kA36 [.int (-1 : Int32), .int (-1 : Int32), .int (-1 : Int32)], AC kA37 [.int (((((x0 &&& (2147483647 : Int32)) % (3 : Int32)) + (1 : Int32)) + (x5 &&& (1 : Int32))) % (3 : Int32)), .int (0 : Int32), .int (0 : Int32)], AC kA38 [.int ((x3 &&& (2147483647 : Int32)) % (4 : Int32)), .int (0 : Int32), .int (0 : Int32)], AC kA39 [.long x4, .long (0 : Int64), .long (0 : Int64)]] := P53
      refine w_iload X53 hx (hb hby at_120) rfl (pc' := 122) rfl ?_
      refine w_if_eq X53 hx (hb hby at_122) (by decide) (pcY := 129) (by decide) (pc' := 125) rfl (fun h59 => absurd h59 (by decide)) (fun h59 => ?_)
      refine w_iconst (v := (0 : Int32)) X53 hx (hb hby at_125) rfl (pc' := 126) rfl ?_
      refine w_goto X53 hx (hb hby at_126) (by decide) (pc' := 130) (by decide) ?_
      refine w_istore (l' := #[.val (.int x0), .val (.int x1), .val (.long x2), .second, .val (.int x3), .val (.long x4), .second, .val (.int x5), .val (.int ((x0 &&& (2147483647 : Int32)) % (3 : Int32))), .val (.int (((((x0 &&& (2147483647 : Int32)) % (3 : Int32)) + (1 : Int32)) + (x5 &&& (1 : Int32))) % (3 : Int32))), .val (.int (1 : Int32)), .val (.int ((x3 &&& (2147483647 : Int32)) % (4 : Int32))), .val (.int (1 : Int32)), .val (.ref (n0 + 0)), .val (.int (1 : Int32)), .val (.int (0 : Int32))]) X53 hx (hb hby at_130) rfl (pc' := 132) rfl ?_
      refine w_iload X53 hx (hb hby at_132) rfl (pc' := 134) rfl ?_
      refine w_if_eq X53 hx (hb hby at_134) (by decide) (pcY := 202) (by decide) (pc' := 137) rfl (fun h60 => absurd h60 (by decide)) (fun h60 => ?_)
      refine w_aload X53 hx (hb hby at_137) rfl rfl (pc' := 139) rfl ?_
      refine own_callV (W := 0) X53 hx hZ rfl hown hml.symm (wd39 hw) (wd40 hw) (wd42 hw) (wd41 hw) (wd3 hw) (wd43 hw) (rm5_19 l Z a0 hw [] n0 c42 F42 kA34 hk34 (0 : Int64) (0 : Int64) (0 : Int64) (0 : Int64) kA35 hk35 (-1 : Int32) (-1 : Int32) (-1 : Int32) (-1 : Int32) kA36 hk36 (-1 : Int32) (-1 : Int32) (-1 : Int32) kA37 hk37 (((((x0 &&& (2147483647 : Int32)) % (3 : Int32)) + (1 : Int32)) + (x5 &&& (1 : Int32))) % (3 : Int32)) (0 : Int32) (0 : Int32) kA38 hk38 ((x3 &&& (2147483647 : Int32)) % (4 : Int32)) (0 : Int32) (0 : Int32) kA39 hk39 x4 (0 : Int64) (0 : Int64) _ P53) (a := (n0 + 0)) (P53.exa (i := 0) rfl F42.1) (by decide) (by decide) (by decide) (by decide) (by decide) (argsL := []) (rest := []) pd5 rfl rfl rfl (Nat.le_of_eq rfl) (hb hby at_139) (pc' := 142) rfl ?_
      intro _ T54 L50 X54 hq
      obtain ⟨rfl, N50, P54⟩ := hq
      replace N50 := Fr.app N49 N50
      replace P54 : HP n0 T54.heap [c42, AC kA34 [.long (0 : Int64), .long (0 : Int64), .long (0 : Int64), .long (0 : Int64)], AC kA35 [.int (-1 : Int32), .int (-1 : Int32), .int (-1 : Int32), .int (-1 : Int32)], AC kA36 [.int (-1 : Int32), .int (-1 : Int32), .int (-1 : Int32)], AC kA37 [.int (((((x0 &&& (2147483647 : Int32)) % (3 : Int32)) + (1 : Int32)) + (x5 &&& (1 : Int32))) % (3 : Int32)), .int (0 : Int32), .int (0 : Int32)], AC kA38 [.int ((x3 &&& (2147483647 : Int32)) % (4 : Int32)), .int (0 : Int32), .int (0 : Int32)], AC kA39 [.long x4, .long (0 : Int64), .long (0 : Int64)]] := P54
      refine w_iload X54 hx (hb hby at_142) rfl (pc' := 144) rfl ?_
      refine w_iconst (v := (1 : Int32)) X54 hx (hb hby at_144) rfl (pc' := 145) rfl ?_
      refine w_iadd X54 hx (hb hby at_145) (pc' := 146) rfl ?_
      refine w_eqI (z := (1 : Int32)) (by decide) ?_
      refine w_icmp_ne X54 hx (hb hby at_146) (by decide) (pcY := 202) (by decide) (pc' := 149) rfl (fun h61 => absurd h61 (by decide)) (fun h61 => ?_)
      refine w_aload X54 hx (hb hby at_149) rfl rfl (pc' := 151) rfl ?_
      refine w_iload X54 hx (hb hby at_151) rfl (pc' := 153) rfl ?_
      refine own_callV (W := 0) X54 hx hZ rfl hown hml.symm (wd54 hw) (wd55 hw) (wd57 hw) (wd56 hw) (wd3 hw) (wd58 hw) (rm8_20 l Z a0 hw [] n0 c42 F42 kA34 hk34 (0 : Int64) (0 : Int64) (0 : Int64) (0 : Int64) kA35 hk35 (-1 : Int32) (-1 : Int32) (-1 : Int32) (-1 : Int32) kA36 hk36 (-1 : Int32) (-1 : Int32) (-1 : Int32) kA37 hk37 (((((x0 &&& (2147483647 : Int32)) % (3 : Int32)) + (1 : Int32)) + (x5 &&& (1 : Int32))) % (3 : Int32)) (0 : Int32) (0 : Int32) kA38 hk38 ((x3 &&& (2147483647 : Int32)) % (4 : Int32)) (0 : Int32) (0 : Int32) kA39 hk39 x4 (0 : Int64) (0 : Int64) _ P54) (a := (n0 + 0)) (P54.exa (i := 0) rfl F42.1) (by decide) (by decide) (by decide) (by decide) (by decide) (argsL := [.int (0 : Int32)]) (rest := []) pd8 rfl rfl rfl (Nat.le_of_eq rfl) (hb hby at_153) (pc' := 156) rfl ?_
      intro _ T55 L51 X55 hq
      obtain ⟨rfl, N51, P55⟩ := hq
      replace N51 := Fr.app N50 N51
      replace P55 : HP n0 T55.heap [c42, AC kA34 [.long (0 : Int64), .long (0 : Int64), .long (0 : Int64), .long (0 : Int64)], AC kA35 [.int (-1 : Int32), .int (-1 : Int32), .int (-1 : Int32), .int (-1 : Int32)], AC kA36 [.int (-1 : Int32), .int (-1 : Int32), .int (-1 : Int32)], AC kA37 [.int (((((x0 &&& (2147483647 : Int32)) % (3 : Int32)) + (1 : Int32)) + (x5 &&& (1 : Int32))) % (3 : Int32)), .int (0 : Int32), .int (0 : Int32)], AC kA38 [.int ((x3 &&& (2147483647 : Int32)) % (4 : Int32)), .int (0 : Int32), .int (0 : Int32)], AC kA39 [.long x4, .long (0 : Int64), .long (0 : Int64)]] := P55
      refine w_iload X55 hx (hb hby at_156) rfl (pc' := 158) rfl ?_
      refine w_icmp_ne X55 hx (hb hby at_158) (by decide) (pcY := 202) (by decide) (pc' := 161) rfl (fun h62 => absurd rfl h62) (fun h62 => ?_)
      refine w_aload X55 hx (hb hby at_161) rfl rfl (pc' := 163) rfl ?_
      refine w_iload X55 hx (hb hby at_163) rfl (pc' := 165) rfl ?_
      refine own_callV (W := 0) X55 hx hZ rfl hown hml.symm (wd59 hw) (wd60 hw) (wd62 hw) (wd61 hw) (wd3 hw) (wd63 hw) (rm9_21 l Z a0 hw [] n0 c42 F42 kA34 hk34 (0 : Int64) (0 : Int64) (0 : Int64) (0 : Int64) kA35 hk35 (-1 : Int32) (-1 : Int32) (-1 : Int32) (-1 : Int32) kA36 hk36 (-1 : Int32) (-1 : Int32) (-1 : Int32) kA37 hk37 (((((x0 &&& (2147483647 : Int32)) % (3 : Int32)) + (1 : Int32)) + (x5 &&& (1 : Int32))) % (3 : Int32)) (0 : Int32) (0 : Int32) kA38 hk38 ((x3 &&& (2147483647 : Int32)) % (4 : Int32)) (0 : Int32) (0 : Int32) kA39 hk39 x4 (0 : Int64) (0 : Int64) _ P55) (a := (n0 + 0)) (P55.exa (i := 0) rfl F42.1) (by decide) (by decide) (by decide) (by decide) (by decide) (argsL := [.int (0 : Int32)]) (rest := []) pd9 rfl rfl rfl (Nat.le_of_eq rfl) (hb hby at_165) (pc' := 168) rfl ?_
      intro _ T56 L52 X56 hq
      obtain ⟨rfl, N52, P56⟩ := hq
      replace N52 := Fr.app N51 N52
      replace P56 : HP n0 T56.heap [c42, AC kA34 [.long (0 : Int64), .long (0 : Int64), .long (0 : Int64), .long (0 : Int64)], AC kA35 [.int (-1 : Int32), .int (-1 : Int32), .int (-1 : Int32), .int (-1 : Int32)], AC kA36 [.int (-1 : Int32), .int (-1 : Int32), .int (-1 : Int32)], AC kA37 [.int (((((x0 &&& (2147483647 : Int32)) % (3 : Int32)) + (1 : Int32)) + (x5 &&& (1 : Int32))) % (3 : Int32)), .int (0 : Int32), .int (0 : Int32)], AC kA38 [.int ((x3 &&& (2147483647 : Int32)) % (4 : Int32)), .int (0 : Int32), .int (0 : Int32)], AC kA39 [.long x4, .long (0 : Int64), .long (0 : Int64)]] := P56
      refine w_iload X56 hx (hb hby at_168) rfl (pc' := 170) rfl ?_
      refine w_icmp_ne X56 hx (hb hby at_170) (by decide) (pcY := 202) (by decide) (pc' := 173) rfl (fun h63 => absurd rfl h63) (fun h63 => ?_)
      refine w_aload X56 hx (hb hby at_173) rfl rfl (pc' := 175) rfl ?_
      refine w_iload X56 hx (hb hby at_175) rfl (pc' := 177) rfl ?_
      refine own_callV (W := 0) X56 hx hZ rfl hown hml.symm (wd64 hw) (wd65 hw) (wd67 hw) (wd66 hw) (wd3 hw) (wd68 hw) (rm10_22 l Z a0 hw [] n0 c42 F42 kA34 hk34 (0 : Int64) (0 : Int64) (0 : Int64) (0 : Int64) kA35 hk35 (-1 : Int32) (-1 : Int32) (-1 : Int32) (-1 : Int32) kA36 hk36 (-1 : Int32) (-1 : Int32) (-1 : Int32) kA37 hk37 (((((x0 &&& (2147483647 : Int32)) % (3 : Int32)) + (1 : Int32)) + (x5 &&& (1 : Int32))) % (3 : Int32)) (0 : Int32) (0 : Int32) kA38 hk38 ((x3 &&& (2147483647 : Int32)) % (4 : Int32)) (0 : Int32) (0 : Int32) kA39 hk39 x4 (0 : Int64) (0 : Int64) _ P56) (a := (n0 + 0)) (P56.exa (i := 0) rfl F42.1) (by decide) (by decide) (by decide) (by decide) (by decide) (argsL := [.int (0 : Int32)]) (rest := []) pd10 rfl rfl rfl (Nat.le_of_eq rfl) (hb hby at_177) (pc' := 180) rfl ?_
      intro _ T57 L53 X57 hq
      obtain ⟨rfl, N53, P57⟩ := hq
      replace N53 := Fr.app N52 N53
      replace P57 : HP n0 T57.heap [c42, AC kA34 [.long (0 : Int64), .long (0 : Int64), .long (0 : Int64), .long (0 : Int64)], AC kA35 [.int (-1 : Int32), .int (-1 : Int32), .int (-1 : Int32), .int (-1 : Int32)], AC kA36 [.int (-1 : Int32), .int (-1 : Int32), .int (-1 : Int32)], AC kA37 [.int (((((x0 &&& (2147483647 : Int32)) % (3 : Int32)) + (1 : Int32)) + (x5 &&& (1 : Int32))) % (3 : Int32)), .int (0 : Int32), .int (0 : Int32)], AC kA38 [.int ((x3 &&& (2147483647 : Int32)) % (4 : Int32)), .int (0 : Int32), .int (0 : Int32)], AC kA39 [.long x4, .long (0 : Int64), .long (0 : Int64)]] := P57
      refine w_lload X57 hx (hb hby at_180) rfl (pc' := 182) rfl ?_
      refine w_lcmp_ne X57 hx (hb hby at_182) rfl (hb hby at_183) (by decide) (pcY := 202) (by decide) (pc' := 186) rfl (fun h64 => absurd rfl h64) (fun h64 => ?_)
      refine w_aload X57 hx (hb hby at_186) rfl rfl (pc' := 188) rfl ?_
      refine own_callV (W := 0) X57 hx hZ rfl hown hml.symm (wd44 hw) (wd45 hw) (wd47 hw) (wd46 hw) (wd3 hw) (wd48 hw) (rm6_23 l Z a0 hw [] n0 c42 F42 kA34 hk34 (0 : Int64) (0 : Int64) (0 : Int64) (0 : Int64) kA35 hk35 (-1 : Int32) (-1 : Int32) (-1 : Int32) (-1 : Int32) kA36 hk36 (-1 : Int32) (-1 : Int32) (-1 : Int32) kA37 hk37 (((((x0 &&& (2147483647 : Int32)) % (3 : Int32)) + (1 : Int32)) + (x5 &&& (1 : Int32))) % (3 : Int32)) (0 : Int32) (0 : Int32) kA38 hk38 ((x3 &&& (2147483647 : Int32)) % (4 : Int32)) (0 : Int32) (0 : Int32) kA39 hk39 x4 (0 : Int64) (0 : Int64) _ P57) (a := (n0 + 0)) (P57.exa (i := 0) rfl F42.1) (by decide) (by decide) (by decide) (by decide) (by decide) (argsL := []) (rest := []) pd6 rfl rfl rfl (Nat.le_of_eq rfl) (hb hby at_188) (pc' := 191) rfl ?_
      intro _ T58 L54 X58 hq
      obtain ⟨rfl, N54, P58⟩ := hq
      replace N54 := Fr.app N53 N54
      replace P58 : HP n0 T58.heap [c42, AC kA34 [.long (0 : Int64), .long (0 : Int64), .long (0 : Int64), .long (0 : Int64)], AC kA35 [.int (-1 : Int32), .int (-1 : Int32), .int (-1 : Int32), .int (-1 : Int32)], AC kA36 [.int (-1 : Int32), .int (-1 : Int32), .int (-1 : Int32)], AC kA37 [.int (((((x0 &&& (2147483647 : Int32)) % (3 : Int32)) + (1 : Int32)) + (x5 &&& (1 : Int32))) % (3 : Int32)), .int (0 : Int32), .int (0 : Int32)], AC kA38 [.int ((x3 &&& (2147483647 : Int32)) % (4 : Int32)), .int (0 : Int32), .int (0 : Int32)], AC kA39 [.long x4, .long (0 : Int64), .long (0 : Int64)]] := P58
      refine w_ldc2 X58 hx (hb hby at_191) hown (mvT hZ (wd69 hw)) (pc' := 194) rfl ?_
      refine w_lcmp_ne X58 hx (hb hby at_194) rfl (hb hby at_195) (by decide) (pcY := 202) (by decide) (pc' := 198) rfl (fun h65 => absurd h65 (by decide)) (fun h65 => ?_)
      refine w_iconst (v := (1 : Int32)) X58 hx (hb hby at_198) rfl (pc' := 199) rfl ?_
      refine w_goto X58 hx (hb hby at_199) (by decide) (pc' := 203) (by decide) ?_
      refine w_istore (l' := #[.val (.int x0), .val (.int x1), .val (.long x2), .second, .val (.int x3), .val (.long x4), .second, .val (.int x5), .val (.int ((x0 &&& (2147483647 : Int32)) % (3 : Int32))), .val (.int (((((x0 &&& (2147483647 : Int32)) % (3 : Int32)) + (1 : Int32)) + (x5 &&& (1 : Int32))) % (3 : Int32))), .val (.int (1 : Int32)), .val (.int ((x3 &&& (2147483647 : Int32)) % (4 : Int32))), .val (.int (1 : Int32)), .val (.ref (n0 + 0)), .val (.int (1 : Int32)), .val (.int (0 : Int32))]) X58 hx (hb hby at_203) rfl (pc' := 205) rfl ?_
      refine w_iload X58 hx (hb hby at_205) rfl (pc' := 207) rfl ?_
      refine w_if_ne X58 hx (hb hby at_207) (by decide) (pcY := 255) (by decide) (pc' := 210) rfl (fun h66 => ?_) (fun h66 => absurd h66 (by decide))
      refine w_iload X58 hx (hb hby at_255) rfl (pc' := 257) rfl ?_
      refine w_if_eq X58 hx (hb hby at_257) (by decide) (pcY := 285) (by decide) (pc' := 260) rfl (fun h67 => absurd h67 (by decide)) (fun h67 => ?_)
      refine w_aload X58 hx (hb hby at_260) rfl rfl (pc' := 262) rfl ?_
      refine own_callV (W := 0) X58 hx hZ rfl hown hml.symm (wd70 hw) (wd71 hw) (wd73 hw) (wd72 hw) (wd3 hw) (wd74 hw) (rm11_24 l Z a0 hw [] n0 c42 F42 kA34 hk34 (0 : Int64) (0 : Int64) (0 : Int64) (0 : Int64) kA35 hk35 (-1 : Int32) (-1 : Int32) (-1 : Int32) (-1 : Int32) kA36 hk36 (-1 : Int32) (-1 : Int32) (-1 : Int32) kA37 hk37 (((((x0 &&& (2147483647 : Int32)) % (3 : Int32)) + (1 : Int32)) + (x5 &&& (1 : Int32))) % (3 : Int32)) (0 : Int32) (0 : Int32) kA38 hk38 ((x3 &&& (2147483647 : Int32)) % (4 : Int32)) (0 : Int32) (0 : Int32) kA39 hk39 x4 (0 : Int64) (0 : Int64) _ P58) (a := (n0 + 0)) (P58.exa (i := 0) rfl F42.1) (by decide) (by decide) (by decide) (by decide) (by decide) (argsL := []) (rest := []) pd11 rfl rfl rfl (Nat.le_of_eq rfl) (hb hby at_262) (pc' := 265) rfl ?_
      intro _ T59 L55 X59 hq
      obtain ⟨rfl, N55, P59⟩ := hq
      replace N55 := Fr.app N54 N55
      replace P59 : HP n0 T59.heap [c42, AC kA34 [.long (0 : Int64), .long (0 : Int64), .long (0 : Int64), .long (0 : Int64)], AC kA35 [.int (-1 : Int32), .int (-1 : Int32), .int (-1 : Int32), .int (-1 : Int32)], AC kA36 [.int (-1 : Int32), .int (-1 : Int32), .int (-1 : Int32)], AC kA37 [.int (((((x0 &&& (2147483647 : Int32)) % (3 : Int32)) + (1 : Int32)) + (x5 &&& (1 : Int32))) % (3 : Int32)), .int (0 : Int32), .int (0 : Int32)], AC kA38 [.int ((x3 &&& (2147483647 : Int32)) % (4 : Int32)), .int (0 : Int32), .int (0 : Int32)], AC kA39 [.long x4, .long (0 : Int64), .long (0 : Int64)]] := P59
      refine w_iconst (v := (3 : Int32)) X59 hx (hb hby at_265) rfl (pc' := 266) rfl ?_
      refine w_icmp_ne X59 hx (hb hby at_266) (by decide) (pcY := 285) (by decide) (pc' := 269) rfl (fun h68 => absurd h68 (by decide)) (fun h68 => ?_)
      refine w_aload X59 hx (hb hby at_269) rfl rfl (pc' := 271) rfl ?_
      refine w_iload X59 hx (hb hby at_271) rfl (pc' := 273) rfl ?_
      refine own_callV (W := 0) X59 hx hZ rfl hown hml.symm (wd75 hw) (wd76 hw) (wd78 hw) (wd77 hw) (wd3 hw) (wd79 hw) (rm12_28 l Z a0 hw [] n0 c42 F42 kA34 hk34 (0 : Int64) (0 : Int64) (0 : Int64) (0 : Int64) kA35 hk35 (-1 : Int32) (-1 : Int32) (-1 : Int32) (-1 : Int32) kA36 hk36 (-1 : Int32) (-1 : Int32) (-1 : Int32) kA37 hk37 (((((x0 &&& (2147483647 : Int32)) % (3 : Int32)) + (1 : Int32)) + (x5 &&& (1 : Int32))) % (3 : Int32)) (0 : Int32) (0 : Int32) kA38 hk38 ((x3 &&& (2147483647 : Int32)) % (4 : Int32)) (0 : Int32) (0 : Int32) kA39 hk39 x4 (0 : Int64) (0 : Int64) _ P59) (a := (n0 + 0)) (P59.exa (i := 0) rfl F42.1) (by decide) (by decide) (by decide) (by decide) (by decide) (argsL := [.int (1 : Int32)]) (rest := []) pd12 rfl rfl rfl (Nat.le_of_eq rfl) (hb hby at_273) (pc' := 276) rfl ?_
      intro _ T60 L56 X60 hq
      obtain ⟨rfl, N56, P60⟩ := hq
      replace N56 := Fr.app N55 N56
      replace P60 : HP n0 T60.heap [c42, AC kA34 [.long (0 : Int64), .long (0 : Int64), .long (0 : Int64), .long (0 : Int64)], AC kA35 [.int (-1 : Int32), .int (-1 : Int32), .int (-1 : Int32), .int (-1 : Int32)], AC kA36 [.int (-1 : Int32), .int (-1 : Int32), .int (-1 : Int32)], AC kA37 [.int (((((x0 &&& (2147483647 : Int32)) % (3 : Int32)) + (1 : Int32)) + (x5 &&& (1 : Int32))) % (3 : Int32)), .int (0 : Int32), .int (0 : Int32)], AC kA38 [.int ((x3 &&& (2147483647 : Int32)) % (4 : Int32)), .int (0 : Int32), .int (0 : Int32)], AC kA39 [.long x4, .long (0 : Int64), .long (0 : Int64)]] := P60
      refine w_lconst (v := (0 : Int64)) X60 hx (hb hby at_276) rfl (pc' := 277) rfl ?_
      refine w_lcmp_ne X60 hx (hb hby at_277) rfl (hb hby at_278) (by decide) (pcY := 285) (by decide) (pc' := 281) rfl (fun h69 => absurd h69 (by decide)) (fun h69 => ?_)
      refine w_iconst (v := (1 : Int32)) X60 hx (hb hby at_281) rfl (pc' := 282) rfl ?_
      refine w_goto X60 hx (hb hby at_282) (by decide) (pc' := 286) (by decide) ?_
      refine w_istore (l' := #[.val (.int x0), .val (.int x1), .val (.long x2), .second, .val (.int x3), .val (.long x4), .second, .val (.int x5), .val (.int ((x0 &&& (2147483647 : Int32)) % (3 : Int32))), .val (.int (((((x0 &&& (2147483647 : Int32)) % (3 : Int32)) + (1 : Int32)) + (x5 &&& (1 : Int32))) % (3 : Int32))), .val (.int (1 : Int32)), .val (.int ((x3 &&& (2147483647 : Int32)) % (4 : Int32))), .val (.int (1 : Int32)), .val (.ref (n0 + 0)), .val (.int (1 : Int32)), .val (.int (0 : Int32))]) X60 hx (hb hby at_286) rfl (pc' := 288) rfl ?_
      refine w_iload X60 hx (hb hby at_288) rfl (pc' := 290) rfl ?_
      exact w_ret_n (t := .boolean) X60 hx hret hlk (by simp) (hb hby at_290) (z' := (1 : Int32)) rfl (by decide) (by decide) ⟨rfl, N56⟩
  · refine w_eqI (z := (2 : Int32)) g2 ?_
    refine w_istore (l' := #[.val (.int x0), .val (.int x1), .val (.long x2), .second, .val (.int x3), .val (.long x4), .second, .val (.int x5), .val (.int ((x0 &&& (2147483647 : Int32)) % (3 : Int32))), .val (.int (((((x0 &&& (2147483647 : Int32)) % (3 : Int32)) + (1 : Int32)) + (x5 &&& (1 : Int32))) % (3 : Int32))), .val (.int (2 : Int32)), .unset, .unset, .unset, .unset, .unset]) X0 hx (hb hby at_27) rfl (pc' := 29) rfl ?_
    refine w_iload X0 hx (hb hby at_29) rfl (pc' := 31) rfl ?_
    refine w_ldc X0 hx (hb hby at_31) hown (mvT hZ (wd0 hw)) (pc' := 33) rfl ?_
    refine w_iand X0 hx (hb hby at_33) (pc' := 34) rfl ?_
    refine w_iconst (v := (4 : Int32)) X0 hx (hb hby at_34) rfl (pc' := 35) rfl ?_
    refine w_irem X0 hx (hb hby at_35) (by decide) (pc' := 36) rfl ?_
    refine w_istore (l' := #[.val (.int x0), .val (.int x1), .val (.long x2), .second, .val (.int x3), .val (.long x4), .second, .val (.int x5), .val (.int ((x0 &&& (2147483647 : Int32)) % (3 : Int32))), .val (.int (((((x0 &&& (2147483647 : Int32)) % (3 : Int32)) + (1 : Int32)) + (x5 &&& (1 : Int32))) % (3 : Int32))), .val (.int (2 : Int32)), .val (.int ((x3 &&& (2147483647 : Int32)) % (4 : Int32))), .unset, .unset, .unset, .unset]) X0 hx (hb hby at_36) rfl (pc' := 38) rfl ?_
    refine w_iload X0 hx (hb hby at_38) rfl (pc' := 40) rfl ?_
    refine w_iconst (v := (2 : Int32)) X0 hx (hb hby at_40) rfl (pc' := 41) rfl ?_
    refine w_iand X0 hx (hb hby at_41) (pc' := 42) rfl ?_
    refine w_if_eq X0 hx (hb hby at_42) (by decide) (pcY := 49) (by decide) (pc' := 45) rfl (fun h70 => ?_) (fun h70 => ?_)
    · refine w_iconst (v := (0 : Int32)) X0 hx (hb hby at_49) rfl (pc' := 50) rfl ?_
      refine w_istore (l' := #[.val (.int x0), .val (.int x1), .val (.long x2), .second, .val (.int x3), .val (.long x4), .second, .val (.int x5), .val (.int ((x0 &&& (2147483647 : Int32)) % (3 : Int32))), .val (.int (((((x0 &&& (2147483647 : Int32)) % (3 : Int32)) + (1 : Int32)) + (x5 &&& (1 : Int32))) % (3 : Int32))), .val (.int (2 : Int32)), .val (.int ((x3 &&& (2147483647 : Int32)) % (4 : Int32))), .val (.int (0 : Int32)), .unset, .unset, .unset]) X0 hx (hb hby at_50) rfl (pc' := 52) rfl ?_
      refine w_new (j := 0) X0 hx hZ hown (wd1 hw) (wd2 hw) (wd3 hw) P0 fl_C0 dv_C0 rfl (ly_C0 hw) (hb hby at_52) (by decide) (by decide) rfl (pc' := 55) rfl ?_
      intro T61 c43 X61 P61 F43
      replace P61 : HP n0 T61.heap [c43] := P61
      refine w_dup X61 hx (hb hby at_55) rfl (pc' := 56) rfl ?_
      refine w_iconst (v := (3 : Int32)) X61 hx (hb hby at_56) rfl (pc' := 57) rfl ?_
      refine w_iconst (v := (4 : Int32)) X61 hx (hb hby at_57) rfl (pc' := 58) rfl ?_
      refine own_callI (W := 1) X61 hx hZ rfl rfl hown hml.symm (wd4 hw) (wd5 hw) (wd3 hw) (wd6 hw) (rm1_0 l Z a0 hw [] n0 c43 F43 _ P61) (by decide) (by decide) (by decide) (by decide) (by decide) (a := (n0 + 0)) (argsL := [.int (3 : Int32), .int (4 : Int32)]) (rest := [.ref (n0 + 0)]) pd1 rfl rfl rfl (Nat.le_of_eq rfl) (hb hby at_58) (pc' := 61) rfl ?_
      intro _ T62 L57 X62 hq
      obtain ⟨rfl, N57, c44, F44, kA45, hk45, kA46, hk46, kA47, hk47, kA48, hk48, kA49, hk49, kA50, hk50, P62⟩ := hq
      replace N57 := Fr.app N0 N57
      replace P62 : HP n0 T62.heap [c44, AC kA45 [.long (0 : Int64), .long (0 : Int64), .long (0 : Int64), .long (0 : Int64)], AC kA46 [.int (-1 : Int32), .int (-1 : Int32), .int (-1 : Int32), .int (-1 : Int32)], AC kA47 [.int (-1 : Int32), .int (-1 : Int32), .int (-1 : Int32)], AC kA48 [.int (0 : Int32), .int (0 : Int32), .int (0 : Int32)], AC kA49 [.int (0 : Int32), .int (0 : Int32), .int (0 : Int32)], AC kA50 [.long (0 : Int64), .long (0 : Int64), .long (0 : Int64)]] := P62
      refine w_astore (l' := #[.val (.int x0), .val (.int x1), .val (.long x2), .second, .val (.int x3), .val (.long x4), .second, .val (.int x5), .val (.int ((x0 &&& (2147483647 : Int32)) % (3 : Int32))), .val (.int (((((x0 &&& (2147483647 : Int32)) % (3 : Int32)) + (1 : Int32)) + (x5 &&& (1 : Int32))) % (3 : Int32))), .val (.int (2 : Int32)), .val (.int ((x3 &&& (2147483647 : Int32)) % (4 : Int32))), .val (.int (0 : Int32)), .val (.ref (n0 + 0)), .unset, .unset]) X62 hx (hb hby at_61) rfl rfl (pc' := 63) rfl ?_
      refine w_aload X62 hx (hb hby at_63) rfl rfl (pc' := 65) rfl ?_
      refine w_iload X62 hx (hb hby at_65) rfl (pc' := 67) rfl ?_
      refine w_iload X62 hx (hb hby at_67) rfl (pc' := 69) rfl ?_
      refine w_lloadN X62 hx (hb hby at_69) rfl (pc' := 70) rfl ?_
      refine own_callV (W := 0) X62 hx hZ rfl hown hml.symm (wd30 hw) (wd31 hw) (wd33 hw) (wd32 hw) (wd3 hw) (wd34 hw) (rm4_29 l Z a0 hw [] n0 ((x0 &&& (2147483647 : Int32)) % (3 : Int32)) x2 c44 F44 kA45 hk45 (0 : Int64) (0 : Int64) (0 : Int64) (0 : Int64) kA46 hk46 (-1 : Int32) (-1 : Int32) (-1 : Int32) (-1 : Int32) kA47 hk47 (-1 : Int32) (-1 : Int32) (-1 : Int32) kA48 hk48 (0 : Int32) (0 : Int32) (0 : Int32) kA49 hk49 (0 : Int32) (0 : Int32) (0 : Int32) kA50 hk50 (0 : Int64) (0 : Int64) (0 : Int64) _ P62) (a := (n0 + 0)) (P62.exa (i := 0) rfl F44.1) (by decide) (by decide) (by decide) (by decide) (by decide) (argsL := [.int ((x0 &&& (2147483647 : Int32)) % (3 : Int32)), .int (2 : Int32), .long x2]) (rest := []) pd4 rfl rfl rfl (Nat.le_of_eq rfl) (hb hby at_70) (pc' := 73) rfl ?_
      intro _ T63 L58 X63 hq
      obtain ⟨rfl, N58, c51, F51, P63⟩ := hq
      replace N58 := Fr.app N57 N58
      replace P63 : HP n0 T63.heap [c51, AC kA45 [.long (0 : Int64), .long (0 : Int64), .long (0 : Int64), .long (0 : Int64)], AC kA46 [.int (-1 : Int32), .int (-1 : Int32), .int (-1 : Int32), .int (-1 : Int32)], AC kA47 [.int (-1 : Int32), .int (-1 : Int32), .int (-1 : Int32)], AC kA48 [.int ((x0 &&& (2147483647 : Int32)) % (3 : Int32)), .int (0 : Int32), .int (0 : Int32)], AC kA49 [.int (2 : Int32), .int (0 : Int32), .int (0 : Int32)], AC kA50 [.long x2, .long (0 : Int64), .long (0 : Int64)]] := P63
      refine w_aload X63 hx (hb hby at_73) rfl rfl (pc' := 75) rfl ?_
      refine own_callV (W := 0) X63 hx hZ rfl hown hml.symm (wd39 hw) (wd40 hw) (wd42 hw) (wd41 hw) (wd3 hw) (wd43 hw) (rm5_4 l Z a0 hw [] n0 c51 F51 kA45 hk45 (0 : Int64) (0 : Int64) (0 : Int64) (0 : Int64) kA46 hk46 (-1 : Int32) (-1 : Int32) (-1 : Int32) (-1 : Int32) kA47 hk47 (-1 : Int32) (-1 : Int32) (-1 : Int32) kA48 hk48 ((x0 &&& (2147483647 : Int32)) % (3 : Int32)) (0 : Int32) (0 : Int32) kA49 hk49 (2 : Int32) (0 : Int32) (0 : Int32) kA50 hk50 x2 (0 : Int64) (0 : Int64) _ P63) (a := (n0 + 0)) (P63.exa (i := 0) rfl F51.1) (by decide) (by decide) (by decide) (by decide) (by decide) (argsL := []) (rest := []) pd5 rfl rfl rfl (Nat.le_of_eq rfl) (hb hby at_75) (pc' := 78) rfl ?_
      intro _ T64 L59 X64 hq
      obtain ⟨rfl, N59, P64⟩ := hq
      replace N59 := Fr.app N58 N59
      replace P64 : HP n0 T64.heap [c51, AC kA45 [.long (0 : Int64), .long (0 : Int64), .long (0 : Int64), .long (0 : Int64)], AC kA46 [.int (-1 : Int32), .int (-1 : Int32), .int (-1 : Int32), .int (-1 : Int32)], AC kA47 [.int (-1 : Int32), .int (-1 : Int32), .int (-1 : Int32)], AC kA48 [.int ((x0 &&& (2147483647 : Int32)) % (3 : Int32)), .int (0 : Int32), .int (0 : Int32)], AC kA49 [.int (2 : Int32), .int (0 : Int32), .int (0 : Int32)], AC kA50 [.long x2, .long (0 : Int64), .long (0 : Int64)]] := P64
      refine w_iconst (v := (1 : Int32)) X64 hx (hb hby at_78) rfl (pc' := 79) rfl ?_
      refine w_icmp_ne X64 hx (hb hby at_79) (by decide) (pcY := 96) (by decide) (pc' := 82) rfl (fun h71 => absurd h71 (by decide)) (fun h71 => ?_)
      refine w_aload X64 hx (hb hby at_82) rfl rfl (pc' := 84) rfl ?_
      refine own_callV (W := 0) X64 hx hZ rfl hown hml.symm (wd44 hw) (wd45 hw) (wd47 hw) (wd46 hw) (wd3 hw) (wd48 hw) (rm6_5 l Z a0 hw [] n0 c51 F51 kA45 hk45 (0 : Int64) (0 : Int64) (0 : Int64) (0 : Int64) kA46 hk46 (-1 : Int32) (-1 : Int32) (-1 : Int32) (-1 : Int32) kA47 hk47 (-1 : Int32) (-1 : Int32) (-1 : Int32) kA48 hk48 ((x0 &&& (2147483647 : Int32)) % (3 : Int32)) (0 : Int32) (0 : Int32) kA49 hk49 (2 : Int32) (0 : Int32) (0 : Int32) kA50 hk50 x2 (0 : Int64) (0 : Int64) _ P64) (a := (n0 + 0)) (P64.exa (i := 0) rfl F51.1) (by decide) (by decide) (by decide) (by decide) (by decide) (argsL := []) (rest := []) pd6 rfl rfl rfl (Nat.le_of_eq rfl) (hb hby at_84) (pc' := 87) rfl ?_
      intro _ T65 L60 X65 hq
      obtain ⟨rfl, N60, P65⟩ := hq
      replace N60 := Fr.app N59 N60
      replace P65 : HP n0 T65.heap [c51, AC kA45 [.long (0 : Int64), .long (0 : Int64), .long (0 : Int64), .long (0 : Int64)], AC kA46 [.int (-1 : Int32), .int (-1 : Int32), .int (-1 : Int32), .int (-1 : Int32)], AC kA47 [.int (-1 : Int32), .int (-1 : Int32), .int (-1 : Int32)], AC kA48 [.int ((x0 &&& (2147483647 : Int32)) % (3 : Int32)), .int (0 : Int32), .int (0 : Int32)], AC kA49 [.int (2 : Int32), .int (0 : Int32), .int (0 : Int32)], AC kA50 [.long x2, .long (0 : Int64), .long (0 : Int64)]] := P65
      refine w_lconst (v := (1 : Int64)) X65 hx (hb hby at_87) rfl (pc' := 88) rfl ?_
      refine w_lcmp_ne X65 hx (hb hby at_88) rfl (hb hby at_89) (by decide) (pcY := 96) (by decide) (pc' := 92) rfl (fun h72 => absurd h72 (by decide)) (fun h72 => ?_)
      refine w_iconst (v := (1 : Int32)) X65 hx (hb hby at_92) rfl (pc' := 93) rfl ?_
      refine w_goto X65 hx (hb hby at_93) (by decide) (pc' := 97) (by decide) ?_
      refine w_istore (l' := #[.val (.int x0), .val (.int x1), .val (.long x2), .second, .val (.int x3), .val (.long x4), .second, .val (.int x5), .val (.int ((x0 &&& (2147483647 : Int32)) % (3 : Int32))), .val (.int (((((x0 &&& (2147483647 : Int32)) % (3 : Int32)) + (1 : Int32)) + (x5 &&& (1 : Int32))) % (3 : Int32))), .val (.int (2 : Int32)), .val (.int ((x3 &&& (2147483647 : Int32)) % (4 : Int32))), .val (.int (0 : Int32)), .val (.ref (n0 + 0)), .val (.int (1 : Int32)), .unset]) X65 hx (hb hby at_97) rfl (pc' := 99) rfl ?_
      refine w_iload X65 hx (hb hby at_99) rfl (pc' := 101) rfl ?_
      refine w_if_eq X65 hx (hb hby at_101) (by decide) (pcY := 109) (by decide) (pc' := 104) rfl (fun h73 => ?_) (fun h73 => absurd h73 (by decide))
      refine w_aload X65 hx (hb hby at_109) rfl rfl (pc' := 111) rfl ?_
      refine w_iload X65 hx (hb hby at_111) rfl (pc' := 113) rfl ?_
      refine w_iload X65 hx (hb hby at_113) rfl (pc' := 115) rfl ?_
      refine w_lload X65 hx (hb hby at_115) rfl (pc' := 117) rfl ?_
      refine own_callV (W := 0) X65 hx hZ rfl hown hml.symm (wd30 hw) (wd31 hw) (wd33 hw) (wd32 hw) (wd3 hw) (wd34 hw) (rm4_6 l Z a0 hw [] n0 (((((x0 &&& (2147483647 : Int32)) % (3 : Int32)) + (1 : Int32)) + (x5 &&& (1 : Int32))) % (3 : Int32)) ((x3 &&& (2147483647 : Int32)) % (4 : Int32)) x4 c51 F51 kA45 hk45 (0 : Int64) (0 : Int64) (0 : Int64) (0 : Int64) kA46 hk46 (-1 : Int32) (-1 : Int32) (-1 : Int32) (-1 : Int32) kA47 hk47 (-1 : Int32) (-1 : Int32) (-1 : Int32) kA48 hk48 ((x0 &&& (2147483647 : Int32)) % (3 : Int32)) (0 : Int32) (0 : Int32) kA49 hk49 (2 : Int32) (0 : Int32) (0 : Int32) kA50 hk50 x2 (0 : Int64) (0 : Int64) _ P65) (a := (n0 + 0)) (P65.exa (i := 0) rfl F51.1) (by decide) (by decide) (by decide) (by decide) (by decide) (argsL := [.int (((((x0 &&& (2147483647 : Int32)) % (3 : Int32)) + (1 : Int32)) + (x5 &&& (1 : Int32))) % (3 : Int32)), .int ((x3 &&& (2147483647 : Int32)) % (4 : Int32)), .long x4]) (rest := []) pd4 rfl rfl rfl (Nat.le_of_eq rfl) (hb hby at_117) (pc' := 120) rfl ?_
      intro _ T66 L61 X66 hq
      obtain ⟨rfl, N61, c52, F52, P66⟩ := hq
      replace N61 := Fr.app N60 N61
      replace P66 : HP n0 T66.heap [c52, AC kA45 [.long (0 : Int64), .long (0 : Int64), .long (0 : Int64), .long (0 : Int64)], AC kA46 [.int (-1 : Int32), .int (-1 : Int32), .int (-1 : Int32), .int (-1 : Int32)], AC kA47 [.int (-1 : Int32), .int (-1 : Int32), .int (-1 : Int32)], AC kA48 [.int ((x0 &&& (2147483647 : Int32)) % (3 : Int32)), .int (((((x0 &&& (2147483647 : Int32)) % (3 : Int32)) + (1 : Int32)) + (x5 &&& (1 : Int32))) % (3 : Int32)), .int (0 : Int32)], AC kA49 [.int (2 : Int32), .int ((x3 &&& (2147483647 : Int32)) % (4 : Int32)), .int (0 : Int32)], AC kA50 [.long x2, .long x4, .long (0 : Int64)]] := P66
      refine w_iload X66 hx (hb hby at_120) rfl (pc' := 122) rfl ?_
      refine w_if_eq X66 hx (hb hby at_122) (by decide) (pcY := 129) (by decide) (pc' := 125) rfl (fun h74 => ?_) (fun h74 => absurd h74 (by decide))
      refine w_iconst (v := (1 : Int32)) X66 hx (hb hby at_129) rfl (pc' := 130) rfl ?_
      refine w_istore (l' := #[.val (.int x0), .val (.int x1), .val (.long x2), .second, .val (.int x3), .val (.long x4), .second, .val (.int x5), .val (.int ((x0 &&& (2147483647 : Int32)) % (3 : Int32))), .val (.int (((((x0 &&& (2147483647 : Int32)) % (3 : Int32)) + (1 : Int32)) + (x5 &&& (1 : Int32))) % (3 : Int32))), .val (.int (2 : Int32)), .val (.int ((x3 &&& (2147483647 : Int32)) % (4 : Int32))), .val (.int (0 : Int32)), .val (.ref (n0 + 0)), .val (.int (1 : Int32)), .val (.int (1 : Int32))]) X66 hx (hb hby at_130) rfl (pc' := 132) rfl ?_
      refine w_iload X66 hx (hb hby at_132) rfl (pc' := 134) rfl ?_
      refine w_if_eq X66 hx (hb hby at_134) (by decide) (pcY := 202) (by decide) (pc' := 137) rfl (fun h75 => absurd h75 (by decide)) (fun h75 => ?_)
      refine w_aload X66 hx (hb hby at_137) rfl rfl (pc' := 139) rfl ?_
      refine own_callV (W := 0) X66 hx hZ rfl hown hml.symm (wd39 hw) (wd40 hw) (wd42 hw) (wd41 hw) (wd3 hw) (wd43 hw) (rm5_7 l Z a0 hw [] n0 c52 F52 kA45 hk45 (0 : Int64) (0 : Int64) (0 : Int64) (0 : Int64) kA46 hk46 (-1 : Int32) (-1 : Int32) (-1 : Int32) (-1 : Int32) kA47 hk47 (-1 : Int32) (-1 : Int32) (-1 : Int32) kA48 hk48 ((x0 &&& (2147483647 : Int32)) % (3 : Int32)) (((((x0 &&& (2147483647 : Int32)) % (3 : Int32)) + (1 : Int32)) + (x5 &&& (1 : Int32))) % (3 : Int32)) (0 : Int32) kA49 hk49 (2 : Int32) ((x3 &&& (2147483647 : Int32)) % (4 : Int32)) (0 : Int32) kA50 hk50 x2 x4 (0 : Int64) _ P66) (a := (n0 + 0)) (P66.exa (i := 0) rfl F52.1) (by decide) (by decide) (by decide) (by decide) (by decide) (argsL := []) (rest := []) pd5 rfl rfl rfl (Nat.le_of_eq rfl) (hb hby at_139) (pc' := 142) rfl ?_
      intro _ T67 L62 X67 hq
      obtain ⟨rfl, N62, P67⟩ := hq
      replace N62 := Fr.app N61 N62
      replace P67 : HP n0 T67.heap [c52, AC kA45 [.long (0 : Int64), .long (0 : Int64), .long (0 : Int64), .long (0 : Int64)], AC kA46 [.int (-1 : Int32), .int (-1 : Int32), .int (-1 : Int32), .int (-1 : Int32)], AC kA47 [.int (-1 : Int32), .int (-1 : Int32), .int (-1 : Int32)], AC kA48 [.int ((x0 &&& (2147483647 : Int32)) % (3 : Int32)), .int (((((x0 &&& (2147483647 : Int32)) % (3 : Int32)) + (1 : Int32)) + (x5 &&& (1 : Int32))) % (3 : Int32)), .int (0 : Int32)], AC kA49 [.int (2 : Int32), .int ((x3 &&& (2147483647 : Int32)) % (4 : Int32)), .int (0 : Int32)], AC kA50 [.long x2, .long x4, .long (0 : Int64)]] := P67
      refine w_iload X67 hx (hb hby at_142) rfl (pc' := 144) rfl ?_
      refine w_iconst (v := (1 : Int32)) X67 hx (hb hby at_144) rfl (pc' := 145) rfl ?_
      refine w_iadd X67 hx (hb hby at_145) (pc' := 146) rfl ?_
      refine w_eqI (z := (2 : Int32)) (by decide) ?_
      refine w_icmp_ne X67 hx (hb hby at_146) (by decide) (pcY := 202) (by decide) (pc' := 149) rfl (fun h76 => absurd h76 (by decide)) (fun h76 => ?_)
      refine w_aload X67 hx (hb hby at_149) rfl rfl (pc' := 151) rfl ?_
      refine w_iload X67 hx (hb hby at_151) rfl (pc' := 153) rfl ?_
      refine own_callV (W := 0) X67 hx hZ rfl hown hml.symm (wd54 hw) (wd55 hw) (wd57 hw) (wd56 hw) (wd3 hw) (wd58 hw) (rm8_8 l Z a0 hw [] n0 c52 F52 kA45 hk45 (0 : Int64) (0 : Int64) (0 : Int64) (0 : Int64) kA46 hk46 (-1 : Int32) (-1 : Int32) (-1 : Int32) (-1 : Int32) kA47 hk47 (-1 : Int32) (-1 : Int32) (-1 : Int32) kA48 hk48 ((x0 &&& (2147483647 : Int32)) % (3 : Int32)) (((((x0 &&& (2147483647 : Int32)) % (3 : Int32)) + (1 : Int32)) + (x5 &&& (1 : Int32))) % (3 : Int32)) (0 : Int32) kA49 hk49 (2 : Int32) ((x3 &&& (2147483647 : Int32)) % (4 : Int32)) (0 : Int32) kA50 hk50 x2 x4 (0 : Int64) _ P67) (a := (n0 + 0)) (P67.exa (i := 0) rfl F52.1) (by decide) (by decide) (by decide) (by decide) (by decide) (argsL := [.int (1 : Int32)]) (rest := []) pd8 rfl rfl rfl (Nat.le_of_eq rfl) (hb hby at_153) (pc' := 156) rfl ?_
      intro _ T68 L63 X68 hq
      obtain ⟨rfl, N63, P68⟩ := hq
      replace N63 := Fr.app N62 N63
      replace P68 : HP n0 T68.heap [c52, AC kA45 [.long (0 : Int64), .long (0 : Int64), .long (0 : Int64), .long (0 : Int64)], AC kA46 [.int (-1 : Int32), .int (-1 : Int32), .int (-1 : Int32), .int (-1 : Int32)], AC kA47 [.int (-1 : Int32), .int (-1 : Int32), .int (-1 : Int32)], AC kA48 [.int ((x0 &&& (2147483647 : Int32)) % (3 : Int32)), .int (((((x0 &&& (2147483647 : Int32)) % (3 : Int32)) + (1 : Int32)) + (x5 &&& (1 : Int32))) % (3 : Int32)), .int (0 : Int32)], AC kA49 [.int (2 : Int32), .int ((x3 &&& (2147483647 : Int32)) % (4 : Int32)), .int (0 : Int32)], AC kA50 [.long x2, .long x4, .long (0 : Int64)]] := P68
      refine w_iload X68 hx (hb hby at_156) rfl (pc' := 158) rfl ?_
      refine w_icmp_ne X68 hx (hb hby at_158) (by decide) (pcY := 202) (by decide) (pc' := 161) rfl (fun h77 => absurd rfl h77) (fun h77 => ?_)
      refine w_aload X68 hx (hb hby at_161) rfl rfl (pc' := 163) rfl ?_
      refine w_iload X68 hx (hb hby at_163) rfl (pc' := 165) rfl ?_
      refine own_callV (W := 0) X68 hx hZ rfl hown hml.symm (wd59 hw) (wd60 hw) (wd62 hw) (wd61 hw) (wd3 hw) (wd63 hw) (rm9_9 l Z a0 hw [] n0 c52 F52 kA45 hk45 (0 : Int64) (0 : Int64) (0 : Int64) (0 : Int64) kA46 hk46 (-1 : Int32) (-1 : Int32) (-1 : Int32) (-1 : Int32) kA47 hk47 (-1 : Int32) (-1 : Int32) (-1 : Int32) kA48 hk48 ((x0 &&& (2147483647 : Int32)) % (3 : Int32)) (((((x0 &&& (2147483647 : Int32)) % (3 : Int32)) + (1 : Int32)) + (x5 &&& (1 : Int32))) % (3 : Int32)) (0 : Int32) kA49 hk49 (2 : Int32) ((x3 &&& (2147483647 : Int32)) % (4 : Int32)) (0 : Int32) kA50 hk50 x2 x4 (0 : Int64) _ P68) (a := (n0 + 0)) (P68.exa (i := 0) rfl F52.1) (by decide) (by decide) (by decide) (by decide) (by decide) (argsL := [.int (1 : Int32)]) (rest := []) pd9 rfl rfl rfl (Nat.le_of_eq rfl) (hb hby at_165) (pc' := 168) rfl ?_
      intro _ T69 L64 X69 hq
      obtain ⟨rfl, N64, P69⟩ := hq
      replace N64 := Fr.app N63 N64
      replace P69 : HP n0 T69.heap [c52, AC kA45 [.long (0 : Int64), .long (0 : Int64), .long (0 : Int64), .long (0 : Int64)], AC kA46 [.int (-1 : Int32), .int (-1 : Int32), .int (-1 : Int32), .int (-1 : Int32)], AC kA47 [.int (-1 : Int32), .int (-1 : Int32), .int (-1 : Int32)], AC kA48 [.int ((x0 &&& (2147483647 : Int32)) % (3 : Int32)), .int (((((x0 &&& (2147483647 : Int32)) % (3 : Int32)) + (1 : Int32)) + (x5 &&& (1 : Int32))) % (3 : Int32)), .int (0 : Int32)], AC kA49 [.int (2 : Int32), .int ((x3 &&& (2147483647 : Int32)) % (4 : Int32)), .int (0 : Int32)], AC kA50 [.long x2, .long x4, .long (0 : Int64)]] := P69
      refine w_iload X69 hx (hb hby at_168) rfl (pc' := 170) rfl ?_
      refine w_icmp_ne X69 hx (hb hby at_170) (by decide) (pcY := 202) (by decide) (pc' := 173) rfl (fun h78 => absurd rfl h78) (fun h78 => ?_)
      refine w_aload X69 hx (hb hby at_173) rfl rfl (pc' := 175) rfl ?_
      refine w_iload X69 hx (hb hby at_175) rfl (pc' := 177) rfl ?_
      refine own_callV (W := 0) X69 hx hZ rfl hown hml.symm (wd64 hw) (wd65 hw) (wd67 hw) (wd66 hw) (wd3 hw) (wd68 hw) (rm10_10 l Z a0 hw [] n0 c52 F52 kA45 hk45 (0 : Int64) (0 : Int64) (0 : Int64) (0 : Int64) kA46 hk46 (-1 : Int32) (-1 : Int32) (-1 : Int32) (-1 : Int32) kA47 hk47 (-1 : Int32) (-1 : Int32) (-1 : Int32) kA48 hk48 ((x0 &&& (2147483647 : Int32)) % (3 : Int32)) (((((x0 &&& (2147483647 : Int32)) % (3 : Int32)) + (1 : Int32)) + (x5 &&& (1 : Int32))) % (3 : Int32)) (0 : Int32) kA49 hk49 (2 : Int32) ((x3 &&& (2147483647 : Int32)) % (4 : Int32)) (0 : Int32) kA50 hk50 x2 x4 (0 : Int64) _ P69) (a := (n0 + 0)) (P69.exa (i := 0) rfl F52.1) (by decide) (by decide) (by decide) (by decide) (by decide) (argsL := [.int (1 : Int32)]) (rest := []) pd10 rfl rfl rfl (Nat.le_of_eq rfl) (hb hby at_177) (pc' := 180) rfl ?_
      intro _ T70 L65 X70 hq
      obtain ⟨rfl, N65, P70⟩ := hq
      replace N65 := Fr.app N64 N65
      replace P70 : HP n0 T70.heap [c52, AC kA45 [.long (0 : Int64), .long (0 : Int64), .long (0 : Int64), .long (0 : Int64)], AC kA46 [.int (-1 : Int32), .int (-1 : Int32), .int (-1 : Int32), .int (-1 : Int32)], AC kA47 [.int (-1 : Int32), .int (-1 : Int32), .int (-1 : Int32)], AC kA48 [.int ((x0 &&& (2147483647 : Int32)) % (3 : Int32)), .int (((((x0 &&& (2147483647 : Int32)) % (3 : Int32)) + (1 : Int32)) + (x5 &&& (1 : Int32))) % (3 : Int32)), .int (0 : Int32)], AC kA49 [.int (2 : Int32), .int ((x3 &&& (2147483647 : Int32)) % (4 : Int32)), .int (0 : Int32)], AC kA50 [.long x2, .long x4, .long (0 : Int64)]] := P70
      refine w_lload X70 hx (hb hby at_180) rfl (pc' := 182) rfl ?_
      refine w_lcmp_ne X70 hx (hb hby at_182) rfl (hb hby at_183) (by decide) (pcY := 202) (by decide) (pc' := 186) rfl (fun h79 => absurd rfl h79) (fun h79 => ?_)
      refine w_aload X70 hx (hb hby at_186) rfl rfl (pc' := 188) rfl ?_
      refine own_callV (W := 0) X70 hx hZ rfl hown hml.symm (wd44 hw) (wd45 hw) (wd47 hw) (wd46 hw) (wd3 hw) (wd48 hw) (rm6_11 l Z a0 hw [] n0 c52 F52 kA45 hk45 (0 : Int64) (0 : Int64) (0 : Int64) (0 : Int64) kA46 hk46 (-1 : Int32) (-1 : Int32) (-1 : Int32) (-1 : Int32) kA47 hk47 (-1 : Int32) (-1 : Int32) (-1 : Int32) kA48 hk48 ((x0 &&& (2147483647 : Int32)) % (3 : Int32)) (((((x0 &&& (2147483647 : Int32)) % (3 : Int32)) + (1 : Int32)) + (x5 &&& (1 : Int32))) % (3 : Int32)) (0 : Int32) kA49 hk49 (2 : Int32) ((x3 &&& (2147483647 : Int32)) % (4 : Int32)) (0 : Int32) kA50 hk50 x2 x4 (0 : Int64) _ P70) (a := (n0 + 0)) (P70.exa (i := 0) rfl F52.1) (by decide) (by decide) (by decide) (by decide) (by decide) (argsL := []) (rest := []) pd6 rfl rfl rfl (Nat.le_of_eq rfl) (hb hby at_188) (pc' := 191) rfl ?_
      intro _ T71 L66 X71 hq
      obtain ⟨rfl, N66, P71⟩ := hq
      replace N66 := Fr.app N65 N66
      replace P71 : HP n0 T71.heap [c52, AC kA45 [.long (0 : Int64), .long (0 : Int64), .long (0 : Int64), .long (0 : Int64)], AC kA46 [.int (-1 : Int32), .int (-1 : Int32), .int (-1 : Int32), .int (-1 : Int32)], AC kA47 [.int (-1 : Int32), .int (-1 : Int32), .int (-1 : Int32)], AC kA48 [.int ((x0 &&& (2147483647 : Int32)) % (3 : Int32)), .int (((((x0 &&& (2147483647 : Int32)) % (3 : Int32)) + (1 : Int32)) + (x5 &&& (1 : Int32))) % (3 : Int32)), .int (0 : Int32)], AC kA49 [.int (2 : Int32), .int ((x3 &&& (2147483647 : Int32)) % (4 : Int32)), .int (0 : Int32)], AC kA50 [.long x2, .long x4, .long (0 : Int64)]] := P71
      refine w_ldc2 X71 hx (hb hby at_191) hown (mvT hZ (wd69 hw)) (pc' := 194) rfl ?_
      refine w_lcmp_ne X71 hx (hb hby at_194) rfl (hb hby at_195) (by decide) (pcY := 202) (by decide) (pc' := 198) rfl (fun h80 => absurd h80 (by decide)) (fun h80 => ?_)
      refine w_iconst (v := (1 : Int32)) X71 hx (hb hby at_198) rfl (pc' := 199) rfl ?_
      refine w_goto X71 hx (hb hby at_199) (by decide) (pc' := 203) (by decide) ?_
      refine w_istore (l' := #[.val (.int x0), .val (.int x1), .val (.long x2), .second, .val (.int x3), .val (.long x4), .second, .val (.int x5), .val (.int ((x0 &&& (2147483647 : Int32)) % (3 : Int32))), .val (.int (((((x0 &&& (2147483647 : Int32)) % (3 : Int32)) + (1 : Int32)) + (x5 &&& (1 : Int32))) % (3 : Int32))), .val (.int (2 : Int32)), .val (.int ((x3 &&& (2147483647 : Int32)) % (4 : Int32))), .val (.int (0 : Int32)), .val (.ref (n0 + 0)), .val (.int (1 : Int32)), .val (.int (1 : Int32))]) X71 hx (hb hby at_203) rfl (pc' := 205) rfl ?_
      refine w_iload X71 hx (hb hby at_205) rfl (pc' := 207) rfl ?_
      refine w_if_ne X71 hx (hb hby at_207) (by decide) (pcY := 255) (by decide) (pc' := 210) rfl (fun h81 => absurd h81 (by decide)) (fun h81 => ?_)
      refine w_iload X71 hx (hb hby at_210) rfl (pc' := 212) rfl ?_
      refine w_if_eq X71 hx (hb hby at_212) (by decide) (pcY := 252) (by decide) (pc' := 215) rfl (fun h82 => absurd h82 (by decide)) (fun h82 => ?_)
      refine w_aload X71 hx (hb hby at_215) rfl rfl (pc' := 217) rfl ?_
      refine w_iconst (v := (0 : Int32)) X71 hx (hb hby at_217) rfl (pc' := 218) rfl ?_
      refine own_callV (W := 0) X71 hx hZ rfl hown hml.symm (wd54 hw) (wd55 hw) (wd57 hw) (wd56 hw) (wd3 hw) (wd58 hw) (rm8_12 l Z a0 hw [] n0 c52 F52 kA45 hk45 (0 : Int64) (0 : Int64) (0 : Int64) (0 : Int64) kA46 hk46 (-1 : Int32) (-1 : Int32) (-1 : Int32) (-1 : Int32) kA47 hk47 (-1 : Int32) (-1 : Int32) (-1 : Int32) kA48 hk48 ((x0 &&& (2147483647 : Int32)) % (3 : Int32)) (((((x0 &&& (2147483647 : Int32)) % (3 : Int32)) + (1 : Int32)) + (x5 &&& (1 : Int32))) % (3 : Int32)) (0 : Int32) kA49 hk49 (2 : Int32) ((x3 &&& (2147483647 : Int32)) % (4 : Int32)) (0 : Int32) kA50 hk50 x2 x4 (0 : Int64) _ P71) (a := (n0 + 0)) (P71.exa (i := 0) rfl F52.1) (by decide) (by decide) (by decide) (by decide) (by decide) (argsL := [.int (0 : Int32)]) (rest := []) pd8 rfl rfl rfl (Nat.le_of_eq rfl) (hb hby at_218) (pc' := 221) rfl ?_
      intro _ T72 L67 X72 hq
      obtain ⟨rfl, N67, P72⟩ := hq
      replace N67 := Fr.app N66 N67
      replace P72 : HP n0 T72.heap [c52, AC kA45 [.long (0 : Int64), .long (0 : Int64), .long (0 : Int64), .long (0 : Int64)], AC kA46 [.int (-1 : Int32), .int (-1 : Int32), .int (-1 : Int32), .int (-1 : Int32)], AC kA47 [.int (-1 : Int32), .int (-1 : Int32), .int (-1 : Int32)], AC kA48 [.int ((x0 &&& (2147483647 : Int32)) % (3 : Int32)), .int (((((x0 &&& (2147483647 : Int32)) % (3 : Int32)) + (1 : Int32)) + (x5 &&& (1 : Int32))) % (3 : Int32)), .int (0 : Int32)], AC kA49 [.int (2 : Int32), .int ((x3 &&& (2147483647 : Int32)) % (4 : Int32)), .int (0 : Int32)], AC kA50 [.long x2, .long x4, .long (0 : Int64)]] := P72
      refine w_iload X72 hx (hb hby at_221) rfl (pc' := 223) rfl ?_
      refine w_icmp_ne X72 hx (hb hby at_223) (by decide) (pcY := 252) (by decide) (pc' := 226) rfl (fun h83 => absurd rfl h83) (fun h83 => ?_)
      refine w_aload X72 hx (hb hby at_226) rfl rfl (pc' := 228) rfl ?_
      refine w_iconst (v := (0 : Int32)) X72 hx (hb hby at_228) rfl (pc' := 229) rfl ?_
      refine own_callV (W := 0) X72 hx hZ rfl hown hml.symm (wd59 hw) (wd60 hw) (wd62 hw) (wd61 hw) (wd3 hw) (wd63 hw) (rm9_13 l Z a0 hw [] n0 c52 F52 kA45 hk45 (0 : Int64) (0 : Int64) (0 : Int64) (0 : Int64) kA46 hk46 (-1 : Int32) (-1 : Int32) (-1 : Int32) (-1 : Int32) kA47 hk47 (-1 : Int32) (-1 : Int32) (-1 : Int32) kA48 hk48 ((x0 &&& (2147483647 : Int32)) % (3 : Int32)) (((((x0 &&& (2147483647 : Int32)) % (3 : Int32)) + (1 : Int32)) + (x5 &&& (1 : Int32))) % (3 : Int32)) (0 : Int32) kA49 hk49 (2 : Int32) ((x3 &&& (2147483647 : Int32)) % (4 : Int32)) (0 : Int32) kA50 hk50 x2 x4 (0 : Int64) _ P72) (a := (n0 + 0)) (P72.exa (i := 0) rfl F52.1) (by decide) (by decide) (by decide) (by decide) (by decide) (argsL := [.int (0 : Int32)]) (rest := []) pd9 rfl rfl rfl (Nat.le_of_eq rfl) (hb hby at_229) (pc' := 232) rfl ?_
      intro _ T73 L68 X73 hq
      obtain ⟨rfl, N68, P73⟩ := hq
      replace N68 := Fr.app N67 N68
      replace P73 : HP n0 T73.heap [c52, AC kA45 [.long (0 : Int64), .long (0 : Int64), .long (0 : Int64), .long (0 : Int64)], AC kA46 [.int (-1 : Int32), .int (-1 : Int32), .int (-1 : Int32), .int (-1 : Int32)], AC kA47 [.int (-1 : Int32), .int (-1 : Int32), .int (-1 : Int32)], AC kA48 [.int ((x0 &&& (2147483647 : Int32)) % (3 : Int32)), .int (((((x0 &&& (2147483647 : Int32)) % (3 : Int32)) + (1 : Int32)) + (x5 &&& (1 : Int32))) % (3 : Int32)), .int (0 : Int32)], AC kA49 [.int (2 : Int32), .int ((x3 &&& (2147483647 : Int32)) % (4 : Int32)), .int (0 : Int32)], AC kA50 [.long x2, .long x4, .long (0 : Int64)]] := P73
      refine w_iload X73 hx (hb hby at_232) rfl (pc' := 234) rfl ?_
      refine w_icmp_ne X73 hx (hb hby at_234) (by decide) (pcY := 252) (by decide) (pc' := 237) rfl (fun h84 => absurd h84 (by decide)) (fun h84 => ?_)
      refine w_aload X73 hx (hb hby at_237) rfl rfl (pc' := 239) rfl ?_
      refine w_iconst (v := (0 : Int32)) X73 hx (hb hby at_239) rfl (pc' := 240) rfl ?_
      refine own_callV (W := 0) X73 hx hZ rfl hown hml.symm (wd64 hw) (wd65 hw) (wd67 hw) (wd66 hw) (wd3 hw) (wd68 hw) (rm10_14 l Z a0 hw [] n0 c52 F52 kA45 hk45 (0 : Int64) (0 : Int64) (0 : Int64) (0 : Int64) kA46 hk46 (-1 : Int32) (-1 : Int32) (-1 : Int32) (-1 : Int32) kA47 hk47 (-1 : Int32) (-1 : Int32) (-1 : Int32) kA48 hk48 ((x0 &&& (2147483647 : Int32)) % (3 : Int32)) (((((x0 &&& (2147483647 : Int32)) % (3 : Int32)) + (1 : Int32)) + (x5 &&& (1 : Int32))) % (3 : Int32)) (0 : Int32) kA49 hk49 (2 : Int32) ((x3 &&& (2147483647 : Int32)) % (4 : Int32)) (0 : Int32) kA50 hk50 x2 x4 (0 : Int64) _ P73) (a := (n0 + 0)) (P73.exa (i := 0) rfl F52.1) (by decide) (by decide) (by decide) (by decide) (by decide) (argsL := [.int (0 : Int32)]) (rest := []) pd10 rfl rfl rfl (Nat.le_of_eq rfl) (hb hby at_240) (pc' := 243) rfl ?_
      intro _ T74 L69 X74 hq
      obtain ⟨rfl, N69, P74⟩ := hq
      replace N69 := Fr.app N68 N69
      replace P74 : HP n0 T74.heap [c52, AC kA45 [.long (0 : Int64), .long (0 : Int64), .long (0 : Int64), .long (0 : Int64)], AC kA46 [.int (-1 : Int32), .int (-1 : Int32), .int (-1 : Int32), .int (-1 : Int32)], AC kA47 [.int (-1 : Int32), .int (-1 : Int32), .int (-1 : Int32)], AC kA48 [.int ((x0 &&& (2147483647 : Int32)) % (3 : Int32)), .int (((((x0 &&& (2147483647 : Int32)) % (3 : Int32)) + (1 : Int32)) + (x5 &&& (1 : Int32))) % (3 : Int32)), .int (0 : Int32)], AC kA49 [.int (2 : Int32), .int ((x3 &&& (2147483647 : Int32)) % (4 : Int32)), .int (0 : Int32)], AC kA50 [.long x2, .long x4, .long (0 : Int64)]] := P74
      refine w_lloadN X74 hx (hb hby at_243) rfl (pc' := 244) rfl ?_
      refine w_lcmp_ne X74 hx (hb hby at_244) rfl (hb hby at_245) (by decide) (pcY := 252) (by decide) (pc' := 248) rfl (fun h85 => absurd rfl h85) (fun h85 => ?_)
      refine w_iconst (v := (1 : Int32)) X74 hx (hb hby at_248) rfl (pc' := 249) rfl ?_
      refine w_goto X74 hx (hb hby at_249) (by decide) (pc' := 253) (by decide) ?_
      refine w_istore (l' := #[.val (.int x0), .val (.int x1), .val (.long x2), .second, .val (.int x3), .val (.long x4), .second, .val (.int x5), .val (.int ((x0 &&& (2147483647 : Int32)) % (3 : Int32))), .val (.int (((((x0 &&& (2147483647 : Int32)) % (3 : Int32)) + (1 : Int32)) + (x5 &&& (1 : Int32))) % (3 : Int32))), .val (.int (2 : Int32)), .val (.int ((x3 &&& (2147483647 : Int32)) % (4 : Int32))), .val (.int (0 : Int32)), .val (.ref (n0 + 0)), .val (.int (1 : Int32)), .val (.int (1 : Int32))]) X74 hx (hb hby at_253) rfl (pc' := 255) rfl ?_
      refine w_iload X74 hx (hb hby at_255) rfl (pc' := 257) rfl ?_
      refine w_if_eq X74 hx (hb hby at_257) (by decide) (pcY := 285) (by decide) (pc' := 260) rfl (fun h86 => absurd h86 (by decide)) (fun h86 => ?_)
      refine w_aload X74 hx (hb hby at_260) rfl rfl (pc' := 262) rfl ?_
      refine own_callV (W := 0) X74 hx hZ rfl hown hml.symm (wd70 hw) (wd71 hw) (wd73 hw) (wd72 hw) (wd3 hw) (wd74 hw) (rm11_15 l Z a0 hw [] n0 c52 F52 kA45 hk45 (0 : Int64) (0 : Int64) (0 : Int64) (0 : Int64) kA46 hk46 (-1 : Int32) (-1 : Int32) (-1 : Int32) (-1 : Int32) kA47 hk47 (-1 : Int32) (-1 : Int32) (-1 : Int32) kA48 hk48 ((x0 &&& (2147483647 : Int32)) % (3 : Int32)) (((((x0 &&& (2147483647 : Int32)) % (3 : Int32)) + (1 : Int32)) + (x5 &&& (1 : Int32))) % (3 : Int32)) (0 : Int32) kA49 hk49 (2 : Int32) ((x3 &&& (2147483647 : Int32)) % (4 : Int32)) (0 : Int32) kA50 hk50 x2 x4 (0 : Int64) _ P74) (a := (n0 + 0)) (P74.exa (i := 0) rfl F52.1) (by decide) (by decide) (by decide) (by decide) (by decide) (argsL := []) (rest := []) pd11 rfl rfl rfl (Nat.le_of_eq rfl) (hb hby at_262) (pc' := 265) rfl ?_
      intro _ T75 L70 X75 hq
      obtain ⟨rfl, N70, P75⟩ := hq
      replace N70 := Fr.app N69 N70
      replace P75 : HP n0 T75.heap [c52, AC kA45 [.long (0 : Int64), .long (0 : Int64), .long (0 : Int64), .long (0 : Int64)], AC kA46 [.int (-1 : Int32), .int (-1 : Int32), .int (-1 : Int32), .int (-1 : Int32)], AC kA47 [.int (-1 : Int32), .int (-1 : Int32), .int (-1 : Int32)], AC kA48 [.int ((x0 &&& (2147483647 : Int32)) % (3 : Int32)), .int (((((x0 &&& (2147483647 : Int32)) % (3 : Int32)) + (1 : Int32)) + (x5 &&& (1 : Int32))) % (3 : Int32)), .int (0 : Int32)], AC kA49 [.int (2 : Int32), .int ((x3 &&& (2147483647 : Int32)) % (4 : Int32)), .int (0 : Int32)], AC kA50 [.long x2, .long x4, .long (0 : Int64)]] := P75
      refine w_iconst (v := (3 : Int32)) X75 hx (hb hby at_265) rfl (pc' := 266) rfl ?_
      refine w_icmp_ne X75 hx (hb hby at_266) (by decide) (pcY := 285) (by decide) (pc' := 269) rfl (fun h87 => absurd h87 (by decide)) (fun h87 => ?_)
      refine w_aload X75 hx (hb hby at_269) rfl rfl (pc' := 271) rfl ?_
      refine w_iload X75 hx (hb hby at_271) rfl (pc' := 273) rfl ?_
      refine own_callV (W := 0) X75 hx hZ rfl hown hml.symm (wd75 hw) (wd76 hw) (wd78 hw) (wd77 hw) (wd3 hw) (wd79 hw) (rm12_30 l Z a0 hw [] n0 c52 F52 kA45 hk45 (0 : Int64) (0 : Int64) (0 : Int64) (0 : Int64) kA46 hk46 (-1 : Int32) (-1 : Int32) (-1 : Int32) (-1 : Int32) kA47 hk47 (-1 : Int32) (-1 : Int32) (-1 : Int32) kA48 hk48 ((x0 &&& (2147483647 : Int32)) % (3 : Int32)) (((((x0 &&& (2147483647 : Int32)) % (3 : Int32)) + (1 : Int32)) + (x5 &&& (1 : Int32))) % (3 : Int32)) (0 : Int32) kA49 hk49 (2 : Int32) ((x3 &&& (2147483647 : Int32)) % (4 : Int32)) (0 : Int32) kA50 hk50 x2 x4 (0 : Int64) _ P75) (a := (n0 + 0)) (P75.exa (i := 0) rfl F52.1) (by decide) (by decide) (by decide) (by decide) (by decide) (argsL := [.int (2 : Int32)]) (rest := []) pd12 rfl rfl rfl (Nat.le_of_eq rfl) (hb hby at_273) (pc' := 276) rfl ?_
      intro _ T76 L71 X76 hq
      obtain ⟨rfl, N71, P76⟩ := hq
      replace N71 := Fr.app N70 N71
      replace P76 : HP n0 T76.heap [c52, AC kA45 [.long (0 : Int64), .long (0 : Int64), .long (0 : Int64), .long (0 : Int64)], AC kA46 [.int (-1 : Int32), .int (-1 : Int32), .int (-1 : Int32), .int (-1 : Int32)], AC kA47 [.int (-1 : Int32), .int (-1 : Int32), .int (-1 : Int32)], AC kA48 [.int ((x0 &&& (2147483647 : Int32)) % (3 : Int32)), .int (((((x0 &&& (2147483647 : Int32)) % (3 : Int32)) + (1 : Int32)) + (x5 &&& (1 : Int32))) % (3 : Int32)), .int (0 : Int32)], AC kA49 [.int (2 : Int32), .int ((x3 &&& (2147483647 : Int32)) % (4 : Int32)), .int (0 : Int32)], AC kA50 [.long x2, .long x4, .long (0 : Int64)]] := P76
      refine w_lconst (v := (0 : Int64)) X76 hx (hb hby at_276) rfl (pc' := 277) rfl ?_
      refine w_lcmp_ne X76 hx (hb hby at_277) rfl (hb hby at_278) (by decide) (pcY := 285) (by decide) (pc' := 281) rfl (fun h88 => absurd h88 (by decide)) (fun h88 => ?_)
      refine w_iconst (v := (1 : Int32)) X76 hx (hb hby at_281) rfl (pc' := 282) rfl ?_
      refine w_goto X76 hx (hb hby at_282) (by decide) (pc' := 286) (by decide) ?_
      refine w_istore (l' := #[.val (.int x0), .val (.int x1), .val (.long x2), .second, .val (.int x3), .val (.long x4), .second, .val (.int x5), .val (.int ((x0 &&& (2147483647 : Int32)) % (3 : Int32))), .val (.int (((((x0 &&& (2147483647 : Int32)) % (3 : Int32)) + (1 : Int32)) + (x5 &&& (1 : Int32))) % (3 : Int32))), .val (.int (2 : Int32)), .val (.int ((x3 &&& (2147483647 : Int32)) % (4 : Int32))), .val (.int (0 : Int32)), .val (.ref (n0 + 0)), .val (.int (1 : Int32)), .val (.int (1 : Int32))]) X76 hx (hb hby at_286) rfl (pc' := 288) rfl ?_
      refine w_iload X76 hx (hb hby at_288) rfl (pc' := 290) rfl ?_
      exact w_ret_n (t := .boolean) X76 hx hret hlk (by simp) (hb hby at_290) (z' := (1 : Int32)) rfl (by decide) (by decide) ⟨rfl, N71⟩
    · refine w_iconst (v := (1 : Int32)) X0 hx (hb hby at_45) rfl (pc' := 46) rfl ?_
      refine w_goto X0 hx (hb hby at_46) (by decide) (pc' := 50) (by decide) ?_
      refine w_istore (l' := #[.val (.int x0), .val (.int x1), .val (.long x2), .second, .val (.int x3), .val (.long x4), .second, .val (.int x5), .val (.int ((x0 &&& (2147483647 : Int32)) % (3 : Int32))), .val (.int (((((x0 &&& (2147483647 : Int32)) % (3 : Int32)) + (1 : Int32)) + (x5 &&& (1 : Int32))) % (3 : Int32))), .val (.int (2 : Int32)), .val (.int ((x3 &&& (2147483647 : Int32)) % (4 : Int32))), .val (.int (1 : Int32)), .unset, .unset, .unset]) X0 hx (hb hby at_50) rfl (pc' := 52) rfl ?_
      refine w_new (j := 0) X0 hx hZ hown (wd1 hw) (wd2 hw) (wd3 hw) P0 fl_C0 dv_C0 rfl (ly_C0 hw) (hb hby at_52) (by decide) (by decide) rfl (pc' := 55) rfl ?_
      intro T77 c53 X77 P77 F53
      replace P77 : HP n0 T77.heap [c53] := P77
      refine w_dup X77 hx (hb hby at_55) rfl (pc' := 56) rfl ?_
      refine w_iconst (v := (3 : Int32)) X77 hx (hb hby at_56) rfl (pc' := 57) rfl ?_
      refine w_iconst (v := (4 : Int32)) X77 hx (hb hby at_57) rfl (pc' := 58) rfl ?_
      refine own_callI (W := 1) X77 hx hZ rfl rfl hown hml.symm (wd4 hw) (wd5 hw) (wd3 hw) (wd6 hw) (rm1_0 l Z a0 hw [] n0 c53 F53 _ P77) (by decide) (by decide) (by decide) (by decide) (by decide) (a := (n0 + 0)) (argsL := [.int (3 : Int32), .int (4 : Int32)]) (rest := [.ref (n0 + 0)]) pd1 rfl rfl rfl (Nat.le_of_eq rfl) (hb hby at_58) (pc' := 61) rfl ?_
      intro _ T78 L72 X78 hq
      obtain ⟨rfl, N72, c54, F54, kA55, hk55, kA56, hk56, kA57, hk57, kA58, hk58, kA59, hk59, kA60, hk60, P78⟩ := hq
      replace N72 := Fr.app N0 N72
      replace P78 : HP n0 T78.heap [c54, AC kA55 [.long (0 : Int64), .long (0 : Int64), .long (0 : Int64), .long (0 : Int64)], AC kA56 [.int (-1 : Int32), .int (-1 : Int32), .int (-1 : Int32), .int (-1 : Int32)], AC kA57 [.int (-1 : Int32), .int (-1 : Int32), .int (-1 : Int32)], AC kA58 [.int (0 : Int32), .int (0 : Int32), .int (0 : Int32)], AC kA59 [.int (0 : Int32), .int (0 : Int32), .int (0 : Int32)], AC kA60 [.long (0 : Int64), .long (0 : Int64), .long (0 : Int64)]] := P78
      refine w_astore (l' := #[.val (.int x0), .val (.int x1), .val (.long x2), .second, .val (.int x3), .val (.long x4), .second, .val (.int x5), .val (.int ((x0 &&& (2147483647 : Int32)) % (3 : Int32))), .val (.int (((((x0 &&& (2147483647 : Int32)) % (3 : Int32)) + (1 : Int32)) + (x5 &&& (1 : Int32))) % (3 : Int32))), .val (.int (2 : Int32)), .val (.int ((x3 &&& (2147483647 : Int32)) % (4 : Int32))), .val (.int (1 : Int32)), .val (.ref (n0 + 0)), .unset, .unset]) X78 hx (hb hby at_61) rfl rfl (pc' := 63) rfl ?_
      refine w_aload X78 hx (hb hby at_63) rfl rfl (pc' := 65) rfl ?_
      refine w_iload X78 hx (hb hby at_65) rfl (pc' := 67) rfl ?_
      refine w_iload X78 hx (hb hby at_67) rfl (pc' := 69) rfl ?_
      refine w_lloadN X78 hx (hb hby at_69) rfl (pc' := 70) rfl ?_
      refine own_callV (W := 0) X78 hx hZ rfl hown hml.symm (wd30 hw) (wd31 hw) (wd33 hw) (wd32 hw) (wd3 hw) (wd34 hw) (rm4_29 l Z a0 hw [] n0 ((x0 &&& (2147483647 : Int32)) % (3 : Int32)) x2 c54 F54 kA55 hk55 (0 : Int64) (0 : Int64) (0 : Int64) (0 : Int64) kA56 hk56 (-1 : Int32) (-1 : Int32) (-1 : Int32) (-1 : Int32) kA57 hk57 (-1 : Int32) (-1 : Int32) (-1 : Int32) kA58 hk58 (0 : Int32) (0 : Int32) (0 : Int32) kA59 hk59 (0 : Int32) (0 : Int32) (0 : Int32) kA60 hk60 (0 : Int64) (0 : Int64) (0 : Int64) _ P78) (a := (n0 + 0)) (P78.exa (i := 0) rfl F54.1) (by decide) (by decide) (by decide) (by decide) (by decide) (argsL := [.int ((x0 &&& (2147483647 : Int32)) % (3 : Int32)), .int (2 : Int32), .long x2]) (rest := []) pd4 rfl rfl rfl (Nat.le_of_eq rfl) (hb hby at_70) (pc' := 73) rfl ?_
      intro _ T79 L73 X79 hq
      obtain ⟨rfl, N73, c61, F61, P79⟩ := hq
      replace N73 := Fr.app N72 N73
      replace P79 : HP n0 T79.heap [c61, AC kA55 [.long (0 : Int64), .long (0 : Int64), .long (0 : Int64), .long (0 : Int64)], AC kA56 [.int (-1 : Int32), .int (-1 : Int32), .int (-1 : Int32), .int (-1 : Int32)], AC kA57 [.int (-1 : Int32), .int (-1 : Int32), .int (-1 : Int32)], AC kA58 [.int ((x0 &&& (2147483647 : Int32)) % (3 : Int32)), .int (0 : Int32), .int (0 : Int32)], AC kA59 [.int (2 : Int32), .int (0 : Int32), .int (0 : Int32)], AC kA60 [.long x2, .long (0 : Int64), .long (0 : Int64)]] := P79
      refine w_aload X79 hx (hb hby at_73) rfl rfl (pc' := 75) rfl ?_
      refine own_callV (W := 0) X79 hx hZ rfl hown hml.symm (wd39 hw) (wd40 hw) (wd42 hw) (wd41 hw) (wd3 hw) (wd43 hw) (rm5_4 l Z a0 hw [] n0 c61 F61 kA55 hk55 (0 : Int64) (0 : Int64) (0 : Int64) (0 : Int64) kA56 hk56 (-1 : Int32) (-1 : Int32) (-1 : Int32) (-1 : Int32) kA57 hk57 (-1 : Int32) (-1 : Int32) (-1 : Int32) kA58 hk58 ((x0 &&& (2147483647 : Int32)) % (3 : Int32)) (0 : Int32) (0 : Int32) kA59 hk59 (2 : Int32) (0 : Int32) (0 : Int32) kA60 hk60 x2 (0 : Int64) (0 : Int64) _ P79) (a := (n0 + 0)) (P79.exa (i := 0) rfl F61.1) (by decide) (by decide) (by decide) (by decide) (by decide) (argsL := []) (rest := []) pd5 rfl rfl rfl (Nat.le_of_eq rfl) (hb hby at_75) (pc' := 78) rfl ?_
      intro _ T80 L74 X80 hq
      obtain ⟨rfl, N74, P80⟩ := hq
      replace N74 := Fr.app N73 N74
      replace P80 : HP n0 T80.heap [c61, AC kA55 [.long (0 : Int64), .long (0 : Int64), .long (0 : Int64), .long (0 : Int64)], AC kA56 [.int (-1 : Int32), .int (-1 : Int32), .int (-1 : Int32), .int (-1 : Int32)], AC kA57 [.int (-1 : Int32), .int (-1 : Int32), .int (-1 : Int32)], AC kA58 [.int ((x0 &&& (2147483647 : Int32)) % (3 : Int32)), .int (0 : Int32), .int (0 : Int32)], AC kA59 [.int (2 : Int32), .int (0 : Int32), .int (0 : Int32)], AC kA60 [.long x2, .long (0 : Int64), .long (0 : Int64)]] := P80
      refine w_iconst (v := (1 : Int32)) X80 hx (hb hby at_78) rfl (pc' := 79) rfl ?_
      refine w_icmp_ne X80 hx (hb hby at_79) (by decide) (pcY := 96) (by decide) (pc' := 82) rfl (fun h89 => absurd h89 (by decide)) (fun h89 => ?_)
      refine w_aload X80 hx (hb hby at_82) rfl rfl (pc' := 84) rfl ?_
      refine own_callV (W := 0) X80 hx hZ rfl hown hml.symm (wd44 hw) (wd45 hw) (wd47 hw) (wd46 hw) (wd3 hw) (wd48 hw) (rm6_5 l Z a0 hw [] n0 c61 F61 kA55 hk55 (0 : Int64) (0 : Int64) (0 : Int64) (0 : Int64) kA56 hk56 (-1 : Int32) (-1 : Int32) (-1 : Int32) (-1 : Int32) kA57 hk57 (-1 : Int32) (-1 : Int32) (-1 : Int32) kA58 hk58 ((x0 &&& (2147483647 : Int32)) % (3 : Int32)) (0 : Int32) (0 : Int32) kA59 hk59 (2 : Int32) (0 : Int32) (0 : Int32) kA60 hk60 x2 (0 : Int64) (0 : Int64) _ P80) (a := (n0 + 0)) (P80.exa (i := 0) rfl F61.1) (by decide) (by decide) (by decide) (by decide) (by decide) (argsL := []) (rest := []) pd6 rfl rfl rfl (Nat.le_of_eq rfl) (hb hby at_84) (pc' := 87) rfl ?_
      intro _ T81 L75 X81 hq
      obtain ⟨rfl, N75, P81⟩ := hq
      replace N75 := Fr.app N74 N75
      replace P81 : HP n0 T81.heap [c61, AC kA55 [.long (0 : Int64), .long (0 : Int64), .long (0 : Int64), .long (0 : Int64)], AC kA56 [.int (-1 : Int32), .int (-1 : Int32), .int (-1 : Int32), .int (-1 : Int32)], AC kA57 [.int (-1 : Int32), .int (-1 : Int32), .int (-1 : Int32)], AC kA58 [.int ((x0 &&& (2147483647 : Int32)) % (3 : Int32)), .int (0 : Int32), .int (0 : Int32)], AC kA59 [.int (2 : Int32), .int (0 : Int32), .int (0 : Int32)], AC kA60 [.long x2, .long (0 : Int64), .long (0 : Int64)]] := P81
      refine w_lconst (v := (1 : Int64)) X81 hx (hb hby at_87) rfl (pc' := 88) rfl ?_
      refine w_lcmp_ne X81 hx (hb hby at_88) rfl (hb hby at_89) (by decide) (pcY := 96) (by decide) (pc' := 92) rfl (fun h90 => absurd h90 (by decide)) (fun h90 => ?_)
      refine w_iconst (v := (1 : Int32)) X81 hx (hb hby at_92) rfl (pc' := 93) rfl ?_
      refine w_goto X81 hx (hb hby at_93) (by decide) (pc' := 97) (by decide) ?_
      refine w_istore (l' := #[.val (.int x0), .val (.int x1), .val (.long x2), .second, .val (.int x3), .val (.long x4), .second, .val (.int x5), .val (.int ((x0 &&& (2147483647 : Int32)) % (3 : Int32))), .val (.int (((((x0 &&& (2147483647 : Int32)) % (3 : Int32)) + (1 : Int32)) + (x5 &&& (1 : Int32))) % (3 : Int32))), .val (.int (2 : Int32)), .val (.int ((x3 &&& (2147483647 : Int32)) % (4 : Int32))), .val (.int (1 : Int32)), .val (.ref (n0 + 0)), .val (.int (1 : Int32)), .unset]) X81 hx (hb hby at_97) rfl (pc' := 99) rfl ?_
      refine w_iload X81 hx (hb hby at_99) rfl (pc' := 101) rfl ?_
      refine w_if_eq X81 hx (hb hby at_101) (by decide) (pcY := 109) (by decide) (pc' := 104) rfl (fun h91 => absurd h91 (by decide)) (fun h91 => ?_)
      refine w_aload X81 hx (hb hby at_104) rfl rfl (pc' := 106) rfl ?_
      refine own_callV (W := 0) X81 hx hZ rfl hown hml.symm (wd49 hw) (wd50 hw) (wd52 hw) (wd51 hw) (wd3 hw) (wd53 hw) (rm7_17 l Z a0 hw [] n0 c61 F61 kA55 hk55 (0 : Int64) (0 : Int64) (0 : Int64) (0 : Int64) kA56 hk56 (-1 : Int32) (-1 : Int32) (-1 : Int32) (-1 : Int32) kA57 hk57 (-1 : Int32) (-1 : Int32) (-1 : Int32) kA58 hk58 ((x0 &&& (2147483647 : Int32)) % (3 : Int32)) (0 : Int32) (0 : Int32) kA59 hk59 (2 : Int32) (0 : Int32) (0 : Int32) kA60 hk60 x2 (0 : Int64) (0 : Int64) _ P81) (a := (n0 + 0)) (P81.exa (i := 0) rfl F61.1) (by decide) (by decide) (by decide) (by decide) (by decide) (argsL := []) (rest := []) pd7 rfl rfl rfl (Nat.le_of_eq rfl) (hb hby at_106) (pc' := 109) rfl ?_
      intro _ T82 L76 X82 hq
      obtain ⟨rfl, N76, c62, F62, P82⟩ := hq
      replace N76 := Fr.app N75 N76
      replace P82 : HP n0 T82.heap [c62, AC kA55 [.long (0 : Int64), .long (0 : Int64), .long (0 : Int64), .long (0 : Int64)], AC kA56 [.int (-1 : Int32), .int (-1 : Int32), .int (-1 : Int32), .int (-1 : Int32)], AC kA57 [.int (-1 : Int32), .int (-1 : Int32), .int (-1 : Int32)], AC kA58 [.int ((x0 &&& (2147483647 : Int32)) % (3 : Int32)), .int (0 : Int32), .int (0 : Int32)], AC kA59 [.int (2 : Int32), .int (0 : Int32), .int (0 : Int32)], AC kA60 [.long x2, .long (0 : Int64), .long (0 : Int64)]] := P82
      refine w_aload X82 hx (hb hby at_109) rfl rfl (pc' := 111) rfl ?_
      refine w_iload X82 hx (hb hby at_111) rfl (pc' := 113) rfl ?_
      refine w_iload X82 hx (hb hby at_113) rfl (pc' := 115) rfl ?_
      refine w_lload X82 hx (hb hby at_115) rfl (pc' := 117) rfl ?_
      refine own_callV (W := 0) X82 hx hZ rfl hown hml.symm (wd30 hw) (wd31 hw) (wd33 hw) (wd32 hw) (wd3 hw) (wd34 hw) (rm4_18 l Z a0 hw [] n0 (((((x0 &&& (2147483647 : Int32)) % (3 : Int32)) + (1 : Int32)) + (x5 &&& (1 : Int32))) % (3 : Int32)) ((x3 &&& (2147483647 : Int32)) % (4 : Int32)) x4 c62 F62 kA55 hk55 (0 : Int64) (0 : Int64) (0 : Int64) (0 : Int64) kA56 hk56 (-1 : Int32) (-1 : Int32) (-1 : Int32) (-1 : Int32) kA57 hk57 (-1 : Int32) (-1 : Int32) (-1 : Int32) kA58 hk58 ((x0 &&& (2147483647 : Int32)) % (3 : Int32)) (0 : Int32) (0 : Int32) kA59 hk59 (2 : Int32) (0 : Int32) (0 : Int32) kA60 hk60 x2 (0 : Int64) (0 : Int64) _ P82) (a := (n0 + 0)) (P82.exa (i := 0) rfl F62.1) (by decide) (by decide) (by decide) (by decide) (by decide) (argsL := [.int (((((x0 &&& (2147483647 : Int32)) % (3 : Int32)) + (1 : Int32)) + (x5 &&& (1 : Int32))) % (3 : Int32)), .int ((x3 &&& (2147483647 : Int32)) % (4 : Int32)), .long x4]) (rest := []) pd4 rfl rfl rfl (Nat.le_of_eq rfl) (hb hby at_117) (pc' := 120) rfl ?_
      intro _ T83 L77 X83 hq
      obtain ⟨rfl, N77, c63, F63, P83⟩ := hq
      replace N77 := Fr.app N76 N77
      replace P83 : HP n0 T83.heap [c63, AC kA55 [.long (0 : Int64), .long (0 : Int64), .long (0 : Int64), .long (0 : Int64)], AC kA56 [.int (-1 : Int32), .int (-1 : Int32), .int (-1 : Int32), .int (-1 : Int32)], AC kA57 [.int (-1 : Int32), .int (-1 : Int32), .int (-1 : Int32)], AC kA58 [.int (((((x0 &&& (2147483647 : Int32)) % (3 : Int32)) + (1 : Int32)) + (x5 &&& (1 : Int32))) % (3 : Int32)), .int (0 : Int32), .int (0 : Int32)], AC kA59 [.int ((x3 &&& (2147483647 : Int32)) % (4 : Int32)), .int (0 : Int32), .int (0 : Int32)], AC kA60 [.long x4, .long (0 : Int64), .long (0 : Int64)]] := P83
      refine w_iload X83 hx (hb hby at_120) rfl (pc' := 122) rfl ?_
      refine w_if_eq X83 hx (hb hby at_122) (by decide) (pcY := 129) (by decide) (pc' := 125) rfl (fun h92 => absurd h92 (by decide)) (fun h92 => ?_)
      refine w_iconst (v := (0 : Int32)) X83 hx (hb hby at_125) rfl (pc' := 126) rfl ?_
      refine w_goto X83 hx (hb hby at_126) (by decide) (pc' := 130) (by decide) ?_
      refine w_istore (l' := #[.val (.int x0), .val (.int x1), .val (.long x2), .second, .val (.int x3), .val (.long x4), .second, .val (.int x5), .val (.int ((x0 &&& (2147483647 : Int32)) % (3 : Int32))), .val (.int (((((x0 &&& (2147483647 : Int32)) % (3 : Int32)) + (1 : Int32)) + (x5 &&& (1 : Int32))) % (3 : Int32))), .val (.int (2 : Int32)), .val (.int ((x3 &&& (2147483647 : Int32)) % (4 : Int32))), .val (.int (1 : Int32)), .val (.ref (n0 + 0)), .val (.int (1 : Int32)), .val (.int (0 : Int32))]) X83 hx (hb hby at_130) rfl (pc' := 132) rfl ?_
      refine w_iload X83 hx (hb hby at_132) rfl (pc' := 134) rfl ?_
      refine w_if_eq X83 hx (hb hby at_134) (by decide) (pcY := 202) (by decide) (pc' := 137) rfl (fun h93 => absurd h93 (by decide)) (fun h93 => ?_)
      refine w_aload X83 hx (hb hby at_137) rfl rfl (pc' := 139) rfl ?_
      refine own_callV (W := 0) X83 hx hZ rfl hown hml.symm (wd39 hw) (wd40 hw) (wd42 hw) (wd41 hw) (wd3 hw) (wd43 hw) (rm5_19 l Z a0 hw [] n0 c63 F63 kA55 hk55 (0 : Int64) (0 : Int64) (0 : Int64) (0 : Int64) kA56 hk56 (-1 : Int32) (-1 : Int32) (-1 : Int32) (-1 : Int32) kA57 hk57 (-1 : Int32) (-1 : Int32) (-1 : Int32) kA58 hk58 (((((x0 &&& (2147483647 : Int32)) % (3 : Int32)) + (1 : Int32)) + (x5 &&& (1 : Int32))) % (3 : Int32)) (0 : Int32) (0 : Int32) kA59 hk59 ((x3 &&& (2147483647 : Int32)) % (4 : Int32)) (0 : Int32) (0 : Int32) kA60 hk60 x4 (0 : Int64) (0 : Int64) _ P83) (a := (n0 + 0)) (P83.exa (i := 0) rfl F63.1) (by decide) (by decide) (by decide) (by decide) (by decide) (argsL := []) (rest := []) pd5 rfl rfl rfl (Nat.le_of_eq rfl) (hb hby at_139) (pc' := 142) rfl ?_
      intro _ T84 L78 X84 hq
      obtain ⟨rfl, N78, P84⟩ := hq
      replace N78 := Fr.app N77 N78
      replace P84 : HP n0 T84.heap [c63, AC kA55 [.long (0 : Int64), .long (0 : Int64), .long (0 : Int64), .long (0 : Int64)], AC kA56 [.int (-1 : Int32), .int (-1 : Int32), .int (-1 : Int32), .int (-1 : Int32)], AC kA57 [.int (-1 : Int32), .int (-1 : Int32), .int (-1 : Int32)], AC kA58 [.int (((((x0 &&& (2147483647 : Int32)) % (3 : Int32)) + (1 : Int32)) + (x5 &&& (1 : Int32))) % (3 : Int32)), .int (0 : Int32), .int (0 : Int32)], AC kA59 [.int ((x3 &&& (2147483647 : Int32)) % (4 : Int32)), .int (0 : Int32), .int (0 : Int32)], AC kA60 [.long x4, .long (0 : Int64), .long (0 : Int64)]] := P84
      refine w_iload X84 hx (hb hby at_142) rfl (pc' := 144) rfl ?_
      refine w_iconst (v := (1 : Int32)) X84 hx (hb hby at_144) rfl (pc' := 145) rfl ?_
      refine w_iadd X84 hx (hb hby at_145) (pc' := 146) rfl ?_
      refine w_eqI (z := (1 : Int32)) (by decide) ?_
      refine w_icmp_ne X84 hx (hb hby at_146) (by decide) (pcY := 202) (by decide) (pc' := 149) rfl (fun h94 => absurd h94 (by decide)) (fun h94 => ?_)
      refine w_aload X84 hx (hb hby at_149) rfl rfl (pc' := 151) rfl ?_
      refine w_iload X84 hx (hb hby at_151) rfl (pc' := 153) rfl ?_
      refine own_callV (W := 0) X84 hx hZ rfl hown hml.symm (wd54 hw) (wd55 hw) (wd57 hw) (wd56 hw) (wd3 hw) (wd58 hw) (rm8_20 l Z a0 hw [] n0 c63 F63 kA55 hk55 (0 : Int64) (0 : Int64) (0 : Int64) (0 : Int64) kA56 hk56 (-1 : Int32) (-1 : Int32) (-1 : Int32) (-1 : Int32) kA57 hk57 (-1 : Int32) (-1 : Int32) (-1 : Int32) kA58 hk58 (((((x0 &&& (2147483647 : Int32)) % (3 : Int32)) + (1 : Int32)) + (x5 &&& (1 : Int32))) % (3 : Int32)) (0 : Int32) (0 : Int32) kA59 hk59 ((x3 &&& (2147483647 : Int32)) % (4 : Int32)) (0 : Int32) (0 : Int32) kA60 hk60 x4 (0 : Int64) (0 : Int64) _ P84) (a := (n0 + 0)) (P84.exa (i := 0) rfl F63.1) (by decide) (by decide) (by decide) (by decide) (by decide) (argsL := [.int (0 : Int32)]) (rest := []) pd8 rfl rfl rfl (Nat.le_of_eq rfl) (hb hby at_153) (pc' := 156) rfl ?_
      intro _ T85 L79 X85 hq
      obtain ⟨rfl, N79, P85⟩ := hq
      replace N79 := Fr.app N78 N79
      replace P85 : HP n0 T85.heap [c63, AC kA55 [.long (0 : Int64), .long (0 : Int64), .long (0 : Int64), .long (0 : Int64)], AC kA56 [.int (-1 : Int32), .int (-1 : Int32), .int (-1 : Int32), .int (-1 : Int32)], AC kA57 [.int (-1 : Int32), .int (-1 : Int32), .int (-1 : Int32)], AC kA58 [.int (((((x0 &&& (2147483647 : Int32)) % (3 : Int32)) + (1 : Int32)) + (x5 &&& (1 : Int32))) % (3 : Int32)), .int (0 : Int32), .int (0 : Int32)], AC kA59 [.int ((x3 &&& (2147483647 : Int32)) % (4 : Int32)), .int (0 : Int32), .int (0 : Int32)], AC kA60 [.long x4, .long (0 : Int64), .long (0 : Int64)]] := P85
      refine w_iload X85 hx (hb hby at_156) rfl (pc' := 158) rfl ?_
      refine w_icmp_ne X85 hx (hb hby at_158) (by decide) (pcY := 202) (by decide) (pc' := 161) rfl (fun h95 => absurd rfl h95) (fun h95 => ?_)
      refine w_aload X85 hx (hb hby at_161) rfl rfl (pc' := 163) rfl ?_
      refine w_iload X85 hx (hb hby at_163) rfl (pc' := 165) rfl ?_
      refine own_callV (W := 0) X85 hx hZ rfl hown hml.symm (wd59 hw) (wd60 hw) (wd62 hw) (wd61 hw) (wd3 hw) (wd63 hw) (rm9_21 l Z a0 hw [] n0 c63 F63 kA55 hk55 (0 : Int64) (0 : Int64) (0 : Int64) (0 : Int64) kA56 hk56 (-1 : Int32) (-1 : Int32) (-1 : Int32) (-1 : Int32) kA57 hk57 (-1 : Int32) (-1 : Int32) (-1 : Int32) kA58 hk58 (((((x0 &&& (2147483647 : Int32)) % (3 : Int32)) + (1 : Int32)) + (x5 &&& (1 : Int32))) % (3 : Int32)) (0 : Int32) (0 : Int32) kA59 hk59 ((x3 &&& (2147483647 : Int32)) % (4 : Int32)) (0 : Int32) (0 : Int32) kA60 hk60 x4 (0 : Int64) (0 : Int64) _ P85) (a := (n0 + 0)) (P85.exa (i := 0) rfl F63.1) (by decide) (by decide) (by decide) (by decide) (by decide) (argsL := [.int (0 : Int32)]) (rest := []) pd9 rfl rfl rfl (Nat.le_of_eq rfl) (hb hby at_165) (pc' := 168) rfl ?_
      intro _ T86 L80 X86 hq
      obtain ⟨rfl, N80, P86⟩ := hq
      replace N80 := Fr.app N79 N80
      replace P86 : HP n0 T86.heap [c63, AC kA55 [.long (0 : Int64), .long (0 : Int64), .long (0 : Int64), .long (0 : Int64)], AC kA56 [.int (-1 : Int32), .int (-1 : Int32), .int (-1 : Int32), .int (-1 : Int32)], AC kA57 [.int (-1 : Int32), .int (-1 : Int32), .int (-1 : Int32)], AC kA58 [.int (((((x0 &&& (2147483647 : Int32)) % (3 : Int32)) + (1 : Int32)) + (x5 &&& (1 : Int32))) % (3 : Int32)), .int (0 : Int32), .int (0 : Int32)], AC kA59 [.int ((x3 &&& (2147483647 : Int32)) % (4 : Int32)), .int (0 : Int32), .int (0 : Int32)], AC kA60 [.long x4, .long (0 : Int64), .long (0 : Int64)]] := P86
      refine w_iload X86 hx (hb hby at_168) rfl (pc' := 170) rfl ?_
      refine w_icmp_ne X86 hx (hb hby at_170) (by decide) (pcY := 202) (by decide) (pc' := 173) rfl (fun h96 => absurd rfl h96) (fun h96 => ?_)
      refine w_aload X86 hx (hb hby at_173) rfl rfl (pc' := 175) rfl ?_
      refine w_iload X86 hx (hb hby at_175) rfl (pc' := 177) rfl ?_
      refine own_callV (W := 0) X86 hx hZ rfl hown hml.symm (wd64 hw) (wd65 hw) (wd67 hw) (wd66 hw) (wd3 hw) (wd68 hw) (rm10_22 l Z a0 hw [] n0 c63 F63 kA55 hk55 (0 : Int64) (0 : Int64) (0 : Int64) (0 : Int64) kA56 hk56 (-1 : Int32) (-1 : Int32) (-1 : Int32) (-1 : Int32) kA57 hk57 (-1 : Int32) (-1 : Int32) (-1 : Int32) kA58 hk58 (((((x0 &&& (2147483647 : Int32)) % (3 : Int32)) + (1 : Int32)) + (x5 &&& (1 : Int32))) % (3 : Int32)) (0 : Int32) (0 : Int32) kA59 hk59 ((x3 &&& (2147483647 : Int32)) % (4 : Int32)) (0 : Int32) (0 : Int32) kA60 hk60 x4 (0 : Int64) (0 : Int64) _ P86) (a := (n0 + 0)) (P86.exa (i := 0) rfl F63.1) (by decide) (by decide) (by decide) (by decide) (by decide) (argsL := [.int (0 : Int32)]) (rest := []) pd10 rfl rfl rfl (Nat.le_of_eq rfl) (hb hby at_177) (pc' := 180) rfl ?_
      intro _ T87 L81 X87 hq
      obtain ⟨rfl, N81, P87⟩ := hq
      replace N81 := Fr.app N80 N81
      replace P87 : HP n0 T87.heap [c63, AC kA55 [.long (0 : Int64), .long (0 : Int64), .long (0 : Int64), .long (0 : Int64)], AC kA56 [.int (-1 : Int32), .int (-1 : Int32), .int (-1 : Int32), .int (-1 : Int32)], AC kA57 [.int (-1 : Int32), .int (-1 : Int32), .int (-1 : Int32)], AC kA58 [.int (((((x0 &&& (2147483647 : Int32)) % (3 : Int32)) + (1 : Int32)) + (x5 &&& (1 : Int32))) % (3 : Int32)), .int (0 : Int32), .int (0 : Int32)], AC kA59 [.int ((x3 &&& (2147483647 : Int32)) % (4 : Int32)), .int (0 : Int32), .int (0 : Int32)], AC kA60 [.long x4, .long (0 : Int64), .long (0 : Int64)]] := P87
      refine w_lload X87 hx (hb hby at_180) rfl (pc' := 182) rfl ?_
      refine w_lcmp_ne X87 hx (hb hby at_182) rfl (hb hby at_183) (by decide) (pcY := 202) (by decide) (pc' := 186) rfl (fun h97 => absurd rfl h97) (fun h97 => ?_)
      refine w_aload X87 hx (hb hby at_186) rfl rfl (pc' := 188) rfl ?_
      refine own_callV (W := 0) X87 hx hZ rfl hown hml.symm (wd44 hw) (wd45 hw) (wd47 hw) (wd46 hw) (wd3 hw) (wd48 hw) (rm6_23 l Z a0 hw [] n0 c63 F63 kA55 hk55 (0 : Int64) (0 : Int64) (0 : Int64) (0 : Int64) kA56 hk56 (-1 : Int32) (-1 : Int32) (-1 : Int32) (-1 : Int32) kA57 hk57 (-1 : Int32) (-1 : Int32) (-1 : Int32) kA58 hk58 (((((x0 &&& (2147483647 : Int32)) % (3 : Int32)) + (1 : Int32)) + (x5 &&& (1 : Int32))) % (3 : Int32)) (0 : Int32) (0 : Int32) kA59 hk59 ((x3 &&& (2147483647 : Int32)) % (4 : Int32)) (0 : Int32) (0 : Int32) kA60 hk60 x4 (0 : Int64) (0 : Int64) _ P87) (a := (n0 + 0)) (P87.exa (i := 0) rfl F63.1) (by decide) (by decide) (by decide) (by decide) (by decide) (argsL := []) (rest := []) pd6 rfl rfl rfl (Nat.le_of_eq rfl) (hb hby at_188) (pc' := 191) rfl ?_
      intro _ T88 L82 X88 hq
      obtain ⟨rfl, N82, P88⟩ := hq
      replace N82 := Fr.app N81 N82
      replace P88 : HP n0 T88.heap [c63, AC kA55 [.long (0 : Int64), .long (0 : Int64), .long (0 : Int64), .long (0 : Int64)], AC kA56 [.int (-1 : Int32), .int (-1 : Int32), .int (-1 : Int32), .int (-1 : Int32)], AC kA57 [.int (-1 : Int32), .int (-1 : Int32), .int (-1 : Int32)], AC kA58 [.int (((((x0 &&& (2147483647 : Int32)) % (3 : Int32)) + (1 : Int32)) + (x5 &&& (1 : Int32))) % (3 : Int32)), .int (0 : Int32), .int (0 : Int32)], AC kA59 [.int ((x3 &&& (2147483647 : Int32)) % (4 : Int32)), .int (0 : Int32), .int (0 : Int32)], AC kA60 [.long x4, .long (0 : Int64), .long (0 : Int64)]] := P88
      refine w_ldc2 X88 hx (hb hby at_191) hown (mvT hZ (wd69 hw)) (pc' := 194) rfl ?_
      refine w_lcmp_ne X88 hx (hb hby at_194) rfl (hb hby at_195) (by decide) (pcY := 202) (by decide) (pc' := 198) rfl (fun h98 => absurd h98 (by decide)) (fun h98 => ?_)
      refine w_iconst (v := (1 : Int32)) X88 hx (hb hby at_198) rfl (pc' := 199) rfl ?_
      refine w_goto X88 hx (hb hby at_199) (by decide) (pc' := 203) (by decide) ?_
      refine w_istore (l' := #[.val (.int x0), .val (.int x1), .val (.long x2), .second, .val (.int x3), .val (.long x4), .second, .val (.int x5), .val (.int ((x0 &&& (2147483647 : Int32)) % (3 : Int32))), .val (.int (((((x0 &&& (2147483647 : Int32)) % (3 : Int32)) + (1 : Int32)) + (x5 &&& (1 : Int32))) % (3 : Int32))), .val (.int (2 : Int32)), .val (.int ((x3 &&& (2147483647 : Int32)) % (4 : Int32))), .val (.int (1 : Int32)), .val (.ref (n0 + 0)), .val (.int (1 : Int32)), .val (.int (0 : Int32))]) X88 hx (hb hby at_203) rfl (pc' := 205) rfl ?_
      refine w_iload X88 hx (hb hby at_205) rfl (pc' := 207) rfl ?_
      refine w_if_ne X88 hx (hb hby at_207) (by decide) (pcY := 255) (by decide) (pc' := 210) rfl (fun h99 => ?_) (fun h99 => absurd h99 (by decide))
      refine w_iload X88 hx (hb hby at_255) rfl (pc' := 257) rfl ?_
      refine w_if_eq X88 hx (hb hby at_257) (by decide) (pcY := 285) (by decide) (pc' := 260) rfl (fun h100 => absurd h100 (by decide)) (fun h100 => ?_)
      refine w_aload X88 hx (hb hby at_260) rfl rfl (pc' := 262) rfl ?_
      refine own_callV (W := 0) X88 hx hZ rfl hown hml.symm (wd70 hw) (wd71 hw) (wd73 hw) (wd72 hw) (wd3 hw) (wd74 hw) (rm11_24 l Z a0 hw [] n0 c63 F63 kA55 hk55 (0 : Int64) (0 : Int64) (0 : Int64) (0 : Int64) kA56 hk56 (-1 : Int32) (-1 : Int32) (-1 : Int32) (-1 : Int32) kA57 hk57 (-1 : Int32) (-1 : Int32) (-1 : Int32) kA58 hk58 (((((x0 &&& (2147483647 : Int32)) % (3 : Int32)) + (1 : Int32)) + (x5 &&& (1 : Int32))) % (3 : Int32)) (0 : Int32) (0 : Int32) kA59 hk59 ((x3 &&& (2147483647 : Int32)) % (4 : Int32)) (0 : Int32) (0 : Int32) kA60 hk60 x4 (0 : Int64) (0 : Int64) _ P88) (a := (n0 + 0)) (P88.exa (i := 0) rfl F63.1) (by decide) (by decide) (by decide) (by decide) (by decide) (argsL := []) (rest := []) pd11 rfl rfl rfl (Nat.le_of_eq rfl) (hb hby at_262) (pc' := 265) rfl ?_
      intro _ T89 L83 X89 hq
      obtain ⟨rfl, N83, P89⟩ := hq
      replace N83 := Fr.app N82 N83
      replace P89 : HP n0 T89.heap [c63, AC kA55 [.long (0 : Int64), .long (0 : Int64), .long (0 : Int64), .long (0 : Int64)], AC kA56 [.int (-1 : Int32), .int (-1 : Int32), .int (-1 : Int32), .int (-1 : Int32)], AC kA57 [.int (-1 : Int32), .int (-1 : Int32), .int (-1 : Int32)], AC kA58 [.int (((((x0 &&& (2147483647 : Int32)) % (3 : Int32)) + (1 : Int32)) + (x5 &&& (1 : Int32))) % (3 : Int32)), .int (0 : Int32), .int (0 : Int32)], AC kA59 [.int ((x3 &&& (2147483647 : Int32)) % (4 : Int32)), .int (0 : Int32), .int (0 : Int32)], AC kA60 [.long x4, .long (0 : Int64), .long (0 : Int64)]] := P89
      refine w_iconst (v := (3 : Int32)) X89 hx (hb hby at_265) rfl (pc' := 266) rfl ?_
      refine w_icmp_ne X89 hx (hb hby at_266) (by decide) (pcY := 285) (by decide) (pc' := 269) rfl (fun h101 => absurd h101 (by decide)) (fun h101 => ?_)
      refine w_aload X89 hx (hb hby at_269) rfl rfl (pc' := 271) rfl ?_
      refine w_iload X89 hx (hb hby at_271) rfl (pc' := 273) rfl ?_
      refine own_callV (W := 0) X89 hx hZ rfl hown hml.symm (wd75 hw) (wd76 hw) (wd78 hw) (wd77 hw) (wd3 hw) (wd79 hw) (rm12_31 l Z a0 hw [] n0 c63 F63 kA55 hk55 (0 : Int64) (0 : Int64) (0 : Int64) (0 : Int64) kA56 hk56 (-1 : Int32) (-1 : Int32) (-1 : Int32) (-1 : Int32) kA57 hk57 (-1 : Int32) (-1 : Int32) (-1 : Int32) kA58 hk58 (((((x0 &&& (2147483647 : Int32)) % (3 : Int32)) + (1 : Int32)) + (x5 &&& (1 : Int32))) % (3 : Int32)) (0 : Int32) (0 : Int32) kA59 hk59 ((x3 &&& (2147483647 : Int32)) % (4 : Int32)) (0 : Int32) (0 : Int32) kA60 hk60 x4 (0 : Int64) (0 : Int64) _ P89) (a := (n0 + 0)) (P89.exa (i := 0) rfl F63.1) (by decide) (by decide) (by decide) (by decide) (by decide) (argsL := [.int (2 : Int32)]) (rest := []) pd12 rfl rfl rfl (Nat.le_of_eq rfl) (hb hby at_273) (pc' := 276) rfl ?_
      intro _ T90 L84 X90 hq
      obtain ⟨rfl, N84, P90⟩ := hq
      replace N84 := Fr.app N83 N84
      replace P90 : HP n0 T90.heap [c63, AC kA55 [.long (0 : Int64), .long (0 : Int64), .long (0 : Int64), .long (0 : Int64)], AC kA56 [.int (-1 : Int32), .int (-1 : Int32), .int (-1 : Int32), .int (-1 : Int32)], AC kA57 [.int (-1 : Int32), .int (-1 : Int32), .int (-1 : Int32)], AC kA58 [.int (((((x0 &&& (2147483647 : Int32)) % (3 : Int32)) + (1 : Int32)) + (x5 &&& (1 : Int32))) % (3 : Int32)), .int (0 : Int32), .int (0 : Int32)], AC kA59 [.int ((x3 &&& (2147483647 : Int32)) % (4 : Int32)), .int (0 : Int32), .int (0 : Int32)], AC kA60 [.long x4, .long (0 : Int64), .long (0 : Int64)]] := P90
      refine w_lconst (v := (0 : Int64)) X90 hx (hb hby at_276) rfl (pc' := 277) rfl ?_
      refine w_lcmp_ne X90 hx (hb hby at_277) rfl (hb hby at_278) (by decide) (pcY := 285) (by decide) (pc' := 281) rfl (fun h102 => absurd h102 (by decide)) (fun h102 => ?_)
      refine w_iconst (v := (1 : Int32)) X90 hx (hb hby at_281) rfl (pc' := 282) rfl ?_
      refine w_goto X90 hx (hb hby at_282) (by decide) (pc' := 286) (by decide) ?_
      refine w_istore (l' := #[.val (.int x0), .val (.int x1), .val (.long x2), .second, .val (.int x3), .val (.long x4), .second, .val (.int x5), .val (.int ((x0 &&& (2147483647 : Int32)) % (3 : Int32))), .val (.int (((((x0 &&& (2147483647 : Int32)) % (3 : Int32)) + (1 : Int32)) + (x5 &&& (1 : Int32))) % (3 : Int32))), .val (.int (2 : Int32)), .val (.int ((x3 &&& (2147483647 : Int32)) % (4 : Int32))), .val (.int (1 : Int32)), .val (.ref (n0 + 0)), .val (.int (1 : Int32)), .val (.int (0 : Int32))]) X90 hx (hb hby at_286) rfl (pc' := 288) rfl ?_
      refine w_iload X90 hx (hb hby at_288) rfl (pc' := 290) rfl ?_
      exact w_ret_n (t := .boolean) X90 hx hret hlk (by simp) (hb hby at_290) (z' := (1 : Int32)) rfl (by decide) (by decide) ⟨rfl, N84⟩
  · refine w_eqI (z := (3 : Int32)) g3 ?_
    refine w_istore (l' := #[.val (.int x0), .val (.int x1), .val (.long x2), .second, .val (.int x3), .val (.long x4), .second, .val (.int x5), .val (.int ((x0 &&& (2147483647 : Int32)) % (3 : Int32))), .val (.int (((((x0 &&& (2147483647 : Int32)) % (3 : Int32)) + (1 : Int32)) + (x5 &&& (1 : Int32))) % (3 : Int32))), .val (.int (3 : Int32)), .unset, .unset, .unset, .unset, .unset]) X0 hx (hb hby at_27) rfl (pc' := 29) rfl ?_
    refine w_iload X0 hx (hb hby at_29) rfl (pc' := 31) rfl ?_
    refine w_ldc X0 hx (hb hby at_31) hown (mvT hZ (wd0 hw)) (pc' := 33) rfl ?_
    refine w_iand X0 hx (hb hby at_33) (pc' := 34) rfl ?_
    refine w_iconst (v := (4 : Int32)) X0 hx (hb hby at_34) rfl (pc' := 35) rfl ?_
    refine w_irem X0 hx (hb hby at_35) (by decide) (pc' := 36) rfl ?_
    refine w_istore (l' := #[.val (.int x0), .val (.int x1), .val (.long x2), .second, .val (.int x3), .val (.long x4), .second, .val (.int x5), .val (.int ((x0 &&& (2147483647 : Int32)) % (3 : Int32))), .val (.int (((((x0 &&& (2147483647 : Int32)) % (3 : Int32)) + (1 : Int32)) + (x5 &&& (1 : Int32))) % (3 : Int32))), .val (.int (3 : Int32)), .val (.int ((x3 &&& (2147483647 : Int32)) % (4 : Int32))), .unset, .unset, .unset, .unset]) X0 hx (hb hby at_36) rfl (pc' := 38) rfl ?_
    refine w_iload X0 hx (hb hby at_38) rfl (pc' := 40) rfl ?_
    refine w_iconst (v := (2 : Int32)) X0 hx (hb hby at_40) rfl (pc' := 41) rfl ?_
    refine w_iand X0 hx (hb hby at_41) (pc' := 42) rfl ?_
    refine w_if_eq X0 hx (hb hby at_42) (by decide) (pcY := 49) (by decide) (pc' := 45) rfl (fun h103 => ?_) (fun h103 => ?_)
    · refine w_iconst (v := (0 : Int32)) X0 hx (hb hby at_49) rfl (pc' := 50) rfl ?_
      refine w_istore (l' := #[.val (.int x0), .val (.int x1), .val (.long x2), .second, .val (.int x3), .val (.long x4), .second, .val (.int x5), .val (.int ((x0 &&& (2147483647 : Int32)) % (3 : Int32))), .val (.int (((((x0 &&& (2147483647 : Int32)) % (3 : Int32)) + (1 : Int32)) + (x5 &&& (1 : Int32))) % (3 : Int32))), .val (.int (3 : Int32)), .val (.int ((x3 &&& (2147483647 : Int32)) % (4 : Int32))), .val (.int (0 : Int32)), .unset, .unset, .unset]) X0 hx (hb hby at_50) rfl (pc' := 52) rfl ?_
      refine w_new (j := 0) X0 hx hZ hown (wd1 hw) (wd2 hw) (wd3 hw) P0 fl_C0 dv_C0 rfl (ly_C0 hw) (hb hby at_52) (by decide) (by decide) rfl (pc' := 55) rfl ?_
      intro T91 c64 X91 P91 F64
      replace P91 : HP n0 T91.heap [c64] := P91
      refine w_dup X91 hx (hb hby at_55) rfl (pc' := 56) rfl ?_
      refine w_iconst (v := (3 : Int32)) X91 hx (hb hby at_56) rfl (pc' := 57) rfl ?_
      refine w_iconst (v := (4 : Int32)) X91 hx (hb hby at_57) rfl (pc' := 58) rfl ?_
      refine own_callI (W := 1) X91 hx hZ rfl rfl hown hml.symm (wd4 hw) (wd5 hw) (wd3 hw) (wd6 hw) (rm1_0 l Z a0 hw [] n0 c64 F64 _ P91) (by decide) (by decide) (by decide) (by decide) (by decide) (a := (n0 + 0)) (argsL := [.int (3 : Int32), .int (4 : Int32)]) (rest := [.ref (n0 + 0)]) pd1 rfl rfl rfl (Nat.le_of_eq rfl) (hb hby at_58) (pc' := 61) rfl ?_
      intro _ T92 L85 X92 hq
      obtain ⟨rfl, N85, c65, F65, kA66, hk66, kA67, hk67, kA68, hk68, kA69, hk69, kA70, hk70, kA71, hk71, P92⟩ := hq
      replace N85 := Fr.app N0 N85
      replace P92 : HP n0 T92.heap [c65, AC kA66 [.long (0 : Int64), .long (0 : Int64), .long (0 : Int64), .long (0 : Int64)], AC kA67 [.int (-1 : Int32), .int (-1 : Int32), .int (-1 : Int32), .int (-1 : Int32)], AC kA68 [.int (-1 : Int32), .int (-1 : Int32), .int (-1 : Int32)], AC kA69 [.int (0 : Int32), .int (0 : Int32), .int (0 : Int32)], AC kA70 [.int (0 : Int32), .int (0 : Int32), .int (0 : Int32)], AC kA71 [.long (0 : Int64), .long (0 : Int64), .long (0 : Int64)]] := P92
      refine w_astore (l' := #[.val (.int x0), .val (.int x1), .val (.long x2), .second, .val (.int x3), .val (.long x4), .second, .val (.int x5), .val (.int ((x0 &&& (2147483647 : Int32)) % (3 : Int32))), .val (.int (((((x0 &&& (2147483647 : Int32)) % (3 : Int32)) + (1 : Int32)) + (x5 &&& (1 : Int32))) % (3 : Int32))), .val (.int (3 : Int32)), .val (.int ((x3 &&& (2147483647 : Int32)) % (4 : Int32))), .val (.int (0 : Int32)), .val (.ref (n0 + 0)), .unset, .unset]) X92 hx (hb hby at_61) rfl rfl (pc' := 63) rfl ?_
      refine w_aload X92 hx (hb hby at_63) rfl rfl (pc' := 65) rfl ?_
      refine w_iload X92 hx (hb hby at_65) rfl (pc' := 67) rfl ?_
      refine w_iload X92 hx (hb hby at_67) rfl (pc' := 69) rfl ?_
      refine w_lloadN X92 hx (hb hby at_69) rfl (pc' := 70) rfl ?_
      refine own_callV (W := 0) X92 hx hZ rfl hown hml.symm (wd30 hw) (wd31 hw) (wd33 hw) (wd32 hw) (wd3 hw) (wd34 hw) (rm4_32 l Z a0 hw [] n0 ((x0 &&& (2147483647 : Int32)) % (3 : Int32)) x2 c65 F65 kA66 hk66 (0 : Int64) (0 : Int64) (0 : Int64) (0 : Int64) kA67 hk67 (-1 : Int32) (-1 : Int32) (-1 : Int32) (-1 : Int32) kA68 hk68 (-1 : Int32) (-1 : Int32) (-1 : Int32) kA69 hk69 (0 : Int32) (0 : Int32) (0 : Int32) kA70 hk70 (0 : Int32) (0 : Int32) (0 : Int32) kA71 hk71 (0 : Int64) (0 : Int64) (0 : Int64) _ P92) (a := (n0 + 0)) (P92.exa (i := 0) rfl F65.1) (by decide) (by decide) (by decide) (by decide) (by decide) (argsL := [.int ((x0 &&& (2147483647 : Int32)) % (3 : Int32)), .int (3 : Int32), .long x2]) (rest := []) pd4 rfl rfl rfl (Nat.le_of_eq rfl) (hb hby at_70) (pc' := 73) rfl ?_
      intro _ T93 L86 X93 hq
      obtain ⟨rfl, N86, c72, F72, P93⟩ := hq
      replace N86 := Fr.app N85 N86
      replace P93 : HP n0 T93.heap [c72, AC kA66 [.long (0 : Int64), .long (0 : Int64), .long (0 : Int64), .long (0 : Int64)], AC kA67 [.int (-1 : Int32), .int (-1 : Int32), .int (-1 : Int32), .int (-1 : Int32)], AC kA68 [.int (-1 : Int32), .int (-1 : Int32), .int (-1 : Int32)], AC kA69 [.int ((x0 &&& (2147483647 : Int32)) % (3 : Int32)), .int (0 : Int32), .int (0 : Int32)], AC kA70 [.int (3 : Int32), .int (0 : Int32), .int (0 : Int32)], AC kA71 [.long x2, .long (0 : Int64), .long (0 : Int64)]] := P93
      refine w_aload X93 hx (hb hby at_73) rfl rfl (pc' := 75) rfl ?_
      refine own_callV (W := 0) X93 hx hZ rfl hown hml.symm (wd39 hw) (wd40 hw) (wd42 hw) (wd41 hw) (wd3 hw) (wd43 hw) (rm5_4 l Z a0 hw [] n0 c72 F72 kA66 hk66 (0 : Int64) (0 : Int64) (0 : Int64) (0 : Int64) kA67 hk67 (-1 : Int32) (-1 : Int32) (-1 : Int32) (-1 : Int32) kA68 hk68 (-1 : Int32) (-1 : Int32) (-1 : Int32) kA69 hk69 ((x0 &&& (2147483647 : Int32)) % (3 : Int32)) (0 : Int32) (0 : Int32) kA70 hk70 (3 : Int32) (0 : Int32) (0 : Int32) kA71 hk71 x2 (0 : Int64) (0 : Int64) _ P93) (a := (n0 + 0)) (P93.exa (i := 0) rfl F72.1) (by decide) (by decide) (by decide) (by decide) (by decide) (argsL := []) (rest := []) pd5 rfl rfl rfl (Nat.le_of_eq rfl) (hb hby at_75) (pc' := 78) rfl ?_
      intro _ T94 L87 X94 hq
      obtain ⟨rfl, N87, P94⟩ := hq
      replace N87 := Fr.app N86 N87
      replace P94 : HP n0 T94.heap [c72, AC kA66 [.long (0 : Int64), .long (0 : Int64), .long (0 : Int64), .long (0 : Int64)], AC kA67 [.int (-1 : Int32), .int (-1 : Int32), .int (-1 : Int32), .int (-1 : Int32)], AC kA68 [.int (-1 : Int32), .int (-1 : Int32), .int (-1 : Int32)], AC kA69 [.int ((x0 &&& (2147483647 : Int32)) % (3 : Int32)), .int (0 : Int32), .int (0 : Int32)], AC kA70 [.int (3 : Int32), .int (0 : Int32), .int (0 : Int32)], AC kA71 [.long x2, .long (0 : Int64), .long (0 : Int64)]] := P94
      refine w_iconst (v := (1 : Int32)) X94 hx (hb hby at_78) rfl (pc' := 79) rfl ?_
      refine w_icmp_ne X94 hx (hb hby at_79) (by decide) (pcY := 96) (by decide) (pc' := 82) rfl (fun h104 => absurd h104 (by decide)) (fun h104 => ?_)
      refine w_aload X94 hx (hb hby at_82) rfl rfl (pc' := 84) rfl ?_
      refine own_callV (W := 0) X94 hx hZ rfl hown hml.symm (wd44 hw) (wd45 hw) (wd47 hw) (wd46 hw) (wd3 hw) (wd48 hw) (rm6_5 l Z a0 hw [] n0 c72 F72 kA66 hk66 (0 : Int64) (0 : Int64) (0 : Int64) (0 : Int64) kA67 hk67 (-1 : Int32) (-1 : Int32) (-1 : Int32) (-1 : Int32) kA68 hk68 (-1 : Int32) (-1 : Int32) (-1 : Int32) kA69 hk69 ((x0 &&& (2147483647 : Int32)) % (3 : Int32)) (0 : Int32) (0 : Int32) kA70 hk70 (3 : Int32) (0 : Int32) (0 : Int32) kA71 hk71 x2 (0 : Int64) (0 : Int64) _ P94) (a := (n0 + 0)) (P94.exa (i := 0) rfl F72.1) (by decide) (by decide) (by decide) (by decide) (by decide) (argsL := []) (rest := []) pd6 rfl rfl rfl (Nat.le_of_eq rfl) (hb hby at_84) (pc' := 87) rfl ?_
      intro _ T95 L88 X95 hq
      obtain ⟨rfl, N88, P95⟩ := hq
      replace N88 := Fr.app N87 N88
      replace P95 : HP n0 T95.heap [c72, AC kA66 [.long (0 : Int64), .long (0 : Int64), .long (0 : Int64), .long (0 : Int64)], AC kA67 [.int (-1 : Int32), .int (-1 : Int32), .int (-1 : Int32), .int (-1 : Int32)], AC kA68 [.int (-1 : Int32), .int (-1 : Int32), .int (-1 : Int32)], AC kA69 [.int ((x0 &&& (2147483647 : Int32)) % (3 : Int32)), .int (0 : Int32), .int (0 : Int32)], AC kA70 [.int (3 : Int32), .int (0 : Int32), .int (0 : Int32)], AC kA71 [.long x2, .long (0 : Int64), .long (0 : Int64)]] := P95
      refine w_lconst (v := (1 : Int64)) X95 hx (hb hby at_87) rfl (pc' := 88) rfl ?_
      refine w_lcmp_ne X95 hx (hb hby at_88) rfl (hb hby at_89) (by decide) (pcY := 96) (by decide) (pc' := 92) rfl (fun h105 => absurd h105 (by decide)) (fun h105 => ?_)
      refine w_iconst (v := (1 : Int32)) X95 hx (hb hby at_92) rfl (pc' := 93) rfl ?_
      refine w_goto X95 hx (hb hby at_93) (by decide) (pc' := 97) (by decide) ?_
      refine w_istore (l' := #[.val (.int x0), .val (.int x1), .val (.long x2), .second, .val (.int x3), .val (.long x4), .second, .val (.int x5), .val (.int ((x0 &&& (2147483647 : Int32)) % (3 : Int32))), .val (.int (((((x0 &&& (2147483647 : Int32)) % (3 : Int32)) + (1 : Int32)) + (x5 &&& (1 : Int32))) % (3 : Int32))), .val (.int (3 : Int32)), .val (.int ((x3 &&& (2147483647 : Int32)) % (4 : Int32))), .val (.int (0 : Int32)), .val (.ref (n0 + 0)), .val (.int (1 : Int32)), .unset]) X95 hx (hb hby at_97) rfl (pc' := 99) rfl ?_
      refine w_iload X95 hx (hb hby at_99) rfl (pc' := 101) rfl ?_
      refine w_if_eq X95 hx (hb hby at_101) (by decide) (pcY := 109) (by decide) (pc' := 104) rfl (fun h106 => ?_) (fun h106 => absurd h106 (by decide))
      refine w_aload X95 hx (hb hby at_109) rfl rfl (pc' := 111) rfl ?_
      refine w_iload X95 hx (hb hby at_111) rfl (pc' := 113) rfl ?_
      refine w_iload X95 hx (hb hby at_113) rfl (pc' := 115) rfl ?_
      refine w_lload X95 hx (hb hby at_115) rfl (pc' := 117) rfl ?_
      refine own_callV (W := 0) X95 hx hZ rfl hown hml.symm (wd30 hw) (wd31 hw) (wd33 hw) (wd32 hw) (wd3 hw) (wd34 hw) (rm4_6 l Z a0 hw [] n0 (((((x0 &&& (2147483647 : Int32)) % (3 : Int32)) + (1 : Int32)) + (x5 &&& (1 : Int32))) % (3 : Int32)) ((x3 &&& (2147483647 : Int32)) % (4 : Int32)) x4 c72 F72 kA66 hk66 (0 : Int64) (0 : Int64) (0 : Int64) (0 : Int64) kA67 hk67 (-1 : Int32) (-1 : Int32) (-1 : Int32) (-1 : Int32) kA68 hk68 (-1 : Int32) (-1 : Int32) (-1 : Int32) kA69 hk69 ((x0 &&& (2147483647 : Int32)) % (3 : Int32)) (0 : Int32) (0 : Int32) kA70 hk70 (3 : Int32) (0 : Int32) (0 : Int32) kA71 hk71 x2 (0 : Int64) (0 : Int64) _ P95) (a := (n0 + 0)) (P95.exa (i := 0) rfl F72.1) (by decide) (by decide) (by decide) (by decide) (by decide) (argsL := [.int (((((x0 &&& (2147483647 : Int32)) % (3 : Int32)) + (1 : Int32)) + (x5 &&& (1 : Int32))) % (3 : Int32)), .int ((x3 &&& (2147483647 : Int32)) % (4 : Int32)), .long x4]) (rest := []) pd4 rfl rfl rfl (Nat.le_of_eq rfl) (hb hby at_117) (pc' := 120) rfl ?_
      intro _ T96 L89 X96 hq
      obtain ⟨rfl, N89, c73, F73, P96⟩ := hq
      replace N89 := Fr.app N88 N89
      replace P96 : HP n0 T96.heap [c73, AC kA66 [.long (0 : Int64), .long (0 : Int64), .long (0 : Int64), .long (0 : Int64)], AC kA67 [.int (-1 : Int32), .int (-1 : Int32), .int (-1 : Int32), .int (-1 : Int32)], AC kA68 [.int (-1 : Int32), .int (-1 : Int32), .int (-1 : Int32)], AC kA69 [.int ((x0 &&& (2147483647 : Int32)) % (3 : Int32)), .int (((((x0 &&& (2147483647 : Int32)) % (3 : Int32)) + (1 : Int32)) + (x5 &&& (1 : Int32))) % (3 : Int32)), .int (0 : Int32)], AC kA70 [.int (3 : Int32), .int ((x3 &&& (2147483647 : Int32)) % (4 : Int32)), .int (0 : Int32)], AC kA71 [.long x2, .long x4, .long (0 : Int64)]] := P96
      refine w_iload X96 hx (hb hby at_120) rfl (pc' := 122) rfl ?_
      refine w_if_eq X96 hx (hb hby at_122) (by decide) (pcY := 129) (by decide) (pc' := 125) rfl (fun h107 => ?_) (fun h107 => absurd h107 (by decide))
      refine w_iconst (v := (1 : Int32)) X96 hx (hb hby at_129) rfl (pc' := 130) rfl ?_
      refine w_istore (l' := #[.val (.int x0), .val (.int x1), .val (.long x2), .second, .val (.int x3), .val (.long x4), .second, .val (.int x5), .val (.int ((x0 &&& (2147483647 : Int32)) % (3 : Int32))), .val (.int (((((x0 &&& (2147483647 : Int32)) % (3 : Int32)) + (1 : Int32)) + (x5 &&& (1 : Int32))) % (3 : Int32))), .val (.int (3 : Int32)), .val (.int ((x3 &&& (2147483647 : Int32)) % (4 : Int32))), .val (.int (0 : Int32)), .val (.ref (n0 + 0)), .val (.int (1 : Int32)), .val (.int (1 : Int32))]) X96 hx (hb hby at_130) rfl (pc' := 132) rfl ?_
      refine w_iload X96 hx (hb hby at_132) rfl (pc' := 134) rfl ?_
      refine w_if_eq X96 hx (hb hby at_134) (by decide) (pcY := 202) (by decide) (pc' := 137) rfl (fun h108 => absurd h108 (by decide)) (fun h108 => ?_)
      refine w_aload X96 hx (hb hby at_137) rfl rfl (pc' := 139) rfl ?_
      refine own_callV (W := 0) X96 hx hZ rfl hown hml.symm (wd39 hw) (wd40 hw) (wd42 hw) (wd41 hw) (wd3 hw) (wd43 hw) (rm5_7 l Z a0 hw [] n0 c73 F73 kA66 hk66 (0 : Int64) (0 : Int64) (0 : Int64) (0 : Int64) kA67 hk67 (-1 : Int32) (-1 : Int32) (-1 : Int32) (-1 : Int32) kA68 hk68 (-1 : Int32) (-1 : Int32) (-1 : Int32) kA69 hk69 ((x0 &&& (2147483647 : Int32)) % (3 : Int32)) (((((x0 &&& (2147483647 : Int32)) % (3 : Int32)) + (1 : Int32)) + (x5 &&& (1 : Int32))) % (3 : Int32)) (0 : Int32) kA70 hk70 (3 : Int32) ((x3 &&& (2147483647 : Int32)) % (4 : Int32)) (0 : Int32) kA71 hk71 x2 x4 (0 : Int64) _ P96) (a := (n0 + 0)) (P96.exa (i := 0) rfl F73.1) (by decide) (by decide) (by decide) (by decide) (by decide) (argsL := []) (rest := []) pd5 rfl rfl rfl (Nat.le_of_eq rfl) (hb hby at_139) (pc' := 142) rfl ?_
      intro _ T97 L90 X97 hq
      obtain ⟨rfl, N90, P97⟩ := hq
      replace N90 := Fr.app N89 N90
      replace P97 : HP n0 T97.heap [c73, AC kA66 [.long (0 : Int64), .long (0 : Int64), .long (0 : Int64), .long (0 : Int64)], AC kA67 [.int (-1 : Int32), .int (-1 : Int32), .int (-1 : Int32), .int (-1 : Int32)], AC kA68 [.int (-1 : Int32), .int (-1 : Int32), .int (-1 : Int32)], AC kA69 [.int ((x0 &&& (2147483647 : Int32)) % (3 : Int32)), .int (((((x0 &&& (2147483647 : Int32)) % (3 : Int32)) + (1 : Int32)) + (x5 &&& (1 : Int32))) % (3 : Int32)), .int (0 : Int32)], AC kA70 [.int (3 : Int32), .int ((x3 &&& (2147483647 : Int32)) % (4 : Int32)), .int (0 : Int32)], AC kA71 [.long x2, .long x4, .long (0 : Int64)]] := P97
      refine w_iload X97 hx (hb hby at_142) rfl (pc' := 144) rfl ?_
      refine w_iconst (v := (1 : Int32)) X97 hx (hb hby at_144) rfl (pc' := 145) rfl ?_
      refine w_iadd X97 hx (hb hby at_145) (pc' := 146) rfl ?_
      refine w_eqI (z := (2 : Int32)) (by decide) ?_
      refine w_icmp_ne X97 hx (hb hby at_146) (by decide) (pcY := 202) (by decide) (pc' := 149) rfl (fun h109 => absurd h109 (by decide)) (fun h109 => ?_)
      refine w_aload X97 hx (hb hby at_149) rfl rfl (pc' := 151) rfl ?_
      refine w_iload X97 hx (hb hby at_151) rfl (pc' := 153) rfl ?_
      refine own_callV (W := 0) X97 hx hZ rfl hown hml.symm (wd54 hw) (wd55 hw) (wd57 hw) (wd56 hw) (wd3 hw) (wd58 hw) (rm8_8 l Z a0 hw [] n0 c73 F73 kA66 hk66 (0 : Int64) (0 : Int64) (0 : Int64) (0 : Int64) kA67 hk67 (-1 : Int32) (-1 : Int32) (-1 : Int32) (-1 : Int32) kA68 hk68 (-1 : Int32) (-1 : Int32) (-1 : Int32) kA69 hk69 ((x0 &&& (2147483647 : Int32)) % (3 : Int32)) (((((x0 &&& (2147483647 : Int32)) % (3 : Int32)) + (1 : Int32)) + (x5 &&& (1 : Int32))) % (3 : Int32)) (0 : Int32) kA70 hk70 (3 : Int32) ((x3 &&& (2147483647 : Int32)) % (4 : Int32)) (0 : Int32) kA71 hk71 x2 x4 (0 : Int64) _ P97) (a := (n0 + 0)) (P97.exa (i := 0) rfl F73.1) (by decide) (by decide) (by decide) (by decide) (by decide) (argsL := [.int (1 : Int32)]) (rest := []) pd8 rfl rfl rfl (Nat.le_of_eq rfl) (hb hby at_153) (pc' := 156) rfl ?_
      intro _ T98 L91 X98 hq
      obtain ⟨rfl, N91, P98⟩ := hq
      replace N91 := Fr.app N90 N91
      replace P98 : HP n0 T98.heap [c73, AC kA66 [.long (0 : Int64), .long (0 : Int64), .long (0 : Int64), .long (0 : Int64)], AC kA67 [.int (-1 : Int32), .int (-1 : Int32), .int (-1 : Int32), .int (-1 : Int32)], AC kA68 [.int (-1 : Int32), .int (-1 : Int32), .int (-1 : Int32)], AC kA69 [.int ((x0 &&& (2147483647 : Int32)) % (3 : Int32)), .int (((((x0 &&& (2147483647 : Int32)) % (3 : Int32)) + (1 : Int32)) + (x5 &&& (1 : Int32))) % (3 : Int32)), .int (0 : Int32)], AC kA70 [.int (3 : Int32), .int ((x3 &&& (2147483647 : Int32)) % (4 : Int32)), .int (0 : Int32)], AC kA71 [.long x2, .long x4, .long (0 : Int64)]] := P98
      refine w_iload X98 hx (hb hby at_156) rfl (pc' := 158) rfl ?_
      refine w_icmp_ne X98 hx (hb hby at_158) (by decide) (pcY := 202) (by decide) (pc' := 161) rfl (fun h110 => absurd rfl h110) (fun h110 => ?_)
      refine w_aload X98 hx (hb hby at_161) rfl rfl (pc' := 163) rfl ?_
      refine w_iload X98 hx (hb hby at_163) rfl (pc' := 165) rfl ?_
      refine own_callV (W := 0) X98 hx hZ rfl hown hml.symm (wd59 hw) (wd60 hw) (wd62 hw) (wd61 hw) (wd3 hw) (wd63 hw) (rm9_9 l Z a0 hw [] n0 c73 F73 kA66 hk66 (0 : Int64) (0 : Int64) (0 : Int64) (0 : Int64) kA67 hk67 (-1 : Int32) (-1 : Int32) (-1 : Int32) (-1 : Int32) kA68 hk68 (-1 : Int32) (-1 : Int32) (-1 : Int32) kA69 hk69 ((x0 &&& (2147483647 : Int32)) % (3 : Int32)) (((((x0 &&& (2147483647 : Int32)) % (3 : Int32)) + (1 : Int32)) + (x5 &&& (1 : Int32))) % (3 : Int32)) (0 : Int32) kA70 hk70 (3 : Int32) ((x3 &&& (2147483647 : Int32)) % (4 : Int32)) (0 : Int32) kA71 hk71 x2 x4 (0 : Int64) _ P98) (a := (n0 + 0)) (P98.exa (i := 0) rfl F73.1) (by decide) (by decide) (by decide) (by decide) (by decide) (argsL := [.int (1 : Int32)]) (rest := []) pd9 rfl rfl rfl (Nat.le_of_eq rfl) (hb hby at_165) (pc' := 168) rfl ?_
      intro _ T99 L92 X99 hq
      obtain ⟨rfl, N92, P99⟩ := hq
      replace N92 := Fr.app N91 N92
      replace P99 : HP n0 T99.heap [c73, AC kA66 [.long (0 : Int64), .long (0 : Int64), .long (0 : Int64), .long (0 : Int64)], AC kA67 [.int (-1 : Int32), .int (-1 : Int32), .int (-1 : Int32), .int (-1 : Int32)], AC kA68 [.int (-1 : Int32), .int (-1 : Int32), .int (-1 : Int32)], AC kA69 [.int ((x0 &&& (2147483647 : Int32)) % (3 : Int32)), .int (((((x0 &&& (2147483647 : Int32)) % (3 : Int32)) + (1 : Int32)) + (x5 &&& (1 : Int32))) % (3 : Int32)), .int (0 : Int32)], AC kA70 [.int (3 : Int32), .int ((x3 &&& (2147483647 : Int32)) % (4 : Int32)), .int (0 : Int32)], AC kA71 [.long x2, .long x4, .long (0 : Int64)]] := P99
      refine w_iload X99 hx (hb hby at_168) rfl (pc' := 170) rfl ?_
      refine w_icmp_ne X99 hx (hb hby at_170) (by decide) (pcY := 202) (by decide) (pc' := 173) rfl (fun h111 => absurd rfl h111) (fun h111 => ?_)
      refine w_aload X99 hx (hb hby at_173) rfl rfl (pc' := 175) rfl ?_
      refine w_iload X99 hx (hb hby at_175) rfl (pc' := 177) rfl ?_
      refine own_callV (W := 0) X99 hx hZ rfl hown hml.symm (wd64 hw) (wd65 hw) (wd67 hw) (wd66 hw) (wd3 hw) (wd68 hw) (rm10_10 l Z a0 hw [] n0 c73 F73 kA66 hk66 (0 : Int64) (0 : Int64) (0 : Int64) (0 : Int64) kA67 hk67 (-1 : Int32) (-1 : Int32) (-1 : Int32) (-1 : Int32) kA68 hk68 (-1 : Int32) (-1 : Int32) (-1 : Int32) kA69 hk69 ((x0 &&& (2147483647 : Int32)) % (3 : Int32)) (((((x0 &&& (2147483647 : Int32)) % (3 : Int32)) + (1 : Int32)) + (x5 &&& (1 : Int32))) % (3 : Int32)) (0 : Int32) kA70 hk70 (3 : Int32) ((x3 &&& (2147483647 : Int32)) % (4 : Int32)) (0 : Int32) kA71 hk71 x2 x4 (0 : Int64) _ P99) (a := (n0 + 0)) (P99.exa (i := 0) rfl F73.1) (by decide) (by decide) (by decide) (by decide) (by decide) (argsL := [.int (1 : Int32)]) (rest := []) pd10 rfl rfl rfl (Nat.le_of_eq rfl) (hb hby at_177) (pc' := 180) rfl ?_
      intro _ T100 L93 X100 hq
      obtain ⟨rfl, N93, P100⟩ := hq
      replace N93 := Fr.app N92 N93
      replace P100 : HP n0 T100.heap [c73, AC kA66 [.long (0 : Int64), .long (0 : Int64), .long (0 : Int64), .long (0 : Int64)], AC kA67 [.int (-1 : Int32), .int (-1 : Int32), .int (-1 : Int32), .int (-1 : Int32)], AC kA68 [.int (-1 : Int32), .int (-1 : Int32), .int (-1 : Int32)], AC kA69 [.int ((x0 &&& (2147483647 : Int32)) % (3 : Int32)), .int (((((x0 &&& (2147483647 : Int32)) % (3 : Int32)) + (1 : Int32)) + (x5 &&& (1 : Int32))) % (3 : Int32)), .int (0 : Int32)], AC kA70 [.int (3 : Int32), .int ((x3 &&& (2147483647 : Int32)) % (4 : Int32)), .int (0 : Int32)], AC kA71 [.long x2, .long x4, .long (0 : Int64)]] := P100
      refine w_lload X100 hx (hb hby at_180) rfl (pc' := 182) rfl ?_
      refine w_lcmp_ne X100 hx (hb hby at_182) rfl (hb hby at_183) (by decide) (pcY := 202) (by decide) (pc' := 186) rfl (fun h112 => absurd rfl h112) (fun h112 => ?_)
      refine w_aload X100 hx (hb hby at_186) rfl rfl (pc' := 188) rfl ?_
      refine own_callV (W := 0) X100 hx hZ rfl hown hml.symm (wd44 hw) (wd45 hw) (wd47 hw) (wd46 hw) (wd3 hw) (wd48 hw) (rm6_11 l Z a0 hw [] n0 c73 F73 kA66 hk66 (0 : Int64) (0 : Int64) (0 : Int64) (0 : Int64) kA67 hk67 (-1 : Int32) (-1 : Int32) (-1 : Int32) (-1 : Int32) kA68 hk68 (-1 : Int32) (-1 : Int32) (-1 : Int32) kA69 hk69 ((x0 &&& (2147483647 : Int32)) % (3 : Int32)) (((((x0 &&& (2147483647 : Int32)) % (3 : Int32)) + (1 : Int32)) + (x5 &&& (1 : Int32))) % (3 : Int32)) (0 : Int32) kA70 hk70 (3 : Int32) ((x3 &&& (2147483647 : Int32)) % (4 : Int32)) (0 : Int32) kA71 hk71 x2 x4 (0 : Int64) _ P100) (a := (n0 + 0)) (P100.exa (i := 0) rfl F73.1) (by decide) (by decide) (by decide) (by decide) (by decide) (argsL := []) (rest := []) pd6 rfl rfl rfl (Nat.le_of_eq rfl) (hb hby at_188) (pc' := 191) rfl ?_
      intro _ T101 L94 X101 hq
      obtain ⟨rfl, N94, P101⟩ := hq
      replace N94 := Fr.app N93 N94
      replace P101 : HP n0 T101.heap [c73, AC kA66 [.long (0 : Int64), .long (0 : Int64), .long (0 : Int64), .long (0 : Int64)], AC kA67 [.int (-1 : Int32), .int (-1 : Int32), .int (-1 : Int32), .int (-1 : Int32)], AC kA68 [.int (-1 : Int32), .int (-1 : Int32), .int (-1 : Int32)], AC kA69 [.int ((x0 &&& (2147483647 : Int32)) % (3 : Int32)), .int (((((x0 &&& (2147483647 : Int32)) % (3 : Int32)) + (1 : Int32)) + (x5 &&& (1 : Int32))) % (3 : Int32)), .int (0 : Int32)], AC kA70 [.int (3 : Int32), .int ((x3 &&& (2147483647 : Int32)) % (4 : Int32)), .int (0 : Int32)], AC kA71 [.long x2, .long x4, .long (0 : Int64)]] := P101
      refine w_ldc2 X101 hx (hb hby at_191) hown (mvT hZ (wd69 hw)) (pc' := 194) rfl ?_
      refine w_lcmp_ne X101 hx (hb hby at_194) rfl (hb hby at_195) (by decide) (pcY := 202) (by decide) (pc' := 198) rfl (fun h113 => absurd h113 (by decide)) (fun h113 => ?_)
      refine w_iconst (v := (1 : Int32)) X101 hx (hb hby at_198) rfl (pc' := 199) rfl ?_
      refine w_goto X101 hx (hb hby at_199) (by decide) (pc' := 203) (by decide) ?_
      refine w_istore (l' := #[.val (.int x0), .val (.int x1), .val (.long x2), .second, .val (.int x3), .val (.long x4), .second, .val (.int x5), .val (.int ((x0 &&& (2147483647 : Int32)) % (3 : Int32))), .val (.int (((((x0 &&& (2147483647 : Int32)) % (3 : Int32)) + (1 : Int32)) + (x5 &&& (1 : Int32))) % (3 : Int32))), .val (.int (3 : Int32)), .val (.int ((x3 &&& (2147483647 : Int32)) % (4 : Int32))), .val (.int (0 : Int32)), .val (.ref (n0 + 0)), .val (.int (1 : Int32)), .val (.int (1 : Int32))]) X101 hx (hb hby at_203) rfl (pc' := 205) rfl ?_
      refine w_iload X101 hx (hb hby at_205) rfl (pc' := 207) rfl ?_
      refine w_if_ne X101 hx (hb hby at_207) (by decide) (pcY := 255) (by decide) (pc' := 210) rfl (fun h114 => absurd h114 (by decide)) (fun h114 => ?_)
      refine w_iload X101 hx (hb hby at_210) rfl (pc' := 212) rfl ?_
      refine w_if_eq X101 hx (hb hby at_212) (by decide) (pcY := 252) (by decide) (pc' := 215) rfl (fun h115 => absurd h115 (by decide)) (fun h115 => ?_)
      refine w_aload X101 hx (hb hby at_215) rfl rfl (pc' := 217) rfl ?_
      refine w_iconst (v := (0 : Int32)) X101 hx (hb hby at_217) rfl (pc' := 218) rfl ?_
      refine own_callV (W := 0) X101 hx hZ rfl hown hml.symm (wd54 hw) (wd55 hw) (wd57 hw) (wd56 hw) (wd3 hw) (wd58 hw) (rm8_12 l Z a0 hw [] n0 c73 F73 kA66 hk66 (0 : Int64) (0 : Int64) (0 : Int64) (0 : Int64) kA67 hk67 (-1 : Int32) (-1 : Int32) (-1 : Int32) (-1 : Int32) kA68 hk68 (-1 : Int32) (-1 : Int32) (-1 : Int32) kA69 hk69 ((x0 &&& (2147483647 : Int32)) % (3 : Int32)) (((((x0 &&& (2147483647 : Int32)) % (3 : Int32)) + (1 : Int32)) + (x5 &&& (1 : Int32))) % (3 : Int32)) (0 : Int32) kA70 hk70 (3 : Int32) ((x3 &&& (2147483647 : Int32)) % (4 : Int32)) (0 : Int32) kA71 hk71 x2 x4 (0 : Int64) _ P101) (a := (n0 + 0)) (P101.exa (i := 0) rfl F73.1) (by decide) (by decide) (by decide) (by decide) (by decide) (argsL := [.int (0 : Int32)]) (rest := []) pd8 rfl rfl rfl (Nat.le_of_eq rfl) (hb hby at_218) (pc' := 221) rfl ?_
      intro _ T102 L95 X102 hq
      obtain ⟨rfl, N95, P102⟩ := hq
      replace N95 := Fr.app N94 N95
      replace P102 : HP n0 T102.heap [c73, AC kA66 [.long (0 : Int64), .long (0 : Int64), .long (0 : Int64), .long (0 : Int64)], AC kA67 [.int (-1 : Int32), .int (-1 : Int32), .int (-1 : Int32), .int (-1 : Int32)], AC kA68 [.int (-1 : Int32), .int (-1 : Int32), .int (-1 : Int32)], AC kA69 [.int ((x0 &&& (2147483647 : Int32)) % (3 : Int32)), .int (((((x0 &&& (2147483647 : Int32)) % (3 : Int32)) + (1 : Int32)) + (x5 &&& (1 : Int32))) % (3 : Int32)), .int (0 : Int32)], AC kA70 [.int (3 : Int32), .int ((x3 &&& (2147483647 : Int32)) % (4 : Int32)), .int (0 : Int32)], AC kA71 [.long x2, .long x4, .long (0 : Int64)]] := P102
      refine w_iload X102 hx (hb hby at_221) rfl (pc' := 223) rfl ?_
      refine w_icmp_ne X102 hx (hb hby at_223) (by decide) (pcY := 252) (by decide) (pc' := 226) rfl (fun h116 => absurd rfl h116) (fun h116 => ?_)
      refine w_aload X102 hx (hb hby at_226) rfl rfl (pc' := 228) rfl ?_
      refine w_iconst (v := (0 : Int32)) X102 hx (hb hby at_228) rfl (pc' := 229) rfl ?_
      refine own_callV (W := 0) X102 hx hZ rfl hown hml.symm (wd59 hw) (wd60 hw) (wd62 hw) (wd61 hw) (wd3 hw) (wd63 hw) (rm9_13 l Z a0 hw [] n0 c73 F73 kA66 hk66 (0 : Int64) (0 : Int64) (0 : Int64) (0 : Int64) kA67 hk67 (-1 : Int32) (-1 : Int32) (-1 : Int32) (-1 : Int32) kA68 hk68 (-1 : Int32) (-1 : Int32) (-1 : Int32) kA69 hk69 ((x0 &&& (2147483647 : Int32)) % (3 : Int32)) (((((x0 &&& (2147483647 : Int32)) % (3 : Int32)) + (1 : Int32)) + (x5 &&& (1 : Int32))) % (3 : Int32)) (0 : Int32) kA70 hk70 (3 : Int32) ((x3 &&& (2147483647 : Int32)) % (4 : Int32)) (0 : Int32) kA71 hk71 x2 x4 (0 : Int64) _ P102) (a := (n0 + 0)) (P102.exa (i := 0) rfl F73.1) (by decide) (by decide) (by decide) (by decide) (by decide) (argsL := [.int (0 : Int32)]) (rest := []) pd9 rfl rfl rfl (Nat.le_of_eq rfl) (hb hby at_229) (pc' := 232) rfl ?_
      intro _ T103 L96 X103 hq
      obtain ⟨rfl, N96, P103⟩ := hq
      replace N96 := Fr.app N95 N96
      replace P103 : HP n0 T103.heap [c73, AC kA66 [.long (0 : Int64), .long (0 : Int64), .long (0 : Int64), .long (0 : Int64)], AC kA67 [.int (-1 : Int32), .int (-1 : Int32), .int (-1 : Int32), .int (-1 : Int32)], AC kA68 [.int (-1 : Int32), .int (-1 : Int32), .int (-1 : Int32)], AC kA69 [.int ((x0 &&& (2147483647 : Int32)) % (3 : Int32)), .int (((((x0 &&& (2147483647 : Int32)) % (3 : Int32)) + (1 : Int32)) + (x5 &&& (1 : Int32))) % (3 : Int32)), .int (0 : Int32)], AC kA70 [.int (3 : Int32), .int ((x3 &&& (2147483647 : Int32)) % (4 : Int32)), .int (0 : Int32)], AC kA71 [.long x2, .long x4, .long (0 : Int64)]] := P103
      refine w_iload X103 hx (hb hby at_232) rfl (pc' := 234) rfl ?_
      refine w_icmp_ne X103 hx (hb hby at_234) (by decide) (pcY := 252) (by decide) (pc' := 237) rfl (fun h117 => absurd h117 (by decide)) (fun h117 => ?_)
      refine w_aload X103 hx (hb hby at_237) rfl rfl (pc' := 239) rfl ?_
      refine w_iconst (v := (0 : Int32)) X103 hx (hb hby at_239) rfl (pc' := 240) rfl ?_
      refine own_callV (W := 0) X103 hx hZ rfl hown hml.symm (wd64 hw) (wd65 hw) (wd67 hw) (wd66 hw) (wd3 hw) (wd68 hw) (rm10_14 l Z a0 hw [] n0 c73 F73 kA66 hk66 (0 : Int64) (0 : Int64) (0 : Int64) (0 : Int64) kA67 hk67 (-1 : Int32) (-1 : Int32) (-1 : Int32) (-1 : Int32) kA68 hk68 (-1 : Int32) (-1 : Int32) (-1 : Int32) kA69 hk69 ((x0 &&& (2147483647 : Int32)) % (3 : Int32)) (((((x0 &&& (2147483647 : Int32)) % (3 : Int32)) + (1 : Int32)) + (x5 &&& (1 : Int32))) % (3 : Int32)) (0 : Int32) kA70 hk70 (3 : Int32) ((x3 &&& (2147483647 : Int32)) % (4 : Int32)) (0 : Int32) kA71 hk71 x2 x4 (0 : Int64) _ P103) (a := (n0 + 0)) (P103.exa (i := 0) rfl F73.1) (by decide) (by decide) (by decide) (by decide) (by decide) (argsL := [.int (0 : Int32)]) (rest := []) pd10 rfl rfl rfl (Nat.le_of_eq rfl) (hb hby at_240) (pc' := 243) rfl ?_
      intro _ T104 L97 X104 hq
      obtain ⟨rfl, N97, P104⟩ := hq
      replace N97 := Fr.app N96 N97
      replace P104 : HP n0 T104.heap [c73, AC kA66 [.long (0 : Int64), .long (0 : Int64), .long (0 : Int64), .long (0 : Int64)], AC kA67 [.int (-1 : Int32), .int (-1 : Int32), .int (-1 : Int32), .int (-1 : Int32)], AC kA68 [.int (-1 : Int32), .int (-1 : Int32), .int (-1 : Int32)], AC kA69 [.int ((x0 &&& (2147483647 : Int32)) % (3 : Int32)), .int (((((x0 &&& (2147483647 : Int32)) % (3 : Int32)) + (1 : Int32)) + (x5 &&& (1 : Int32))) % (3 : Int32)), .int (0 : Int32)], AC kA70 [.int (3 : Int32), .int ((x3 &&& (2147483647 : Int32)) % (4 : Int32)), .int (0 : Int32)], AC kA71 [.long x2, .long x4, .long (0 : Int64)]] := P104
      refine w_lloadN X104 hx (hb hby at_243) rfl (pc' := 244) rfl ?_
      refine w_lcmp_ne X104 hx (hb hby at_244) rfl (hb hby at_245) (by decide) (pcY := 252) (by decide) (pc' := 248) rfl (fun h118 => absurd rfl h118) (fun h118 => ?_)
      refine w_iconst (v := (1 : Int32)) X104 hx (hb hby at_248) rfl (pc' := 249) rfl ?_
      refine w_goto X104 hx (hb hby at_249) (by decide) (pc' := 253) (by decide) ?_
      refine w_istore (l' := #[.val (.int x0), .val (.int x1), .val (.long x2), .second, .val (.int x3), .val (.long x4), .second, .val (.int x5), .val (.int ((x0 &&& (2147483647 : Int32)) % (3 : Int32))), .val (.int (((((x0 &&& (2147483647 : Int32)) % (3 : Int32)) + (1 : Int32)) + (x5 &&& (1 : Int32))) % (3 : Int32))), .val (.int (3 : Int32)), .val (.int ((x3 &&& (2147483647 : Int32)) % (4 : Int32))), .val (.int (0 : Int32)), .val (.ref (n0 + 0)), .val (.int (1 : Int32)), .val (.int (1 : Int32))]) X104 hx (hb hby at_253) rfl (pc' := 255) rfl ?_
      refine w_iload X104 hx (hb hby at_255) rfl (pc' := 257) rfl ?_
      refine w_if_eq X104 hx (hb hby at_257) (by decide) (pcY := 285) (by decide) (pc' := 260) rfl (fun h119 => absurd h119 (by decide)) (fun h119 => ?_)
      refine w_aload X104 hx (hb hby at_260) rfl rfl (pc' := 262) rfl ?_
      refine own_callV (W := 0) X104 hx hZ rfl hown hml.symm (wd70 hw) (wd71 hw) (wd73 hw) (wd72 hw) (wd3 hw) (wd74 hw) (rm11_15 l Z a0 hw [] n0 c73 F73 kA66 hk66 (0 : Int64) (0 : Int64) (0 : Int64) (0 : Int64) kA67 hk67 (-1 : Int32) (-1 : Int32) (-1 : Int32) (-1 : Int32) kA68 hk68 (-1 : Int32) (-1 : Int32) (-1 : Int32) kA69 hk69 ((x0 &&& (2147483647 : Int32)) % (3 : Int32)) (((((x0 &&& (2147483647 : Int32)) % (3 : Int32)) + (1 : Int32)) + (x5 &&& (1 : Int32))) % (3 : Int32)) (0 : Int32) kA70 hk70 (3 : Int32) ((x3 &&& (2147483647 : Int32)) % (4 : Int32)) (0 : Int32) kA71 hk71 x2 x4 (0 : Int64) _ P104) (a := (n0 + 0)) (P104.exa (i := 0) rfl F73.1) (by decide) (by decide) (by decide) (by decide) (by decide) (argsL := []) (rest := []) pd11 rfl rfl rfl (Nat.le_of_eq rfl) (hb hby at_262) (pc' := 265) rfl ?_
      intro _ T105 L98 X105 hq
      obtain ⟨rfl, N98, P105⟩ := hq
      replace N98 := Fr.app N97 N98
      replace P105 : HP n0 T105.heap [c73, AC kA66 [.long (0 : Int64), .long (0 : Int64), .long (0 : Int64), .long (0 : Int64)], AC kA67 [.int (-1 : Int32), .int (-1 : Int32), .int (-1 : Int32), .int (-1 : Int32)], AC kA68 [.int (-1 : Int32), .int (-1 : Int32), .int (-1 : Int32)], AC kA69 [.int ((x0 &&& (2147483647 : Int32)) % (3 : Int32)), .int (((((x0 &&& (2147483647 : Int32)) % (3 : Int32)) + (1 : Int32)) + (x5 &&& (1 : Int32))) % (3 : Int32)), .int (0 : Int32)], AC kA70 [.int (3 : Int32), .int ((x3 &&& (2147483647 : Int32)) % (4 : Int32)), .int (0 : Int32)], AC kA71 [.long x2, .long x4, .long (0 : Int64)]] := P105
      refine w_iconst (v := (3 : Int32)) X105 hx (hb hby at_265) rfl (pc' := 266) rfl ?_
      refine w_icmp_ne X105 hx (hb hby at_266) (by decide) (pcY := 285) (by decide) (pc' := 269) rfl (fun h120 => absurd h120 (by decide)) (fun h120 => ?_)
      refine w_aload X105 hx (hb hby at_269) rfl rfl (pc' := 271) rfl ?_
      refine w_iload X105 hx (hb hby at_271) rfl (pc' := 273) rfl ?_
      refine own_callV (W := 0) X105 hx hZ rfl hown hml.symm (wd75 hw) (wd76 hw) (wd78 hw) (wd77 hw) (wd3 hw) (wd79 hw) (rm12_33 l Z a0 hw [] n0 c73 F73 kA66 hk66 (0 : Int64) (0 : Int64) (0 : Int64) (0 : Int64) kA67 hk67 (-1 : Int32) (-1 : Int32) (-1 : Int32) (-1 : Int32) kA68 hk68 (-1 : Int32) (-1 : Int32) (-1 : Int32) kA69 hk69 ((x0 &&& (2147483647 : Int32)) % (3 : Int32)) (((((x0 &&& (2147483647 : Int32)) % (3 : Int32)) + (1 : Int32)) + (x5 &&& (1 : Int32))) % (3 : Int32)) (0 : Int32) kA70 hk70 (3 : Int32) ((x3 &&& (2147483647 : Int32)) % (4 : Int32)) (0 : Int32) kA71 hk71 x2 x4 (0 : Int64) _ P105) (a := (n0 + 0)) (P105.exa (i := 0) rfl F73.1) (by decide) (by decide) (by decide) (by decide) (by decide) (argsL := [.int (3 : Int32)]) (rest := []) pd12 rfl rfl rfl (Nat.le_of_eq rfl) (hb hby at_273) (pc' := 276) rfl ?_
      intro _ T106 L99 X106 hq
      obtain ⟨rfl, N99, P106⟩ := hq
      replace N99 := Fr.app N98 N99
      replace P106 : HP n0 T106.heap [c73, AC kA66 [.long (0 : Int64), .long (0 : Int64), .long (0 : Int64), .long (0 : Int64)], AC kA67 [.int (-1 : Int32), .int (-1 : Int32), .int (-1 : Int32), .int (-1 : Int32)], AC kA68 [.int (-1 : Int32), .int (-1 : Int32), .int (-1 : Int32)], AC kA69 [.int ((x0 &&& (2147483647 : Int32)) % (3 : Int32)), .int (((((x0 &&& (2147483647 : Int32)) % (3 : Int32)) + (1 : Int32)) + (x5 &&& (1 : Int32))) % (3 : Int32)), .int (0 : Int32)], AC kA70 [.int (3 : Int32), .int ((x3 &&& (2147483647 : Int32)) % (4 : Int32)), .int (0 : Int32)], AC kA71 [.long x2, .long x4, .long (0 : Int64)]] := P106
      refine w_lconst (v := (0 : Int64)) X106 hx (hb hby at_276) rfl (pc' := 277) rfl ?_
      refine w_lcmp_ne X106 hx (hb hby at_277) rfl (hb hby at_278) (by decide) (pcY := 285) (by decide) (pc' := 281) rfl (fun h121 => absurd h121 (by decide)) (fun h121 => ?_)
      refine w_iconst (v := (1 : Int32)) X106 hx (hb hby at_281) rfl (pc' := 282) rfl ?_
      refine w_goto X106 hx (hb hby at_282) (by decide) (pc' := 286) (by decide) ?_
      refine w_istore (l' := #[.val (.int x0), .val (.int x1), .val (.long x2), .second, .val (.int x3), .val (.long x4), .second, .val (.int x5), .val (.int ((x0 &&& (2147483647 : Int32)) % (3 : Int32))), .val (.int (((((x0 &&& (2147483647 : Int32)) % (3 : Int32)) + (1 : Int32)) + (x5 &&& (1 : Int32))) % (3 : Int32))), .val (.int (3 : Int32)), .val (.int ((x3 &&& (2147483647 : Int32)) % (4 : Int32))), .val (.int (0 : Int32)), .val (.ref (n0 + 0)), .val (.int (1 : Int32)), .val (.int (1 : Int32))]) X106 hx (hb hby at_286) rfl (pc' := 288) rfl ?_
      refine w_iload X106 hx (hb hby at_288) rfl (pc' := 290) rfl ?_
      exact w_ret_n (t := .boolean) X106 hx hret hlk (by simp) (hb hby at_290) (z' := (1 : Int32)) rfl (by decide) (by decide) ⟨rfl, N99⟩
    · refine w_iconst (v := (1 : Int32)) X0 hx (hb hby at_45) rfl (pc' := 46) rfl ?_
      refine w_goto X0 hx (hb hby at_46) (by decide) (pc' := 50) (by decide) ?_
      refine w_istore (l' := #[.val (.int x0), .val (.int x1), .val (.long x2), .second, .val (.int x3), .val (.long x4), .second, .val (.int x5), .val (.int ((x0 &&& (2147483647 : Int32)) % (3 : Int32))), .val (.int (((((x0 &&& (2147483647 : Int32)) % (3 : Int32)) + (1 : Int32)) + (x5 &&& (1 : Int32))) % (3 : Int32))), .val (.int (3 : Int32)), .val (.int ((x3 &&& (2147483647 : Int32)) % (4 : Int32))), .val (.int (1 : Int32)), .unset, .unset, .unset]) X0 hx (hb hby at_50) rfl (pc' := 52) rfl ?_
      refine w_new (j := 0) X0 hx hZ hown (wd1 hw) (wd2 hw) (wd3 hw) P0 fl_C0 dv_C0 rfl (ly_C0 hw) (hb hby at_52) (by decide) (by decide) rfl (pc' := 55) rfl ?_
      intro T107 c74 X107 P107 F74
      replace P107 : HP n0 T107.heap [c74] := P107
      refine w_dup X107 hx (hb hby at_55) rfl (pc' := 56) rfl ?_
      refine w_iconst (v := (3 : Int32)) X107 hx (hb hby at_56) rfl (pc' := 57) rfl ?_
      refine w_iconst (v := (4 : Int32)) X107 hx (hb hby at_57) rfl (pc' := 58) rfl ?_
      refine own_callI (W := 1) X107 hx hZ rfl rfl hown hml.symm (wd4 hw) (wd5 hw) (wd3 hw) (wd6 hw) (rm1_0 l Z a0 hw [] n0 c74 F74 _ P107) (by decide) (by decide) (by decide) (by decide) (by decide) (a := (n0 + 0)) (argsL := [.int (3 : Int32), .int (4 : Int32)]) (rest := [.ref (n0 + 0)]) pd1 rfl rfl rfl (Nat.le_of_eq rfl) (hb hby at_58) (pc' := 61) rfl ?_
      intro _ T108 L100 X108 hq
      obtain ⟨rfl, N100, c75, F75, kA76, hk76, kA77, hk77, kA78, hk78, kA79, hk79, kA80, hk80, kA81, hk81, P108⟩ := hq
      replace N100 := Fr.app N0 N100
      replace P108 : HP n0 T108.heap [c75, AC kA76 [.long (0 : Int64), .long (0 : Int64), .long (0 : Int64), .long (0 : Int64)], AC kA77 [.int (-1 : Int32), .int (-1 : Int32), .int (-1 : Int32), .int (-1 : Int32)], AC kA78 [.int (-1 : Int32), .int (-1 : Int32), .int (-1 : Int32)], AC kA79 [.int (0 : Int32), .int (0 : Int32), .int (0 : Int32)], AC kA80 [.int (0 : Int32), .int (0 : Int32), .int (0 : Int32)], AC kA81 [.long (0 : Int64), .long (0 : Int64), .long (0 : Int64)]] := P108
      refine w_astore (l' := #[.val (.int x0), .val (.int x1), .val (.long x2), .second, .val (.int x3), .val (.long x4), .second, .val (.int x5), .val (.int ((x0 &&& (2147483647 : Int32)) % (3 : Int32))), .val (.int (((((x0 &&& (2147483647 : Int32)) % (3 : Int32)) + (1 : Int32)) + (x5 &&& (1 : Int32))) % (3 : Int32))), .val (.int (3 : Int32)), .val (.int ((x3 &&& (2147483647 : Int32)) % (4 : Int32))), .val (.int (1 : Int32)), .val (.ref (n0 + 0)), .unset, .unset]) X108 hx (hb hby at_61) rfl rfl (pc' := 63) rfl ?_
      refine w_aload X108 hx (hb hby at_63) rfl rfl (pc' := 65) rfl ?_
      refine w_iload X108 hx (hb hby at_65) rfl (pc' := 67) rfl ?_
      refine w_iload X108 hx (hb hby at_67) rfl (pc' := 69) rfl ?_
      refine w_lloadN X108 hx (hb hby at_69) rfl (pc' := 70) rfl ?_
      refine own_callV (W := 0) X108 hx hZ rfl hown hml.symm (wd30 hw) (wd31 hw) (wd33 hw) (wd32 hw) (wd3 hw) (wd34 hw) (rm4_32 l Z a0 hw [] n0 ((x0 &&& (2147483647 : Int32)) % (3 : Int32)) x2 c75 F75 kA76 hk76 (0 : Int64) (0 : Int64) (0 : Int64) (0 : Int64) kA77 hk77 (-1 : Int32) (-1 : Int32) (-1 : Int32) (-1 : Int32) kA78 hk78 (-1 : Int32) (-1 : Int32) (-1 : Int32) kA79 hk79 (0 : Int32) (0 : Int32) (0 : Int32) kA80 hk80 (0 : Int32) (0 : Int32) (0 : Int32) kA81 hk81 (0 : Int64) (0 : Int64) (0 : Int64) _ P108) (a := (n0 + 0)) (P108.exa (i := 0) rfl F75.1) (by decide) (by decide) (by decide) (by decide) (by decide) (argsL := [.int ((x0 &&& (2147483647 : Int32)) % (3 : Int32)), .int (3 : Int32), .long x2]) (rest := []) pd4 rfl rfl rfl (Nat.le_of_eq rfl) (hb hby at_70) (pc' := 73) rfl ?_
      intro _ T109 L101 X109 hq
      obtain ⟨rfl, N101, c82, F82, P109⟩ := hq
      replace N101 := Fr.app N100 N101
      replace P109 : HP n0 T109.heap [c82, AC kA76 [.long (0 : Int64), .long (0 : Int64), .long (0 : Int64), .long (0 : Int64)], AC kA77 [.int (-1 : Int32), .int (-1 : Int32), .int (-1 : Int32), .int (-1 : Int32)], AC kA78 [.int (-1 : Int32), .int (-1 : Int32), .int (-1 : Int32)], AC kA79 [.int ((x0 &&& (2147483647 : Int32)) % (3 : Int32)), .int (0 : Int32), .int (0 : Int32)], AC kA80 [.int (3 : Int32), .int (0 : Int32), .int (0 : Int32)], AC kA81 [.long x2, .long (0 : Int64), .long (0 : Int64)]] := P109
      refine w_aload X109 hx (hb hby at_73) rfl rfl (pc' := 75) rfl ?_
      refine own_callV (W := 0) X109 hx hZ rfl hown hml.symm (wd39 hw) (wd40 hw) (wd42 hw) (wd41 hw) (wd3 hw) (wd43 hw) (rm5_4 l Z a0 hw [] n0 c82 F82 kA76 hk76 (0 : Int64) (0 : Int64) (0 : Int64) (0 : Int64) kA77 hk77 (-1 : Int32) (-1 : Int32) (-1 : Int32) (-1 : Int32) kA78 hk78 (-1 : Int32) (-1 : Int32) (-1 : Int32) kA79 hk79 ((x0 &&& (2147483647 : Int32)) % (3 : Int32)) (0 : Int32) (0 : Int32) kA80 hk80 (3 : Int32) (0 : Int32) (0 : Int32) kA81 hk81 x2 (0 : Int64) (0 : Int64) _ P109) (a := (n0 + 0)) (P109.exa (i := 0) rfl F82.1) (by decide) (by decide) (by decide) (by decide) (by decide) (argsL := []) (rest := []) pd5 rfl rfl rfl (Nat.le_of_eq rfl) (hb hby at_75) (pc' := 78) rfl ?_
      intro _ T110 L102 X110 hq
      obtain ⟨rfl, N102, P110⟩ := hq
      replace N102 := Fr.app N101 N102
      replace P110 : HP n0 T110.heap [c82, AC kA76 [.long (0 : Int64), .long (0 : Int64), .long (0 : Int64), .long (0 : Int64)], AC kA77 [.int (-1 : Int32), .int (-1 : Int32), .int (-1 : Int32), .int (-1 : Int32)], AC kA78 [.int (-1 : Int32), .int (-1 : Int32), .int (-1 : Int32)], AC kA79 [.int ((x0 &&& (2147483647 : Int32)) % (3 : Int32)), .int (0 : Int32), .int (0 : Int32)], AC kA80 [.int (3 : Int32), .int (0 : Int32), .int (0 : Int32)], AC kA81 [.long x2, .long (0 : Int64), .long (0 : Int64)]] := P110
      refine w_iconst (v := (1 : Int32)) X110 hx (hb hby at_78) rfl (pc' := 79) rfl ?_
      refine w_icmp_ne X110 hx (hb hby at_79) (by decide) (pcY := 96) (by decide) (pc' := 82) rfl (fun h122 => absurd h122 (by decide)) (fun h122 => ?_)
      refine w_aload X110 hx (hb hby at_82) rfl rfl (pc' := 84) rfl ?_
      refine own_callV (W := 0) X110 hx hZ rfl hown hml.symm (wd44 hw) (wd45 hw) (wd47 hw) (wd46 hw) (wd3 hw) (wd48 hw) (rm6_5 l Z a0 hw [] n0 c82 F82 kA76 hk76 (0 : Int64) (0 : Int64) (0 : Int64) (0 : Int64) kA77 hk77 (-1 : Int32) (-1 : Int32) (-1 : Int32) (-1 : Int32) kA78 hk78 (-1 : Int32) (-1 : Int32) (-1 : Int32) kA79 hk79 ((x0 &&& (2147483647 : Int32)) % (3 : Int32)) (0 : Int32) (0 : Int32) kA80 hk80 (3 : Int32) (0 : Int32) (0 : Int32) kA81 hk81 x2 (0 : Int64) (0 : Int64) _ P110) (a := (n0 + 0)) (P110.exa (i := 0) rfl F82.1) (by decide) (by decide) (by decide) (by decide) (by decide) (argsL := []) (rest := []) pd6 rfl rfl rfl (Nat.le_of_eq rfl) (hb hby at_84) (pc' := 87) rfl ?_
      intro _ T111 L103 X111 hq
      obtain ⟨rfl, N103, P111⟩ := hq
      replace N103 := Fr.app N102 N103
      replace P111 : HP n0 T111.heap [c82, AC kA76 [.long (0 : Int64), .long (0 : Int64), .long (0 : Int64), .long (0 : Int64)], AC kA77 [.int (-1 : Int32), .int (-1 : Int32), .int (-1 : Int32), .int (-1 : Int32)], AC kA78 [.int (-1 : Int32), .int (-1 : Int32), .int (-1 : Int32)], AC kA79 [.int ((x0 &&& (2147483647 : Int32)) % (3 : Int32)), .int (0 : Int32), .int (0 : Int32)], AC kA80 [.int (3 : Int32), .int (0 : Int32), .int (0 : Int32)], AC kA81 [.long x2, .long (0 : Int64), .long (0 : Int64)]] := P111
      refine w_lconst (v := (1 : Int64)) X111 hx (hb hby at_87) rfl (pc' := 88) rfl ?_
      refine w_lcmp_ne X111 hx (hb hby at_88) rfl (hb hby at_89) (by decide) (pcY := 96) (by decide) (pc' := 92) rfl (fun h123 => absurd h123 (by decide)) (fun h123 => ?_)
      refine w_iconst (v := (1 : Int32)) X111 hx (hb hby at_92) rfl (pc' := 93) rfl ?_
      refine w_goto X111 hx (hb hby at_93) (by decide) (pc' := 97) (by decide) ?_
      refine w_istore (l' := #[.val (.int x0), .val (.int x1), .val (.long x2), .second, .val (.int x3), .val (.long x4), .second, .val (.int x5), .val (.int ((x0 &&& (2147483647 : Int32)) % (3 : Int32))), .val (.int (((((x0 &&& (2147483647 : Int32)) % (3 : Int32)) + (1 : Int32)) + (x5 &&& (1 : Int32))) % (3 : Int32))), .val (.int (3 : Int32)), .val (.int ((x3 &&& (2147483647 : Int32)) % (4 : Int32))), .val (.int (1 : Int32)), .val (.ref (n0 + 0)), .val (.int (1 : Int32)), .unset]) X111 hx (hb hby at_97) rfl (pc' := 99) rfl ?_
      refine w_iload X111 hx (hb hby at_99) rfl (pc' := 101) rfl ?_
      refine w_if_eq X111 hx (hb hby at_101) (by decide) (pcY := 109) (by decide) (pc' := 104) rfl (fun h124 => absurd h124 (by decide)) (fun h124 => ?_)
      refine w_aload X111 hx (hb hby at_104) rfl rfl (pc' := 106) rfl ?_
      refine own_callV (W := 0) X111 hx hZ rfl hown hml.symm (wd49 hw) (wd50 hw) (wd52 hw) (wd51 hw) (wd3 hw) (wd53 hw) (rm7_17 l Z a0 hw [] n0 c82 F82 kA76 hk76 (0 : Int64) (0 : Int64) (0 : Int64) (0 : Int64) kA77 hk77 (-1 : Int32) (-1 : Int32) (-1 : Int32) (-1 : Int32) kA78 hk78 (-1 : Int32) (-1 : Int32) (-1 : Int32) kA79 hk79 ((x0 &&& (2147483647 : Int32)) % (3 : Int32)) (0 : Int32) (0 : Int32) kA80 hk80 (3 : Int32) (0 : Int32) (0 : Int32) kA81 hk81 x2 (0 : Int64) (0 : Int64) _ P111) (a := (n0 + 0)) (P111.exa (i := 0) rfl F82.1) (by decide) (by decide) (by decide) (by decide) (by decide) (argsL := []) (rest := []) pd7 rfl rfl rfl (Nat.le_of_eq rfl) (hb hby at_106) (pc' := 109) rfl ?_
      intro _ T112 L104 X112 hq
      obtain ⟨rfl, N104, c83, F83, P112⟩ := hq
      replace N104 := Fr.app N103 N104
      replace P112 : HP n0 T112.heap [c83, AC kA76 [.long (0 : Int64), .long (0 : Int64), .long (0 : Int64), .long (0 : Int64)], AC kA77 [.int (-1 : Int32), .int (-1 : Int32), .int (-1 : Int32), .int (-1 : Int32)], AC kA78 [.int (-1 : Int32), .int (-1 : Int32), .int (-1 : Int32)], AC kA79 [.int ((x0 &&& (2147483647 : Int32)) % (3 : Int32)), .int (0 : Int32), .int (0 : Int32)], AC kA80 [.int (3 : Int32), .int (0 : Int32), .int (0 : Int32)], AC kA81 [.long x2, .long (0 : Int64), .long (0 : Int64)]] := P112
      refine w_aload X112 hx (hb hby at_109) rfl rfl (pc' := 111) rfl ?_
      refine w_iload X112 hx (hb hby at_111) rfl (pc' := 113) rfl ?_
      refine w_iload X112 hx (hb hby at_113) rfl (pc' := 115) rfl ?_
      refine w_lload X112 hx (hb hby at_115) rfl (pc' := 117) rfl ?_
      refine own_callV (W := 0) X112 hx hZ rfl hown hml.symm (wd30 hw) (wd31 hw) (wd33 hw) (wd32 hw) (wd3 hw) (wd34 hw) (rm4_18 l Z a0 hw [] n0 (((((x0 &&& (2147483647 : Int32)) % (3 : Int32)) + (1 : Int32)) + (x5 &&& (1 : Int32))) % (3 : Int32)) ((x3 &&& (2147483647 : Int32)) % (4 : Int32)) x4 c83 F83 kA76 hk76 (0 : Int64) (0 : Int64) (0 : Int64) (0 : Int64) kA77 hk77 (-1 : Int32) (-1 : Int32) (-1 : Int32) (-1 : Int32) kA78 hk78 (-1 : Int32) (-1 : Int32) (-1 : Int32) kA79 hk79 ((x0 &&& (2147483647 : Int32)) % (3 : Int32)) (0 : Int32) (0 : Int32) kA80 hk80 (3 : Int32) (0 : Int32) (0 : Int32) kA81 hk81 x2 (0 : Int64) (0 : Int64) _ P112) (a := (n0 + 0)) (P112.exa (i := 0) rfl F83.1) (by decide) (by decide) (by decide) (by decide) (by decide) (argsL := [.int (((((x0 &&& (2147483647 : Int32)) % (3 : Int32)) + (1 : Int32)) + (x5 &&& (1 : Int32))) % (3 : Int32)), .int ((x3 &&& (2147483647 : Int32)) % (4 : Int32)), .long x4]) (rest := []) pd4 rfl rfl rfl (Nat.le_of_eq rfl) (hb hby at_117) (pc' := 120) rfl ?_
      intro _ T113 L105 X113 hq
      obtain ⟨rfl, N105, c84, F84, P113⟩ := hq
      replace N105 := Fr.app N104 N105
      replace P113 : HP n0 T113.heap [c84, AC kA76 [.long (0 : Int64), .long (0 : Int64), .long (0 : Int64), .long (0 : Int64)], AC kA77 [.int (-1 : Int32), .int (-1 : Int32), .int (-1 : Int32), .int (-1 : Int32)], AC kA78 [.int (-1 : Int32), .int (-1 : Int32), .int (-1 : Int32)], AC kA79 [.int (((((x0 &&& (2147483647 : Int32)) % (3 : Int32)) + (1 : Int32)) + (x5 &&& (1 : Int32))) % (3 : Int32)), .int (0 : Int32), .int (0 : Int32)], AC kA80 [.int ((x3 &&& (2147483647 : Int32)) % (4 : Int32)), .int (0 : Int32), .int (0 : Int32)], AC kA81 [.long x4, .long (0 : Int64), .long (0 : Int64)]] := P113
      refine w_iload X113 hx (hb hby at_120) rfl (pc' := 122) rfl ?_
      refine w_if_eq X113 hx (hb hby at_122) (by decide) (pcY := 129) (by decide) (pc' := 125) rfl (fun h125 => absurd h125 (by decide)) (fun h125 => ?_)
      refine w_iconst (v := (0 : Int32)) X113 hx (hb hby at_125) rfl (pc' := 126) rfl ?_
      refine w_goto X113 hx (hb hby at_126) (by decide) (pc' := 130) (by decide) ?_
      refine w_istore (l' := #[.val (.int x0), .val (.int x1), .val (.long x2), .second, .val (.int x3), .val (.long x4), .second, .val (.int x5), .val (.int ((x0 &&& (2147483647 : Int32)) % (3 : Int32))), .val (.int (((((x0 &&& (2147483647 : Int32)) % (3 : Int32)) + (1 : Int32)) + (x5 &&& (1 : Int32))) % (3 : Int32))), .val (.int (3 : Int32)), .val (.int ((x3 &&& (2147483647 : Int32)) % (4 : Int32))), .val (.int (1 : Int32)), .val (.ref (n0 + 0)), .val (.int (1 : Int32)), .val (.int (0 : Int32))]) X113 hx (hb hby at_130) rfl (pc' := 132) rfl ?_
      refine w_iload X113 hx (hb hby at_132) rfl (pc' := 134) rfl ?_
      refine w_if_eq X113 hx (hb hby at_134) (by decide) (pcY := 202) (by decide) (pc' := 137) rfl (fun h126 => absurd h126 (by decide)) (fun h126 => ?_)
      refine w_aload X113 hx (hb hby at_137) rfl rfl (pc' := 139) rfl ?_
      refine own_callV (W := 0) X113 hx hZ rfl hown hml.symm (wd39 hw) (wd40 hw) (wd42 hw) (wd41 hw) (wd3 hw) (wd43 hw) (rm5_19 l Z a0 hw [] n0 c84 F84 kA76 hk76 (0 : Int64) (0 : Int64) (0 : Int64) (0 : Int64) kA77 hk77 (-1 : Int32) (-1 : Int32) (-1 : Int32) (-1 : Int32) kA78 hk78 (-1 : Int32) (-1 : Int32) (-1 : Int32) kA79 hk79 (((((x0 &&& (2147483647 : Int32)) % (3 : Int32)) + (1 : Int32)) + (x5 &&& (1 : Int32))) % (3 : Int32)) (0 : Int32) (0 : Int32) kA80 hk80 ((x3 &&& (2147483647 : Int32)) % (4 : Int32)) (0 : Int32) (0 : Int32) kA81 hk81 x4 (0 : Int64) (0 : Int64) _ P113) (a := (n0 + 0)) (P113.exa (i := 0) rfl F84.1) (by decide) (by decide) (by decide) (by decide) (by decide) (argsL := []) (rest := []) pd5 rfl rfl rfl (Nat.le_of_eq rfl) (hb hby at_139) (pc' := 142) rfl ?_
      intro _ T114 L106 X114 hq
      obtain ⟨rfl, N106, P114⟩ := hq
      replace N106 := Fr.app N105 N106
      replace P114 : HP n0 T114.heap [c84, AC kA76 [.long (0 : Int64), .long (0 : Int64), .long (0 : Int64), .long (0 : Int64)], AC kA77 [.int (-1 : Int32), .int (-1 : Int32), .int (-1 : Int32), .int (-1 : Int32)], AC kA78 [.int (-1 : Int32), .int (-1 : Int32), .int (-1 : Int32)], AC kA79 [.int (((((x0 &&& (2147483647 : Int32)) % (3 : Int32)) + (1 : Int32)) + (x5 &&& (1 : Int32))) % (3 : Int32)), .int (0 : Int32), .int (0 : Int32)], AC kA80 [.int ((x3 &&& (2147483647 : Int32)) % (4 : Int32)), .int (0 : Int32), .int (0 : Int32)], AC kA81 [.long x4, .long (0 : Int64), .long (0 : Int64)]] := P114
      refine w_iload X114 hx (hb hby at_142) rfl (pc' := 144) rfl ?_
      refine w_iconst (v := (1 : Int32)) X114 hx (hb hby at_144) rfl (pc' := 145) rfl ?_
      refine w_iadd X114 hx (hb hby at_145) (pc' := 146) rfl ?_
      refine w_eqI (z := (1 : Int32)) (by decide) ?_
      refine w_icmp_ne X114 hx (hb hby at_146) (by decide) (pcY := 202) (by decide) (pc' := 149) rfl (fun h127 => absurd h127 (by decide)) (fun h127 => ?_)
      refine w_aload X114 hx (hb hby at_149) rfl rfl (pc' := 151) rfl ?_
      refine w_iload X114 hx (hb hby at_151) rfl (pc' := 153) rfl ?_
      refine own_callV (W := 0) X114 hx hZ rfl hown hml.symm (wd54 hw) (wd55 hw) (wd57 hw) (wd56 hw) (wd3 hw) (wd58 hw) (rm8_20 l Z a0 hw [] n0 c84 F84 kA76 hk76 (0 : Int64) (0 : Int64) (0 : Int64) (0 : Int64) kA77 hk77 (-1 : Int32) (-1 : Int32) (-1 : Int32) (-1 : Int32) kA78 hk78 (-1 : Int32) (-1 : Int32) (-1 : Int32) kA79 hk79 (((((x0 &&& (2147483647 : Int32)) % (3 : Int32)) + (1 : Int32)) + (x5 &&& (1 : Int32))) % (3 : Int32)) (0 : Int32) (0 : Int32) kA80 hk80 ((x3 &&& (2147483647 : Int32)) % (4 : Int32)) (0 : Int32) (0 : Int32) kA81 hk81 x4 (0 : Int64) (0 : Int64) _ P114) (a := (n0 + 0)) (P114.exa (i := 0) rfl F84.1) (by decide) (by decide) (by decide) (by decide) (by decide) (argsL := [.int (0 : Int32)]) (rest := []) pd8 rfl rfl rfl (Nat.le_of_eq rfl) (hb hby at_153) (pc' := 156) rfl ?_
      intro _ T115 L107 X115 hq
      obtain ⟨rfl, N107, P115⟩ := hq
      replace N107 := Fr.app N106 N107
      replace P115 : HP n0 T115.heap [c84, AC kA76 [.long (0 : Int64), .long (0 : Int64), .long (0 : Int64), .long (0 : Int64)], AC kA77 [.int (-1 : Int32), .int (-1 : Int32), .int (-1 : Int32), .int (-1 : Int32)], AC kA78 [.int (-1 : Int32), .int (-1 : Int32), .int (-1 : Int32)], AC kA79 [.int (((((x0 &&& (2147483647 : Int32)) % (3 : Int32)) + (1 : Int32)) + (x5 &&& (1 : Int32))) % (3 : Int32)), .int (0 : Int32), .int (0 : Int32)], AC kA80 [.int ((x3 &&& (2147483647 : Int32)) % (4 : Int32)), .int (0 : Int32), .int (0 : Int32)], AC kA81 [.long x4, .long (0 : Int64), .long (0 : Int64)]] := P115
      refine w_iload X115 hx (hb hby at_156) rfl (pc' := 158) rfl ?_
      refine w_icmp_ne X115 hx (hb hby at_158) (by decide) (pcY := 202) (by decide) (pc' := 161) rfl (fun h128 => absurd rfl h128) (fun h128 => ?_)
      refine w_aload X115 hx (hb hby at_161) rfl rfl (pc' := 163) rfl ?_
      refine w_iload X115 hx (hb hby at_163) rfl (pc' := 165) rfl ?_
      refine own_callV (W := 0) X115 hx hZ rfl hown hml.symm (wd59 hw) (wd60 hw) (wd62 hw) (wd61 hw) (wd3 hw) (wd63 hw) (rm9_21 l Z a0 hw [] n0 c84 F84 kA76 hk76 (0 : Int64) (0 : Int64) (0 : Int64) (0 : Int64) kA77 hk77 (-1 : Int32) (-1 : Int32) (-1 : Int32) (-1 : Int32) kA78 hk78 (-1 : Int32) (-1 : Int32) (-1 : Int32) kA79 hk79 (((((x0 &&& (2147483647 : Int32)) % (3 : Int32)) + (1 : Int32)) + (x5 &&& (1 : Int32))) % (3 : Int32)) (0 : Int32) (0 : Int32) kA80 hk80 ((x3 &&& (2147483647 : Int32)) % (4 : Int32)) (0 : Int32) (0 : Int32) kA81 hk81 x4 (0 : Int64) (0 : Int64) _ P115) (a := (n0 + 0)) (P115.exa (i := 0) rfl F84.1) (by decide) (by decide) (by decide) (by decide) (by decide) (argsL := [.int (0 : Int32)]) (rest := []) pd9 rfl rfl rfl (Nat.le_of_eq rfl) (hb hby at_165) (pc' := 168) rfl ?_
      intro _ T116 L108 X116 hq
      obtain ⟨rfl, N108, P116⟩ := hq
      replace N108 := Fr.app N107 N108
      replace P116 : HP n0 T116.heap [c84, AC kA76 [.long (0 : Int64), .long (0 : Int64), .long (0 : Int64), .long (0 : Int64)], AC kA77 [.int (-1 : Int32), .int (-1 : Int32), .int (-1 : Int32), .int (-1 : Int32)], AC kA78 [.int (-1 : Int32), .int (-1 : Int32), .int (-1 : Int32)], AC kA79 [.int (((((x0 &&& (2147483647 : Int32)) % (3 : Int32)) + (1 : Int32)) + (x5 &&& (1 : Int32))) % (3 : Int32)), .int (0 : Int32), .int (0 : Int32)], AC kA80 [.int ((x3 &&& (2147483647 : Int32)) % (4 : Int32)), .int (0 : Int32), .int (0 : Int32)], AC kA81 [.long x4, .long (0 : Int64), .long (0 : Int64)]] := P116
      refine w_iload X116 hx (hb hby at_168) rfl (pc' := 170) rfl ?_
      refine w_icmp_ne X116 hx (hb hby at_170) (by decide) (pcY := 202) (by decide) (pc' := 173) rfl (fun h129 => absurd rfl h129) (fun h129 => ?_)
      refine w_aload X116 hx (hb hby at_173) rfl rfl (pc' := 175) rfl ?_
      refine w_iload X116 hx (hb hby at_175) rfl (pc' := 177) rfl ?_
      refine own_callV (W := 0) X116 hx hZ rfl hown hml.symm (wd64 hw) (wd65 hw) (wd67 hw) (wd66 hw) (wd3 hw) (wd68 hw) (rm10_22 l Z a0 hw [] n0 c84 F84 kA76 hk76 (0 : Int64) (0 : Int64) (0 : Int64) (0 : Int64) kA77 hk77 (-1 : Int32) (-1 : Int32) (-1 : Int32) (-1 : Int32) kA78 hk78 (-1 : Int32) (-1 : Int32) (-1 : Int32) kA79 hk79 (((((x0 &&& (2147483647 : Int32)) % (3 : Int32)) + (1 : Int32)) + (x5 &&& (1 : Int32))) % (3 : Int32)) (0 : Int32) (0 : Int32) kA80 hk80 ((x3 &&& (2147483647 : Int32)) % (4 : Int32)) (0 : Int32) (0 : Int32) kA81 hk81 x4 (0 : Int64) (0 : Int64) _ P116) (a := (n0 + 0)) (P116.exa (i := 0) rfl F84.1) (by decide) (by decide) (by decide) (by decide) (by decide) (argsL := [.int (0 : Int32)]) (rest := []) pd10 rfl rfl rfl (Nat.le_of_eq rfl) (hb hby at_177) (pc' := 180) rfl ?_
      intro _ T117 L109 X117 hq
      obtain ⟨rfl, N109, P117⟩ := hq
      replace N109 := Fr.app N108 N109
      replace P117 : HP n0 T117.heap [c84, AC kA76 [.long (0 : Int64), .long (0 : Int64), .long (0 : Int64), .long (0 : Int64)], AC kA77 [.int (-1 : Int32), .int (-1 : Int32), .int (-1 : Int32), .int (-1 : Int32)], AC kA78 [.int (-1 : Int32), .int (-1 : Int32), .int (-1 : Int32)], AC kA79 [.int (((((x0 &&& (2147483647 : Int32)) % (3 : Int32)) + (1 : Int32)) + (x5 &&& (1 : Int32))) % (3 : Int32)), .int (0 : Int32), .int (0 : Int32)], AC kA80 [.int ((x3 &&& (2147483647 : Int32)) % (4 : Int32)), .int (0 : Int32), .int (0 : Int32)], AC kA81 [.long x4, .long (0 : Int64), .long (0 : Int64)]] := P117
      refine w_lload X117 hx (hb hby at_180) rfl (pc' := 182) rfl ?_
      refine w_lcmp_ne X117 hx (hb hby at_182) rfl (hb hby at_183) (by decide) (pcY := 202) (by decide) (pc' := 186) rfl (fun h130 => absurd rfl h130) (fun h130 => ?_)
      refine w_aload X117 hx (hb hby at_186) rfl rfl (pc' := 188) rfl ?_
      refine own_callV (W := 0) X117 hx hZ rfl hown hml.symm (wd44 hw) (wd45 hw) (wd47 hw) (wd46 hw) (wd3 hw) (wd48 hw) (rm6_23 l Z a0 hw [] n0 c84 F84 kA76 hk76 (0 : Int64) (0 : Int64) (0 : Int64) (0 : Int64) kA77 hk77 (-1 : Int32) (-1 : Int32) (-1 : Int32) (-1 : Int32) kA78 hk78 (-1 : Int32) (-1 : Int32) (-1 : Int32) kA79 hk79 (((((x0 &&& (2147483647 : Int32)) % (3 : Int32)) + (1 : Int32)) + (x5 &&& (1 : Int32))) % (3 : Int32)) (0 : Int32) (0 : Int32) kA80 hk80 ((x3 &&& (2147483647 : Int32)) % (4 : Int32)) (0 : Int32) (0 : Int32) kA81 hk81 x4 (0 : Int64) (0 : Int64) _ P117) (a := (n0 + 0)) (P117.exa (i := 0) rfl F84.1) (by decide) (by decide) (by decide) (by decide) (by decide) (argsL := []) (rest := []) pd6 rfl rfl rfl (Nat.le_of_eq rfl) (hb hby at_188) (pc' := 191) rfl ?_
      intro _ T118 L110 X118 hq
      obtain ⟨rfl, N110, P118⟩ := hq
      replace N110 := Fr.app N109 N110
      replace P118 : HP n0 T118.heap [c84, AC kA76 [.long (0 : Int64), .long (0 : Int64), .long (0 : Int64), .long (0 : Int64)], AC kA77 [.int (-1 : Int32), .int (-1 : Int32), .int (-1 : Int32), .int (-1 : Int32)], AC kA78 [.int (-1 : Int32), .int (-1 : Int32), .int (-1 : Int32)], AC kA79 [.int (((((x0 &&& (2147483647 : Int32)) % (3 : Int32)) + (1 : Int32)) + (x5 &&& (1 : Int32))) % (3 : Int32)), .int (0 : Int32), .int (0 : Int32)], AC kA80 [.int ((x3 &&& (2147483647 : Int32)) % (4 : Int32)), .int (0 : Int32), .int (0 : Int32)], AC kA81 [.long x4, .long (0 : Int64), .long (0 : Int64)]] := P118
      refine w_ldc2 X118 hx (hb hby at_191) hown (mvT hZ (wd69 hw)) (pc' := 194) rfl ?_
      refine w_lcmp_ne X118 hx (hb hby at_194) rfl (hb hby at_195) (by decide) (pcY := 202) (by decide) (pc' := 198) rfl (fun h131 => absurd h131 (by decide)) (fun h131 => ?_)
      refine w_iconst (v := (1 : Int32)) X118 hx (hb hby at_198) rfl (pc' := 199) rfl ?_
      refine w_goto X118 hx (hb hby at_199) (by decide) (pc' := 203) (by decide) ?_
      refine w_istore (l' := #[.val (.int x0), .val (.int x1), .val (.long x2), .second, .val (.int x3), .val (.long x4), .second, .val (.int x5), .val (.int ((x0 &&& (2147483647 : Int32)) % (3 : Int32))), .val (.int (((((x0 &&& (2147483647 : Int32)) % (3 : Int32)) + (1 : Int32)) + (x5 &&& (1 : Int32))) % (3 : Int32))), .val (.int (3 : Int32)), .val (.int ((x3 &&& (2147483647 : Int32)) % (4 : Int32))), .val (.int (1 : Int32)), .val (.ref (n0 + 0)), .val (.int (1 : Int32)), .val (.int (0 : Int32))]) X118 hx (hb hby at_203) rfl (pc' := 205) rfl ?_
      refine w_iload X118 hx (hb hby at_205) rfl (pc' := 207) rfl ?_
      refine w_if_ne X118 hx (hb hby at_207) (by decide) (pcY := 255) (by decide) (pc' := 210) rfl (fun h132 => ?_) (fun h132 => absurd h132 (by decide))
      refine w_iload X118 hx (hb hby at_255) rfl (pc' := 257) rfl ?_
      refine w_if_eq X118 hx (hb hby at_257) (by decide) (pcY := 285) (by decide) (pc' := 260) rfl (fun h133 => absurd h133 (by decide)) (fun h133 => ?_)
      refine w_aload X118 hx (hb hby at_260) rfl rfl (pc' := 262) rfl ?_
      refine own_callV (W := 0) X118 hx hZ rfl hown hml.symm (wd70 hw) (wd71 hw) (wd73 hw) (wd72 hw) (wd3 hw) (wd74 hw) (rm11_24 l Z a0 hw [] n0 c84 F84 kA76 hk76 (0 : Int64) (0 : Int64) (0 : Int64) (0 : Int64) kA77 hk77 (-1 : Int32) (-1 : Int32) (-1 : Int32) (-1 : Int32) kA78 hk78 (-1 : Int32) (-1 : Int32) (-1 : Int32) kA79 hk79 (((((x0 &&& (2147483647 : Int32)) % (3 : Int32)) + (1 : Int32)) + (x5 &&& (1 : Int32))) % (3 : Int32)) (0 : Int32) (0 : Int32) kA80 hk80 ((x3 &&& (2147483647 : Int32)) % (4 : Int32)) (0 : Int32) (0 : Int32) kA81 hk81 x4 (0 : Int64) (0 : Int64) _ P118) (a := (n0 + 0)) (P118.exa (i := 0) rfl F84.1) (by decide) (by decide) (by decide) (by decide) (by decide) (argsL := []) (rest := []) pd11 rfl rfl rfl (Nat.le_of_eq rfl) (hb hby at_262) (pc' := 265) rfl ?_
      intro _ T119 L111 X119 hq
      obtain ⟨rfl, N111, P119⟩ := hq
      replace N111 := Fr.app N110 N111
      replace P119 : HP n0 T119.heap [c84, AC kA76 [.long (0 : Int64), .long (0 : Int64), .long (0 : Int64), .long (0 : Int64)], AC kA77 [.int (-1 : Int32), .int (-1 : Int32), .int (-1 : Int32), .int (-1 : Int32)], AC kA78 [.int (-1 : Int32), .int (-1 : Int32), .int (-1 : Int32)], AC kA79 [.int (((((x0 &&& (2147483647 : Int32)) % (3 : Int32)) + (1 : Int32)) + (x5 &&& (1 : Int32))) % (3 : Int32)), .int (0 : Int32), .int (0 : Int32)], AC kA80 [.int ((x3 &&& (2147483647 : Int32)) % (4 : Int32)), .int (0 : Int32), .int (0 : Int32)], AC kA81 [.long x4, .long (0 : Int64), .long (0 : Int64)]] := P119
      refine w_iconst (v := (3 : Int32)) X119 hx (hb hby at_265) rfl (pc' := 266) rfl ?_
      refine w_icmp_ne X119 hx (hb hby at_266) (by decide) (pcY := 285) (by decide) (pc' := 269) rfl (fun h134 => absurd h134 (by decide)) (fun h134 => ?_)
      refine w_aload X119 hx (hb hby at_269) rfl rfl (pc' := 271) rfl ?_
      refine w_iload X119 hx (hb hby at_271) rfl (pc' := 273) rfl ?_
      refine own_callV (W := 0) X119 hx hZ rfl hown hml.symm (wd75 hw) (wd76 hw) (wd78 hw) (wd77 hw) (wd3 hw) (wd79 hw) (rm12_34 l Z a0 hw [] n0 c84 F84 kA76 hk76 (0 : Int64) (0 : Int64) (0 : Int64) (0 : Int64) kA77 hk77 (-1 : Int32) (-1 : Int32) (-1 : Int32) (-1 : Int32) kA78 hk78 (-1 : Int32) (-1 : Int32) (-1 : Int32) kA79 hk79 (((((x0 &&& (2147483647 : Int32)) % (3 : Int32)) + (1 : Int32)) + (x5 &&& (1 : Int32))) % (3 : Int32)) (0 : Int32) (0 : Int32) kA80 hk80 ((x3 &&& (2147483647 : Int32)) % (4 : Int32)) (0 : Int32) (0 : Int32) kA81 hk81 x4 (0 : Int64) (0 : Int64) _ P119) (a := (n0 + 0)) (P119.exa (i := 0) rfl F84.1) (by decide) (by decide) (by decide) (by decide) (by decide) (argsL := [.int (3 : Int32)]) (rest := []) pd12 rfl rfl rfl (Nat.le_of_eq rfl) (hb hby at_273) (pc' := 276) rfl ?_
      intro _ T120 L112 X120 hq
      obtain ⟨rfl, N112, P120⟩ := hq
      replace N112 := Fr.app N111 N112
      replace P120 : HP n0 T120.heap [c84, AC kA76 [.long (0 : Int64), .long (0 : Int64), .long (0 : Int64), .long (0 : Int64)], AC kA77 [.int (-1 : Int32), .int (-1 : Int32), .int (-1 : Int32), .int (-1 : Int32)], AC kA78 [.int (-1 : Int32), .int (-1 : Int32), .int (-1 : Int32)], AC kA79 [.int (((((x0 &&& (2147483647 : Int32)) % (3 : Int32)) + (1 : Int32)) + (x5 &&& (1 : Int32))) % (3 : Int32)), .int (0 : Int32), .int (0 : Int32)], AC kA80 [.int ((x3 &&& (2147483647 : Int32)) % (4 : Int32)), .int (0 : Int32), .int (0 : Int32)], AC kA81 [.long x4, .long (0 : Int64), .long (0 : Int64)]] := P120
      refine w_lconst (v := (0 : Int64)) X120 hx (hb hby at_276) rfl (pc' := 277) rfl ?_
      refine w_lcmp_ne X120 hx (hb hby at_277) rfl (hb hby at_278) (by decide) (pcY := 285) (by decide) (pc' := 281) rfl (fun h135 => absurd h135 (by decide)) (fun h135 => ?_)
      refine w_iconst (v := (1 : Int32)) X120 hx (hb hby at_281) rfl (pc' := 282) rfl ?_
      refine w_goto X120 hx (hb hby at_282) (by decide) (pc' := 286) (by decide) ?_
      refine w_istore (l' := #[.val (.int x0), .val (.int x1), .val (.long x2), .second, .val (.int x3), .val (.long x4), .second, .val (.int x5), .val (.int ((x0 &&& (2147483647 : Int32)) % (3 : Int32))), .val (.int (((((x0 &&& (2147483647 : Int32)) % (3 : Int32)) + (1 : Int32)) + (x5 &&& (1 : Int32))) % (3 : Int32))), .val (.int (3 : Int32)), .val (.int ((x3 &&& (2147483647 : Int32)) % (4 : Int32))), .val (.int (1 : Int32)), .val (.ref (n0 + 0)), .val (.int (1 : Int32)), .val (.int (0 : Int32))]) X120 hx (hb hby at_286) rfl (pc' := 288) rfl ?_
      refine w_iload X120 hx (hb hby at_288) rfl (pc' := 290) rfl ?_
      exact w_ret_n (t := .boolean) X120 hx hret hlk (by simp) (hb hby at_290) (z' := (1 : Int32)) rfl (by decide) (by decide) ⟨rfl, N112⟩
set_option maxRecDepth 65536 in
set_option maxHeartbeats 40000000 in
theorem comes_1 {Post : Tables → Env → Array Value → State → Outcome → State → Prop} (hpost : ∀ tb e args s v u, (limb_1_1.after args s (.returned v) u = true ∧ limb_1_2.after args s (.returned v) u = true ∧ True) → FrameEnd s (.returned v) u (Jvm.fieldLocs frame_1_writes args s ++ Jvm.arrayLocs frame_1_arrays args s ++ Jvm.staticLocs frame_1_statics s) 24 128 → Post tb e args s (.returned v) u) :
    ArmFor flags0 classFile x code maxLocals ret World_1 tables_1 room_1 Calls_1 rest_1 Pre_1 Post := by
  intro l hfl _ _ p e ha hc hk s m args below hf hA hF happ hP
  obtain ⟨hcalls, hrest, hpre⟩ := hP
  obtain ⟨-, -, -, hnamed, -, -, -, hat⟩ := (Spec.applies_iff hf).mp happ
  obtain ⟨hg, hn⟩ := and_e (Cond.before_iff.mp (show (Jvm.Cond.and given_1 narrow_1).before args s = true from hpre))
  obtain ⟨g0, k0⟩ := and_e hg
  obtain ⟨q0, k1⟩ := and_e k0
  obtain ⟨q1, k2⟩ := and_e k1
  obtain ⟨q2, k3⟩ := and_e k2
  obtain ⟨q3, k4⟩ := and_e k3
  obtain ⟨q4, k5⟩ := and_e k4
  have q5 := k5
  obtain ⟨w0, w1, w2, w3, w4, w5, rfl⟩ : ∃ w0 w1 w2 w3 w4 w5 : Value, args = #[w0, w1, w2, w3, w4, w5] := by
    have hs : args.size = 6 := by simpa [Cond.value, given_1] using g0
    obtain ⟨L⟩ := args
    match L, hs with
    | [w0, w1, w2, w3, w4, w5], _ => exact ⟨w0, w1, w2, w3, w4, w5, rfl⟩
  have hw := fun d (hd : d ∈ tables_1) => atoms_spec (ws := Jvm.Cond.code x code maxLocals ret :: tables_1) hat d (List.mem_cons_of_mem _ hd)
  obtain ⟨i0, ei0⟩ := is_v q0
  obtain rfl : w0 = (.int i0) := Option.some.inj ei0
  obtain ⟨i1, ei1⟩ := is_v q1
  obtain rfl : w1 = (.int i1) := Option.some.inj ei1
  obtain ⟨i2, ei2⟩ := isL_v q2
  obtain rfl : w2 = (.long i2) := Option.some.inj ei2
  obtain ⟨i3, ei3⟩ := is_v q3
  obtain rfl : w3 = (.int i3) := Option.some.inj ei3
  obtain ⟨i4, ei4⟩ := isL_v q4
  obtain rfl : w4 = (.long i4) := Option.some.inj ei4
  obtain ⟨i5, ei5⟩ := is_v q5
  obtain rfl : w5 = (.int i5) := Option.some.inj ei5
  obtain ⟨n, o, h1, h2, h3, _, L, rfl, ⟨rfl, N⟩, hq⟩ := rm0 l s _ hw tables_1 i0 i1 i2 i3 i4 i5 s.heap s.heap.size rfl p e ha hc hk s m _ below hf ((Spec.applies_iff_loose hf).mp happ).1 ⟨rfl, State.Warmed39.refl s, rfl⟩ trivial
  refine ⟨n, _, h1, h2, h3, hpost _ _ _ _ _ _ ⟨Cond.after_iff.mpr rfl, Cond.after_iff.mpr (eq_i res_at (Term.int_eval (1)) rfl), trivial⟩ ⟨hq.1, hq.2.1, (hq.2.2.sift fun y hy => Or.inr (N y hy)).mono (by decide) (by decide)⟩⟩
theorem main_1_1 : Claimed_1_1 := comes_1 fun _ _ _ _ _ _ h hF => ⟨h.1, hF⟩
theorem main_1_2 : Claimed_1_2 := comes_1 fun _ _ _ _ _ _ h hF => ⟨h.2.1, hF⟩
end Jvm.Pilot.@@N@@
namespace Jvm.Pilot.@@N@@
open Jvm Jvm.ClassFile Sem Op Lib Jvm.Free Jvm.Stand Jvm.Pilot.@@N@@.Jvm.D
/-! MADE BY PROGRAM (witnessworld.py) out of the Statement's table words and the real class files: 12 classes; the members and pool entries that the words name. The judged class is class 1, her method 1. -/
namespace start1
open Jvm.ClassFile
def u (s : String) : CpInfo := .utf8 (stringToUtf16 s)
/-- a pool by its gaps: so many unusable entries, then the entry; so many at the end -/
def gap : Nat → List CpInfo → List CpInfo
  | 0, r => r
  | n + 1, r => .unusable :: gap n r
def poolList (es : List (Nat × CpInfo)) (last : Nat) : List CpInfo := es.foldr (fun e r => gap e.1 (e.2 :: r)) (gap last [])
def pool (es : List (Nat × CpInfo)) (last : Nat) : Array CpInfo := ⟨poolList es last⟩
def fileOf (pool : Array CpInfo) (this : Nat) (attrs : Array Attribute := #[]) (ms : Array MethodInfo := #[]) (fl : Nat := 33) (sup : Nat := 0) (ifs : Array Nat := #[]) (fds : Array FieldInfo := #[]) : ClassFile where
  minorVersion := 0
  majorVersion := 65
  constantPool := pool
  accessFlags := fl
  thisClass := this
  superClass := sup
  interfaces := ifs
  fields := fds
  methods := ms
  attributes := attrs
def plain (name : String) (sup : Option ClassId) : Class where
  name := name
  kind := .ordinary
  loader := none
  accessFlags := 33
  super := sup
  interfaces := #[]
  cf := none
  fields := #[]
  methods := #[]
  instanceTypes := #[]
  staticTypes := #[]
  resolved := #[]
  callSites := []
  init := .initialized
  statics := none
  mirror := none

def pool0 : Array CpInfo := pool [(5, u "<init>"), (0, u "()V"), (1, .class_ 10), (1, u "java/lang/Object")] 113

def k0c0 : Code := { maxStack := 0, maxLocals := 1, code := object_method_1_code, exceptionTable := #[], attributes := #[] }
def k0m0 : Method := { name := "<init>", desc := "()V", sig := { parameters := [], returnType := none }, accessFlags := 1, code := some k0c0 }
/-- java/lang/Object -/
def k0 : Class := { plain "java/lang/Object" none with
  accessFlags := 33
  interfaces := #[]
  cf := some (fileOf pool0 8 #[] #[{ accessFlags := 1, nameIndex := 5, descriptorIndex := 6, attributes := #[] }] 33 0 #[] #[])
  fields := #[]
  methods := #[k0m0]
  instanceTypes := #[]
  staticTypes := #[]
  resolved := Array.replicate 124 none
  statics := none }

def pool1 : Array CpInfo := pool [(2, .class_ 4), (1, u "java/lang/Object"), (0, u "<init>"), (0, u "()V"), (0, .integer 2147483647), (0, .class_ 9), (0, u "com/example/bidcrier/bidcrier/teams/Blackboard"), (0, .methodref 8 11), (0, .nameAndType 5 12), (0, u "(II)V"), (0, .methodref 8 14), (0, .nameAndType 15 16), (0, u "post"), (0, u "(IIJ)V"), (0, .methodref 8 18), (0, .nameAndType 19 20), (0, u "bids"), (0, u "()I"), (0, .methodref 8 22), (0, .nameAndType 23 24), (0, u "posts"), (0, u "()J"), (0, .methodref 8 26), (0, .nameAndType 27 6), (0, u "openRound"), (0, .methodref 8 29), (0, .nameAndType 30 31), (0, u "bidRow"), (0, u "(I)I"), (0, .methodref 8 33), (0, .nameAndType 34 31), (0, u "bidColumn"), (0, .methodref 8 36), (0, .nameAndType 37 38), (0, u "bidPrice"), (0, u "(I)J"), (0, .long 2), (1, .methodref 8 42), (0, .nameAndType 43 20), (0, u "unassigned"), (0, .methodref 8 45), (0, .nameAndType 46 38), (0, u "price"), (0, .class_ 48), (0, u "com/example/bidcrier/bidcrier/teams/BlackboardPostPinLaw"), (2, u "law"), (0, u "(IIJIJI)Z")] 3

def k1m0 : Method := { name := "<init>", desc := "()V", sig := { parameters := [], returnType := none }, accessFlags := 1, code := none }
def k1c1 : Code := { maxStack := 5, maxLocals := 16, code := code, exceptionTable := #[], attributes := #[] }
def k1m1 : Method := { name := "law", desc := "(IIJIJI)Z", sig := { parameters := [.int, .int, .long, .int, .long, .int], returnType := some .boolean }, accessFlags := 9, code := some k1c1 }
/-- com/example/bidcrier/bidcrier/teams/BlackboardPostPinLaw -/
def k1 : Class := { plain "com/example/bidcrier/bidcrier/teams/BlackboardPostPinLaw" (some 0) with
  accessFlags := 49
  interfaces := #[]
  cf := some (fileOf pool1 47 #[] #[{ accessFlags := 1, nameIndex := 5, descriptorIndex := 6, attributes := #[] }, { accessFlags := 9, nameIndex := 51, descriptorIndex := 52, attributes := #[] }] 49 2 #[] #[])
  fields := #[]
  methods := #[k1m0, k1m1]
  instanceTypes := #[]
  staticTypes := #[]
  resolved := Array.replicate 56 none
  statics := none }

def pool2 : Array CpInfo := pool [(1, .methodref 2 3), (0, .class_ 4), (0, .nameAndType 5 6), (0, u "java/lang/Object"), (0, u "<init>"), (0, u "()V"), (0, .fieldref 8 9), (0, .class_ 10), (0, .nameAndType 11 12), (0, u "com/example/bidcrier/bidcrier/teams/Blackboard"), (0, u "prices"), (0, u "[J"), (0, .fieldref 8 14), (0, .nameAndType 15 16), (0, u "holders"), (0, u "[I"), (0, .fieldref 8 18), (0, .nameAndType 19 16), (0, u "held"), (0, .fieldref 8 21), (0, .nameAndType 22 16), (0, u "bidRows"), (0, .fieldref 8 24), (0, .nameAndType 25 16), (0, u "bidColumns"), (0, .fieldref 8 27), (0, .nameAndType 28 12), (0, u "bidPrices"), (0, .methodref 30 31), (0, .class_ 32), (0, .nameAndType 33 34), (0, u "java/util/Arrays"), (0, u "fill"), (0, u "([II)V"), (0, .fieldref 8 36), (0, .nameAndType 37 38), (0, u "unassigned"), (0, u "I"), (2, u "epsilon"), (0, u "J"), (0, .fieldref 8 44), (0, .nameAndType 45 42), (0, u "posts"), (0, .fieldref 8 47), (0, .nameAndType 48 38), (0, u "bidCount"), (10, u "(II)V"), (3, u "()I"), (1, u "price"), (0, u "(I)J"), (1, u "(I)I"), (0, u "()J"), (0, u "post"), (0, u "(IIJ)V"), (0, u "bids"), (0, u "bidRow"), (0, u "bidColumn"), (0, u "bidPrice"), (0, u "openRound")] 14

def k2c0 : Code := { maxStack := 2, maxLocals := 3, code := prog_51_method_1_code, exceptionTable := #[], attributes := #[] }
def k2m0 : Method := { name := "<init>", desc := "(II)V", sig := { parameters := [.int, .int], returnType := none }, accessFlags := 0, code := some k2c0 }
def k2c1 : Code := { maxStack := 2, maxLocals := 2, code := prog_51_method_4_code, exceptionTable := #[], attributes := #[] }
def k2m1 : Method := { name := "price", desc := "(I)J", sig := { parameters := [.int], returnType := some .long }, accessFlags := 0, code := some k2c1 }
def k2c2 : Code := { maxStack := 1, maxLocals := 1, code := prog_51_method_6_code, exceptionTable := #[], attributes := #[] }
def k2m2 : Method := { name := "unassigned", desc := "()I", sig := { parameters := [], returnType := some .int }, accessFlags := 0, code := some k2c2 }
def k2c3 : Code := { maxStack := 2, maxLocals := 1, code := prog_51_method_8_code, exceptionTable := #[], attributes := #[] }
def k2m3 : Method := { name := "posts", desc := "()J", sig := { parameters := [], returnType := some .long }, accessFlags := 0, code := some k2c3 }
def k2c4 : Code := { maxStack := 5, maxLocals := 5, code := prog_51_method_9_code, exceptionTable := #[], attributes := #[] }
def k2m4 : Method := { name := "post", desc := "(IIJ)V", sig := { parameters := [.int, .int, .long], returnType := none }, accessFlags := 0, code := some k2c4 }
def k2c5 : Code := { maxStack := 1, maxLocals := 1, code := prog_51_method_10_code, exceptionTable := #[], attributes := #[] }
def k2m5 : Method := { name := "bids", desc := "()I", sig := { parameters := [], returnType := some .int }, accessFlags := 0, code := some k2c5 }
def k2c6 : Code := { maxStack := 2, maxLocals := 2, code := prog_51_method_11_code, exceptionTable := #[], attributes := #[] }
def k2m6 : Method := { name := "bidRow", desc := "(I)I", sig := { parameters := [.int], returnType := some .int }, accessFlags := 0, code := some k2c6 }
def k2c7 : Code := { maxStack := 2, maxLocals := 2, code := prog_51_method_12_code, exceptionTable := #[], attributes := #[] }
def k2m7 : Method := { name := "bidColumn", desc := "(I)I", sig := { parameters := [.int], returnType := some .int }, accessFlags := 0, code := some k2c7 }
def k2c8 : Code := { maxStack := 2, maxLocals := 2, code := prog_51_method_13_code, exceptionTable := #[], attributes := #[] }
def k2m8 : Method := { name := "bidPrice", desc := "(I)J", sig := { parameters := [.int], returnType := some .long }, accessFlags := 0, code := some k2c8 }
def k2c9 : Code := { maxStack := 2, maxLocals := 1, code := prog_51_method_14_code, exceptionTable := #[], attributes := #[] }
def k2m9 : Method := { name := "openRound", desc := "()V", sig := { parameters := [], returnType := none }, accessFlags := 0, code := some k2c9 }
/-- com/example/bidcrier/bidcrier/teams/Blackboard -/
def k2 : Class := { plain "com/example/bidcrier/bidcrier/teams/Blackboard" (some 0) with
  accessFlags := 48
  interfaces := #[]
  cf := some (fileOf pool2 8 #[] #[{ accessFlags := 0, nameIndex := 5, descriptorIndex := 59, attributes := #[] }, { accessFlags := 0, nameIndex := 65, descriptorIndex := 66, attributes := #[] }, { accessFlags := 0, nameIndex := 37, descriptorIndex := 63, attributes := #[] }, { accessFlags := 0, nameIndex := 45, descriptorIndex := 69, attributes := #[] }, { accessFlags := 0, nameIndex := 70, descriptorIndex := 71, attributes := #[] }, { accessFlags := 0, nameIndex := 72, descriptorIndex := 63, attributes := #[] }, { accessFlags := 0, nameIndex := 73, descriptorIndex := 68, attributes := #[] }, { accessFlags := 0, nameIndex := 74, descriptorIndex := 68, attributes := #[] }, { accessFlags := 0, nameIndex := 75, descriptorIndex := 66, attributes := #[] }, { accessFlags := 0, nameIndex := 76, descriptorIndex := 6, attributes := #[] }] 48 2 #[] #[{ accessFlags := 18, nameIndex := 11, descriptorIndex := 12, attributes := #[] }, { accessFlags := 18, nameIndex := 15, descriptorIndex := 16, attributes := #[] }, { accessFlags := 18, nameIndex := 19, descriptorIndex := 16, attributes := #[] }, { accessFlags := 2, nameIndex := 37, descriptorIndex := 38, attributes := #[] }, { accessFlags := 2, nameIndex := 41, descriptorIndex := 42, attributes := #[] }, { accessFlags := 18, nameIndex := 22, descriptorIndex := 16, attributes := #[] }, { accessFlags := 18, nameIndex := 25, descriptorIndex := 16, attributes := #[] }, { accessFlags := 18, nameIndex := 28, descriptorIndex := 12, attributes := #[] }, { accessFlags := 2, nameIndex := 48, descriptorIndex := 38, attributes := #[] }, { accessFlags := 2, nameIndex := 45, descriptorIndex := 42, attributes := #[] }])
  fields := #[{ name := "prices", type := (.array .long), accessFlags := 18, slot := 0, constantValue := 0 }, { name := "holders", type := (.array .int), accessFlags := 18, slot := 1, constantValue := 0 }, { name := "held", type := (.array .int), accessFlags := 18, slot := 2, constantValue := 0 }, { name := "unassigned", type := .int, accessFlags := 2, slot := 3, constantValue := 0 }, { name := "epsilon", type := .long, accessFlags := 2, slot := 4, constantValue := 0 }, { name := "bidRows", type := (.array .int), accessFlags := 18, slot := 5, constantValue := 0 }, { name := "bidColumns", type := (.array .int), accessFlags := 18, slot := 6, constantValue := 0 }, { name := "bidPrices", type := (.array .long), accessFlags := 18, slot := 7, constantValue := 0 }, { name := "bidCount", type := .int, accessFlags := 2, slot := 8, constantValue := 0 }, { name := "posts", type := .long, accessFlags := 2, slot := 9, constantValue := 0 }]
  methods := #[k2m0, k2m1, k2m2, k2m3, k2m4, k2m5, k2m6, k2m7, k2m8, k2m9]
  instanceTypes := #[(.array .long), (.array .int), (.array .int), .int, .long, (.array .int), (.array .int), (.array .long), .int, .long]
  staticTypes := #[]
  resolved := Array.replicate 91 none
  statics := none }

def pool3 : Array CpInfo := pool [(2, .class_ 4), (1, u "java/lang/Object"), (0, u "<init>"), (0, u "()V"), (7, .class_ 16), (1, u "java/util/Arrays"), (57, .class_ 76), (1, u "java/util/Arrays$NaturalOrder"), (36, .class_ 115), (1, u "java/util/Arrays$LegacyMergeSort"), (1, u "Z"), (257, .class_ 376), (0, u "java/util/Arrays$ArrayList"), (68, u "$assertionsDisabled"), (269, u "MIN_ARRAY_SORT_GRAN"), (0, u "I"), (2, u "INSERTIONSORT_THRESHOLD"), (120, u "fill"), (4, u "([II)V"), (129, .class_ 976), (0, u "java/util/Arrays$ArrayItr")] 52

def k3m0 : Method := { name := "<init>", desc := "()V", sig := { parameters := [], returnType := none }, accessFlags := 2, code := none }
def k3c1 : Code := { maxStack := 3, maxLocals := 4, code := jdk_65_method_103_code, exceptionTable := #[], attributes := #[] }
def k3m1 : Method := { name := "fill", desc := "([II)V", sig := { parameters := [(.array .int), .int], returnType := none }, accessFlags := 9, code := some k3c1 }
/-- java/util/Arrays -/
def k3 : Class := { plain "java/util/Arrays" (some 0) with
  accessFlags := 49
  interfaces := #[]
  cf := some (fileOf pool3 14 #[.nestMembers #[975, 375, 113, 74]] #[{ accessFlags := 2, nameIndex := 5, descriptorIndex := 6, attributes := #[] }, { accessFlags := 9, nameIndex := 840, descriptorIndex := 845, attributes := #[] }] 49 2 #[] #[{ accessFlags := 26, nameIndex := 715, descriptorIndex := 716, attributes := #[] }, { accessFlags := 26, nameIndex := 719, descriptorIndex := 716, attributes := #[] }, { accessFlags := 4120, nameIndex := 445, descriptorIndex := 117, attributes := #[] }])
  fields := #[{ name := "MIN_ARRAY_SORT_GRAN", type := .int, accessFlags := 26, slot := 0, constantValue := 0 }, { name := "INSERTIONSORT_THRESHOLD", type := .int, accessFlags := 26, slot := 1, constantValue := 0 }, { name := "$assertionsDisabled", type := .boolean, accessFlags := 4120, slot := 2, constantValue := 0 }]
  methods := #[k3m0, k3m1]
  instanceTypes := #[]
  staticTypes := #[.int, .int, .boolean]
  resolved := Array.replicate 1029 none
  statics := none }

def pool4 : Array CpInfo := pool [(1, u "java/lang/Cloneable"), (0, .class_ 1), (0, u "java/lang/Object"), (0, .class_ 3)] 3

/-- java/lang/Cloneable -/
def k4 : Class := { plain "java/lang/Cloneable" (some 0) with
  accessFlags := 1537
  interfaces := #[]
  cf := some (fileOf pool4 2 #[] #[] 1537 4 #[] #[])
  fields := #[]
  methods := #[]
  instanceTypes := #[]
  staticTypes := #[]
  resolved := Array.replicate 8 none
  statics := none }

def pool5 : Array CpInfo := pool [(1, u "java/io/Serializable"), (0, .class_ 1), (0, u "java/lang/Object"), (0, .class_ 3)] 3

/-- java/io/Serializable -/
def k5 : Class := { plain "java/io/Serializable" (some 0) with
  accessFlags := 1537
  interfaces := #[]
  cf := some (fileOf pool5 2 #[] #[] 1537 4 #[] #[])
  fields := #[]
  methods := #[]
  instanceTypes := #[]
  staticTypes := #[]
  resolved := Array.replicate 8 none
  statics := none }

/-- the primitive byte -/
def k6 : Class := { plain "byte" none with kind := .primitive 'B', accessFlags := 0x411 }
/-- [B -/
def k7 : Class := { plain "[B" (some 0) with kind := .array 6 .byte, interfaces := #[4, 5], accessFlags := 1041 }

/-- the primitive int -/
def k8 : Class := { plain "int" none with kind := .primitive 'I', accessFlags := 0x411 }
/-- [I -/
def k9 : Class := { plain "[I" (some 0) with kind := .array 8 .int, interfaces := #[4, 5], accessFlags := 1041 }

/-- the primitive long -/
def k10 : Class := { plain "long" none with kind := .primitive 'J', accessFlags := 0x411 }
/-- [J -/
def k11 : Class := { plain "[J" (some 0) with kind := .array 10 .long, interfaces := #[4, 5], accessFlags := 1041 }

def heap : Heap := #[]
def classes : Array Class := #[k0, k1, k2, k3, k4, k5, k6, k7, k8, k9, k10, k11]
def interned : List (Array UInt16 × Addr) := []
def slotsUsed : Nat := 0
def theMethod : MethodId := ⟨1, 1⟩
def args0 : Array Value := #[.int 5, .int 7, .long 3, .int 2, .long 9, .int 2]
def aboutOver (below : List Frame) : State where
  vm := { classes := classes, interned := interned.toArray }
  heap := heap
  slotsUsed := slotsUsed
  threads := #[{ frames := .invoking theMethod args0 :: below }]
def below0 : List Frame := [.native { method := ⟨0, 0⟩, args := #[] }]
def about1 : State := aboutOver below0
def p0 : Program := .bare "" "" ""
def e0 : Env := launch0.env 0 0 0
theorem w_frames : about1.frames = Frame.invoking theMethod args0 :: below0 := rfl
set_option maxRecDepth 65536 in
theorem w_args : argsFit about1.vm theMethod args0 = true := by decide +kernel
set_option maxRecDepth 65536 in
theorem w_heap : heapFits about1 = true := by decide +kernel
set_option maxRecDepth 65536 in
theorem w_runnable : about1.curStatus? = some .runnable := by decide +kernel
set_option maxRecDepth 65536 in
theorem w_alone : about1.alone = true := by decide +kernel
set_option maxRecDepth 65536 in
theorem w_named : about1.methodNamed? x = some theMethod := by decide +kernel
set_option maxRecDepth 65536 in
theorem w_hears : about1.hears theMethod below0 = true := by decide +kernel
set_option maxRecDepth 65536 in
theorem w_ripe : about1.ripe theMethod args0 below0 = true := by decide +kernel
theorem w_running : about1.status = .running := rfl
set_option maxRecDepth 65536 in
theorem w_room : about1.hasRoom e0.platform room_1 = true :=
  launch0.hasRoom_least _ room_1 (by decide +kernel) (by decide +kernel) (by decide +kernel) (by decide +kernel) (by decide +kernel) (by decide +kernel)
theorem allAtoms_all (ts : List Jvm.Cond) (a : Array Jvm.Value) (st : Jvm.State) : (allAtoms ts).before a st = ts.all (fun c => c.before a st) := by
  induction ts with
  | nil => rfl
  | cons c t ih =>
    show (Jvm.Cond.and c (allAtoms t)).before a st = _
    rw [Jvm.Cond.before_and, ih, List.all_cons]
def words1 : List Jvm.Cond := Jvm.Cond.code x code maxLocals ret :: tables_1
/-- a 'code' word, met by the world's own term for the bytes: nothing is compared byte by byte -/
theorem code_word {y : MethodName} {bytes : ByteArray} {mx : Nat} {rt : Option FieldType} {a : Array Value} {s : State} {m : MethodId} {meth : Method} {c : Code} (h1 : s.methodNamed? y = some m) (h2 : s.vm.method? m = some meth) (h3 : meth.code = some c) (h4 : c.code = bytes)
    (h5 : (c.maxLocals == mx && c.exceptionTable.isEmpty && decide (c.maxStack ≤ mostOperands) && decide (meth.sig.returnType = rt) && !meth.locks && decide (parseMethodDescriptor y.desc = some meth.sig)) = true) : (Jvm.Cond.code y bytes mx rt).before a s = true := by
  simp only [Bool.and_eq_true, beq_iff_eq, Bool.not_eq_true', decide_eq_true_eq] at h5
  obtain ⟨⟨⟨⟨⟨g1, g2⟩, g3⟩, g4⟩, g5⟩, g6⟩ := h5
  simp [Cond.before, Cond.holds, Cond.value, h1, h2, h3, h4, g1, g2, g3, g4, g5, g6]
def isCode : Jvm.Cond → Bool
  | .code _ _ _ _ => true
  | _ => false
theorem all_split {L : List Jvm.Cond} {P : Jvm.Cond → Bool} (h1 : L.all (fun c => isCode c || P c) = true) (h2 : ∀ c ∈ L.filter isCode, P c = true) : L.all P = true := by
  refine List.all_eq_true.mpr fun c hc => ?_
  have h := List.all_eq_true.mp h1 c hc
  rcases Bool.eq_false_or_eq_true (isCode c) with hi | hi
  · exact h2 c (List.mem_filter.mpr ⟨hc, hi⟩)
  · simpa [hi] using h
set_option maxRecDepth 65536 in
theorem w_c0 : (Jvm.Cond.code x code maxLocals ret).before args0 about1 = true := code_word (m := ⟨1, 1⟩) (meth := k1m1) (c := k1c1) (by decide +kernel) rfl rfl rfl (by decide +kernel)
set_option maxRecDepth 65536 in
theorem w_c1 : (Jvm.Cond.code ({ cls := "com/example/bidcrier/bidcrier/teams/Blackboard", name := "<init>", desc := "(II)V" } : Jvm.MethodName) prog_51_method_1_code (3 : Nat) (Option.none : Option Jvm.ClassFile.FieldType)).before args0 about1 = true := code_word (m := ⟨2, 0⟩) (meth := k2m0) (c := k2c0) (by decide +kernel) rfl rfl rfl (by decide +kernel)
set_option maxRecDepth 65536 in
theorem w_c2 : (Jvm.Cond.code ({ cls := "java/lang/Object", name := "<init>", desc := "()V" } : Jvm.MethodName) object_method_1_code (1 : Nat) (Option.none : Option Jvm.ClassFile.FieldType)).before args0 about1 = true := code_word (m := ⟨0, 0⟩) (meth := k0m0) (c := k0c0) (by decide +kernel) rfl rfl rfl (by decide +kernel)
set_option maxRecDepth 65536 in
theorem w_c3 : (Jvm.Cond.code ({ cls := "java/util/Arrays", name := "fill", desc := "([II)V" } : Jvm.MethodName) jdk_65_method_103_code (4 : Nat) (Option.none : Option Jvm.ClassFile.FieldType)).before args0 about1 = true := code_word (m := ⟨3, 1⟩) (meth := k3m1) (c := k3c1) (by decide +kernel) rfl rfl rfl (by decide +kernel)
set_option maxRecDepth 65536 in
theorem w_c4 : (Jvm.Cond.code ({ cls := "com/example/bidcrier/bidcrier/teams/Blackboard", name := "post", desc := "(IIJ)V" } : Jvm.MethodName) prog_51_method_9_code (5 : Nat) (Option.none : Option Jvm.ClassFile.FieldType)).before args0 about1 = true := code_word (m := ⟨2, 4⟩) (meth := k2m4) (c := k2c4) (by decide +kernel) rfl rfl rfl (by decide +kernel)
set_option maxRecDepth 65536 in
theorem w_c5 : (Jvm.Cond.code ({ cls := "com/example/bidcrier/bidcrier/teams/Blackboard", name := "bids", desc := "()I" } : Jvm.MethodName) prog_51_method_10_code (1 : Nat) (Option.some Jvm.ClassFile.FieldType.int)).before args0 about1 = true := code_word (m := ⟨2, 5⟩) (meth := k2m5) (c := k2c5) (by decide +kernel) rfl rfl rfl (by decide +kernel)
set_option maxRecDepth 65536 in
theorem w_c6 : (Jvm.Cond.code ({ cls := "com/example/bidcrier/bidcrier/teams/Blackboard", name := "posts", desc := "()J" } : Jvm.MethodName) prog_51_method_8_code (1 : Nat) (Option.some Jvm.ClassFile.FieldType.long)).before args0 about1 = true := code_word (m := ⟨2, 3⟩) (meth := k2m3) (c := k2c3) (by decide +kernel) rfl rfl rfl (by decide +kernel)
set_option maxRecDepth 65536 in
theorem w_c7 : (Jvm.Cond.code ({ cls := "com/example/bidcrier/bidcrier/teams/Blackboard", name := "openRound", desc := "()V" } : Jvm.MethodName) prog_51_method_14_code (1 : Nat) (Option.none : Option Jvm.ClassFile.FieldType)).before args0 about1 = true := code_word (m := ⟨2, 9⟩) (meth := k2m9) (c := k2c9) (by decide +kernel) rfl rfl rfl (by decide +kernel)
set_option maxRecDepth 65536 in
theorem w_c8 : (Jvm.Cond.code ({ cls := "com/example/bidcrier/bidcrier/teams/Blackboard", name := "bidRow", desc := "(I)I" } : Jvm.MethodName) prog_51_method_11_code (2 : Nat) (Option.some Jvm.ClassFile.FieldType.int)).before args0 about1 = true := code_word (m := ⟨2, 6⟩) (meth := k2m6) (c := k2c6) (by decide +kernel) rfl rfl rfl (by decide +kernel)
set_option maxRecDepth 65536 in
theorem w_c9 : (Jvm.Cond.code ({ cls := "com/example/bidcrier/bidcrier/teams/Blackboard", name := "bidColumn", desc := "(I)I" } : Jvm.MethodName) prog_51_method_12_code (2 : Nat) (Option.some Jvm.ClassFile.FieldType.int)).before args0 about1 = true := code_word (m := ⟨2, 7⟩) (meth := k2m7) (c := k2c7) (by decide +kernel) rfl rfl rfl (by decide +kernel)
set_option maxRecDepth 65536 in
theorem w_c10 : (Jvm.Cond.code ({ cls := "com/example/bidcrier/bidcrier/teams/Blackboard", name := "bidPrice", desc := "(I)J" } : Jvm.MethodName) prog_51_method_13_code (2 : Nat) (Option.some Jvm.ClassFile.FieldType.long)).before args0 about1 = true := code_word (m := ⟨2, 8⟩) (meth := k2m8) (c := k2c8) (by decide +kernel) rfl rfl rfl (by decide +kernel)
set_option maxRecDepth 65536 in
theorem w_c11 : (Jvm.Cond.code ({ cls := "com/example/bidcrier/bidcrier/teams/Blackboard", name := "unassigned", desc := "()I" } : Jvm.MethodName) prog_51_method_6_code (1 : Nat) (Option.some Jvm.ClassFile.FieldType.int)).before args0 about1 = true := code_word (m := ⟨2, 2⟩) (meth := k2m2) (c := k2c2) (by decide +kernel) rfl rfl rfl (by decide +kernel)
set_option maxRecDepth 65536 in
theorem w_c12 : (Jvm.Cond.code ({ cls := "com/example/bidcrier/bidcrier/teams/Blackboard", name := "price", desc := "(I)J" } : Jvm.MethodName) prog_51_method_4_code (2 : Nat) (Option.some Jvm.ClassFile.FieldType.long)).before args0 about1 = true := code_word (m := ⟨2, 1⟩) (meth := k2m1) (c := k2c1) (by decide +kernel) rfl rfl rfl (by decide +kernel)
def codes1 : List Jvm.Cond := [Jvm.Cond.code x code maxLocals ret, Jvm.Cond.code ({ cls := "com/example/bidcrier/bidcrier/teams/Blackboard", name := "<init>", desc := "(II)V" } : Jvm.MethodName) prog_51_method_1_code (3 : Nat) (Option.none : Option Jvm.ClassFile.FieldType), Jvm.Cond.code ({ cls := "java/lang/Object", name := "<init>", desc := "()V" } : Jvm.MethodName) object_method_1_code (1 : Nat) (Option.none : Option Jvm.ClassFile.FieldType), Jvm.Cond.code ({ cls := "java/util/Arrays", name := "fill", desc := "([II)V" } : Jvm.MethodName) jdk_65_method_103_code (4 : Nat) (Option.none : Option Jvm.ClassFile.FieldType), Jvm.Cond.code ({ cls := "com/example/bidcrier/bidcrier/teams/Blackboard", name := "post", desc := "(IIJ)V" } : Jvm.MethodName) prog_51_method_9_code (5 : Nat) (Option.none : Option Jvm.ClassFile.FieldType), Jvm.Cond.code ({ cls := "com/example/bidcrier/bidcrier/teams/Blackboard", name := "bids", desc := "()I" } : Jvm.MethodName) prog_51_method_10_code (1 : Nat) (Option.some Jvm.ClassFile.FieldType.int), Jvm.Cond.code ({ cls := "com/example/bidcrier/bidcrier/teams/Blackboard", name := "posts", desc := "()J" } : Jvm.MethodName) prog_51_method_8_code (1 : Nat) (Option.some Jvm.ClassFile.FieldType.long), Jvm.Cond.code ({ cls := "com/example/bidcrier/bidcrier/teams/Blackboard", name := "openRound", desc := "()V" } : Jvm.MethodName) prog_51_method_14_code (1 : Nat) (Option.none : Option Jvm.ClassFile.FieldType), Jvm.Cond.code ({ cls := "com/example/bidcrier/bidcrier/teams/Blackboard", name := "bidRow", desc := "(I)I" } : Jvm.MethodName) prog_51_method_11_code (2 : Nat) (Option.some Jvm.ClassFile.FieldType.int), Jvm.Cond.code ({ cls := "com/example/bidcrier/bidcrier/teams/Blackboard", name := "bidColumn", desc := "(I)I" } : Jvm.MethodName) prog_51_method_12_code (2 : Nat) (Option.some Jvm.ClassFile.FieldType.int), Jvm.Cond.code ({ cls := "com/example/bidcrier/bidcrier/teams/Blackboard", name := "bidPrice", desc := "(I)J" } : Jvm.MethodName) prog_51_method_13_code (2 : Nat) (Option.some Jvm.ClassFile.FieldType.long), Jvm.Cond.code ({ cls := "com/example/bidcrier/bidcrier/teams/Blackboard", name := "unassigned", desc := "()I" } : Jvm.MethodName) prog_51_method_6_code (1 : Nat) (Option.some Jvm.ClassFile.FieldType.int), Jvm.Cond.code ({ cls := "com/example/bidcrier/bidcrier/teams/Blackboard", name := "price", desc := "(I)J" } : Jvm.MethodName) prog_51_method_4_code (2 : Nat) (Option.some Jvm.ClassFile.FieldType.long)]
set_option maxRecDepth 65536 in
theorem codes_eq : words1.filter isCode = codes1 := rfl
theorem w_codes : ∀ c ∈ words1.filter isCode, c.before args0 about1 = true := by
  rw [codes_eq]
  intro c hc
  simp only [codes1, List.mem_cons, List.not_mem_nil, or_false] at hc
  rcases hc with rfl | rfl | rfl | rfl | rfl | rfl | rfl | rfl | rfl | rfl | rfl | rfl | rfl
  · exact w_c0
  · exact w_c1
  · exact w_c2
  · exact w_c3
  · exact w_c4
  · exact w_c5
  · exact w_c6
  · exact w_c7
  · exact w_c8
  · exact w_c9
  · exact w_c10
  · exact w_c11
  · exact w_c12
set_option maxRecDepth 65536 in
theorem w_t1 : (words1.take 24).all (fun c => isCode c || c.before args0 about1) = true := by decide +kernel
set_option maxRecDepth 65536 in
theorem w_t2 : ((words1.drop 24).take 24).all (fun c => isCode c || c.before args0 about1) = true := by decide +kernel
set_option maxRecDepth 65536 in
theorem w_t3 : (((words1.drop 24).drop 24).take 24).all (fun c => isCode c || c.before args0 about1) = true := by decide +kernel
set_option maxRecDepth 65536 in
theorem w_t4 : (((words1.drop 24).drop 24).drop 24).all (fun c => isCode c || c.before args0 about1) = true := by decide +kernel
theorem w_tables : (allAtoms (Jvm.Cond.code x code maxLocals ret :: tables_1)).before args0 about1 = true := by
  rw [allAtoms_all]
  show words1.all (fun c => c.before args0 about1) = true
  refine all_split ?_ w_codes
  rw [← List.take_append_drop 24 words1, List.all_append, w_t1, ← List.take_append_drop 24 (words1.drop 24), List.all_append, w_t2, ← List.take_append_drop 24 ((words1.drop 24).drop 24), List.all_append, w_t3, w_t4]
  rfl
set_option maxRecDepth 65536 in
theorem w_case : (Jvm.Cond.and given_1 narrow_1).before args0 about1 = true := by decide +kernel
theorem w_applies : (headSpec (Jvm.Cond.code x code maxLocals ret :: tables_1) room_1).applies x e0.platform about1 = true :=
  (Spec.applies_iff w_frames).mpr ⟨w_running, w_runnable, w_alone, w_named, w_hears, w_ripe, w_room, w_tables⟩
theorem atStart : AtStart classFile x code maxLocals ret World_1 tables_1 room_1 Calls_1 rest_1 Pre_1 launch0 p0 e0 about1 theMethod args0 below0 :=
  ⟨lists_1, trivial, launch0.admits_env _ _ _, launch0.least_env, fairChoices_fair.cas, fairChoices_fair.clock, w_frames, w_args, w_heap, w_applies, trivial, trivial, w_case⟩
end start1
theorem witness_1 : WitnessClaimed_1 := ⟨start1.p0, start1.e0, start1.about1, start1.theMethod, start1.args0, start1.below0, start1.atStart⟩
end Jvm.Pilot.@@N@@
