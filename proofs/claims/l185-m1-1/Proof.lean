import JvmDerived
import JvmDerived.Pilot.@@N@@Statement
import JvmDerived.Pilot.@@N@@Code
set_option linter.unusedVariables false
set_option linter.unusedSimpArgs false
namespace Jvm.RoadKit
open Sem ClassFile Op Lib Jvm.Stand Jvm.Free Jvm.LawKit
section New
variable {p : Program} {l : Launch} {e : Env} {R : Room} {s : State} {m : MethodId} {args : Array Value} {below : List Frame} {meth : Method} {c : Code} {T : State} {locs : List Loc} {cells slots : Nat}
theorem retI (X : Stand p l e R s m args below meth c T locs cells slots) (hx : p.tables.exec = Jvm.exec) {pc : Nat} {Ls : Array Slot} {z : Int32} {rest : List Value} (hret : meth.sig.returnType = some .int) (hd : decode c.code pc = .ok (.ireturn, 1)) {fs : List Frame}
    (hl : ∀ (f : JFrame) (acts : List Action), f.method = m → f.locked = none → f.entered = [] → (doReturn e (T.setTop f) acts (some (.int z))).1 = T.setFrames fs) : Steps p.tables e below (T.setTop (mkF m pc Ls (.int z :: rest))) (T.setFrames fs) := by
  have hm' : T.vm.method? m = some meth := X.method'
  have hn : narrow .int (.int z) = .int z := rfl
  show Steps p.tables e below (T.setTop { method := m, pc := pc, locals := Ls, stack := _ :: rest, locked := none }) _
  jvm_step X.here [X.here.top, hx, hd, hm', hret, hn]
  first | (intro acts; rw [hl _ acts rfl rfl rfl]) | rw [hl _ _ rfl rfl rfl]
  exact Steps.refl _
end New
end Jvm.RoadKit
namespace Jvm.Pilot.@@N@@
open Jvm Jvm.ClassFile Sem Op Lib Jvm.Free Jvm.Stand Jvm.LawKit Jvm.RoadKit Bundle Jvm.Pilot.@@N@@.Jvm.D
def Wp (p : Program) (e : Env) (s : State) (below : List Frame) (C S : Nat) (Q : Option Value → Heap → List Loc → Prop) (T : State) (g : JFrame) : Prop :=
  ∃ s₂ o, Steps p.tables e below (T.setTop g) s₂ ∧ s₂.status = .running ∧ Ended s₂ below o ∧ ∃ v L, o = .returned v ∧ Q v s₂.heap L ∧ FrameEnd s o s₂ L C S
section OwnW
variable {p : Program} {l : Launch} {e : Env} {R : Room} {s : State} {m : MethodId} {args : Array Value} {below : List Frame} {meth : Method} {c : Code} {T : State} {locs : List Loc} {cells slots : Nat} {C S : Nat} {Q : Option Value → Heap → List Loc → Prop} {pc pc' : Nat} {Ls : Array Slot} {st : List Value}
theorem Wp.via {T' : State} {g g' : JFrame} (st : ∀ t, Steps p.tables e below (T'.setTop g') t → Steps p.tables e below (T.setTop g) t) (k : Wp p e s below C S Q T' g') : Wp p e s below C S Q T g := by
  obtain ⟨s₂, o, h1, h2⟩ := k
  exact ⟨s₂, o, st _ h1, h2⟩
theorem w_iload (X : Stand p l e R s m args below meth c T locs cells slots) (hx : p.tables.exec = Jvm.exec) {k : Nat} {v : Int32} (hd : decode c.code pc = .ok (.iload k, 2)) (hl : Ls[k]? = some (.val (.int v))) (hp : pc + 2 = pc') (k : Wp p e s below C S Q T (mkF m pc' Ls (Value.int v :: st))) : Wp p e s below C S Q T (mkF m pc Ls (st)) := by
  subst hp
  exact Wp.via (fun _ h => XS.iload X.here hx rfl hd hl h) k
theorem w_iloadN (X : Stand p l e R s m args below meth c T locs cells slots) (hx : p.tables.exec = Jvm.exec) {k : Fin 4} {v : Int32} (hd : decode c.code pc = .ok (.iload_n k, 1)) (hl : Ls[k.val]? = some (.val (.int v))) (hp : pc + 1 = pc') (k : Wp p e s below C S Q T (mkF m pc' Ls (Value.int v :: st))) : Wp p e s below C S Q T (mkF m pc Ls (st)) := by
  subst hp
  exact Wp.via (fun _ h => XS.iloadN X.here hx rfl hd hl h) k
theorem w_lload (X : Stand p l e R s m args below meth c T locs cells slots) (hx : p.tables.exec = Jvm.exec) {k : Nat} {v : Int64} (hd : decode c.code pc = .ok (.lload k, 2)) (hl : Ls[k]? = some (.val (.long v))) (hp : pc + 2 = pc') (k : Wp p e s below C S Q T (mkF m pc' Ls (Value.long v :: st))) : Wp p e s below C S Q T (mkF m pc Ls (st)) := by
  subst hp
  exact Wp.via (fun _ h => XT.lload X.here hx rfl hd hl h) k
theorem w_lloadN (X : Stand p l e R s m args below meth c T locs cells slots) (hx : p.tables.exec = Jvm.exec) {k : Fin 4} {v : Int64} (hd : decode c.code pc = .ok (.lload_n k, 1)) (hl : Ls[k.val]? = some (.val (.long v))) (hp : pc + 1 = pc') (k : Wp p e s below C S Q T (mkF m pc' Ls (Value.long v :: st))) : Wp p e s below C S Q T (mkF m pc Ls (st)) := by
  subst hp
  exact Wp.via (fun _ h => XT.lloadN X.here hx rfl hd hl h) k
theorem w_aload (X : Stand p l e R s m args below meth c T locs cells slots) (hx : p.tables.exec = Jvm.exec) {k : Nat} {v : Value} (hd : decode c.code pc = .ok (.aload k, 2)) (hl : Ls[k]? = some (.val v)) (hv : v.isRef = true) (hp : pc + 2 = pc') (k : Wp p e s below C S Q T (mkF m pc' Ls (v :: st))) : Wp p e s below C S Q T (mkF m pc Ls (st)) := by
  subst hp
  exact Wp.via (fun _ h => XS.aload X.here hx rfl hd hl hv h) k
theorem w_aloadN (X : Stand p l e R s m args below meth c T locs cells slots) (hx : p.tables.exec = Jvm.exec) {k : Fin 4} {v : Value} (hd : decode c.code pc = .ok (.aload_n k, 1)) (hl : Ls[k.val]? = some (.val v)) (hv : v.isRef = true) (hp : pc + 1 = pc') (k : Wp p e s below C S Q T (mkF m pc' Ls (v :: st))) : Wp p e s below C S Q T (mkF m pc Ls (st)) := by
  subst hp
  exact Wp.via (fun _ h => XS.aloadN X.here hx rfl hd hl hv h) k
theorem w_istore (X : Stand p l e R s m args below meth c T locs cells slots) (hx : p.tables.exec = Jvm.exec) {k : Nat} {v : Int32} {l' : Array Slot} (hd : decode c.code pc = .ok (.istore k, 2)) (hl : storeLocals Ls k (Value.int v) = some l') (hp : pc + 2 = pc') (k : Wp p e s below C S Q T (mkF m pc' l' (st))) : Wp p e s below C S Q T (mkF m pc Ls (Value.int v :: st)) := by
  subst hp
  exact Wp.via (fun _ h => XS.istore X.here hx rfl hd rfl hl h) k
theorem w_istoreN (X : Stand p l e R s m args below meth c T locs cells slots) (hx : p.tables.exec = Jvm.exec) {k : Fin 4} {v : Int32} {l' : Array Slot} (hd : decode c.code pc = .ok (.istore_n k, 1)) (hl : storeLocals Ls k.val (Value.int v) = some l') (hp : pc + 1 = pc') (k : Wp p e s below C S Q T (mkF m pc' l' (st))) : Wp p e s below C S Q T (mkF m pc Ls (Value.int v :: st)) := by
  subst hp
  exact Wp.via (fun _ h => XS.istoreN X.here hx rfl hd rfl hl h) k
theorem w_lstore (X : Stand p l e R s m args below meth c T locs cells slots) (hx : p.tables.exec = Jvm.exec) {k : Nat} {v : Int64} {l' : Array Slot} (hd : decode c.code pc = .ok (.lstore k, 2)) (hl : storeLocals Ls k (Value.long v) = some l') (hp : pc + 2 = pc') (k : Wp p e s below C S Q T (mkF m pc' l' (st))) : Wp p e s below C S Q T (mkF m pc Ls (Value.long v :: st)) := by
  subst hp
  exact Wp.via (fun _ h => XT.lstore X.here hx rfl hd rfl hl h) k
theorem w_lstoreN (X : Stand p l e R s m args below meth c T locs cells slots) (hx : p.tables.exec = Jvm.exec) {k : Fin 4} {v : Int64} {l' : Array Slot} (hd : decode c.code pc = .ok (.lstore_n k, 1)) (hl : storeLocals Ls k.val (Value.long v) = some l') (hp : pc + 1 = pc') (k : Wp p e s below C S Q T (mkF m pc' l' (st))) : Wp p e s below C S Q T (mkF m pc Ls (Value.long v :: st)) := by
  subst hp
  exact Wp.via (fun _ h => XT.lstoreN X.here hx rfl hd rfl hl h) k
theorem w_astore (X : Stand p l e R s m args below meth c T locs cells slots) (hx : p.tables.exec = Jvm.exec) {k : Nat} {v : Value} {l' : Array Slot} (hd : decode c.code pc = .ok (.astore k, 2)) (hv : v.isRef = true) (hl : storeLocals Ls k v = some l') (hp : pc + 2 = pc') (k : Wp p e s below C S Q T (mkF m pc' l' (st))) : Wp p e s below C S Q T (mkF m pc Ls (v :: st)) := by
  subst hp
  exact Wp.via (fun _ h => XS.astore X.here hx rfl hd rfl hv hl h) k
theorem w_astoreN (X : Stand p l e R s m args below meth c T locs cells slots) (hx : p.tables.exec = Jvm.exec) {k : Fin 4} {v : Value} {l' : Array Slot} (hd : decode c.code pc = .ok (.astore_n k, 1)) (hv : v.isRef = true) (hl : storeLocals Ls k.val v = some l') (hp : pc + 1 = pc') (k : Wp p e s below C S Q T (mkF m pc' l' (st))) : Wp p e s below C S Q T (mkF m pc Ls (v :: st)) := by
  subst hp
  exact Wp.via (fun _ h => XS.astoreN X.here hx rfl hd rfl hv hl h) k
theorem w_iconst (X : Stand p l e R s m args below meth c T locs cells slots) (hx : p.tables.exec = Jvm.exec) {i : Int} {v : Int32} (hd : decode c.code pc = .ok (.iconst i, 1)) (hv : Int32.ofInt i = v) (hp : pc + 1 = pc') (k : Wp p e s below C S Q T (mkF m pc' Ls (Value.int v :: st))) : Wp p e s below C S Q T (mkF m pc Ls (st)) := by
  subst hp hv
  exact Wp.via (fun _ h => XS.iconst X.here hx rfl hd h) k
theorem w_bipush (X : Stand p l e R s m args below meth c T locs cells slots) (hx : p.tables.exec = Jvm.exec) {i : Int} {v : Int32} (hd : decode c.code pc = .ok (.bipush i, 2)) (hv : (Int8.ofInt i).toInt32 = v) (hp : pc + 2 = pc') (k : Wp p e s below C S Q T (mkF m pc' Ls (Value.int v :: st))) : Wp p e s below C S Q T (mkF m pc Ls (st)) := by
  subst hp hv
  exact Wp.via (fun _ h => XS.bipush X.here hx rfl hd h) k
theorem w_sipush (X : Stand p l e R s m args below meth c T locs cells slots) (hx : p.tables.exec = Jvm.exec) {i : Int} {v : Int32} (hd : decode c.code pc = .ok (.sipush i, 3)) (hv : (Int16.ofInt i).toInt32 = v) (hp : pc + 3 = pc') (k : Wp p e s below C S Q T (mkF m pc' Ls (Value.int v :: st))) : Wp p e s below C S Q T (mkF m pc Ls (st)) := by
  subst hp hv
  exact Wp.via (fun _ h => XS.sipush X.here hx rfl hd h) k
theorem w_lconst (X : Stand p l e R s m args below meth c T locs cells slots) (hx : p.tables.exec = Jvm.exec) {k : Fin 2} {v : Int64} (hd : decode c.code pc = .ok (.lconst k, 1)) (hv : Int64.ofNat k = v) (hp : pc + 1 = pc') (k : Wp p e s below C S Q T (mkF m pc' Ls (Value.long v :: st))) : Wp p e s below C S Q T (mkF m pc Ls (st)) := by
  subst hp hv
  exact Wp.via (fun _ h => XT.lconst X.here hx rfl hd h) k
theorem w_aconst (X : Stand p l e R s m args below meth c T locs cells slots) (hx : p.tables.exec = Jvm.exec)  (hd : decode c.code pc = .ok (.aconst_null, 1))  (hp : pc + 1 = pc') (k : Wp p e s below C S Q T (mkF m pc' Ls (Value.null :: st))) : Wp p e s below C S Q T (mkF m pc Ls (st)) := by
  subst hp
  exact Wp.via (fun _ h => XS.aconstNull X.here hx rfl hd h) k
theorem w_ldc (X : Stand p l e R s m args below meth c T locs cells slots) (hx : p.tables.exec = Jvm.exec) {i : Nat} {v : Int32} {own : String} (hd : decode c.code pc = .ok (.ldc i, 2)) (hown : s.vm.findClass own = some m.cls) (hc : (Jvm.Cond.constant own i v).before args s = true) (hp : pc + 2 = pc') (k : Wp p e s below C S Q T (mkF m pc' Ls (Value.int v :: st))) : Wp p e s below C S Q T (mkF m pc Ls (st)) := by
  subst hp
  exact Wp.via (fun _ h => X.ldcInt hx hown hc (g := mkF m pc Ls st) rfl hd _ h) k
theorem w_ldc2 (X : Stand p l e R s m args below meth c T locs cells slots) (hx : p.tables.exec = Jvm.exec) {i : Nat} {v : Int64} {own : String} (hd : decode c.code pc = .ok (.ldc2_w i, 3)) (hown : s.vm.findClass own = some m.cls) (hc : (Jvm.Cond.constantLong own i v).before args s = true) (hp : pc + 3 = pc') (k : Wp p e s below C S Q T (mkF m pc' Ls (Value.long v :: st))) : Wp p e s below C S Q T (mkF m pc Ls (st)) := by
  subst hp
  exact Wp.via (fun _ h => X.ldc2Long hx hown hc (g := mkF m pc Ls st) rfl hd _ h) k
theorem w_iadd (X : Stand p l e R s m args below meth c T locs cells slots) (hx : p.tables.exec = Jvm.exec) {x y : Int32} (hd : decode c.code pc = .ok (.iadd, 1))  (hp : pc + 1 = pc') (k : Wp p e s below C S Q T (mkF m pc' Ls (Value.int (x + y) :: st))) : Wp p e s below C S Q T (mkF m pc Ls (Value.int y :: Value.int x :: st)) := by
  subst hp
  exact Wp.via (fun _ h => XS.iadd X.here hx rfl hd rfl h) k
theorem w_isub (X : Stand p l e R s m args below meth c T locs cells slots) (hx : p.tables.exec = Jvm.exec) {x y : Int32} (hd : decode c.code pc = .ok (.isub, 1))  (hp : pc + 1 = pc') (k : Wp p e s below C S Q T (mkF m pc' Ls (Value.int (x - y) :: st))) : Wp p e s below C S Q T (mkF m pc Ls (Value.int y :: Value.int x :: st)) := by
  subst hp
  exact Wp.via (fun _ h => XS.isub X.here hx rfl hd rfl h) k
theorem w_iand (X : Stand p l e R s m args below meth c T locs cells slots) (hx : p.tables.exec = Jvm.exec) {x y : Int32} (hd : decode c.code pc = .ok (.iand, 1))  (hp : pc + 1 = pc') (k : Wp p e s below C S Q T (mkF m pc' Ls (Value.int (x &&& y) :: st))) : Wp p e s below C S Q T (mkF m pc Ls (Value.int y :: Value.int x :: st)) := by
  subst hp
  exact Wp.via (fun _ h => XS.iand X.here hx rfl hd rfl h) k
theorem w_imul (X : Stand p l e R s m args below meth c T locs cells slots) (hx : p.tables.exec = Jvm.exec) {x y : Int32} (hd : decode c.code pc = .ok (.imul, 1))  (hp : pc + 1 = pc') (k : Wp p e s below C S Q T (mkF m pc' Ls (Value.int (x * y) :: st))) : Wp p e s below C S Q T (mkF m pc Ls (Value.int y :: Value.int x :: st)) := by
  subst hp
  exact Wp.via (fun _ h => XS.imul X.here hx rfl hd rfl h) k
theorem w_ixor (X : Stand p l e R s m args below meth c T locs cells slots) (hx : p.tables.exec = Jvm.exec) {x y : Int32} (hd : decode c.code pc = .ok (.ixor, 1))  (hp : pc + 1 = pc') (k : Wp p e s below C S Q T (mkF m pc' Ls (Value.int (x ^^^ y) :: st))) : Wp p e s below C S Q T (mkF m pc Ls (Value.int y :: Value.int x :: st)) := by
  subst hp
  exact Wp.via (fun _ h => XT.ixor X.here hx rfl hd rfl h) k
theorem w_ior (X : Stand p l e R s m args below meth c T locs cells slots) (hx : p.tables.exec = Jvm.exec) {x y : Int32} (hd : decode c.code pc = .ok (.ior, 1))  (hp : pc + 1 = pc') (k : Wp p e s below C S Q T (mkF m pc' Ls (Value.int (x ||| y) :: st))) : Wp p e s below C S Q T (mkF m pc Ls (Value.int y :: Value.int x :: st)) := by
  subst hp
  exact Wp.via (fun _ h => XT.ior X.here hx rfl hd rfl h) k
theorem w_ishl (X : Stand p l e R s m args below meth c T locs cells slots) (hx : p.tables.exec = Jvm.exec) {x y : Int32} (hd : decode c.code pc = .ok (.ishl, 1))  (hp : pc + 1 = pc') (k : Wp p e s below C S Q T (mkF m pc' Ls (Value.int (x <<< (y &&& 31)) :: st))) : Wp p e s below C S Q T (mkF m pc Ls (Value.int y :: Value.int x :: st)) := by
  subst hp
  exact Wp.via (fun _ h => XT.ishl X.here hx rfl hd rfl h) k
theorem w_ishr (X : Stand p l e R s m args below meth c T locs cells slots) (hx : p.tables.exec = Jvm.exec) {x y : Int32} (hd : decode c.code pc = .ok (.ishr, 1))  (hp : pc + 1 = pc') (k : Wp p e s below C S Q T (mkF m pc' Ls (Value.int (x >>> (y &&& 31)) :: st))) : Wp p e s below C S Q T (mkF m pc Ls (Value.int y :: Value.int x :: st)) := by
  subst hp
  exact Wp.via (fun _ h => XT.ishr X.here hx rfl hd rfl h) k
theorem w_iushr (X : Stand p l e R s m args below meth c T locs cells slots) (hx : p.tables.exec = Jvm.exec) {x y : Int32} (hd : decode c.code pc = .ok (.iushr, 1))  (hp : pc + 1 = pc') (k : Wp p e s below C S Q T (mkF m pc' Ls (Value.int (XT.ushr x y) :: st))) : Wp p e s below C S Q T (mkF m pc Ls (Value.int y :: Value.int x :: st)) := by
  subst hp
  exact Wp.via (fun _ h => XT.iushr X.here hx rfl hd rfl h) k
theorem w_idiv (X : Stand p l e R s m args below meth c T locs cells slots) (hx : p.tables.exec = Jvm.exec) {x y : Int32} (hd : decode c.code pc = .ok (.idiv, 1)) (hy : y ≠ 0) (hp : pc + 1 = pc') (k : Wp p e s below C S Q T (mkF m pc' Ls (Value.int (x / y) :: st))) : Wp p e s below C S Q T (mkF m pc Ls (Value.int y :: Value.int x :: st)) := by
  subst hp
  exact Wp.via (fun _ h => XS.idiv X.here hx rfl hd rfl hy h) k
theorem w_irem (X : Stand p l e R s m args below meth c T locs cells slots) (hx : p.tables.exec = Jvm.exec) {x y : Int32} (hd : decode c.code pc = .ok (.irem, 1)) (hy : y ≠ 0) (hp : pc + 1 = pc') (k : Wp p e s below C S Q T (mkF m pc' Ls (Value.int (x % y) :: st))) : Wp p e s below C S Q T (mkF m pc Ls (Value.int y :: Value.int x :: st)) := by
  subst hp
  exact Wp.via (fun _ h => iremM X hx rfl hd rfl hy h) k
theorem w_ladd (X : Stand p l e R s m args below meth c T locs cells slots) (hx : p.tables.exec = Jvm.exec) {x y : Int64} (hd : decode c.code pc = .ok (.ladd, 1))  (hp : pc + 1 = pc') (k : Wp p e s below C S Q T (mkF m pc' Ls (Value.long (x + y) :: st))) : Wp p e s below C S Q T (mkF m pc Ls (Value.long y :: Value.long x :: st)) := by
  subst hp
  exact Wp.via (fun _ h => XT.ladd X.here hx rfl hd rfl h) k
theorem w_lsub (X : Stand p l e R s m args below meth c T locs cells slots) (hx : p.tables.exec = Jvm.exec) {x y : Int64} (hd : decode c.code pc = .ok (.lsub, 1))  (hp : pc + 1 = pc') (k : Wp p e s below C S Q T (mkF m pc' Ls (Value.long (x - y) :: st))) : Wp p e s below C S Q T (mkF m pc Ls (Value.long y :: Value.long x :: st)) := by
  subst hp
  exact Wp.via (fun _ h => XT.lsub X.here hx rfl hd rfl h) k
theorem w_lmul (X : Stand p l e R s m args below meth c T locs cells slots) (hx : p.tables.exec = Jvm.exec) {x y : Int64} (hd : decode c.code pc = .ok (.lmul, 1))  (hp : pc + 1 = pc') (k : Wp p e s below C S Q T (mkF m pc' Ls (Value.long (x * y) :: st))) : Wp p e s below C S Q T (mkF m pc Ls (Value.long y :: Value.long x :: st)) := by
  subst hp
  exact Wp.via (fun _ h => XT.lmul X.here hx rfl hd rfl h) k
theorem w_land (X : Stand p l e R s m args below meth c T locs cells slots) (hx : p.tables.exec = Jvm.exec) {x y : Int64} (hd : decode c.code pc = .ok (.land, 1))  (hp : pc + 1 = pc') (k : Wp p e s below C S Q T (mkF m pc' Ls (Value.long (x &&& y) :: st))) : Wp p e s below C S Q T (mkF m pc Ls (Value.long y :: Value.long x :: st)) := by
  subst hp
  exact Wp.via (fun _ h => XT.land X.here hx rfl hd rfl h) k
theorem w_lor (X : Stand p l e R s m args below meth c T locs cells slots) (hx : p.tables.exec = Jvm.exec) {x y : Int64} (hd : decode c.code pc = .ok (.lor, 1))  (hp : pc + 1 = pc') (k : Wp p e s below C S Q T (mkF m pc' Ls (Value.long (x ||| y) :: st))) : Wp p e s below C S Q T (mkF m pc Ls (Value.long y :: Value.long x :: st)) := by
  subst hp
  exact Wp.via (fun _ h => XT.lor X.here hx rfl hd rfl h) k
theorem w_lxor (X : Stand p l e R s m args below meth c T locs cells slots) (hx : p.tables.exec = Jvm.exec) {x y : Int64} (hd : decode c.code pc = .ok (.lxor, 1))  (hp : pc + 1 = pc') (k : Wp p e s below C S Q T (mkF m pc' Ls (Value.long (x ^^^ y) :: st))) : Wp p e s below C S Q T (mkF m pc Ls (Value.long y :: Value.long x :: st)) := by
  subst hp
  exact Wp.via (fun _ h => XT.lxor X.here hx rfl hd rfl h) k
theorem w_ldiv (X : Stand p l e R s m args below meth c T locs cells slots) (hx : p.tables.exec = Jvm.exec) {x y : Int64} (hd : decode c.code pc = .ok (.ldiv, 1)) (hy : y ≠ 0) (hp : pc + 1 = pc') (k : Wp p e s below C S Q T (mkF m pc' Ls (Value.long (x / y) :: st))) : Wp p e s below C S Q T (mkF m pc Ls (Value.long y :: Value.long x :: st)) := by
  subst hp
  exact Wp.via (fun _ h => XT.ldiv X.here hx rfl hd rfl hy h) k
theorem w_lrem (X : Stand p l e R s m args below meth c T locs cells slots) (hx : p.tables.exec = Jvm.exec) {x y : Int64} (hd : decode c.code pc = .ok (.lrem, 1)) (hy : y ≠ 0) (hp : pc + 1 = pc') (k : Wp p e s below C S Q T (mkF m pc' Ls (Value.long (x % y) :: st))) : Wp p e s below C S Q T (mkF m pc Ls (Value.long y :: Value.long x :: st)) := by
  subst hp
  exact Wp.via (fun _ h => XT.lrem X.here hx rfl hd rfl hy (by rw [lrem_mod]; exact h)) k
theorem w_lshl (X : Stand p l e R s m args below meth c T locs cells slots) (hx : p.tables.exec = Jvm.exec) {x : Int64} {y : Int32} (hd : decode c.code pc = .ok (.lshl, 1))  (hp : pc + 1 = pc') (k : Wp p e s below C S Q T (mkF m pc' Ls (Value.long (x <<< (y.toInt64 &&& 63)) :: st))) : Wp p e s below C S Q T (mkF m pc Ls (Value.int y :: Value.long x :: st)) := by
  subst hp
  exact Wp.via (fun _ h => XT.lshl X.here hx rfl hd rfl h) k
theorem w_lshr (X : Stand p l e R s m args below meth c T locs cells slots) (hx : p.tables.exec = Jvm.exec) {x : Int64} {y : Int32} (hd : decode c.code pc = .ok (.lshr, 1))  (hp : pc + 1 = pc') (k : Wp p e s below C S Q T (mkF m pc' Ls (Value.long (x >>> (y.toInt64 &&& 63)) :: st))) : Wp p e s below C S Q T (mkF m pc Ls (Value.int y :: Value.long x :: st)) := by
  subst hp
  exact Wp.via (fun _ h => XT.lshr X.here hx rfl hd rfl h) k
theorem w_lushr (X : Stand p l e R s m args below meth c T locs cells slots) (hx : p.tables.exec = Jvm.exec) {x : Int64} {y : Int32} (hd : decode c.code pc = .ok (.lushr, 1))  (hp : pc + 1 = pc') (k : Wp p e s below C S Q T (mkF m pc' Ls (Value.long (XT.ushrL x y) :: st))) : Wp p e s below C S Q T (mkF m pc Ls (Value.int y :: Value.long x :: st)) := by
  subst hp
  exact Wp.via (fun _ h => XT.lushr X.here hx rfl hd rfl h) k
theorem w_lcmp (X : Stand p l e R s m args below meth c T locs cells slots) (hx : p.tables.exec = Jvm.exec) {x y : Int64} (hd : decode c.code pc = .ok (.lcmp, 1))  (hp : pc + 1 = pc') (k : Wp p e s below C S Q T (mkF m pc' Ls (Value.int (XT.cmpL x y) :: st))) : Wp p e s below C S Q T (mkF m pc Ls (Value.long y :: Value.long x :: st)) := by
  subst hp
  exact Wp.via (fun _ h => XT.lcmp X.here hx rfl hd rfl h) k
theorem w_ineg (X : Stand p l e R s m args below meth c T locs cells slots) (hx : p.tables.exec = Jvm.exec) {x : Int32} (hd : decode c.code pc = .ok (.ineg, 1))  (hp : pc + 1 = pc') (k : Wp p e s below C S Q T (mkF m pc' Ls (Value.int (-x) :: st))) : Wp p e s below C S Q T (mkF m pc Ls (Value.int x :: st)) := by
  subst hp
  exact Wp.via (fun _ h => XS.ineg X.here hx rfl hd rfl h) k
theorem w_lneg (X : Stand p l e R s m args below meth c T locs cells slots) (hx : p.tables.exec = Jvm.exec) {x : Int64} (hd : decode c.code pc = .ok (.lneg, 1))  (hp : pc + 1 = pc') (k : Wp p e s below C S Q T (mkF m pc' Ls (Value.long (-x) :: st))) : Wp p e s below C S Q T (mkF m pc Ls (Value.long x :: st)) := by
  subst hp
  exact Wp.via (fun _ h => XT.lneg X.here hx rfl hd rfl h) k
theorem w_i2l (X : Stand p l e R s m args below meth c T locs cells slots) (hx : p.tables.exec = Jvm.exec) {x : Int32} (hd : decode c.code pc = .ok (.i2l, 1))  (hp : pc + 1 = pc') (k : Wp p e s below C S Q T (mkF m pc' Ls (Value.long x.toInt64 :: st))) : Wp p e s below C S Q T (mkF m pc Ls (Value.int x :: st)) := by
  subst hp
  exact Wp.via (fun _ h => XT.i2l X.here hx rfl hd rfl h) k
theorem w_l2i (X : Stand p l e R s m args below meth c T locs cells slots) (hx : p.tables.exec = Jvm.exec) {x : Int64} (hd : decode c.code pc = .ok (.l2i, 1))  (hp : pc + 1 = pc') (k : Wp p e s below C S Q T (mkF m pc' Ls (Value.int x.toInt32 :: st))) : Wp p e s below C S Q T (mkF m pc Ls (Value.long x :: st)) := by
  subst hp
  exact Wp.via (fun _ h => XT.l2i X.here hx rfl hd rfl h) k
theorem w_i2b (X : Stand p l e R s m args below meth c T locs cells slots) (hx : p.tables.exec = Jvm.exec) {x : Int32} (hd : decode c.code pc = .ok (.i2b, 1))  (hp : pc + 1 = pc') (k : Wp p e s below C S Q T (mkF m pc' Ls (Value.int x.toInt8.toInt32 :: st))) : Wp p e s below C S Q T (mkF m pc Ls (Value.int x :: st)) := by
  subst hp
  exact Wp.via (fun _ h => XT.i2b X.here hx rfl hd rfl h) k
theorem w_i2c (X : Stand p l e R s m args below meth c T locs cells slots) (hx : p.tables.exec = Jvm.exec) {x : Int32} (hd : decode c.code pc = .ok (.i2c, 1))  (hp : pc + 1 = pc') (k : Wp p e s below C S Q T (mkF m pc' Ls (Value.int x.toUInt32.toUInt16.toUInt32.toInt32 :: st))) : Wp p e s below C S Q T (mkF m pc Ls (Value.int x :: st)) := by
  subst hp
  exact Wp.via (fun _ h => XT.i2c X.here hx rfl hd rfl h) k
theorem w_iinc (X : Stand p l e R s m args below meth c T locs cells slots) (hx : p.tables.exec = Jvm.exec) {k : Nat} {cst : Int} {v : Int32} {l' : Array Slot} (hd : decode c.code pc = .ok (.iinc k cst, 3)) (hl : Ls[k]? = some (.val (.int v))) (hl' : storeLocals Ls k (.int (v + Int32.ofInt cst)) = some l') (hp : pc + 3 = pc') (k : Wp p e s below C S Q T (mkF m pc' l' (st))) : Wp p e s below C S Q T (mkF m pc Ls (st)) := by
  subst hp
  exact Wp.via (fun _ h => XS.iinc X.here hx rfl hd hl hl' h) k
theorem w_dup (X : Stand p l e R s m args below meth c T locs cells slots) (hx : p.tables.exec = Jvm.exec) {x : Value} (hd : decode c.code pc = .ok (.dup, 1)) (hc : x.category = 1) (hp : pc + 1 = pc') (k : Wp p e s below C S Q T (mkF m pc' Ls (x :: x :: st))) : Wp p e s below C S Q T (mkF m pc Ls (x :: st)) := by
  subst hp
  exact Wp.via (fun _ h => XS.dup X.here hx rfl hd rfl hc h) k
theorem w_dup2 (X : Stand p l e R s m args below meth c T locs cells slots) (hx : p.tables.exec = Jvm.exec) {x y : Value} (hd : decode c.code pc = .ok (.dup2, 1)) (hc : x.category = 1) (hc' : y.category = 1) (hp : pc + 1 = pc') (k : Wp p e s below C S Q T (mkF m pc' Ls (x :: y :: x :: y :: st))) : Wp p e s below C S Q T (mkF m pc Ls (x :: y :: st)) := by
  subst hp
  exact Wp.via (fun _ h => XT.dup2 X.here hx rfl hd rfl hc hc' h) k
theorem w_dup2L (X : Stand p l e R s m args below meth c T locs cells slots) (hx : p.tables.exec = Jvm.exec) {x : Int64} (hd : decode c.code pc = .ok (.dup2, 1))  (hp : pc + 1 = pc') (k : Wp p e s below C S Q T (mkF m pc' Ls (Value.long x :: Value.long x :: st))) : Wp p e s below C S Q T (mkF m pc Ls (Value.long x :: st)) := by
  subst hp
  exact Wp.via (fun _ h => XT.dup2L X.here hx rfl hd rfl h) k
theorem w_dupX1 (X : Stand p l e R s m args below meth c T locs cells slots) (hx : p.tables.exec = Jvm.exec) {x y : Value} (hd : decode c.code pc = .ok (.dup_x1, 1)) (hc : x.category = 1) (hc' : y.category = 1) (hp : pc + 1 = pc') (k : Wp p e s below C S Q T (mkF m pc' Ls (x :: y :: x :: st))) : Wp p e s below C S Q T (mkF m pc Ls (x :: y :: st)) := by
  subst hp
  exact Wp.via (fun _ h => XT.dupX1 X.here hx rfl hd rfl hc hc' h) k
theorem w_pop (X : Stand p l e R s m args below meth c T locs cells slots) (hx : p.tables.exec = Jvm.exec) {x : Value} (hd : decode c.code pc = .ok (.pop, 1)) (hc : x.category = 1) (hp : pc + 1 = pc') (k : Wp p e s below C S Q T (mkF m pc' Ls (st))) : Wp p e s below C S Q T (mkF m pc Ls (x :: st)) := by
  subst hp
  exact Wp.via (fun _ h => XT.pop X.here hx rfl hd rfl hc h) k
theorem w_goto (X : Stand p l e R s m args below meth c T locs cells slots) (hx : p.tables.exec = Jvm.exec) {o : Int} (hd : decode c.code pc = .ok (.goto o, 3)) (ho : 0 ≤ (pc : Int) + o) (hp : ((pc : Int) + o).toNat = pc') (k : Wp p e s below C S Q T (mkF m pc' Ls st)) : Wp p e s below C S Q T (mkF m pc Ls st) :=
  Wp.via (fun _ h => XS.goto X.here hx rfl (pc0 := pc) (pc' := pc') rfl hd ho hp h) k
theorem w_icmp_eq (X : Stand p l e R s m args below meth c T locs cells slots) (hx : p.tables.exec = Jvm.exec) {o : Int} {pcY : Nat} {x y : Int32} (hd : decode c.code pc = .ok (.if_icmp .eq o, 3)) (ho : 0 ≤ (pc : Int) + o) (hy : ((pc : Int) + o).toNat = pcY) (hp : pc + 3 = pc') (kY : x = y → Wp p e s below C S Q T (mkF m pcY Ls st)) (kN : ¬ x = y → Wp p e s below C S Q T (mkF m pc' Ls st)) : Wp p e s below C S Q T (mkF m pc Ls (Value.int y :: Value.int x :: st)) := by
  by_cases q : x = y
  · exact Wp.via (fun _ h => XS.icmpYes X.here hx rfl (pc0 := pc) (pc' := pcY) rfl hd rfl (teq q).1 ho hy h) (kY q)
  · exact Wp.via (fun _ h => XS.icmpNo X.here hx rfl hd rfl (feq (by simpa using q)).1 h) (by subst hp; exact kN (by simpa using q))
theorem w_if_eq (X : Stand p l e R s m args below meth c T locs cells slots) (hx : p.tables.exec = Jvm.exec) {o : Int} {pcY : Nat} {x : Int32} (hd : decode c.code pc = .ok (.ifCond .eq o, 3)) (ho : 0 ≤ (pc : Int) + o) (hy : ((pc : Int) + o).toNat = pcY) (hp : pc + 3 = pc') (kY : x = 0 → Wp p e s below C S Q T (mkF m pcY Ls st)) (kN : ¬ x = 0 → Wp p e s below C S Q T (mkF m pc' Ls st)) : Wp p e s below C S Q T (mkF m pc Ls (Value.int x :: st)) := by
  by_cases q : x = 0
  · exact Wp.via (fun _ h => XS.ifYes X.here hx rfl (pc0 := pc) (pc' := pcY) rfl hd rfl ((if0 _ _).trans (teq q).1) ho hy h) (kY q)
  · exact Wp.via (fun _ h => XS.ifNo X.here hx rfl hd rfl ((if0 _ _).trans (feq (by simpa using q)).1) h) (by subst hp; exact kN (by simpa using q))
theorem w_icmp_ne (X : Stand p l e R s m args below meth c T locs cells slots) (hx : p.tables.exec = Jvm.exec) {o : Int} {pcY : Nat} {x y : Int32} (hd : decode c.code pc = .ok (.if_icmp .ne o, 3)) (ho : 0 ≤ (pc : Int) + o) (hy : ((pc : Int) + o).toNat = pcY) (hp : pc + 3 = pc') (kY : ¬ x = y → Wp p e s below C S Q T (mkF m pcY Ls st)) (kN : x = y → Wp p e s below C S Q T (mkF m pc' Ls st)) : Wp p e s below C S Q T (mkF m pc Ls (Value.int y :: Value.int x :: st)) := by
  by_cases q : ¬ x = y
  · exact Wp.via (fun _ h => XS.icmpYes X.here hx rfl (pc0 := pc) (pc' := pcY) rfl hd rfl (feq q).2 ho hy h) (kY q)
  · exact Wp.via (fun _ h => XS.icmpNo X.here hx rfl hd rfl (teq (by simpa using q)).2 h) (by subst hp; exact kN (by simpa using q))
theorem w_if_ne (X : Stand p l e R s m args below meth c T locs cells slots) (hx : p.tables.exec = Jvm.exec) {o : Int} {pcY : Nat} {x : Int32} (hd : decode c.code pc = .ok (.ifCond .ne o, 3)) (ho : 0 ≤ (pc : Int) + o) (hy : ((pc : Int) + o).toNat = pcY) (hp : pc + 3 = pc') (kY : ¬ x = 0 → Wp p e s below C S Q T (mkF m pcY Ls st)) (kN : x = 0 → Wp p e s below C S Q T (mkF m pc' Ls st)) : Wp p e s below C S Q T (mkF m pc Ls (Value.int x :: st)) := by
  by_cases q : ¬ x = 0
  · exact Wp.via (fun _ h => XS.ifYes X.here hx rfl (pc0 := pc) (pc' := pcY) rfl hd rfl ((if0 _ _).trans (feq q).2) ho hy h) (kY q)
  · exact Wp.via (fun _ h => XS.ifNo X.here hx rfl hd rfl ((if0 _ _).trans (teq (by simpa using q)).2) h) (by subst hp; exact kN (by simpa using q))
theorem w_icmp_lt (X : Stand p l e R s m args below meth c T locs cells slots) (hx : p.tables.exec = Jvm.exec) {o : Int} {pcY : Nat} {x y : Int32} (hd : decode c.code pc = .ok (.if_icmp .lt o, 3)) (ho : 0 ≤ (pc : Int) + o) (hy : ((pc : Int) + o).toNat = pcY) (hp : pc + 3 = pc') (kY : x < y → Wp p e s below C S Q T (mkF m pcY Ls st)) (kN : ¬ x < y → Wp p e s below C S Q T (mkF m pc' Ls st)) : Wp p e s below C S Q T (mkF m pc Ls (Value.int y :: Value.int x :: st)) := by
  by_cases q : x < y
  · exact Wp.via (fun _ h => XS.icmpYes X.here hx rfl (pc0 := pc) (pc' := pcY) rfl hd rfl (tlt q).1 ho hy h) (kY q)
  · exact Wp.via (fun _ h => XS.icmpNo X.here hx rfl hd rfl (flt (by simpa using q)).1 h) (by subst hp; exact kN (by simpa using q))
theorem w_if_lt (X : Stand p l e R s m args below meth c T locs cells slots) (hx : p.tables.exec = Jvm.exec) {o : Int} {pcY : Nat} {x : Int32} (hd : decode c.code pc = .ok (.ifCond .lt o, 3)) (ho : 0 ≤ (pc : Int) + o) (hy : ((pc : Int) + o).toNat = pcY) (hp : pc + 3 = pc') (kY : x < 0 → Wp p e s below C S Q T (mkF m pcY Ls st)) (kN : ¬ x < 0 → Wp p e s below C S Q T (mkF m pc' Ls st)) : Wp p e s below C S Q T (mkF m pc Ls (Value.int x :: st)) := by
  by_cases q : x < 0
  · exact Wp.via (fun _ h => XS.ifYes X.here hx rfl (pc0 := pc) (pc' := pcY) rfl hd rfl ((if0 _ _).trans (tlt q).1) ho hy h) (kY q)
  · exact Wp.via (fun _ h => XS.ifNo X.here hx rfl hd rfl ((if0 _ _).trans (flt (by simpa using q)).1) h) (by subst hp; exact kN (by simpa using q))
theorem w_icmp_ge (X : Stand p l e R s m args below meth c T locs cells slots) (hx : p.tables.exec = Jvm.exec) {o : Int} {pcY : Nat} {x y : Int32} (hd : decode c.code pc = .ok (.if_icmp .ge o, 3)) (ho : 0 ≤ (pc : Int) + o) (hy : ((pc : Int) + o).toNat = pcY) (hp : pc + 3 = pc') (kY : ¬ x < y → Wp p e s below C S Q T (mkF m pcY Ls st)) (kN : x < y → Wp p e s below C S Q T (mkF m pc' Ls st)) : Wp p e s below C S Q T (mkF m pc Ls (Value.int y :: Value.int x :: st)) := by
  by_cases q : ¬ x < y
  · exact Wp.via (fun _ h => XS.icmpYes X.here hx rfl (pc0 := pc) (pc' := pcY) rfl hd rfl (flt q).2.1 ho hy h) (kY q)
  · exact Wp.via (fun _ h => XS.icmpNo X.here hx rfl hd rfl (tlt (by simpa using q)).2.1 h) (by subst hp; exact kN (by simpa using q))
theorem w_if_ge (X : Stand p l e R s m args below meth c T locs cells slots) (hx : p.tables.exec = Jvm.exec) {o : Int} {pcY : Nat} {x : Int32} (hd : decode c.code pc = .ok (.ifCond .ge o, 3)) (ho : 0 ≤ (pc : Int) + o) (hy : ((pc : Int) + o).toNat = pcY) (hp : pc + 3 = pc') (kY : ¬ x < 0 → Wp p e s below C S Q T (mkF m pcY Ls st)) (kN : x < 0 → Wp p e s below C S Q T (mkF m pc' Ls st)) : Wp p e s below C S Q T (mkF m pc Ls (Value.int x :: st)) := by
  by_cases q : ¬ x < 0
  · exact Wp.via (fun _ h => XS.ifYes X.here hx rfl (pc0 := pc) (pc' := pcY) rfl hd rfl ((if0 _ _).trans (flt q).2.1) ho hy h) (kY q)
  · exact Wp.via (fun _ h => XS.ifNo X.here hx rfl hd rfl ((if0 _ _).trans (tlt (by simpa using q)).2.1) h) (by subst hp; exact kN (by simpa using q))
theorem w_icmp_gt (X : Stand p l e R s m args below meth c T locs cells slots) (hx : p.tables.exec = Jvm.exec) {o : Int} {pcY : Nat} {x y : Int32} (hd : decode c.code pc = .ok (.if_icmp .gt o, 3)) (ho : 0 ≤ (pc : Int) + o) (hy : ((pc : Int) + o).toNat = pcY) (hp : pc + 3 = pc') (kY : y < x → Wp p e s below C S Q T (mkF m pcY Ls st)) (kN : ¬ y < x → Wp p e s below C S Q T (mkF m pc' Ls st)) : Wp p e s below C S Q T (mkF m pc Ls (Value.int y :: Value.int x :: st)) := by
  by_cases q : y < x
  · exact Wp.via (fun _ h => XS.icmpYes X.here hx rfl (pc0 := pc) (pc' := pcY) rfl hd rfl (tlt q).2.2.1 ho hy h) (kY q)
  · exact Wp.via (fun _ h => XS.icmpNo X.here hx rfl hd rfl (flt (by simpa using q)).2.2.1 h) (by subst hp; exact kN (by simpa using q))
theorem w_if_gt (X : Stand p l e R s m args below meth c T locs cells slots) (hx : p.tables.exec = Jvm.exec) {o : Int} {pcY : Nat} {x : Int32} (hd : decode c.code pc = .ok (.ifCond .gt o, 3)) (ho : 0 ≤ (pc : Int) + o) (hy : ((pc : Int) + o).toNat = pcY) (hp : pc + 3 = pc') (kY : 0 < x → Wp p e s below C S Q T (mkF m pcY Ls st)) (kN : ¬ 0 < x → Wp p e s below C S Q T (mkF m pc' Ls st)) : Wp p e s below C S Q T (mkF m pc Ls (Value.int x :: st)) := by
  by_cases q : 0 < x
  · exact Wp.via (fun _ h => XS.ifYes X.here hx rfl (pc0 := pc) (pc' := pcY) rfl hd rfl ((if0 _ _).trans (tlt q).2.2.1) ho hy h) (kY q)
  · exact Wp.via (fun _ h => XS.ifNo X.here hx rfl hd rfl ((if0 _ _).trans (flt (by simpa using q)).2.2.1) h) (by subst hp; exact kN (by simpa using q))
theorem w_icmp_le (X : Stand p l e R s m args below meth c T locs cells slots) (hx : p.tables.exec = Jvm.exec) {o : Int} {pcY : Nat} {x y : Int32} (hd : decode c.code pc = .ok (.if_icmp .le o, 3)) (ho : 0 ≤ (pc : Int) + o) (hy : ((pc : Int) + o).toNat = pcY) (hp : pc + 3 = pc') (kY : ¬ y < x → Wp p e s below C S Q T (mkF m pcY Ls st)) (kN : y < x → Wp p e s below C S Q T (mkF m pc' Ls st)) : Wp p e s below C S Q T (mkF m pc Ls (Value.int y :: Value.int x :: st)) := by
  by_cases q : ¬ y < x
  · exact Wp.via (fun _ h => XS.icmpYes X.here hx rfl (pc0 := pc) (pc' := pcY) rfl hd rfl (flt q).2.2.2 ho hy h) (kY q)
  · exact Wp.via (fun _ h => XS.icmpNo X.here hx rfl hd rfl (tlt (by simpa using q)).2.2.2 h) (by subst hp; exact kN (by simpa using q))
theorem w_if_le (X : Stand p l e R s m args below meth c T locs cells slots) (hx : p.tables.exec = Jvm.exec) {o : Int} {pcY : Nat} {x : Int32} (hd : decode c.code pc = .ok (.ifCond .le o, 3)) (ho : 0 ≤ (pc : Int) + o) (hy : ((pc : Int) + o).toNat = pcY) (hp : pc + 3 = pc') (kY : ¬ 0 < x → Wp p e s below C S Q T (mkF m pcY Ls st)) (kN : 0 < x → Wp p e s below C S Q T (mkF m pc' Ls st)) : Wp p e s below C S Q T (mkF m pc Ls (Value.int x :: st)) := by
  by_cases q : ¬ 0 < x
  · exact Wp.via (fun _ h => XS.ifYes X.here hx rfl (pc0 := pc) (pc' := pcY) rfl hd rfl ((if0 _ _).trans (flt q).2.2.2) ho hy h) (kY q)
  · exact Wp.via (fun _ h => XS.ifNo X.here hx rfl hd rfl ((if0 _ _).trans (tlt (by simpa using q)).2.2.2) h) (by subst hp; exact kN (by simpa using q))
theorem own_cl_lt (x y : Int64) : XT.cmpL x y < 0 ↔ x < y := by
  unfold XT.cmpL
  by_cases h1 : y < x
  · rw [if_pos h1]
    refine ⟨fun h => absurd h (by decide), fun h => absurd (Int64.lt_trans h1 h) Int64.lt_irrefl⟩
  · rw [if_neg h1]
    by_cases h2 : x = y
    · rw [if_pos h2]
      refine ⟨fun h => absurd h (by decide), fun h => absurd (h2 ▸ h) Int64.lt_irrefl⟩
    · rw [if_neg h2]
      refine ⟨fun _ => ?_, fun _ => by decide⟩
      rw [Int64.lt_iff_toInt_lt] at *
      have : x.toInt ≠ y.toInt := fun q => h2 (Int64.toInt_inj.mp q)
      omega
theorem own_cl_gt (x y : Int64) : 0 < XT.cmpL x y ↔ y < x := by
  unfold XT.cmpL
  by_cases h1 : y < x
  · rw [if_pos h1]
    exact ⟨fun _ => h1, fun _ => by decide⟩
  · rw [if_neg h1]
    by_cases h2 : x = y
    · rw [if_pos h2]
      exact ⟨fun h => absurd h (by decide), fun h => absurd h h1⟩
    · rw [if_neg h2]
      exact ⟨fun h => absurd h (by decide), fun h => absurd h h1⟩
theorem own_cl_eq (x y : Int64) : XT.cmpL x y = 0 ↔ x = y := by
  unfold XT.cmpL
  by_cases h1 : y < x
  · rw [if_pos h1]
    exact ⟨fun h => absurd h (by decide), fun h => absurd (h ▸ h1) Int64.lt_irrefl⟩
  · rw [if_neg h1]
    by_cases h2 : x = y
    · rw [if_pos h2]
      exact ⟨fun _ => h2, fun _ => rfl⟩
    · rw [if_neg h2]
      exact ⟨fun h => absurd h (by decide), fun h => absurd h h2⟩
theorem w_lcmp_eq (X : Stand p l e R s m args below meth c T locs cells slots) (hx : p.tables.exec = Jvm.exec) {o : Int} {pcY pc1 : Nat} {x y : Int64} (hd : decode c.code pc = .ok (.lcmp, 1)) (hp1 : pc + 1 = pc1) (hd1 : decode c.code pc1 = .ok (.ifCond .eq o, 3)) (ho : 0 ≤ (pc1 : Int) + o) (hy : ((pc1 : Int) + o).toNat = pcY) (hp : pc1 + 3 = pc') (kY : x = y → Wp p e s below C S Q T (mkF m pcY Ls st)) (kN : ¬ x = y → Wp p e s below C S Q T (mkF m pc' Ls st)) : Wp p e s below C S Q T (mkF m pc Ls (Value.long y :: Value.long x :: st)) :=
  w_lcmp X hx hd hp1 (w_if_eq X hx hd1 ho hy hp (fun q => kY ((own_cl_eq x y).mp q)) (fun q => kN fun r => q ((own_cl_eq x y).mpr r)))
theorem w_lcmp_ne (X : Stand p l e R s m args below meth c T locs cells slots) (hx : p.tables.exec = Jvm.exec) {o : Int} {pcY pc1 : Nat} {x y : Int64} (hd : decode c.code pc = .ok (.lcmp, 1)) (hp1 : pc + 1 = pc1) (hd1 : decode c.code pc1 = .ok (.ifCond .ne o, 3)) (ho : 0 ≤ (pc1 : Int) + o) (hy : ((pc1 : Int) + o).toNat = pcY) (hp : pc1 + 3 = pc') (kY : ¬ x = y → Wp p e s below C S Q T (mkF m pcY Ls st)) (kN : x = y → Wp p e s below C S Q T (mkF m pc' Ls st)) : Wp p e s below C S Q T (mkF m pc Ls (Value.long y :: Value.long x :: st)) :=
  w_lcmp X hx hd hp1 (w_if_ne X hx hd1 ho hy hp (fun q => kY fun r => q ((own_cl_eq x y).mpr r)) (fun q => kN ((own_cl_eq x y).mp q)))
theorem w_lcmp_lt (X : Stand p l e R s m args below meth c T locs cells slots) (hx : p.tables.exec = Jvm.exec) {o : Int} {pcY pc1 : Nat} {x y : Int64} (hd : decode c.code pc = .ok (.lcmp, 1)) (hp1 : pc + 1 = pc1) (hd1 : decode c.code pc1 = .ok (.ifCond .lt o, 3)) (ho : 0 ≤ (pc1 : Int) + o) (hy : ((pc1 : Int) + o).toNat = pcY) (hp : pc1 + 3 = pc') (kY : x < y → Wp p e s below C S Q T (mkF m pcY Ls st)) (kN : ¬ x < y → Wp p e s below C S Q T (mkF m pc' Ls st)) : Wp p e s below C S Q T (mkF m pc Ls (Value.long y :: Value.long x :: st)) :=
  w_lcmp X hx hd hp1 (w_if_lt X hx hd1 ho hy hp (fun q => kY ((own_cl_lt x y).mp q)) (fun q => kN fun r => q ((own_cl_lt x y).mpr r)))
theorem w_lcmp_ge (X : Stand p l e R s m args below meth c T locs cells slots) (hx : p.tables.exec = Jvm.exec) {o : Int} {pcY pc1 : Nat} {x y : Int64} (hd : decode c.code pc = .ok (.lcmp, 1)) (hp1 : pc + 1 = pc1) (hd1 : decode c.code pc1 = .ok (.ifCond .ge o, 3)) (ho : 0 ≤ (pc1 : Int) + o) (hy : ((pc1 : Int) + o).toNat = pcY) (hp : pc1 + 3 = pc') (kY : ¬ x < y → Wp p e s below C S Q T (mkF m pcY Ls st)) (kN : x < y → Wp p e s below C S Q T (mkF m pc' Ls st)) : Wp p e s below C S Q T (mkF m pc Ls (Value.long y :: Value.long x :: st)) :=
  w_lcmp X hx hd hp1 (w_if_ge X hx hd1 ho hy hp (fun q => kY fun r => q ((own_cl_lt x y).mpr r)) (fun q => kN ((own_cl_lt x y).mp q)))
theorem w_lcmp_gt (X : Stand p l e R s m args below meth c T locs cells slots) (hx : p.tables.exec = Jvm.exec) {o : Int} {pcY pc1 : Nat} {x y : Int64} (hd : decode c.code pc = .ok (.lcmp, 1)) (hp1 : pc + 1 = pc1) (hd1 : decode c.code pc1 = .ok (.ifCond .gt o, 3)) (ho : 0 ≤ (pc1 : Int) + o) (hy : ((pc1 : Int) + o).toNat = pcY) (hp : pc1 + 3 = pc') (kY : y < x → Wp p e s below C S Q T (mkF m pcY Ls st)) (kN : ¬ y < x → Wp p e s below C S Q T (mkF m pc' Ls st)) : Wp p e s below C S Q T (mkF m pc Ls (Value.long y :: Value.long x :: st)) :=
  w_lcmp X hx hd hp1 (w_if_gt X hx hd1 ho hy hp (fun q => kY ((own_cl_gt x y).mp q)) (fun q => kN fun r => q ((own_cl_gt x y).mpr r)))
theorem w_lcmp_le (X : Stand p l e R s m args below meth c T locs cells slots) (hx : p.tables.exec = Jvm.exec) {o : Int} {pcY pc1 : Nat} {x y : Int64} (hd : decode c.code pc = .ok (.lcmp, 1)) (hp1 : pc + 1 = pc1) (hd1 : decode c.code pc1 = .ok (.ifCond .le o, 3)) (ho : 0 ≤ (pc1 : Int) + o) (hy : ((pc1 : Int) + o).toNat = pcY) (hp : pc1 + 3 = pc') (kY : ¬ y < x → Wp p e s below C S Q T (mkF m pcY Ls st)) (kN : y < x → Wp p e s below C S Q T (mkF m pc' Ls st)) : Wp p e s below C S Q T (mkF m pc Ls (Value.long y :: Value.long x :: st)) :=
  w_lcmp X hx hd hp1 (w_if_le X hx hd1 ho hy hp (fun q => kY fun r => q ((own_cl_gt x y).mpr r)) (fun q => kN ((own_cl_gt x y).mp q)))
theorem w_eqI {x z : Int32} (h : x = z) (k : Wp p e s below C S Q T (mkF m pc Ls (Value.int z :: st))) : Wp p e s below C S Q T (mkF m pc Ls (Value.int x :: st)) := h ▸ k
theorem w_genI {x : Int32} (k : ∀ z, z = x → Wp p e s below C S Q T (mkF m pc Ls (Value.int z :: st))) : Wp p e s below C S Q T (mkF m pc Ls (Value.int x :: st)) := k x rfl
theorem w_eqJ {x z : Int64} (h : x = z) (k : Wp p e s below C S Q T (mkF m pc Ls (Value.long z :: st))) : Wp p e s below C S Q T (mkF m pc Ls (Value.long x :: st)) := h ▸ k
theorem w_genJ {x : Int64} (k : ∀ z, z = x → Wp p e s below C S Q T (mkF m pc Ls (Value.long z :: st))) : Wp p e s below C S Q T (mkF m pc Ls (Value.long x :: st)) := k x rfl
theorem w_iincE (X : Stand p l e R s m args below meth c T locs cells slots) (hx : p.tables.exec = Jvm.exec) {k : Nat} {cst : Int} {v z : Int32} {l' : Array Slot} (hd : decode c.code pc = .ok (.iinc k cst, 3)) (hl : Ls[k]? = some (.val (.int v))) (hz : v + Int32.ofInt cst = z) (hl' : storeLocals Ls k (.int z) = some l') (hp : pc + 3 = pc') (k : Wp p e s below C S Q T (mkF m pc' l' (st))) : Wp p e s below C S Q T (mkF m pc Ls (st)) := by
  subst hp
  exact Wp.via (fun _ h => XS.iinc X.here hx rfl hd hl (hz ▸ hl') h) k
theorem w_ifnullY (X : Stand p l e R s m args below meth c T locs cells slots) (hx : p.tables.exec = Jvm.exec) {o : Int}  (hd : decode c.code pc = .ok (.ifnull o, 3)) (ho : 0 ≤ (pc : Int) + o) (hp : ((pc : Int) + o).toNat = pc') (k : Wp p e s below C S Q T (mkF m pc' Ls st)) : Wp p e s below C S Q T (mkF m pc Ls (Value.null :: st)) :=
  Wp.via (fun _ h => XS.ifnullYes X.here hx rfl (pc0 := pc) (pc' := pc') rfl hd rfl ho hp h) k
theorem w_ifnonnullY (X : Stand p l e R s m args below meth c T locs cells slots) (hx : p.tables.exec = Jvm.exec) {o : Int} {b : Addr} (hd : decode c.code pc = .ok (.ifnonnull o, 3)) (ho : 0 ≤ (pc : Int) + o) (hp : ((pc : Int) + o).toNat = pc') (k : Wp p e s below C S Q T (mkF m pc' Ls st)) : Wp p e s below C S Q T (mkF m pc Ls (Value.ref b :: st)) :=
  Wp.via (fun _ h => XT.ifnonnullYes X.here hx rfl (pc0 := pc) (pc' := pc') rfl hd rfl ho hp h) k
theorem w_ifnullN (X : Stand p l e R s m args below meth c T locs cells slots) (hx : p.tables.exec = Jvm.exec) {o : Int} {b : Addr} (hd : decode c.code pc = .ok (.ifnull o, 3))  (hp : pc + 3 = pc') (k : Wp p e s below C S Q T (mkF m pc' Ls (st))) : Wp p e s below C S Q T (mkF m pc Ls (Value.ref b :: st)) := by
  subst hp
  exact Wp.via (fun _ h => XS.ifnullNo X.here hx rfl hd rfl h) k
theorem w_ifnonnullN (X : Stand p l e R s m args below meth c T locs cells slots) (hx : p.tables.exec = Jvm.exec) {o : Int} (hd : decode c.code pc = .ok (.ifnonnull o, 3))  (hp : pc + 3 = pc') (k : Wp p e s below C S Q T (mkF m pc' Ls (st))) : Wp p e s below C S Q T (mkF m pc Ls (Value.null :: st)) := by
  subst hp
  exact Wp.via (fun _ h => XT.ifnonnullNo X.here hx rfl hd rfl h) k
theorem own_out {fs : List Frame} {v : Option Value} {g : JFrame} (hs : Steps p.tables e below (T.setTop g) (T.setFrames fs)) (h1 : (T.setFrames fs).status = .running) (h2 : Ended (T.setFrames fs) below (.returned v)) (h3 : s.WarmedH (T.setFrames fs).vm) (h4 : s.sameButNew ({ T.setFrames fs with vm := s.vm } : State) locs cells slots)
    (hc : cells ≤ C) (hl : slots ≤ S) (hq : Q v T.heap locs) : Wp p e s below C S Q T g :=
  ⟨_, _, hs, h1, h2, _, _, rfl, hq, ⟨_, rfl⟩, h3, h4.mono hc hl⟩
theorem w_ret_i (X : Stand p l e R s m args below meth c T locs cells slots) (hx : p.tables.exec = Jvm.exec) {z : Int32} (hret : meth.sig.returnType = some .int) (hlk : meth.locks = false) (hd : decode c.code pc = .ok (.ireturn, 1)) (hc : cells ≤ C) (hl : slots ≤ S) (hq : Q (some (.int z)) T.heap locs) : Wp p e s below C S Q T (mkF m pc Ls (Value.int z :: st)) := by
  obtain ⟨fs, hr, h1, h2, h3, h4⟩ := X.leave (v := some (.int z)) (fun h => by rw [hret] at h; cases h) hlk
  exact own_out (retI X hx hret hd hr) h1 h2 h3 h4 hc hl hq
theorem w_ret_n (X : Stand p l e R s m args below meth c T locs cells slots) (hx : p.tables.exec = Jvm.exec) {z z' : Int32} {t : FieldType} (hret : meth.sig.returnType = some t) (hlk : meth.locks = false) (ht : t = .boolean ∨ t = .byte ∨ t = .char ∨ t = .short) (hd : decode c.code pc = .ok (.ireturn, 1)) (hz : nar t z = z') (hc : cells ≤ C) (hl : slots ≤ S) (hq : Q (some (.int z')) T.heap locs) : Wp p e s below C S Q T (mkF m pc Ls (Value.int z :: st)) := by
  subst hz
  obtain ⟨fs, hr, h1, h2, h3, h4⟩ := X.leave (v := some (.int (nar t z))) (fun h => by rw [hret] at h; cases h) hlk
  exact own_out (retN X hx hret ht hd hr) h1 h2 h3 h4 hc hl hq
theorem w_ret_l (X : Stand p l e R s m args below meth c T locs cells slots) (hx : p.tables.exec = Jvm.exec) {z : Int64} (hret : meth.sig.returnType = some .long) (hlk : meth.locks = false) (hd : decode c.code pc = .ok (.lreturn, 1)) (hc : cells ≤ C) (hl : slots ≤ S) (hq : Q (some (.long z)) T.heap locs) : Wp p e s below C S Q T (mkF m pc Ls [Value.long z]) := by
  obtain ⟨fs, hr, h1, h2, h3, h4⟩ := X.leave (v := some (.long z)) (fun h => by rw [hret] at h; cases h) hlk
  exact own_out (X.lreturnOut hx hret hd hr) h1 h2 h3 h4 hc hl hq
theorem w_ret_a (X : Stand p l e R s m args below meth c T locs cells slots) (hx : p.tables.exec = Jvm.exec) {w : Value} {t : FieldType} (hw : w.isRef = true) (hret : meth.sig.returnType = some t) (ht : t.isReference = true) (hlk : meth.locks = false) (hd : decode c.code pc = .ok (.areturn, 1)) (hc : cells ≤ C) (hl : slots ≤ S) (hq : Q (some w) T.heap locs) : Wp p e s below C S Q T (mkF m pc Ls [w]) := by
  obtain ⟨fs, hr, h1, h2, h3, h4⟩ := X.leave (v := some w) (fun h => by rw [hret] at h; cases h) hlk
  exact own_out (X.areturnOut hx hw hret ht hd hr) h1 h2 h3 h4 hc hl hq
theorem w_ret_v (X : Stand p l e R s m args below meth c T locs cells slots) (hx : p.tables.exec = Jvm.exec) (hret : meth.sig.returnType = none) (hlk : meth.locks = false) (hd : decode c.code pc = .ok (.return_, 1)) (hc : cells ≤ C) (hl : slots ≤ S) (hq : Q none T.heap locs) : Wp p e s below C S Q T (mkF m pc Ls []) := by
  obtain ⟨fs, hr, h1, h2, h3, h4⟩ := X.leave (v := none) (fun h => rfl) hlk
  exact own_out (X.returnOut hx hret hd hr) h1 h2 h3 h4 hc hl hq
theorem own_call (X : Stand p l e R s m args below meth c T locs cells slots) (hx : p.tables.exec = Jvm.exec) {Z : State} {a0 : Array Value} {h : Heap} (hZ : Z.Warmed39 s.vm) (eT : T.heap = h) {own : String} {i : Nat} {y : MethodName} {bytes : ByteArray} {maxL : Nat} {ret : Option FieldType} {rm : Room} {W : Nat} {as' : Array Value} {Qc : Option Value → Heap → List Loc → Prop}
    (hown : s.vm.findClass own = some m.cls) (hml : Ls.size = c.maxLocals) (w1 : (Jvm.Cond.methodLink own i y).before a0 Z = true) (w2 : (Jvm.Cond.static y).before a0 Z = true) (w3 : (Jvm.Cond.initialized y.cls).before a0 Z = true) (w4 : (Jvm.Cond.code y bytes maxL ret).before a0 Z = true)
    (hM : MetFree l y (head1 [Jvm.Cond.code y bytes maxL ret] rm) (fun a U => a = as' ∧ Z.Warmed39 U.vm ∧ U.heap = h) (fun _ _ _ _ _ => True) (fun _ U o U' => ∃ v L, o = .returned v ∧ Qc v U'.heap L ∧ FrameEnd U o U' L rm.cells rm.slots))
    (hy : y.cls ≠ "java/lang/invoke/MethodHandle" ∧ y.cls ≠ "java/lang/invoke/VarHandle") (hf : rm.frames + 1 ≤ R.frames) (hl : W + (maxL + 11) + rm.locals ≤ R.locals) (hc : cells + rm.cells ≤ R.cells) (hsl : slots + rm.slots ≤ R.slots)
    {argsL rest : List Value} {ps : List FieldType} {r : Option FieldType} (hpd : parseMethodDescriptor y.desc = some ⟨ps, r⟩) (hlen : argsL.length = ps.length) (has : argsL.toArray = as') (hst : st = argsL.reverse ++ rest) (hW : (rest.map fun v => v.category).sum ≤ W) (hd : decode c.code pc = .ok (.invokestatic i, 3)) (hp : pc + 3 = pc')
    (k : ∀ (v : Option Value) (T' : State) (L : List Loc), Stand p l e R s m args below meth c T' (locs ++ L) (cells + rm.cells) (slots + rm.slots) → Qc v T'.heap L → Wp p e s below C S Q T' (mkF m pc' Ls (v.toList ++ rest))) : Wp p e s below C S Q T (mkF m pc Ls st) := by
  obtain ⟨v, _, ⟨T1, L1, k1, n1⟩, -, X1, ⟨Lc1, hQ1, l1, y1, z1⟩, st1⟩ := Jvm.LawKit.callS X hx (y := y) hown (mvT hZ w1) (mvT hZ w2) (mvT hZ w3) (mvT hZ w4) hy (backOf (W := W) hM hZ w4 w3 hf hl) (g := mkF m pc Ls st) rfl hml (argsL := argsL) (rest := rest) (lenOf hpd hlen) hst (by show 2 * 0 + _ ≤ _; omega) hd (fun _ _ => ⟨has, eT, hc, hsl⟩)
  dsimp only [Pt.U, Pt.locs, Pt.cells, Pt.slots] at X1 l1 y1 z1 st1 hQ1
  subst l1 y1 z1
  subst hp
  exact Wp.via st1 (k v T1 Lc1 X1 hQ1)
theorem own_cast {g g' : JFrame} (q : g = g') (k : Wp p e s below C S Q T g') : Wp p e s below C S Q T g := q ▸ k
def PureQ (r : Value) (h0 : Heap) (v : Option Value) (h : Heap) (L : List Loc) : Prop := v = some r ∧ L = [] ∧ h = h0
theorem w_callP (X : Stand p l e R s m args below meth c T locs cells slots) (hx : p.tables.exec = Jvm.exec) {Z : State} {a0 : Array Value} {h : Heap} (hZ : Z.Warmed39 s.vm) (eT : T.heap = h) {own : String} {i : Nat} {y : MethodName} {bytes : ByteArray} {maxL : Nat} {ret : Option FieldType} {rm : Room} {W : Nat} {as' : Array Value} {r0 : Value}
    (hown : s.vm.findClass own = some m.cls) (hml : Ls.size = c.maxLocals) (w1 : (Jvm.Cond.methodLink own i y).before a0 Z = true) (w2 : (Jvm.Cond.static y).before a0 Z = true) (w3 : (Jvm.Cond.initialized y.cls).before a0 Z = true) (w4 : (Jvm.Cond.code y bytes maxL ret).before a0 Z = true)
    (hM : MetFree l y (head1 [Jvm.Cond.code y bytes maxL ret] rm) (fun a U => a = as' ∧ Z.Warmed39 U.vm ∧ U.heap = h) (fun _ _ _ _ _ => True) (fun _ U o U' => ∃ v L, o = .returned v ∧ PureQ r0 h v U'.heap L ∧ FrameEnd U o U' L rm.cells rm.slots))
    (hy : y.cls ≠ "java/lang/invoke/MethodHandle" ∧ y.cls ≠ "java/lang/invoke/VarHandle") (hf : rm.frames + 1 ≤ R.frames) (hl : W + (maxL + 11) + rm.locals ≤ R.locals) (hc : rm.cells = 0) (hsl : rm.slots = 0) (hc' : cells ≤ R.cells) (hsl' : slots ≤ R.slots)
    {argsL rest : List Value} {ps : List FieldType} {r : Option FieldType} (hpd : parseMethodDescriptor y.desc = some ⟨ps, r⟩) (hlen : argsL.length = ps.length) (has : argsL.toArray = as') (hst : st = argsL.reverse ++ rest) (hW : (rest.map fun v => v.category).sum ≤ W) (hd : decode c.code pc = .ok (.invokestatic i, 3)) (hp : pc + 3 = pc')
    (k : ∀ (T' : State), Stand p l e R s m args below meth c T' locs cells slots → T'.heap = h → Wp p e s below C S Q T' (mkF m pc' Ls (r0 :: rest))) : Wp p e s below C S Q T (mkF m pc Ls st) := by
  refine own_call X hx hZ eT hown hml w1 w2 w3 w4 hM hy hf hl (by omega) (by omega) hpd hlen has hst hW hd hp ?_
  intro v T' L X' hq
  obtain ⟨rfl, rfl, e1⟩ := hq
  rw [List.append_nil, hc, hsl] at X'
  exact k T' X' e1
def PureQV (h0 : Heap) (v : Option Value) (h : Heap) (L : List Loc) : Prop := v = none ∧ L = [] ∧ h = h0
theorem w_callPV (X : Stand p l e R s m args below meth c T locs cells slots) (hx : p.tables.exec = Jvm.exec) {Z : State} {a0 : Array Value} {h : Heap} (hZ : Z.Warmed39 s.vm) (eT : T.heap = h) {own : String} {i : Nat} {y : MethodName} {bytes : ByteArray} {maxL : Nat} {ret : Option FieldType} {rm : Room} {W : Nat} {as' : Array Value}
    (hown : s.vm.findClass own = some m.cls) (hml : Ls.size = c.maxLocals) (w1 : (Jvm.Cond.methodLink own i y).before a0 Z = true) (w2 : (Jvm.Cond.static y).before a0 Z = true) (w3 : (Jvm.Cond.initialized y.cls).before a0 Z = true) (w4 : (Jvm.Cond.code y bytes maxL ret).before a0 Z = true)
    (hM : MetFree l y (head1 [Jvm.Cond.code y bytes maxL ret] rm) (fun a U => a = as' ∧ Z.Warmed39 U.vm ∧ U.heap = h) (fun _ _ _ _ _ => True) (fun _ U o U' => ∃ v L, o = .returned v ∧ PureQV h v U'.heap L ∧ FrameEnd U o U' L rm.cells rm.slots))
    (hy : y.cls ≠ "java/lang/invoke/MethodHandle" ∧ y.cls ≠ "java/lang/invoke/VarHandle") (hf : rm.frames + 1 ≤ R.frames) (hl : W + (maxL + 11) + rm.locals ≤ R.locals) (hc : rm.cells = 0) (hsl : rm.slots = 0) (hc' : cells ≤ R.cells) (hsl' : slots ≤ R.slots)
    {argsL rest : List Value} {ps : List FieldType} {r : Option FieldType} (hpd : parseMethodDescriptor y.desc = some ⟨ps, r⟩) (hlen : argsL.length = ps.length) (has : argsL.toArray = as') (hst : st = argsL.reverse ++ rest) (hW : (rest.map fun v => v.category).sum ≤ W) (hd : decode c.code pc = .ok (.invokestatic i, 3)) (hp : pc + 3 = pc')
    (k : ∀ (T' : State), Stand p l e R s m args below meth c T' locs cells slots → T'.heap = h → Wp p e s below C S Q T' (mkF m pc' Ls rest)) : Wp p e s below C S Q T (mkF m pc Ls st) := by
  refine own_call X hx hZ eT hown hml w1 w2 w3 w4 hM hy hf hl (by omega) (by omega) hpd hlen has hst hW hd hp ?_
  intro v T' L X' hq
  obtain ⟨rfl, rfl, e1⟩ := hq
  rw [List.append_nil, hc, hsl] at X'
  exact k T' X' e1
theorem own_body {x : MethodName} {code : ByteArray} {maxL : Nat} {ret : Option FieldType} {ws : List Jvm.Cond} {rm : Room} {Z : State} {as : Array Value} {h0 : Heap} (hx : plainFor x = true)
    (body : ∀ (p : Program) (e : Env) (s : State) (m : MethodId) (below : List Frame) (meth : Method) (c : Code) (T : State), p.tables.exec = Jvm.exec → c.code = code → c.maxLocals = maxL → meth.sig.returnType = ret → meth.locks = false → s.vm.findClass x.cls = some m.cls → meth.name = x.name → Z.Warmed39 s.vm → Stand p l e rm s m as below meth c T [] 0 0 → T.heap = h0 → Wp p e s below rm.cells rm.slots Q T (entryFrame m as maxL)) :
    MetFree l x (head1 (Jvm.Cond.code x code maxL ret :: ws) rm) (fun a U => a = as ∧ Z.Warmed39 U.vm ∧ U.heap = h0) (fun _ _ _ _ _ => True) (fun _ U o U' => ∃ v L, o = .returned v ∧ Q v U'.heap L ∧ FrameEnd U o U' L rm.cells rm.slots) := by
  refine MetFree.of_bodySF hx hisR ?_
  intro p e s m args below meth c s₁ Bd hml0 hP hK
  obtain ⟨rfl, hZ, hh⟩ := hP
  exact body p e s m below meth c s₁ Bd.exec Bd.bytes hml0 Bd.returns Bd.notSynchronized (findClass_of_methodNamed Bd.named) (name_of_methodNamed Bd.named Bd.method).1 hZ (Stand.of_body Bd) (by rw [← hh, Bd.state]; rfl)
end OwnW
/-! cells made since the start: explicit -/
def HP (n0 : Nat) (h : Heap) (cs : List Cell) : Prop := h.size = n0 + cs.length ∧ ∀ (i : Nat) (c : Cell), cs[i]? = some c → h[n0 + i]? = some c
def IsA (Z : State) (k : ClassId) (ty : FieldType) : Prop := (∃ kc, Z.vm.classes[k]? = some kc ∧ ∃ comp, kc.kind = .array comp ty) ∧ Z.vm.findClass ("[" ++ ty.toString) = some k
def AC (k : ClassId) (vs : List Value) : Cell := { cls := k, slots := vs.toArray, vm := .none }
def FldC (Z : State) (cell : Cell) (C n d : String) (v : Value) : Prop := ∃ (cf : ClassId) (k : Class) (i : Nat) (f : Field), Z.fieldFound? C n d = some (cf, k, i, f) ∧ f.isStatic = false ∧ cell.vm ≠ .unknown ∧ cell.vm.isStatics = false ∧ Z.vm.assignable cell.cls cf = true ∧ cell.slots[f.slot]? = some v
def ExaC (Z : State) (cell : Cell) (C : String) : Prop := ∃ (k : Class), Z.vm.findClass C = some cell.cls ∧ Z.vm.classes[cell.cls]? = some k ∧ cell.vm.isStatics = false ∧ (k.kind = .ordinary → cell.slots.size = k.instanceTypes.size)
def ObjF (Z : State) (cell : Cell) (C : String) (fl : List (String × String)) (vs : List Value) : Prop := ExaC Z cell C ∧ vs.length = fl.length ∧ ∀ (j : Nat) (n d : String) (v : Value), fl[j]? = some (n, d) → vs[j]? = some v → FldC Z cell C n d v
def Dis (Z : State) (C : String) (fl : List (String × String)) : Prop := ∀ (i j : Nat) (a b : String × String), fl[i]? = some a → fl[j]? = some b → i ≠ j → Jvm.RoadKit.slotOf Z C a.1 a.2 ≠ Jvm.RoadKit.slotOf Z C b.1 b.2
section OwnHP
variable {Z : State} {h h' : Heap} {n0 : Nat} {cs : List Cell} {i sl : Nat} {cell : Cell} {v : Value} {k : ClassId} {vs : List Value} {ty : FieldType} {C : String} {fl : List (String × String)}
theorem HP.nil (h : Heap) : HP h.size h [] := ⟨by simp, fun i c q => by simp at q⟩
theorem HP.push (P : HP n0 h cs) (c : Cell) : HP n0 (h.push c) (cs ++ [c]) := by
  refine ⟨by simp [P.1]; omega, fun i c' q => ?_⟩
  by_cases hi : i < cs.length
  · rw [List.getElem?_append_left hi] at q
    have := P.2 i c' q
    rw [Array.getElem?_push_lt (by rw [P.1]; omega)]
    rw [Array.getElem?_eq_getElem (by rw [P.1]; omega)] at this
    exact this
  · have hl : i < (cs ++ [c]).length := (List.getElem?_eq_some_iff.mp q).1
    have e : i = cs.length := by simp at hl; omega
    subst e
    rw [List.getElem?_append_right (Nat.le_refl _)] at q
    simp at q
    subst q
    rw [← P.1]; simp
theorem HP.wr (P : HP n0 h cs) (W : Wr h h' (n0 + i) sl v) (q : cs[i]? = some cell) : HP n0 h' (cs.set i (cell.setSlot sl v)) := by
  obtain ⟨c0, h1, h2, h3, rfl⟩ := W
  cases h1.symm.trans (P.2 i cell q)
  refine ⟨by simp [P.1], fun j c' r => ?_⟩
  by_cases e : i = j
  · subst e
    have hl : i < cs.length := (List.getElem?_eq_some_iff.mp q).1
    rw [List.getElem?_set_self hl] at r
    cases r
    rw [Array.getElem?_setIfInBounds_self_of_lt (by rw [P.1]; omega)]
  · rw [List.getElem?_set_ne e] at r
    rw [Array.getElem?_setIfInBounds_ne (by omega)]
    exact P.2 j c' r
theorem HP.arr (P : HP n0 h cs) (q : cs[i]? = some (AC k vs)) (a : IsA Z k ty) : Arr Z h (n0 + i) (AC k vs) ty := ⟨P.2 _ _ q, ⟨fun _ => by simp [AC], a.1⟩, by simp [AC]⟩
theorem HP.exaA (P : HP n0 h cs) (q : cs[i]? = some (AC k vs)) (a : IsA Z k ty) {ad : String} (had : "[" ++ ty.toString = ad) : Exa Z h (n0 + i) ad := by
  obtain ⟨⟨kc, h1, comp, h2⟩, h3⟩ := a
  exact ⟨AC k vs, kc, P.2 _ _ q, by rw [← had]; exact h3, h1, rfl, fun z => by rw [h2] at z; cases z⟩
theorem HP.fld (P : HP n0 h cs) (q : cs[i]? = some cell) {n d : String} (F : FldC Z cell C n d v) : Fld Z h (n0 + i) C n d v := by
  obtain ⟨cf, k, j, f, r⟩ := F
  exact ⟨cell, cf, k, j, f, P.2 _ _ q, r⟩
theorem HP.exa (P : HP n0 h cs) (q : cs[i]? = some cell) (F : ExaC Z cell C) : Exa Z h (n0 + i) C := by
  obtain ⟨k, r⟩ := F
  exact ⟨cell, k, P.2 _ _ q, r⟩
theorem AC.set (k : ClassId) (vs : List Value) (j : Nat) (v : Value) : (AC k vs).setSlot j v = AC k (vs.set j v) := by simp [AC, Cell.setSlot]
theorem ExaC.set (F : ExaC Z cell C) (sl : Nat) (v : Value) : ExaC Z (cell.setSlot sl v) C := by
  obtain ⟨k, h1, h2, h3, h4⟩ := F
  exact ⟨k, h1, h2, h3, fun q => by rw [← h4 q]; simp [Cell.setSlot]⟩
theorem ObjF.set (F : ObjF Z cell C fl vs) (D : Dis Z C fl) {j : Nat} {n d : String} (hj : fl[j]? = some (n, d)) (v : Value) : ObjF Z (cell.setSlot (Jvm.RoadKit.slotOf Z C n d) v) C fl (vs.set j v) := by
  obtain ⟨E, hl, F⟩ := F
  refine ⟨E.set _ _, by simp [hl], fun i n' d' v' h1 h2 => ?_⟩
  have hjl : j < fl.length := (List.getElem?_eq_some_iff.mp hj).1
  by_cases e : j = i
  · subst e
    cases hj.symm.trans h1
    rw [List.getElem?_set_self (by omega)] at h2
    cases h2
    obtain ⟨cf, k, x, f, g1, g2, g3, g4, g5, g6⟩ := F j n d _ hj (List.getElem?_eq_getElem (by omega))
    have es : Jvm.RoadKit.slotOf Z C n d = f.slot := by simp [Jvm.RoadKit.slotOf, g1]
    refine ⟨cf, k, x, f, g1, g2, g3, g4, g5, ?_⟩
    rw [es]
    have := (Array.getElem?_eq_some_iff.mp g6).1
    simp [Cell.setSlot, this]
  · rw [List.getElem?_set_ne e] at h2
    obtain ⟨cf, k, x, f, g1, g2, g3, g4, g5, g6⟩ := F i n' d' v' h1 h2
    have es : Jvm.RoadKit.slotOf Z C n' d' = f.slot := by simp [Jvm.RoadKit.slotOf, g1]
    have ne := D j i _ _ hj h1 e
    refine ⟨cf, k, x, f, g1, g2, g3, g4, g5, ?_⟩
    show ((cell.slots.setIfInBounds _ _)[_]?) = _
    rw [Array.getElem?_setIfInBounds_ne (by rw [← es]; exact ne)]
    exact g6
theorem own_dis {a0 : Array Value} (hL : ∀ (j : Nat) (n d : String), fl[j]? = some (n, d) → Laid Z a0 C C n d ∧ ∃ t, parseFieldDescriptor d = some t) (hN : (fl.map Prod.fst).Nodup) : Dis Z C fl := by
  intro i j a b h1 h2 hne
  obtain ⟨L1, t1, p1⟩ := hL i a.1 a.2 h1
  obtain ⟨L2, t2, p2⟩ := hL j b.1 b.2 h2
  refine slot_ne L1 L2 (fun q => hne ?_) p1 p2
  have i1 := (List.getElem?_eq_some_iff.mp h1).1
  have i2 := (List.getElem?_eq_some_iff.mp h2).1
  have e1 : (fl.map Prod.fst)[i]? = some a.1 := by simp [h1]
  have e2 : (fl.map Prod.fst)[j]? = some b.1 := by simp [h2]
  exact (List.getElem?_inj (by simpa using i1) hN).mp (by rw [e1, e2, q])
theorem own_one {n0 : Nat} {L : List Loc} (N : Fr n0 L) (i sl : Nat) : Fr n0 (L ++ [⟨n0 + i, sl⟩]) := N.app fun y hy => by cases List.mem_singleton.mp hy; exact Nat.le_add_right _ _
theorem own_idx {j : Int32} {jn N : Nat} (hj : j.toInt = (jn : Int)) (hn : jn < N) : j.toNatClampNeg = jn ∧ ¬ (j < 0 ∨ N ≤ j.toNatClampNeg) := by
  have e : j.toNatClampNeg = jn := by simp [Int32.toNatClampNeg, hj]
  refine ⟨e, ?_⟩
  rw [e, Int32.lt_iff_toInt_lt, hj]
  simp
  omega
end OwnHP
theorem own_get {α : Type} {f : α → Value} {l : List α} {j : Nat} {d : α} (h : j < l.length) : (List.map f l)[j]? = some (f (l.getD j d)) := by
  simp [List.getD_eq_getElem?_getD, h]
theorem own_sl {α : Type} {l : List α} {i N : Nat} {x : α} (h : l.length = N) : (l.set i x).length = N := by simp [h]
theorem own_llt {α : Type} {l : List α} {j N : Nat} (h : l.length = N) (q : j < N) : j < l.length := by omega
theorem own_oN {n : Nat} (h : n < 2147483648) : (Int32.ofNat n).toInt = (n : Int) := Int32.toInt_ofNat_of_lt h
theorem own_oadd (a b : Nat) : Int32.ofNat a + Int32.ofNat b = Int32.ofNat (a + b) := (Int32.ofNat_add a b).symm
theorem own_osub {a b : Nat} (h : b ≤ a) : Int32.ofNat a - Int32.ofNat b = Int32.ofNat (a - b) := by
  have := own_oadd (a - b) b
  rw [Nat.sub_add_cancel h] at this
  rw [← this, Int32.add_sub_cancel]
theorem own_omul (a b : Nat) : Int32.ofNat a * Int32.ofNat b = Int32.ofNat (a * b) := (Int32.ofNat_mul a b).symm
theorem own_olt {a b : Nat} (ha : a < 2147483648) (hb : b < 2147483648) : Int32.ofNat a < Int32.ofNat b ↔ a < b := by
  rw [Int32.lt_iff_toInt_lt, own_oN ha, own_oN hb]; omega
theorem own_oeq {a b : Nat} (ha : a < 2147483648) (hb : b < 2147483648) : Int32.ofNat a = Int32.ofNat b ↔ a = b := by
  rw [← Int32.toInt_inj, own_oN ha, own_oN hb]; omega
theorem own_len {α : Type} {f : α → Value} {l : List α} {N : Nat} (h : l.length = N) : (List.map f l).length.toInt32 = Int32.ofNat N := by
  rw [List.length_map, h]
section OwnH
variable {p : Program} {l : Launch} {e : Env} {R : Room} {s : State} {m : MethodId} {args : Array Value} {below : List Frame} {meth : Method} {c : Code} {T : State} {locs : List Loc} {cells slots : Nat} {C S : Nat} {Q : Option Value → Heap → List Loc → Prop} {pc pc' : Nat} {Ls : Array Slot} {st : List Value}
  {Z : State} {a0 : Array Value} {n0 : Nat} {cs : List Cell}
theorem w_newarr (X : Stand p l e R s m args below meth c T locs cells slots) (hx : p.tables.exec = Jvm.exec) (hZ : Z.Warmed39 s.vm) (P : HP n0 T.heap cs) {aty : ArrayType} {ty : FieldType} (hty : newarray.typeOf aty = ty) (w : (Jvm.Cond.arrayClass ty).before a0 Z = true) (hd : decode c.code pc = .ok (.newarray aty, 2))
    {n : Int32} {N j : Nat} (hn : n.toInt = (N : Int)) (hN : N ≤ 1000) (hc : cells + 1 ≤ R.cells) (hl : slots + N ≤ R.slots) (hj : cs.length = j) (hp : pc + 2 = pc')
    (k : ∀ (T' : State) (kA : ClassId), Stand p l e R s m args below meth c T' locs (cells + 1) (slots + N) → IsA Z kA ty → HP n0 T'.heap (cs ++ [AC kA (List.replicate N (defaultValue ty))]) → Wp p e s below C S Q T' (mkF m pc' Ls (.ref (n0 + j) :: st))) :
    Wp p e s below C S Q T (mkF m pc Ls (.int n :: st)) := by
  subst hp hty hj
  have en : n.toNatClampNeg = N := by simp [Int32.toNatClampNeg, hn]
  have hcb : componentBytes (newarray.typeOf aty) ≤ 8 := by cases aty <;> decide
  obtain ⟨cA, kA, comp, h1, h2, h3, X', st1⟩ := X.newarrayPrim hx (mvA hZ w) (g := mkF m pc Ls (.int n :: st)) rfl hd rfl (by rw [Int32.lt_iff_toInt_lt, hn]; simp) (by rw [en]; exact Nat.le_trans (Nat.mul_le_mul hN hcb) (by decide)) hc (by rw [en]; exact hl)
  rw [en] at X' st1
  rw [hZ.alike.findClass] at h1
  obtain ⟨kZ, z1, -⟩ := Vm.findClass_spec h1
  obtain ⟨k', z2, z3⟩ := hZ.alike.2.2 _ _ z1
  cases h2.symm.trans z2
  rw [P.1] at st1
  have ec : ({ cls := cA, slots := Array.replicate N (defaultValue (newarray.typeOf aty)), vm := .none } : Cell) = AC cA (List.replicate N (defaultValue (newarray.typeOf aty))) := by simp [AC]
  rw [ec] at X' st1
  exact Wp.via st1 (k _ cA X' ⟨⟨kZ, z1, comp, by rw [← h3, z3]⟩, h1⟩ (P.push _))
theorem w_arrlen (X : Stand p l e R s m args below meth c T locs cells slots) (hx : p.tables.exec = Jvm.exec) (hZ : Z.Warmed39 s.vm) (P : HP n0 T.heap cs) {i : Nat} {kA : ClassId} {vs : List Value} {ty : FieldType} (q : cs[i]? = some (AC kA vs)) (hk : IsA Z kA ty) (hd : decode c.code pc = .ok (.arraylength, 1)) {z : Int32} (hz : vs.length.toInt32 = z) (hp : pc + 1 = pc')
    (k : Wp p e s below C S Q T (mkF m pc' Ls (.int z :: st))) : Wp p e s below C S Q T (mkF m pc Ls (.ref (n0 + i) :: st)) := by
  subst hp hz
  have A := P.arr q hk
  refine Wp.via (fun t ht => X.arraylength hx (cell := AC kA vs) A.1 (State.isArrayOf_alike hZ.alike A.2.1) (g := mkF m pc Ls (.ref (n0 + i) :: st)) rfl (rest := st) rfl hd _ ?_) k
  simpa [AC] using ht
theorem w_iaload (X : Stand p l e R s m args below meth c T locs cells slots) (hx : p.tables.exec = Jvm.exec) (hZ : Z.Warmed39 s.vm) (P : HP n0 T.heap cs) {i : Nat} {kA : ClassId} {vs : List Value} (q : cs[i]? = some (AC kA vs)) (hk : IsA Z kA .int) (hd : decode c.code pc = .ok (.iaload, 1)) {j : Int32} {jn : Nat} (hj : j.toInt = (jn : Int)) {v : Value} (hv : vs[jn]? = some v) (hp : pc + 1 = pc')
    (k : Wp p e s below C S Q T (mkF m pc' Ls (v :: st))) : Wp p e s below C S Q T (mkF m pc Ls (.int j :: .ref (n0 + i) :: st)) := by
  subst hp
  have A := P.arr q hk
  have hl : jn < (AC kA vs).slots.size := by simp [AC]; exact (List.getElem?_eq_some_iff.mp hv).1
  obtain ⟨e1, e2⟩ := own_idx hj hl
  exact Wp.via (fun t ht => X.iaload hx (j := j) (v := v) A.1 (State.isArrayOf_alike hZ.alike A.2.1) A.2.2 e2 (by rw [e1]; simpa [AC] using hv) (g := mkF m pc Ls (.int j :: .ref (n0 + i) :: st)) rfl rfl hd _ ht) k
theorem w_laload (X : Stand p l e R s m args below meth c T locs cells slots) (hx : p.tables.exec = Jvm.exec) (hZ : Z.Warmed39 s.vm) (P : HP n0 T.heap cs) {i : Nat} {kA : ClassId} {vs : List Value} (q : cs[i]? = some (AC kA vs)) (hk : IsA Z kA .long) (hd : decode c.code pc = .ok (.laload, 1)) {j : Int32} {jn : Nat} (hj : j.toInt = (jn : Int)) {v : Value} (hv : vs[jn]? = some v) (hp : pc + 1 = pc')
    (k : Wp p e s below C S Q T (mkF m pc' Ls (v :: st))) : Wp p e s below C S Q T (mkF m pc Ls (.int j :: .ref (n0 + i) :: st)) := by
  subst hp
  have A := P.arr q hk
  have hl : jn < (AC kA vs).slots.size := by simp [AC]; exact (List.getElem?_eq_some_iff.mp hv).1
  obtain ⟨e1, e2⟩ := own_idx hj hl
  exact Wp.via (fun t ht => X.laload hx (j := j) (v := v) A.1 (State.isArrayOf_alike hZ.alike A.2.1) A.2.2 e2 (by rw [e1]; simpa [AC] using hv) (g := mkF m pc Ls (.int j :: .ref (n0 + i) :: st)) rfl rfl hd _ ht) k
theorem w_baload (X : Stand p l e R s m args below meth c T locs cells slots) (hx : p.tables.exec = Jvm.exec) (hZ : Z.Warmed39 s.vm) (P : HP n0 T.heap cs) {i : Nat} {kA : ClassId} {vs : List Value} (q : cs[i]? = some (AC kA vs)) (hk : IsA Z kA .byte) (hd : decode c.code pc = .ok (.baload, 1)) {j : Int32} {jn : Nat} (hj : j.toInt = (jn : Int)) {v : Value} (hv : vs[jn]? = some v) (hp : pc + 1 = pc')
    (k : Wp p e s below C S Q T (mkF m pc' Ls (v :: st))) : Wp p e s below C S Q T (mkF m pc Ls (.int j :: .ref (n0 + i) :: st)) := by
  subst hp
  have A := P.arr q hk
  have hl : jn < (AC kA vs).slots.size := by simp [AC]; exact (List.getElem?_eq_some_iff.mp hv).1
  obtain ⟨e1, e2⟩ := own_idx hj hl
  exact Wp.via (fun t ht => X.baloadBytes hx (j := j) (v := v) A.1 (State.isArrayOf_alike hZ.alike A.2.1) A.2.2 e2 (by rw [e1]; simpa [AC] using hv) (g := mkF m pc Ls (.int j :: .ref (n0 + i) :: st)) rfl rfl hd _ ht) k
theorem w_caload (X : Stand p l e R s m args below meth c T locs cells slots) (hx : p.tables.exec = Jvm.exec) (hZ : Z.Warmed39 s.vm) (P : HP n0 T.heap cs) {i : Nat} {kA : ClassId} {vs : List Value} (q : cs[i]? = some (AC kA vs)) (hk : IsA Z kA .char) (hd : decode c.code pc = .ok (.caload, 1)) {j : Int32} {jn : Nat} (hj : j.toInt = (jn : Int)) {v : Value} (hv : vs[jn]? = some v) (hp : pc + 1 = pc')
    (k : Wp p e s below C S Q T (mkF m pc' Ls (v :: st))) : Wp p e s below C S Q T (mkF m pc Ls (.int j :: .ref (n0 + i) :: st)) := by
  subst hp
  have A := P.arr q hk
  have hl : jn < (AC kA vs).slots.size := by simp [AC]; exact (List.getElem?_eq_some_iff.mp hv).1
  obtain ⟨e1, e2⟩ := own_idx hj hl
  exact Wp.via (fun t ht => X.caload hx (j := j) (v := v) A.1 (State.isArrayOf_alike hZ.alike A.2.1) A.2.2 e2 (by rw [e1]; simpa [AC] using hv) (g := mkF m pc Ls (.int j :: .ref (n0 + i) :: st)) rfl rfl hd _ ht) k
theorem w_iastore (X : Stand p l e R s m args below meth c T locs cells slots) (hx : p.tables.exec = Jvm.exec) (hZ : Z.Warmed39 s.vm) (N : Fr n0 locs) (P : HP n0 T.heap cs) {i : Nat} {kA : ClassId} {vs : List Value} (q : cs[i]? = some (AC kA vs)) (hk : IsA Z kA .int) (hd : decode c.code pc = .ok (.iastore, 1)) {j : Int32} {x : Int32} {jn : Nat} (hj : j.toInt = (jn : Int)) (hl : jn < vs.length) (hp : pc + 1 = pc')
    (k : ∀ (T' : State) (L' : List Loc), Fr n0 L' → Stand p l e R s m args below meth c T' L' cells slots → HP n0 T'.heap (cs.set i (AC kA (vs.set jn (.int x)))) → Wp p e s below C S Q T' (mkF m pc' Ls st)) : Wp p e s below C S Q T (mkF m pc Ls (.int x :: .int j :: .ref (n0 + i) :: st)) := by
  subst hp
  have A := P.arr q hk
  obtain ⟨e1, e2⟩ := own_idx hj (N := (AC kA vs).slots.size) (by simpa [AC] using hl)
  obtain ⟨T', h', X', eh, W, st1⟩ := stI X hx hZ rfl A e2 (g := mkF m pc Ls (.int x :: .int j :: .ref (n0 + i) :: st)) rfl rfl hd
  rw [e1] at X' W
  subst eh
  have P' := P.wr W q
  rw [AC.set] at P'
  exact Wp.via st1 (k T' _ (own_one N _ _) X' P')
theorem w_lastore (X : Stand p l e R s m args below meth c T locs cells slots) (hx : p.tables.exec = Jvm.exec) (hZ : Z.Warmed39 s.vm) (N : Fr n0 locs) (P : HP n0 T.heap cs) {i : Nat} {kA : ClassId} {vs : List Value} (q : cs[i]? = some (AC kA vs)) (hk : IsA Z kA .long) (hd : decode c.code pc = .ok (.lastore, 1)) {j : Int32} {x : Int64} {jn : Nat} (hj : j.toInt = (jn : Int)) (hl : jn < vs.length) (hp : pc + 1 = pc')
    (k : ∀ (T' : State) (L' : List Loc), Fr n0 L' → Stand p l e R s m args below meth c T' L' cells slots → HP n0 T'.heap (cs.set i (AC kA (vs.set jn (.long x)))) → Wp p e s below C S Q T' (mkF m pc' Ls st)) : Wp p e s below C S Q T (mkF m pc Ls (.long x :: .int j :: .ref (n0 + i) :: st)) := by
  subst hp
  have A := P.arr q hk
  obtain ⟨e1, e2⟩ := own_idx hj (N := (AC kA vs).slots.size) (by simpa [AC] using hl)
  obtain ⟨T', h', X', eh, W, st1⟩ := stJ X hx hZ rfl A e2 (g := mkF m pc Ls (.long x :: .int j :: .ref (n0 + i) :: st)) rfl rfl hd
  rw [e1] at X' W
  subst eh
  have P' := P.wr W q
  rw [AC.set] at P'
  exact Wp.via st1 (k T' _ (own_one N _ _) X' P')
theorem w_bastore (X : Stand p l e R s m args below meth c T locs cells slots) (hx : p.tables.exec = Jvm.exec) (hZ : Z.Warmed39 s.vm) (N : Fr n0 locs) (P : HP n0 T.heap cs) {i : Nat} {kA : ClassId} {vs : List Value} (q : cs[i]? = some (AC kA vs)) (hk : IsA Z kA .byte) (hd : decode c.code pc = .ok (.bastore, 1)) {j : Int32} {x : Int32} {jn : Nat} (hj : j.toInt = (jn : Int)) (hl : jn < vs.length) (hp : pc + 1 = pc')
    (k : ∀ (T' : State) (L' : List Loc), Fr n0 L' → Stand p l e R s m args below meth c T' L' cells slots → HP n0 T'.heap (cs.set i (AC kA (vs.set jn (.int (nar .byte x))))) → Wp p e s below C S Q T' (mkF m pc' Ls st)) : Wp p e s below C S Q T (mkF m pc Ls (.int x :: .int j :: .ref (n0 + i) :: st)) := by
  subst hp
  have A := P.arr q hk
  obtain ⟨e1, e2⟩ := own_idx hj (N := (AC kA vs).slots.size) (by simpa [AC] using hl)
  obtain ⟨T', h', X', eh, W, st1⟩ := stB X hx hZ rfl A e2 (g := mkF m pc Ls (.int x :: .int j :: .ref (n0 + i) :: st)) rfl rfl hd
  rw [e1] at X' W
  subst eh
  have P' := P.wr W q
  rw [AC.set] at P'
  exact Wp.via st1 (k T' _ (own_one N _ _) X' P')
theorem w_bastoreE (X : Stand p l e R s m args below meth c T locs cells slots) (hx : p.tables.exec = Jvm.exec) (hZ : Z.Warmed39 s.vm) (N : Fr n0 locs) (P : HP n0 T.heap cs) {i : Nat} {kA : ClassId} {vs : List Value} (q : cs[i]? = some (AC kA vs)) (hk : IsA Z kA .byte) (hd : decode c.code pc = .ok (.bastore, 1)) {j : Int32} {x z : Int32} {jn : Nat} (hz : nar .byte x = z) (hj : j.toInt = (jn : Int)) (hl : jn < vs.length) (hp : pc + 1 = pc')
    (k : ∀ (T' : State) (L' : List Loc), Fr n0 L' → Stand p l e R s m args below meth c T' L' cells slots → HP n0 T'.heap (cs.set i (AC kA (vs.set jn (.int z)))) → Wp p e s below C S Q T' (mkF m pc' Ls st)) : Wp p e s below C S Q T (mkF m pc Ls (.int x :: .int j :: .ref (n0 + i) :: st)) := by
  subst hp hz
  have A := P.arr q hk
  obtain ⟨e1, e2⟩ := own_idx hj (N := (AC kA vs).slots.size) (by simpa [AC] using hl)
  obtain ⟨T', h', X', eh, W, st1⟩ := stB X hx hZ rfl A e2 (g := mkF m pc Ls (.int x :: .int j :: .ref (n0 + i) :: st)) rfl rfl hd
  rw [e1] at X' W
  subst eh
  have P' := P.wr W q
  rw [AC.set] at P'
  exact Wp.via st1 (k T' _ (own_one N _ _) X' P')
theorem w_getf (X : Stand p l e R s m args below meth c T locs cells slots) (hx : p.tables.exec = Jvm.exec) (hZ : Z.Warmed39 s.vm) {own O n d : String} {idx : Nat} (hown : s.vm.findClass own = some m.cls) (w : (Jvm.Cond.fieldLink own idx O n d).before a0 Z = true) (P : HP n0 T.heap cs) {i : Nat} {cell : Cell} (q : cs[i]? = some cell) {fl : List (String × String)} {vs : List Value} (F : ObjF Z cell O fl vs) (j : Nat) (hf : fl[j]? = some (n, d)) {v : Value} (hv : vs[j]? = some v) (hd : decode c.code pc = .ok (.getfield idx, 3)) (hp : pc + 3 = pc')
    (k : ∀ (T' : State), Stand p l e R s m args below meth c T' locs cells slots → HP n0 T'.heap cs → Wp p e s below C S Q T' (mkF m pc' Ls (v :: st))) : Wp p e s below C S Q T (mkF m pc Ls (.ref (n0 + i) :: st)) := by
  subst hp
  obtain ⟨T', X', eh, st1⟩ := getF X hx hZ hown (host := "") (Or.inl w) Via.refl rfl (P.fld q (F.2.2 j n d v hf hv)) (g := mkF m pc Ls (.ref (n0 + i) :: st)) rfl rfl hd
  exact Wp.via st1 (k T' X' (by rw [eh]; exact P))
theorem w_putf (X : Stand p l e R s m args below meth c T locs cells slots) (hx : p.tables.exec = Jvm.exec) (hZ : Z.Warmed39 s.vm) {own O n d : String} {idx kk : Nat} {ty : FieldType} (hown : s.vm.findClass own = some m.cls) (w : (Jvm.Cond.fieldLink own idx O n d).before a0 Z = true) (N : Fr n0 locs) (P : HP n0 T.heap cs) {i : Nat} {cell : Cell} (q : cs[i]? = some cell) {fl : List (String × String)} {vs : List Value} (F : ObjF Z cell O fl vs) (D : Dis Z O fl) (j : Nat) (hf : fl[j]? = some (n, d))
    (L : (Jvm.Cond.lays O O n d).before a0 Z = true ∨ ((Jvm.Cond.laysFinal O O n d).before a0 Z = true ∧ own = O ∧ meth.name = "<init>")) (wi : (Jvm.Cond.instantiable O kk).before a0 Z = true) (hty : parseFieldDescriptor d = some ty) {v : Value} (hn : narrow ty v = v) (hfit : fits ty v = true) (hd : decode c.code pc = .ok (.putfield idx, 3)) (hp : pc + 3 = pc')
    (k : ∀ (T' : State) (L' : List Loc) (cell' : Cell), Fr n0 L' → Stand p l e R s m args below meth c T' L' cells slots → HP n0 T'.heap (cs.set i cell') → ObjF Z cell' O fl (vs.set j v) → Wp p e s below C S Q T' (mkF m pc' Ls st)) : Wp p e s below C S Q T (mkF m pc Ls (v :: .ref (n0 + i) :: st)) := by
  subst hp
  have hjl : j < vs.length := by rw [F.2.1]; exact (List.getElem?_eq_some_iff.mp hf).1
  obtain ⟨T', h', X', eh, W, st1⟩ := putF X hx hZ hown (host := "") (Or.inl w) Via.refl rfl (P.fld q (F.2.2 j n d _ hf (List.getElem?_eq_getElem hjl))) (P.exa q F.1) L wi hty hn hfit (g := mkF m pc Ls (v :: .ref (n0 + i) :: st)) rfl rfl hd
  subst eh
  exact Wp.via st1 (k T' _ _ (own_one N _ _) X' (P.wr W q) (F.set D hf v))
theorem w_new (X : Stand p l e R s m args below meth c T locs cells slots) (hx : p.tables.exec = Jvm.exec) (hZ : Z.Warmed39 s.vm) {own K : String} {idx n j : Nat} (hown : s.vm.findClass own = some m.cls) (w : (Jvm.Cond.classLink own idx K).before a0 Z = true) (wi : (Jvm.Cond.instantiable K n).before a0 Z = true) (wz : (Jvm.Cond.initialized K).before a0 Z = true) (P : HP n0 T.heap cs)
    (fl : List (String × String)) (vs : List Value) (hfl : vs.length = fl.length) (hlay : ∀ (j : Nat) (n d : String) (v : Value), fl[j]? = some (n, d) → vs[j]? = some v → Laid Z a0 K K n d ∧ ∃ ty, parseFieldDescriptor d = some ty ∧ defaultValue ty = v) (hd : decode c.code pc = .ok (.new idx, 3)) (hc : cells + 1 ≤ R.cells) (hl : slots + n ≤ R.slots) (hj : cs.length = j) (hp : pc + 3 = pc')
    (k : ∀ (T' : State) (cell' : Cell), Stand p l e R s m args below meth c T' locs (cells + 1) (slots + n) → HP n0 T'.heap (cs ++ [cell']) → ObjF Z cell' K fl vs → Wp p e s below C S Q T' (mkF m pc' Ls (.ref (n0 + j) :: st))) : Wp p e s below C S Q T (mkF m pc Ls st) := by
  subst hp hj
  obtain ⟨vm', cC, kC, h1, h2, h3, h4, X', st1⟩ := X.newCold hx hown (mv hZ w) (mv hZ wi) (mv hZ wz) (g := mkF m pc Ls st) rfl hd hc hl
  rw [hZ.alike.findClass] at h1
  obtain ⟨kZ, z1, -⟩ := Vm.findClass_spec h1
  obtain ⟨k', z2, z3⟩ := hZ.alike.2.2 _ _ z1
  cases h2.symm.trans z2
  have ei : kC.instanceTypes = kZ.instanceTypes := by rw [z3]
  rw [P.1] at st1
  refine Wp.via st1 (k _ _ X' (P.push _) ⟨⟨kZ, h1, z1, rfl, fun _ => by simp [ei]⟩, hfl, fun j n d v a b => ?_⟩)
  obtain ⟨L, ty, ht, hv⟩ := hlay j n d v a b
  obtain ⟨c1, k1, cf, kf, i, f, a1, a2, a3, a4, a5, a6, -⟩ := L.spec
  cases h1.symm.trans a1
  cases z1.symm.trans a2
  exact ⟨cf, kf, i, f, a3, a4, by simp, rfl, a5, by simp [ei, a6, (State.fieldFound?_type a3 ht).2, hv]⟩
theorem w_initO (X : Stand p l e R s m args below meth c T locs cells slots) (hx : p.tables.exec = Jvm.exec) (hZ : Z.Warmed39 s.vm) {own : String} {idx : Nat} (hown : s.vm.findClass own = some m.cls) (hml : Ls.size = c.maxLocals) (w1 : (Jvm.Cond.methodLink own idx Lib.objectInit).before a0 Z = true) (w2 : (Jvm.Cond.instanceMethod Lib.objectInit).before a0 Z = true)
    (w3 : (Jvm.Cond.code Lib.objectInit ⟨#[0xb1]⟩ 1 none).before a0 Z = true) (P : HP n0 T.heap cs) {a : Addr} (hd : decode c.code pc = .ok (.invokespecial idx, 3)) (hf : 1 ≤ R.frames) {W : Nat} (hW : (st.map fun v => v.category).sum ≤ W) (hl : W + 12 ≤ R.locals) (hp : pc + 3 = pc')
    (k : ∀ (T' : State), Stand p l e R s m args below meth c T' locs cells slots → HP n0 T'.heap cs → Wp p e s below C S Q T' (mkF m pc' Ls st)) : Wp p e s below C S Q T (mkF m pc Ls (.ref a :: st)) := by
  subst hp
  obtain ⟨T', X', eh, st1⟩ := initO X hx hZ hown w1 w2 w3 rfl (g := mkF m pc Ls (.ref a :: st)) rfl hml (rest := st) rfl hd hf (W := W) (by show 2 * 0 + _ ≤ _; omega) hl
  exact Wp.via st1 (k T' X' (by rw [eh]; exact P))
theorem own_callI (X : Stand p l e R s m args below meth c T locs cells slots) (hx : p.tables.exec = Jvm.exec) {h : Heap} (hZ : Z.Warmed39 s.vm) (eT : T.heap = h) {own : String} {i : Nat} {y : MethodName} {bytes : ByteArray} {maxL : Nat} {rm : Room} {W : Nat} {as' : Array Value} {Qc : Option Value → Heap → List Loc → Prop} (hy1 : y.name = "<init>")
    (hown : s.vm.findClass own = some m.cls) (hml : Ls.size = c.maxLocals) (w1 : (Jvm.Cond.methodLink own i y).before a0 Z = true) (w2 : (Jvm.Cond.instanceMethod y).before a0 Z = true) (w3 : (Jvm.Cond.initialized y.cls).before a0 Z = true) (w4 : (Jvm.Cond.code y bytes maxL none).before a0 Z = true)
    (hM : MetFree l y (head1 [Jvm.Cond.code y bytes maxL none] rm) (fun a U => a = as' ∧ Z.Warmed39 U.vm ∧ U.heap = h) (fun _ _ _ _ _ => True) (fun _ U o U' => ∃ v L, o = .returned v ∧ Qc v U'.heap L ∧ FrameEnd U o U' L rm.cells rm.slots))
    (hy : y.cls ≠ "java/lang/invoke/MethodHandle" ∧ y.cls ≠ "java/lang/invoke/VarHandle") (hf : rm.frames + 1 ≤ R.frames) (hl : W + (maxL + 11) + rm.locals ≤ R.locals) (hc : cells + rm.cells ≤ R.cells) (hsl : slots + rm.slots ≤ R.slots)
    {a : Addr} {argsL rest : List Value} {ps : List FieldType} {r : Option FieldType} (hpd : parseMethodDescriptor y.desc = some ⟨ps, r⟩) (hlen : argsL.length = ps.length) (has : (.ref a :: argsL).toArray = as') (hst : st = argsL.reverse ++ .ref a :: rest) (hW : (rest.map fun v => v.category).sum ≤ W) (hd : decode c.code pc = .ok (.invokespecial i, 3)) (hp : pc + 3 = pc')
    (k : ∀ (v : Option Value) (T' : State) (L : List Loc), Stand p l e R s m args below meth c T' (locs ++ L) (cells + rm.cells) (slots + rm.slots) → Qc v T'.heap L → Wp p e s below C S Q T' (mkF m pc' Ls (v.toList ++ rest))) : Wp p e s below C S Q T (mkF m pc Ls st) := by
  obtain ⟨v, _, ⟨T1, L1, k1, n1⟩, -, X1, ⟨Lc1, hQ1, l1, y1, z1⟩, st1⟩ := X.specialBack hx (y := y) hy1 hown (mvT hZ w1) (mvT hZ w2) (mvT hZ w4) hy (backOf (W := W) hM hZ w4 w3 hf hl) (g := mkF m pc Ls st) rfl hml (Steps.refl _) (a := a) (argsL := argsL) (rest := rest) (lenOf hpd hlen) hst (by show 2 * 0 + _ ≤ _; omega) hd (fun _ _ => ⟨has, eT, hc, hsl⟩)
  dsimp only [Pt.U, Pt.locs, Pt.cells, Pt.slots] at X1 l1 y1 z1 st1 hQ1
  subst l1 y1 z1
  subst hp
  exact Wp.via (fun _ h => st1.trans h) (k v T1 Lc1 X1 hQ1)
theorem own_callV (X : Stand p l e R s m args below meth c T locs cells slots) (hx : p.tables.exec = Jvm.exec) {h : Heap} (hZ : Z.Warmed39 s.vm) (eT : T.heap = h) {own K : String} {i : Nat} {y : MethodName} {bytes : ByteArray} {maxL : Nat} {ret : Option FieldType} {rm : Room} {W : Nat} {as' : Array Value} {Qc : Option Value → Heap → List Loc → Prop}
    (hown : s.vm.findClass own = some m.cls) (hml : Ls.size = c.maxLocals) (w1 : (Jvm.Cond.methodLink own i y).before a0 Z = true) (w2 : (Jvm.Cond.declares y).before a0 Z = true) (w5 : (Jvm.Cond.selects K y y).before a0 Z = true) (w6 : (Jvm.Cond.instanceMethod y).before a0 Z = true) (w3 : (Jvm.Cond.initialized y.cls).before a0 Z = true) (w4 : (Jvm.Cond.code y bytes maxL ret).before a0 Z = true)
    (hM : MetFree l y (head1 [Jvm.Cond.code y bytes maxL ret] rm) (fun a U => a = as' ∧ Z.Warmed39 U.vm ∧ U.heap = h) (fun _ _ _ _ _ => True) (fun _ U o U' => ∃ v L, o = .returned v ∧ Qc v U'.heap L ∧ FrameEnd U o U' L rm.cells rm.slots))
    {a : Addr} (E : Exa Z h a K) (hy : y.cls ≠ "java/lang/invoke/MethodHandle" ∧ y.cls ≠ "java/lang/invoke/VarHandle") (hf : rm.frames + 1 ≤ R.frames) (hl : W + (maxL + 11) + rm.locals ≤ R.locals) (hc : cells + rm.cells ≤ R.cells) (hsl : slots + rm.slots ≤ R.slots)
    {argsL rest : List Value} {ps : List FieldType} {r : Option FieldType} (hpd : parseMethodDescriptor y.desc = some ⟨ps, r⟩) (hlen : argsL.length = ps.length) (has : (.ref a :: argsL).toArray = as') (hst : st = argsL.reverse ++ .ref a :: rest) (hW : (rest.map fun v => v.category).sum ≤ W) (hd : decode c.code pc = .ok (.invokevirtual i, 3)) (hp : pc + 3 = pc')
    (k : ∀ (v : Option Value) (T' : State) (L : List Loc), Stand p l e R s m args below meth c T' (locs ++ L) (cells + rm.cells) (slots + rm.slots) → Qc v T'.heap L → Wp p e s below C S Q T' (mkF m pc' Ls (v.toList ++ rest))) : Wp p e s below C S Q T (mkF m pc Ls st) := by
  obtain ⟨cq, kq, qa, qb, qc⟩ := isOf hZ eT E
  obtain ⟨v, _, ⟨T1, L1, k1, n1⟩, -, X1, ⟨Lc1, hQ1, l1, y1, z1⟩, st1⟩ := X.virtualBack hx (y := y) (z := y) hown (mvT hZ w1) (mvT hZ w2) (notFace_of_selects (args := #[]) (mvT hZ w5)) (mvT hZ w5) (mvT hZ w6) hy (backOf (W := W) hM hZ w4 w3 hf hl) qa qc (g := mkF m pc Ls st) rfl hml (Steps.refl _) (argsL := argsL) (rest := rest) (lenOf hpd hlen) hst (by show 2 * 0 + _ ≤ _; omega) hd (fun _ _ => ⟨has, eT, hc, hsl⟩)
  dsimp only [Pt.U, Pt.locs, Pt.cells, Pt.slots] at X1 l1 y1 z1 st1 hQ1
  subst l1 y1 z1
  subst hp
  exact Wp.via (fun _ h => st1.trans h) (k v T1 Lc1 X1 hQ1)
theorem w_clone (X : Stand p l e R s m args below meth c T locs cells slots) (hx : p.tables.exec = Jvm.exec) (hZ : Z.Warmed39 s.vm) {own ad : String} {idx : Nat} (hown : s.vm.findClass own = some m.cls) (hml : Ls.size = c.maxLocals)
    (w1 : (Jvm.Cond.methodLink own idx ⟨ad, "clone", "()Ljava/lang/Object;"⟩).before a0 Z = true) (w2 : (Jvm.Cond.sameMethod ad "java/lang/Object" "clone" "()Ljava/lang/Object;").before a0 Z = true) (w3 : (Jvm.Cond.native ⟨"java/lang/Object", "clone", "()Ljava/lang/Object;"⟩).before a0 Z = true)
    (w4 : (Jvm.Cond.instanceMethod ⟨"java/lang/Object", "clone", "()Ljava/lang/Object;"⟩).before a0 Z = true) (w5 : (Jvm.Cond.selects ad ⟨ad, "clone", "()Ljava/lang/Object;"⟩ ⟨"java/lang/Object", "clone", "()Ljava/lang/Object;"⟩).before a0 Z = true) (w6 : (Jvm.Cond.castable ad "java/lang/Cloneable").before a0 Z = true)
    (P : HP n0 T.heap cs) {i : Nat} {kA : ClassId} {vs : List Value} {ty : FieldType} (q : cs[i]? = some (AC kA vs)) (hk : IsA Z kA ty) (had : "[" ++ ty.toString = ad) (hfit : ∀ v ∈ vs, fits ty v = true) (hd : decode c.code pc = .ok (.invokevirtual idx, 3)) (hf : 1 ≤ R.frames) {W N j : Nat} (hW : (st.map fun v => v.category).sum ≤ W) (hl : W + 14 ≤ R.locals) (hN : vs.length = N) (hc : cells + 1 ≤ R.cells) (hsl : slots + N ≤ R.slots) (hj : cs.length = j) (hp : pc + 3 = pc')
    (k : ∀ (T' : State), Stand p l e R s m args below meth c T' locs (cells + 1) (slots + N) → HP n0 T'.heap (cs ++ [AC kA vs]) → Wp p e s below C S Q T' (mkF m pc' Ls (.ref (n0 + j) :: st))) : Wp p e s below C S Q T (mkF m pc Ls (.ref (n0 + i) :: st)) := by
  subst hp hj hN
  have A := P.arr q hk
  have E := P.exaA q hk had
  have F : FitC Z (AC kA vs) := fitC_of A fun i hi v hv => hfit v (by simp [AC] at hv; exact List.mem_of_getElem? hv)
  obtain ⟨c1, cC, g1, g2, g3⟩ := Cond.castable_spec w6
  have e2 : Z.vm.findClass ad = some (AC kA vs).cls := by rw [← had]; exact hk.2
  cases e2.symm.trans g1
  have hal : Z.vm.Alike T.vm := hZ.alike.trans X.warmed.alike
  obtain ⟨vm', X', st1⟩ := X.cloneArray hx hown (mv hZ w1) (mv hZ w2) (mv hZ w3) (mv hZ w4) (mv hZ w5) (a := n0 + i) A.1 A.2.1.1 A.2.2 (by rw [hZ.alike.findClass]; exact e2) (by rw [hZ.alike.findClass]; exact g2) (by rw [hZ.alike.assignable]; exact g3)
    (fun i v hv => by have q := F i v hv; rw [← State.fitsSlot_setVm hal] at q; exact q) (g := mkF m pc Ls (.ref (n0 + i) :: st)) rfl hml rfl hd hf (by show 2 * 0 + _ + 14 ≤ _; omega) hc (by simpa [AC] using hsl)
    (by obtain ⟨-, k2, hk2, comp, hkind⟩ := A.2.1; rw [hZ.alike.clonesLoader]; exact Vm.clonesLoader_of_array hk2 hkind)
  rw [P.1] at st1
  have es : (AC kA vs).slots.size = vs.length := by simp [AC]
  rw [es] at X'
  exact Wp.via st1 (k _ X' (P.push _))
theorem w_ccastA (X : Stand p l e R s m args below meth c T locs cells slots) (hx : p.tables.exec = Jvm.exec) (hZ : Z.Warmed39 s.vm) {own ad : String} {idx : Nat} (hown : s.vm.findClass own = some m.cls) (w : (Jvm.Cond.classLink own idx ad).before a0 Z = true) (P : HP n0 T.heap cs) {i : Nat} {kA : ClassId} {vs : List Value} {ty : FieldType} (q : cs[i]? = some (AC kA vs)) (hk : IsA Z kA ty) (had : "[" ++ ty.toString = ad) (hd : decode c.code pc = .ok (.checkcast idx, 3)) (hp : pc + 3 = pc')
    (k : ∀ (T' : State), Stand p l e R s m args below meth c T' locs cells slots → HP n0 T'.heap cs → Wp p e s below C S Q T' (mkF m pc' Ls (.ref (n0 + i) :: st))) : Wp p e s below C S Q T (mkF m pc Ls (.ref (n0 + i) :: st)) := by
  subst hp
  obtain ⟨T', X', eh, st1⟩ := castY X hx hZ hown w rfl (Ins.self (P.exaA q hk had)) (g := mkF m pc Ls (.ref (n0 + i) :: st)) rfl rfl hd
  exact Wp.via st1 (k T' X' (by rw [eh]; exact P))
theorem w_ialoadL (X : Stand p l e R s m args below meth c T locs cells slots) (hx : p.tables.exec = Jvm.exec) (hZ : Z.Warmed39 s.vm) (P : HP n0 T.heap cs) {i : Nat} {kA : ClassId} {ll : List Int32} (q : cs[i]? = some (AC kA (List.map Value.int ll))) (hk : IsA Z kA .int) (hd : decode c.code pc = .ok (.iaload, 1)) {j : Int32} {jn : Nat} (hj : j.toInt = (jn : Int)) (hl : jn < ll.length) (hp : pc + 1 = pc')
    (k : Wp p e s below C S Q T (mkF m pc' Ls (.int (ll.getD jn 0) :: st))) : Wp p e s below C S Q T (mkF m pc Ls (.int j :: .ref (n0 + i) :: st)) :=
  w_iaload X hx hZ P q hk hd hj (own_get hl) hp k
theorem w_laloadL (X : Stand p l e R s m args below meth c T locs cells slots) (hx : p.tables.exec = Jvm.exec) (hZ : Z.Warmed39 s.vm) (P : HP n0 T.heap cs) {i : Nat} {kA : ClassId} {ll : List Int64} (q : cs[i]? = some (AC kA (List.map Value.long ll))) (hk : IsA Z kA .long) (hd : decode c.code pc = .ok (.laload, 1)) {j : Int32} {jn : Nat} (hj : j.toInt = (jn : Int)) (hl : jn < ll.length) (hp : pc + 1 = pc')
    (k : Wp p e s below C S Q T (mkF m pc' Ls (.long (ll.getD jn 0) :: st))) : Wp p e s below C S Q T (mkF m pc Ls (.int j :: .ref (n0 + i) :: st)) :=
  w_laload X hx hZ P q hk hd hj (own_get hl) hp k
theorem w_baloadL (X : Stand p l e R s m args below meth c T locs cells slots) (hx : p.tables.exec = Jvm.exec) (hZ : Z.Warmed39 s.vm) (P : HP n0 T.heap cs) {i : Nat} {kA : ClassId} {ll : List Int32} (q : cs[i]? = some (AC kA (List.map Value.int ll))) (hk : IsA Z kA .byte) (hd : decode c.code pc = .ok (.baload, 1)) {j : Int32} {jn : Nat} (hj : j.toInt = (jn : Int)) (hl : jn < ll.length) (hp : pc + 1 = pc')
    (k : Wp p e s below C S Q T (mkF m pc' Ls (.int (ll.getD jn 0) :: st))) : Wp p e s below C S Q T (mkF m pc Ls (.int j :: .ref (n0 + i) :: st)) :=
  w_baload X hx hZ P q hk hd hj (own_get hl) hp k
theorem w_iastoreL (X : Stand p l e R s m args below meth c T locs cells slots) (hx : p.tables.exec = Jvm.exec) (hZ : Z.Warmed39 s.vm) (N : Fr n0 locs) (P : HP n0 T.heap cs) {i : Nat} {kA : ClassId} {ll : List Int32} (q : cs[i]? = some (AC kA (List.map Value.int ll))) (hk : IsA Z kA .int) (hd : decode c.code pc = .ok (.iastore, 1)) {j : Int32} {x : Int32} {jn : Nat} (hj : j.toInt = (jn : Int)) (hl : jn < ll.length) (hp : pc + 1 = pc')
    (k : ∀ (T' : State) (L' : List Loc), Fr n0 L' → Stand p l e R s m args below meth c T' L' cells slots → HP n0 T'.heap (cs.set i (AC kA (List.map Value.int (ll.set jn x)))) → Wp p e s below C S Q T' (mkF m pc' Ls st)) : Wp p e s below C S Q T (mkF m pc Ls (.int x :: .int j :: .ref (n0 + i) :: st)) :=
  w_iastore X hx hZ N P q hk hd hj (by simpa using hl) hp (fun T' L' N' X' P' => k T' L' N' X' (by rw [List.map_set]; exact P'))
theorem w_lastoreL (X : Stand p l e R s m args below meth c T locs cells slots) (hx : p.tables.exec = Jvm.exec) (hZ : Z.Warmed39 s.vm) (N : Fr n0 locs) (P : HP n0 T.heap cs) {i : Nat} {kA : ClassId} {ll : List Int64} (q : cs[i]? = some (AC kA (List.map Value.long ll))) (hk : IsA Z kA .long) (hd : decode c.code pc = .ok (.lastore, 1)) {j : Int32} {x : Int64} {jn : Nat} (hj : j.toInt = (jn : Int)) (hl : jn < ll.length) (hp : pc + 1 = pc')
    (k : ∀ (T' : State) (L' : List Loc), Fr n0 L' → Stand p l e R s m args below meth c T' L' cells slots → HP n0 T'.heap (cs.set i (AC kA (List.map Value.long (ll.set jn x)))) → Wp p e s below C S Q T' (mkF m pc' Ls st)) : Wp p e s below C S Q T (mkF m pc Ls (.long x :: .int j :: .ref (n0 + i) :: st)) :=
  w_lastore X hx hZ N P q hk hd hj (by simpa using hl) hp (fun T' L' N' X' P' => k T' L' N' X' (by rw [List.map_set]; exact P'))
theorem w_bastoreEL (X : Stand p l e R s m args below meth c T locs cells slots) (hx : p.tables.exec = Jvm.exec) (hZ : Z.Warmed39 s.vm) (N : Fr n0 locs) (P : HP n0 T.heap cs) {i : Nat} {kA : ClassId} {ll : List Int32} (q : cs[i]? = some (AC kA (List.map Value.int ll))) (hk : IsA Z kA .byte) (hd : decode c.code pc = .ok (.bastore, 1)) {j : Int32} {x : Int32} {z : Int32} (hz : nar .byte x = z) {jn : Nat} (hj : j.toInt = (jn : Int)) (hl : jn < ll.length) (hp : pc + 1 = pc')
    (k : ∀ (T' : State) (L' : List Loc), Fr n0 L' → Stand p l e R s m args below meth c T' L' cells slots → HP n0 T'.heap (cs.set i (AC kA (List.map Value.int (ll.set jn z)))) → Wp p e s below C S Q T' (mkF m pc' Ls st)) : Wp p e s below C S Q T (mkF m pc Ls (.int x :: .int j :: .ref (n0 + i) :: st)) :=
  w_bastoreE X hx hZ N P q hk hd hz hj (by simpa using hl) hp (fun T' L' N' X' P' => k T' L' N' X' (by rw [List.map_set]; exact P'))
end OwnH
/-! small numbers -/
theorem own_small {x : Int32} {n : Nat} (h0 : 0 ≤ x.toInt) (h1 : x.toInt < n) (hn : n ≤ 2147483648) : ∃ k : Nat, k < n ∧ x = Int32.ofNat k := by
  refine ⟨x.toInt.toNat, by omega, Int32.toInt_inj.mp ?_⟩
  rw [Int32.toInt_ofNat_of_lt (by omega)]
  omega
theorem own_mask (a : Int32) : 0 ≤ (a &&& 2147483647).toInt ∧ (a &&& 2147483647).toInt < 2147483648 := by
  have h := c_mask a 2147483647 31 (by decide) (by decide)
  omega
theorem own_rem (a d : Int32) (D : Nat) (hd : d.toInt = (D : Int)) (h0 : 0 < D) : ∃ k : Nat, k < D ∧ (a &&& 2147483647) % d = Int32.ofNat k := by
  have h := own_mask a
  have h2 := (c_irem (a &&& 2147483647) d D hd).1 h.1
  have h3 := Int.emod_nonneg (a &&& 2147483647).toInt (b := (D : Int)) (by omega)
  have h4 := Int.emod_lt_of_pos (a &&& 2147483647).toInt (b := (D : Int)) (by omega)
  have h5 := d.toInt_lt
  exact own_small (by omega) (by omega) (by omega)
theorem own_remP (y d : Int32) (D : Nat) (h0 : 0 ≤ y.toInt) (hd : d.toInt = (D : Int)) (h1 : 0 < D) : ∃ k : Nat, k < D ∧ y % d = Int32.ofNat k := by
  have h2 := (c_irem y d D hd).1 h0
  have h3 := Int.emod_nonneg y.toInt (b := (D : Int)) (by omega)
  have h4 := Int.emod_lt_of_pos y.toInt (b := (D : Int)) (by omega)
  have h5 := d.toInt_lt
  exact own_small (by omega) (by omega) (by omega)
theorem own_andk (a m : Int32) (M : Nat) (hm : m.toInt = (M : Int)) : ∃ k : Nat, k < M + 1 ∧ a &&& m = Int32.ofNat k := by
  have h := c_and a m (by omega)
  have h5 := m.toInt_lt
  exact own_small h.1 (by omega) (by omega)
theorem own_c1 {x : Int32} (h : ∃ k : Nat, k < 1 ∧ x = Int32.ofNat k) : x = 0 := by
  obtain ⟨k, hk, e⟩ := h
  obtain rfl : k = 0 := by omega
  exact e
theorem own_c2 {x : Int32} (h : ∃ k : Nat, k < 2 ∧ x = Int32.ofNat k) : x = 0 ∨ x = 1 := by
  obtain ⟨k, hk, e⟩ := h
  have q : k = 0 ∨ k = 1 := by omega
  rcases q with rfl | rfl
  · exact Or.inl e
  · exact Or.inr (e)
theorem own_c3 {x : Int32} (h : ∃ k : Nat, k < 3 ∧ x = Int32.ofNat k) : x = 0 ∨ x = 1 ∨ x = 2 := by
  obtain ⟨k, hk, e⟩ := h
  have q : k = 0 ∨ k = 1 ∨ k = 2 := by omega
  rcases q with rfl | rfl | rfl
  · exact Or.inl e
  · exact Or.inr (Or.inl e)
  · exact Or.inr (Or.inr (e))
theorem own_c4 {x : Int32} (h : ∃ k : Nat, k < 4 ∧ x = Int32.ofNat k) : x = 0 ∨ x = 1 ∨ x = 2 ∨ x = 3 := by
  obtain ⟨k, hk, e⟩ := h
  have q : k = 0 ∨ k = 1 ∨ k = 2 ∨ k = 3 := by omega
  rcases q with rfl | rfl | rfl | rfl
  · exact Or.inl e
  · exact Or.inr (Or.inl e)
  · exact Or.inr (Or.inr (Or.inl e))
  · exact Or.inr (Or.inr (Or.inr (e)))
theorem own_c5 {x : Int32} (h : ∃ k : Nat, k < 5 ∧ x = Int32.ofNat k) : x = 0 ∨ x = 1 ∨ x = 2 ∨ x = 3 ∨ x = 4 := by
  obtain ⟨k, hk, e⟩ := h
  have q : k = 0 ∨ k = 1 ∨ k = 2 ∨ k = 3 ∨ k = 4 := by omega
  rcases q with rfl | rfl | rfl | rfl | rfl
  · exact Or.inl e
  · exact Or.inr (Or.inl e)
  · exact Or.inr (Or.inr (Or.inl e))
  · exact Or.inr (Or.inr (Or.inr (Or.inl e)))
  · exact Or.inr (Or.inr (Or.inr (Or.inr (e))))
theorem own_c6 {x : Int32} (h : ∃ k : Nat, k < 6 ∧ x = Int32.ofNat k) : x = 0 ∨ x = 1 ∨ x = 2 ∨ x = 3 ∨ x = 4 ∨ x = 5 := by
  obtain ⟨k, hk, e⟩ := h
  have q : k = 0 ∨ k = 1 ∨ k = 2 ∨ k = 3 ∨ k = 4 ∨ k = 5 := by omega
  rcases q with rfl | rfl | rfl | rfl | rfl | rfl
  · exact Or.inl e
  · exact Or.inr (Or.inl e)
  · exact Or.inr (Or.inr (Or.inl e))
  · exact Or.inr (Or.inr (Or.inr (Or.inl e)))
  · exact Or.inr (Or.inr (Or.inr (Or.inr (Or.inl e))))
  · exact Or.inr (Or.inr (Or.inr (Or.inr (Or.inr (e)))))
theorem own_c7 {x : Int32} (h : ∃ k : Nat, k < 7 ∧ x = Int32.ofNat k) : x = 0 ∨ x = 1 ∨ x = 2 ∨ x = 3 ∨ x = 4 ∨ x = 5 ∨ x = 6 := by
  obtain ⟨k, hk, e⟩ := h
  have q : k = 0 ∨ k = 1 ∨ k = 2 ∨ k = 3 ∨ k = 4 ∨ k = 5 ∨ k = 6 := by omega
  rcases q with rfl | rfl | rfl | rfl | rfl | rfl | rfl
  · exact Or.inl e
  · exact Or.inr (Or.inl e)
  · exact Or.inr (Or.inr (Or.inl e))
  · exact Or.inr (Or.inr (Or.inr (Or.inl e)))
  · exact Or.inr (Or.inr (Or.inr (Or.inr (Or.inl e))))
  · exact Or.inr (Or.inr (Or.inr (Or.inr (Or.inr (Or.inl e)))))
  · exact Or.inr (Or.inr (Or.inr (Or.inr (Or.inr (Or.inr (e))))))
theorem own_c8 {x : Int32} (h : ∃ k : Nat, k < 8 ∧ x = Int32.ofNat k) : x = 0 ∨ x = 1 ∨ x = 2 ∨ x = 3 ∨ x = 4 ∨ x = 5 ∨ x = 6 ∨ x = 7 := by
  obtain ⟨k, hk, e⟩ := h
  have q : k = 0 ∨ k = 1 ∨ k = 2 ∨ k = 3 ∨ k = 4 ∨ k = 5 ∨ k = 6 ∨ k = 7 := by omega
  rcases q with rfl | rfl | rfl | rfl | rfl | rfl | rfl | rfl
  · exact Or.inl e
  · exact Or.inr (Or.inl e)
  · exact Or.inr (Or.inr (Or.inl e))
  · exact Or.inr (Or.inr (Or.inr (Or.inl e)))
  · exact Or.inr (Or.inr (Or.inr (Or.inr (Or.inl e))))
  · exact Or.inr (Or.inr (Or.inr (Or.inr (Or.inr (Or.inl e)))))
  · exact Or.inr (Or.inr (Or.inr (Or.inr (Or.inr (Or.inr (Or.inl e))))))
  · exact Or.inr (Or.inr (Or.inr (Or.inr (Or.inr (Or.inr (Or.inr (e)))))))
theorem own_c9 {x : Int32} (h : ∃ k : Nat, k < 9 ∧ x = Int32.ofNat k) : x = 0 ∨ x = 1 ∨ x = 2 ∨ x = 3 ∨ x = 4 ∨ x = 5 ∨ x = 6 ∨ x = 7 ∨ x = 8 := by
  obtain ⟨k, hk, e⟩ := h
  have q : k = 0 ∨ k = 1 ∨ k = 2 ∨ k = 3 ∨ k = 4 ∨ k = 5 ∨ k = 6 ∨ k = 7 ∨ k = 8 := by omega
  rcases q with rfl | rfl | rfl | rfl | rfl | rfl | rfl | rfl | rfl
  · exact Or.inl e
  · exact Or.inr (Or.inl e)
  · exact Or.inr (Or.inr (Or.inl e))
  · exact Or.inr (Or.inr (Or.inr (Or.inl e)))
  · exact Or.inr (Or.inr (Or.inr (Or.inr (Or.inl e))))
  · exact Or.inr (Or.inr (Or.inr (Or.inr (Or.inr (Or.inl e)))))
  · exact Or.inr (Or.inr (Or.inr (Or.inr (Or.inr (Or.inr (Or.inl e))))))
  · exact Or.inr (Or.inr (Or.inr (Or.inr (Or.inr (Or.inr (Or.inr (Or.inl e)))))))
  · exact Or.inr (Or.inr (Or.inr (Or.inr (Or.inr (Or.inr (Or.inr (Or.inr (e))))))))
theorem own_c10 {x : Int32} (h : ∃ k : Nat, k < 10 ∧ x = Int32.ofNat k) : x = 0 ∨ x = 1 ∨ x = 2 ∨ x = 3 ∨ x = 4 ∨ x = 5 ∨ x = 6 ∨ x = 7 ∨ x = 8 ∨ x = 9 := by
  obtain ⟨k, hk, e⟩ := h
  have q : k = 0 ∨ k = 1 ∨ k = 2 ∨ k = 3 ∨ k = 4 ∨ k = 5 ∨ k = 6 ∨ k = 7 ∨ k = 8 ∨ k = 9 := by omega
  rcases q with rfl | rfl | rfl | rfl | rfl | rfl | rfl | rfl | rfl | rfl
  · exact Or.inl e
  · exact Or.inr (Or.inl e)
  · exact Or.inr (Or.inr (Or.inl e))
  · exact Or.inr (Or.inr (Or.inr (Or.inl e)))
  · exact Or.inr (Or.inr (Or.inr (Or.inr (Or.inl e))))
  · exact Or.inr (Or.inr (Or.inr (Or.inr (Or.inr (Or.inl e)))))
  · exact Or.inr (Or.inr (Or.inr (Or.inr (Or.inr (Or.inr (Or.inl e))))))
  · exact Or.inr (Or.inr (Or.inr (Or.inr (Or.inr (Or.inr (Or.inr (Or.inl e)))))))
  · exact Or.inr (Or.inr (Or.inr (Or.inr (Or.inr (Or.inr (Or.inr (Or.inr (Or.inl e))))))))
  · exact Or.inr (Or.inr (Or.inr (Or.inr (Or.inr (Or.inr (Or.inr (Or.inr (Or.inr (e)))))))))
theorem own_c11 {x : Int32} (h : ∃ k : Nat, k < 11 ∧ x = Int32.ofNat k) : x = 0 ∨ x = 1 ∨ x = 2 ∨ x = 3 ∨ x = 4 ∨ x = 5 ∨ x = 6 ∨ x = 7 ∨ x = 8 ∨ x = 9 ∨ x = 10 := by
  obtain ⟨k, hk, e⟩ := h
  have q : k = 0 ∨ k = 1 ∨ k = 2 ∨ k = 3 ∨ k = 4 ∨ k = 5 ∨ k = 6 ∨ k = 7 ∨ k = 8 ∨ k = 9 ∨ k = 10 := by omega
  rcases q with rfl | rfl | rfl | rfl | rfl | rfl | rfl | rfl | rfl | rfl | rfl
  · exact Or.inl e
  · exact Or.inr (Or.inl e)
  · exact Or.inr (Or.inr (Or.inl e))
  · exact Or.inr (Or.inr (Or.inr (Or.inl e)))
  · exact Or.inr (Or.inr (Or.inr (Or.inr (Or.inl e))))
  · exact Or.inr (Or.inr (Or.inr (Or.inr (Or.inr (Or.inl e)))))
  · exact Or.inr (Or.inr (Or.inr (Or.inr (Or.inr (Or.inr (Or.inl e))))))
  · exact Or.inr (Or.inr (Or.inr (Or.inr (Or.inr (Or.inr (Or.inr (Or.inl e)))))))
  · exact Or.inr (Or.inr (Or.inr (Or.inr (Or.inr (Or.inr (Or.inr (Or.inr (Or.inl e))))))))
  · exact Or.inr (Or.inr (Or.inr (Or.inr (Or.inr (Or.inr (Or.inr (Or.inr (Or.inr (Or.inl e)))))))))
  · exact Or.inr (Or.inr (Or.inr (Or.inr (Or.inr (Or.inr (Or.inr (Or.inr (Or.inr (Or.inr (e))))))))))
theorem own_c12 {x : Int32} (h : ∃ k : Nat, k < 12 ∧ x = Int32.ofNat k) : x = 0 ∨ x = 1 ∨ x = 2 ∨ x = 3 ∨ x = 4 ∨ x = 5 ∨ x = 6 ∨ x = 7 ∨ x = 8 ∨ x = 9 ∨ x = 10 ∨ x = 11 := by
  obtain ⟨k, hk, e⟩ := h
  have q : k = 0 ∨ k = 1 ∨ k = 2 ∨ k = 3 ∨ k = 4 ∨ k = 5 ∨ k = 6 ∨ k = 7 ∨ k = 8 ∨ k = 9 ∨ k = 10 ∨ k = 11 := by omega
  rcases q with rfl | rfl | rfl | rfl | rfl | rfl | rfl | rfl | rfl | rfl | rfl | rfl
  · exact Or.inl e
  · exact Or.inr (Or.inl e)
  · exact Or.inr (Or.inr (Or.inl e))
  · exact Or.inr (Or.inr (Or.inr (Or.inl e)))
  · exact Or.inr (Or.inr (Or.inr (Or.inr (Or.inl e))))
  · exact Or.inr (Or.inr (Or.inr (Or.inr (Or.inr (Or.inl e)))))
  · exact Or.inr (Or.inr (Or.inr (Or.inr (Or.inr (Or.inr (Or.inl e))))))
  · exact Or.inr (Or.inr (Or.inr (Or.inr (Or.inr (Or.inr (Or.inr (Or.inl e)))))))
  · exact Or.inr (Or.inr (Or.inr (Or.inr (Or.inr (Or.inr (Or.inr (Or.inr (Or.inl e))))))))
  · exact Or.inr (Or.inr (Or.inr (Or.inr (Or.inr (Or.inr (Or.inr (Or.inr (Or.inr (Or.inl e)))))))))
  · exact Or.inr (Or.inr (Or.inr (Or.inr (Or.inr (Or.inr (Or.inr (Or.inr (Or.inr (Or.inr (Or.inl e))))))))))
  · exact Or.inr (Or.inr (Or.inr (Or.inr (Or.inr (Or.inr (Or.inr (Or.inr (Or.inr (Or.inr (Or.inr (e)))))))))))
theorem own_c13 {x : Int32} (h : ∃ k : Nat, k < 13 ∧ x = Int32.ofNat k) : x = 0 ∨ x = 1 ∨ x = 2 ∨ x = 3 ∨ x = 4 ∨ x = 5 ∨ x = 6 ∨ x = 7 ∨ x = 8 ∨ x = 9 ∨ x = 10 ∨ x = 11 ∨ x = 12 := by
  obtain ⟨k, hk, e⟩ := h
  have q : k = 0 ∨ k = 1 ∨ k = 2 ∨ k = 3 ∨ k = 4 ∨ k = 5 ∨ k = 6 ∨ k = 7 ∨ k = 8 ∨ k = 9 ∨ k = 10 ∨ k = 11 ∨ k = 12 := by omega
  rcases q with rfl | rfl | rfl | rfl | rfl | rfl | rfl | rfl | rfl | rfl | rfl | rfl | rfl
  · exact Or.inl e
  · exact Or.inr (Or.inl e)
  · exact Or.inr (Or.inr (Or.inl e))
  · exact Or.inr (Or.inr (Or.inr (Or.inl e)))
  · exact Or.inr (Or.inr (Or.inr (Or.inr (Or.inl e))))
  · exact Or.inr (Or.inr (Or.inr (Or.inr (Or.inr (Or.inl e)))))
  · exact Or.inr (Or.inr (Or.inr (Or.inr (Or.inr (Or.inr (Or.inl e))))))
  · exact Or.inr (Or.inr (Or.inr (Or.inr (Or.inr (Or.inr (Or.inr (Or.inl e)))))))
  · exact Or.inr (Or.inr (Or.inr (Or.inr (Or.inr (Or.inr (Or.inr (Or.inr (Or.inl e))))))))
  · exact Or.inr (Or.inr (Or.inr (Or.inr (Or.inr (Or.inr (Or.inr (Or.inr (Or.inr (Or.inl e)))))))))
  · exact Or.inr (Or.inr (Or.inr (Or.inr (Or.inr (Or.inr (Or.inr (Or.inr (Or.inr (Or.inr (Or.inl e))))))))))
  · exact Or.inr (Or.inr (Or.inr (Or.inr (Or.inr (Or.inr (Or.inr (Or.inr (Or.inr (Or.inr (Or.inr (Or.inl e)))))))))))
  · exact Or.inr (Or.inr (Or.inr (Or.inr (Or.inr (Or.inr (Or.inr (Or.inr (Or.inr (Or.inr (Or.inr (Or.inr (e))))))))))))
theorem own_c14 {x : Int32} (h : ∃ k : Nat, k < 14 ∧ x = Int32.ofNat k) : x = 0 ∨ x = 1 ∨ x = 2 ∨ x = 3 ∨ x = 4 ∨ x = 5 ∨ x = 6 ∨ x = 7 ∨ x = 8 ∨ x = 9 ∨ x = 10 ∨ x = 11 ∨ x = 12 ∨ x = 13 := by
  obtain ⟨k, hk, e⟩ := h
  have q : k = 0 ∨ k = 1 ∨ k = 2 ∨ k = 3 ∨ k = 4 ∨ k = 5 ∨ k = 6 ∨ k = 7 ∨ k = 8 ∨ k = 9 ∨ k = 10 ∨ k = 11 ∨ k = 12 ∨ k = 13 := by omega
  rcases q with rfl | rfl | rfl | rfl | rfl | rfl | rfl | rfl | rfl | rfl | rfl | rfl | rfl | rfl
  · exact Or.inl e
  · exact Or.inr (Or.inl e)
  · exact Or.inr (Or.inr (Or.inl e))
  · exact Or.inr (Or.inr (Or.inr (Or.inl e)))
  · exact Or.inr (Or.inr (Or.inr (Or.inr (Or.inl e))))
  · exact Or.inr (Or.inr (Or.inr (Or.inr (Or.inr (Or.inl e)))))
  · exact Or.inr (Or.inr (Or.inr (Or.inr (Or.inr (Or.inr (Or.inl e))))))
  · exact Or.inr (Or.inr (Or.inr (Or.inr (Or.inr (Or.inr (Or.inr (Or.inl e)))))))
  · exact Or.inr (Or.inr (Or.inr (Or.inr (Or.inr (Or.inr (Or.inr (Or.inr (Or.inl e))))))))
  · exact Or.inr (Or.inr (Or.inr (Or.inr (Or.inr (Or.inr (Or.inr (Or.inr (Or.inr (Or.inl e)))))))))
  · exact Or.inr (Or.inr (Or.inr (Or.inr (Or.inr (Or.inr (Or.inr (Or.inr (Or.inr (Or.inr (Or.inl e))))))))))
  · exact Or.inr (Or.inr (Or.inr (Or.inr (Or.inr (Or.inr (Or.inr (Or.inr (Or.inr (Or.inr (Or.inr (Or.inl e)))))))))))
  · exact Or.inr (Or.inr (Or.inr (Or.inr (Or.inr (Or.inr (Or.inr (Or.inr (Or.inr (Or.inr (Or.inr (Or.inr (Or.inl e))))))))))))
  · exact Or.inr (Or.inr (Or.inr (Or.inr (Or.inr (Or.inr (Or.inr (Or.inr (Or.inr (Or.inr (Or.inr (Or.inr (Or.inr (e)))))))))))))
theorem own_c15 {x : Int32} (h : ∃ k : Nat, k < 15 ∧ x = Int32.ofNat k) : x = 0 ∨ x = 1 ∨ x = 2 ∨ x = 3 ∨ x = 4 ∨ x = 5 ∨ x = 6 ∨ x = 7 ∨ x = 8 ∨ x = 9 ∨ x = 10 ∨ x = 11 ∨ x = 12 ∨ x = 13 ∨ x = 14 := by
  obtain ⟨k, hk, e⟩ := h
  have q : k = 0 ∨ k = 1 ∨ k = 2 ∨ k = 3 ∨ k = 4 ∨ k = 5 ∨ k = 6 ∨ k = 7 ∨ k = 8 ∨ k = 9 ∨ k = 10 ∨ k = 11 ∨ k = 12 ∨ k = 13 ∨ k = 14 := by omega
  rcases q with rfl | rfl | rfl | rfl | rfl | rfl | rfl | rfl | rfl | rfl | rfl | rfl | rfl | rfl | rfl
  · exact Or.inl e
  · exact Or.inr (Or.inl e)
  · exact Or.inr (Or.inr (Or.inl e))
  · exact Or.inr (Or.inr (Or.inr (Or.inl e)))
  · exact Or.inr (Or.inr (Or.inr (Or.inr (Or.inl e))))
  · exact Or.inr (Or.inr (Or.inr (Or.inr (Or.inr (Or.inl e)))))
  · exact Or.inr (Or.inr (Or.inr (Or.inr (Or.inr (Or.inr (Or.inl e))))))
  · exact Or.inr (Or.inr (Or.inr (Or.inr (Or.inr (Or.inr (Or.inr (Or.inl e)))))))
  · exact Or.inr (Or.inr (Or.inr (Or.inr (Or.inr (Or.inr (Or.inr (Or.inr (Or.inl e))))))))
  · exact Or.inr (Or.inr (Or.inr (Or.inr (Or.inr (Or.inr (Or.inr (Or.inr (Or.inr (Or.inl e)))))))))
  · exact Or.inr (Or.inr (Or.inr (Or.inr (Or.inr (Or.inr (Or.inr (Or.inr (Or.inr (Or.inr (Or.inl e))))))))))
  · exact Or.inr (Or.inr (Or.inr (Or.inr (Or.inr (Or.inr (Or.inr (Or.inr (Or.inr (Or.inr (Or.inr (Or.inl e)))))))))))
  · exact Or.inr (Or.inr (Or.inr (Or.inr (Or.inr (Or.inr (Or.inr (Or.inr (Or.inr (Or.inr (Or.inr (Or.inr (Or.inl e))))))))))))
  · exact Or.inr (Or.inr (Or.inr (Or.inr (Or.inr (Or.inr (Or.inr (Or.inr (Or.inr (Or.inr (Or.inr (Or.inr (Or.inr (Or.inl e)))))))))))))
  · exact Or.inr (Or.inr (Or.inr (Or.inr (Or.inr (Or.inr (Or.inr (Or.inr (Or.inr (Or.inr (Or.inr (Or.inr (Or.inr (Or.inr (e))))))))))))))
theorem own_c16 {x : Int32} (h : ∃ k : Nat, k < 16 ∧ x = Int32.ofNat k) : x = 0 ∨ x = 1 ∨ x = 2 ∨ x = 3 ∨ x = 4 ∨ x = 5 ∨ x = 6 ∨ x = 7 ∨ x = 8 ∨ x = 9 ∨ x = 10 ∨ x = 11 ∨ x = 12 ∨ x = 13 ∨ x = 14 ∨ x = 15 := by
  obtain ⟨k, hk, e⟩ := h
  have q : k = 0 ∨ k = 1 ∨ k = 2 ∨ k = 3 ∨ k = 4 ∨ k = 5 ∨ k = 6 ∨ k = 7 ∨ k = 8 ∨ k = 9 ∨ k = 10 ∨ k = 11 ∨ k = 12 ∨ k = 13 ∨ k = 14 ∨ k = 15 := by omega
  rcases q with rfl | rfl | rfl | rfl | rfl | rfl | rfl | rfl | rfl | rfl | rfl | rfl | rfl | rfl | rfl | rfl
  · exact Or.inl e
  · exact Or.inr (Or.inl e)
  · exact Or.inr (Or.inr (Or.inl e))
  · exact Or.inr (Or.inr (Or.inr (Or.inl e)))
  · exact Or.inr (Or.inr (Or.inr (Or.inr (Or.inl e))))
  · exact Or.inr (Or.inr (Or.inr (Or.inr (Or.inr (Or.inl e)))))
  · exact Or.inr (Or.inr (Or.inr (Or.inr (Or.inr (Or.inr (Or.inl e))))))
  · exact Or.inr (Or.inr (Or.inr (Or.inr (Or.inr (Or.inr (Or.inr (Or.inl e)))))))
  · exact Or.inr (Or.inr (Or.inr (Or.inr (Or.inr (Or.inr (Or.inr (Or.inr (Or.inl e))))))))
  · exact Or.inr (Or.inr (Or.inr (Or.inr (Or.inr (Or.inr (Or.inr (Or.inr (Or.inr (Or.inl e)))))))))
  · exact Or.inr (Or.inr (Or.inr (Or.inr (Or.inr (Or.inr (Or.inr (Or.inr (Or.inr (Or.inr (Or.inl e))))))))))
  · exact Or.inr (Or.inr (Or.inr (Or.inr (Or.inr (Or.inr (Or.inr (Or.inr (Or.inr (Or.inr (Or.inr (Or.inl e)))))))))))
  · exact Or.inr (Or.inr (Or.inr (Or.inr (Or.inr (Or.inr (Or.inr (Or.inr (Or.inr (Or.inr (Or.inr (Or.inr (Or.inl e))))))))))))
  · exact Or.inr (Or.inr (Or.inr (Or.inr (Or.inr (Or.inr (Or.inr (Or.inr (Or.inr (Or.inr (Or.inr (Or.inr (Or.inr (Or.inl e)))))))))))))
  · exact Or.inr (Or.inr (Or.inr (Or.inr (Or.inr (Or.inr (Or.inr (Or.inr (Or.inr (Or.inr (Or.inr (Or.inr (Or.inr (Or.inr (Or.inl e))))))))))))))
  · exact Or.inr (Or.inr (Or.inr (Or.inr (Or.inr (Or.inr (Or.inr (Or.inr (Or.inr (Or.inr (Or.inr (Or.inr (Or.inr (Or.inr (Or.inr (e)))))))))))))))
theorem own_c17 {x : Int32} (h : ∃ k : Nat, k < 17 ∧ x = Int32.ofNat k) : x = 0 ∨ x = 1 ∨ x = 2 ∨ x = 3 ∨ x = 4 ∨ x = 5 ∨ x = 6 ∨ x = 7 ∨ x = 8 ∨ x = 9 ∨ x = 10 ∨ x = 11 ∨ x = 12 ∨ x = 13 ∨ x = 14 ∨ x = 15 ∨ x = 16 := by
  obtain ⟨k, hk, e⟩ := h
  have q : k = 0 ∨ k = 1 ∨ k = 2 ∨ k = 3 ∨ k = 4 ∨ k = 5 ∨ k = 6 ∨ k = 7 ∨ k = 8 ∨ k = 9 ∨ k = 10 ∨ k = 11 ∨ k = 12 ∨ k = 13 ∨ k = 14 ∨ k = 15 ∨ k = 16 := by omega
  rcases q with rfl | rfl | rfl | rfl | rfl | rfl | rfl | rfl | rfl | rfl | rfl | rfl | rfl | rfl | rfl | rfl | rfl
  · exact Or.inl e
  · exact Or.inr (Or.inl e)
  · exact Or.inr (Or.inr (Or.inl e))
  · exact Or.inr (Or.inr (Or.inr (Or.inl e)))
  · exact Or.inr (Or.inr (Or.inr (Or.inr (Or.inl e))))
  · exact Or.inr (Or.inr (Or.inr (Or.inr (Or.inr (Or.inl e)))))
  · exact Or.inr (Or.inr (Or.inr (Or.inr (Or.inr (Or.inr (Or.inl e))))))
  · exact Or.inr (Or.inr (Or.inr (Or.inr (Or.inr (Or.inr (Or.inr (Or.inl e)))))))
  · exact Or.inr (Or.inr (Or.inr (Or.inr (Or.inr (Or.inr (Or.inr (Or.inr (Or.inl e))))))))
  · exact Or.inr (Or.inr (Or.inr (Or.inr (Or.inr (Or.inr (Or.inr (Or.inr (Or.inr (Or.inl e)))))))))
  · exact Or.inr (Or.inr (Or.inr (Or.inr (Or.inr (Or.inr (Or.inr (Or.inr (Or.inr (Or.inr (Or.inl e))))))))))
  · exact Or.inr (Or.inr (Or.inr (Or.inr (Or.inr (Or.inr (Or.inr (Or.inr (Or.inr (Or.inr (Or.inr (Or.inl e)))))))))))
  · exact Or.inr (Or.inr (Or.inr (Or.inr (Or.inr (Or.inr (Or.inr (Or.inr (Or.inr (Or.inr (Or.inr (Or.inr (Or.inl e))))))))))))
  · exact Or.inr (Or.inr (Or.inr (Or.inr (Or.inr (Or.inr (Or.inr (Or.inr (Or.inr (Or.inr (Or.inr (Or.inr (Or.inr (Or.inl e)))))))))))))
  · exact Or.inr (Or.inr (Or.inr (Or.inr (Or.inr (Or.inr (Or.inr (Or.inr (Or.inr (Or.inr (Or.inr (Or.inr (Or.inr (Or.inr (Or.inl e))))))))))))))
  · exact Or.inr (Or.inr (Or.inr (Or.inr (Or.inr (Or.inr (Or.inr (Or.inr (Or.inr (Or.inr (Or.inr (Or.inr (Or.inr (Or.inr (Or.inr (Or.inl e)))))))))))))))
  · exact Or.inr (Or.inr (Or.inr (Or.inr (Or.inr (Or.inr (Or.inr (Or.inr (Or.inr (Or.inr (Or.inr (Or.inr (Or.inr (Or.inr (Or.inr (Or.inr (e))))))))))))))))
theorem wd0 {Z : State} {a0 : Array Value} (hw : ∀ d ∈ tables_1, d.before a0 Z = true) : (Jvm.Cond.arrayClass Jvm.ClassFile.FieldType.byte).before a0 Z = true := hw _ (List.mem_of_getElem? (i := 0) rfl)
theorem wd1 {Z : State} {a0 : Array Value} (hw : ∀ d ∈ tables_1, d.before a0 Z = true) : (Jvm.Cond.methodLink "com/example/postwinnow/postwinnow/ciff/WireInputSkipShortFieldsPinLaw" (7 : Nat) ({ cls := "com/example/postwinnow/postwinnow/ciff/WireInputSkipShortFieldsPinLaw", name := "pick", desc := "(JIII)B" } : Jvm.MethodName)).before a0 Z = true := hw _ (List.mem_of_getElem? (i := 1) rfl)
theorem wd2 {Z : State} {a0 : Array Value} (hw : ∀ d ∈ tables_1, d.before a0 Z = true) : (Jvm.Cond.static ({ cls := "com/example/postwinnow/postwinnow/ciff/WireInputSkipShortFieldsPinLaw", name := "pick", desc := "(JIII)B" } : Jvm.MethodName)).before a0 Z = true := hw _ (List.mem_of_getElem? (i := 2) rfl)
theorem wd3 {Z : State} {a0 : Array Value} (hw : ∀ d ∈ tables_1, d.before a0 Z = true) : (Jvm.Cond.initialized "com/example/postwinnow/postwinnow/ciff/WireInputSkipShortFieldsPinLaw").before a0 Z = true := hw _ (List.mem_of_getElem? (i := 3) rfl)
theorem wd4 {Z : State} {a0 : Array Value} (hw : ∀ d ∈ tables_1, d.before a0 Z = true) : (Jvm.Cond.code ({ cls := "com/example/postwinnow/postwinnow/ciff/WireInputSkipShortFieldsPinLaw", name := "pick", desc := "(JIII)B" } : Jvm.MethodName) method_3_code (7 : Nat) (Option.some Jvm.ClassFile.FieldType.byte)).before a0 Z = true := hw _ (List.mem_of_getElem? (i := 4) rfl)
theorem wd5 {Z : State} {a0 : Array Value} (hw : ∀ d ∈ tables_1, d.before a0 Z = true) : (Jvm.Cond.constant "com/example/postwinnow/postwinnow/ciff/WireInputSkipShortFieldsPinLaw" (13 : Nat) (2147483647 : Int32)).before a0 Z = true := hw _ (List.mem_of_getElem? (i := 5) rfl)
theorem wd6 {Z : State} {a0 : Array Value} (hw : ∀ d ∈ tables_1, d.before a0 Z = true) : (Jvm.Cond.classLink "com/example/postwinnow/postwinnow/ciff/WireInputSkipShortFieldsPinLaw" (14 : Nat) "com/example/postwinnow/postwinnow/ciff/WireInput").before a0 Z = true := hw _ (List.mem_of_getElem? (i := 6) rfl)
theorem wd7 {Z : State} {a0 : Array Value} (hw : ∀ d ∈ tables_1, d.before a0 Z = true) : (Jvm.Cond.instantiable "com/example/postwinnow/postwinnow/ciff/WireInput" (3 : Nat)).before a0 Z = true := hw _ (List.mem_of_getElem? (i := 7) rfl)
theorem wd8 {Z : State} {a0 : Array Value} (hw : ∀ d ∈ tables_1, d.before a0 Z = true) : (Jvm.Cond.initialized "com/example/postwinnow/postwinnow/ciff/WireInput").before a0 Z = true := hw _ (List.mem_of_getElem? (i := 8) rfl)
theorem wd9 {Z : State} {a0 : Array Value} (hw : ∀ d ∈ tables_1, d.before a0 Z = true) : (Jvm.Cond.methodLink "com/example/postwinnow/postwinnow/ciff/WireInputSkipShortFieldsPinLaw" (16 : Nat) ({ cls := "com/example/postwinnow/postwinnow/ciff/WireInput", name := "<init>", desc := "([BII)V" } : Jvm.MethodName)).before a0 Z = true := hw _ (List.mem_of_getElem? (i := 9) rfl)
theorem wd10 {Z : State} {a0 : Array Value} (hw : ∀ d ∈ tables_1, d.before a0 Z = true) : (Jvm.Cond.instanceMethod ({ cls := "com/example/postwinnow/postwinnow/ciff/WireInput", name := "<init>", desc := "([BII)V" } : Jvm.MethodName)).before a0 Z = true := hw _ (List.mem_of_getElem? (i := 10) rfl)
theorem wd11 {Z : State} {a0 : Array Value} (hw : ∀ d ∈ tables_1, d.before a0 Z = true) : (Jvm.Cond.code ({ cls := "com/example/postwinnow/postwinnow/ciff/WireInput", name := "<init>", desc := "([BII)V" } : Jvm.MethodName) prog_12_method_1_code (4 : Nat) (Option.none : Option Jvm.ClassFile.FieldType)).before a0 Z = true := hw _ (List.mem_of_getElem? (i := 11) rfl)
theorem wd12 {Z : State} {a0 : Array Value} (hw : ∀ d ∈ tables_1, d.before a0 Z = true) : (Jvm.Cond.methodLink "com/example/postwinnow/postwinnow/ciff/WireInput" (5 : Nat) ({ cls := "java/lang/Object", name := "<init>", desc := "()V" } : Jvm.MethodName)).before a0 Z = true := hw _ (List.mem_of_getElem? (i := 12) rfl)
theorem wd13 {Z : State} {a0 : Array Value} (hw : ∀ d ∈ tables_1, d.before a0 Z = true) : (Jvm.Cond.instanceMethod ({ cls := "java/lang/Object", name := "<init>", desc := "()V" } : Jvm.MethodName)).before a0 Z = true := hw _ (List.mem_of_getElem? (i := 13) rfl)
theorem wd14 {Z : State} {a0 : Array Value} (hw : ∀ d ∈ tables_1, d.before a0 Z = true) : (Jvm.Cond.code ({ cls := "java/lang/Object", name := "<init>", desc := "()V" } : Jvm.MethodName) object_method_1_code (1 : Nat) (Option.none : Option Jvm.ClassFile.FieldType)).before a0 Z = true := hw _ (List.mem_of_getElem? (i := 14) rfl)
theorem wd15 {Z : State} {a0 : Array Value} (hw : ∀ d ∈ tables_1, d.before a0 Z = true) : (Jvm.Cond.fieldLink "com/example/postwinnow/postwinnow/ciff/WireInput" (11 : Nat) "com/example/postwinnow/postwinnow/ciff/WireInput" "bytes" "[B").before a0 Z = true := hw _ (List.mem_of_getElem? (i := 15) rfl)
theorem wd16 {Z : State} {a0 : Array Value} (hw : ∀ d ∈ tables_1, d.before a0 Z = true) : (Jvm.Cond.laysFinal "com/example/postwinnow/postwinnow/ciff/WireInput" "com/example/postwinnow/postwinnow/ciff/WireInput" "bytes" "[B").before a0 Z = true := hw _ (List.mem_of_getElem? (i := 16) rfl)
theorem wd17 {Z : State} {a0 : Array Value} (hw : ∀ d ∈ tables_1, d.before a0 Z = true) : (Jvm.Cond.fieldLink "com/example/postwinnow/postwinnow/ciff/WireInput" (15 : Nat) "com/example/postwinnow/postwinnow/ciff/WireInput" "position" "I").before a0 Z = true := hw _ (List.mem_of_getElem? (i := 17) rfl)
theorem wd18 {Z : State} {a0 : Array Value} (hw : ∀ d ∈ tables_1, d.before a0 Z = true) : (Jvm.Cond.lays "com/example/postwinnow/postwinnow/ciff/WireInput" "com/example/postwinnow/postwinnow/ciff/WireInput" "position" "I").before a0 Z = true := hw _ (List.mem_of_getElem? (i := 18) rfl)
theorem wd19 {Z : State} {a0 : Array Value} (hw : ∀ d ∈ tables_1, d.before a0 Z = true) : (Jvm.Cond.fieldLink "com/example/postwinnow/postwinnow/ciff/WireInput" (19 : Nat) "com/example/postwinnow/postwinnow/ciff/WireInput" "limit" "I").before a0 Z = true := hw _ (List.mem_of_getElem? (i := 19) rfl)
theorem wd20 {Z : State} {a0 : Array Value} (hw : ∀ d ∈ tables_1, d.before a0 Z = true) : (Jvm.Cond.lays "com/example/postwinnow/postwinnow/ciff/WireInput" "com/example/postwinnow/postwinnow/ciff/WireInput" "limit" "I").before a0 Z = true := hw _ (List.mem_of_getElem? (i := 20) rfl)
theorem wd21 {Z : State} {a0 : Array Value} (hw : ∀ d ∈ tables_1, d.before a0 Z = true) : (Jvm.Cond.methodLink "com/example/postwinnow/postwinnow/ciff/WireInputSkipShortFieldsPinLaw" (19 : Nat) ({ cls := "com/example/postwinnow/postwinnow/ciff/WireInput", name := "skipShortFields", desc := "(I)I" } : Jvm.MethodName)).before a0 Z = true := hw _ (List.mem_of_getElem? (i := 21) rfl)
theorem wd22 {Z : State} {a0 : Array Value} (hw : ∀ d ∈ tables_1, d.before a0 Z = true) : (Jvm.Cond.declares ({ cls := "com/example/postwinnow/postwinnow/ciff/WireInput", name := "skipShortFields", desc := "(I)I" } : Jvm.MethodName)).before a0 Z = true := hw _ (List.mem_of_getElem? (i := 22) rfl)
theorem wd23 {Z : State} {a0 : Array Value} (hw : ∀ d ∈ tables_1, d.before a0 Z = true) : (Jvm.Cond.instanceMethod ({ cls := "com/example/postwinnow/postwinnow/ciff/WireInput", name := "skipShortFields", desc := "(I)I" } : Jvm.MethodName)).before a0 Z = true := hw _ (List.mem_of_getElem? (i := 23) rfl)
theorem wd24 {Z : State} {a0 : Array Value} (hw : ∀ d ∈ tables_1, d.before a0 Z = true) : (Jvm.Cond.selects "com/example/postwinnow/postwinnow/ciff/WireInput" ({ cls := "com/example/postwinnow/postwinnow/ciff/WireInput", name := "skipShortFields", desc := "(I)I" } : Jvm.MethodName) ({ cls := "com/example/postwinnow/postwinnow/ciff/WireInput", name := "skipShortFields", desc := "(I)I" } : Jvm.MethodName)).before a0 Z = true := hw _ (List.mem_of_getElem? (i := 24) rfl)
theorem wd25 {Z : State} {a0 : Array Value} (hw : ∀ d ∈ tables_1, d.before a0 Z = true) : (Jvm.Cond.code ({ cls := "com/example/postwinnow/postwinnow/ciff/WireInput", name := "skipShortFields", desc := "(I)I" } : Jvm.MethodName) prog_12_method_16_code (6 : Nat) (Option.some Jvm.ClassFile.FieldType.int)).before a0 Z = true := hw _ (List.mem_of_getElem? (i := 25) rfl)
theorem wd26 {Z : State} {a0 : Array Value} (hw : ∀ d ∈ tables_1, d.before a0 Z = true) : (Jvm.Cond.methodLink "com/example/postwinnow/postwinnow/ciff/WireInputSkipShortFieldsPinLaw" (23 : Nat) ({ cls := "com/example/postwinnow/postwinnow/ciff/WireInputSkipShortFieldsPinLaw", name := "next", desc := "([BBII)I" } : Jvm.MethodName)).before a0 Z = true := hw _ (List.mem_of_getElem? (i := 26) rfl)
theorem wd27 {Z : State} {a0 : Array Value} (hw : ∀ d ∈ tables_1, d.before a0 Z = true) : (Jvm.Cond.static ({ cls := "com/example/postwinnow/postwinnow/ciff/WireInputSkipShortFieldsPinLaw", name := "next", desc := "([BBII)I" } : Jvm.MethodName)).before a0 Z = true := hw _ (List.mem_of_getElem? (i := 27) rfl)
theorem wd28 {Z : State} {a0 : Array Value} (hw : ∀ d ∈ tables_1, d.before a0 Z = true) : (Jvm.Cond.code ({ cls := "com/example/postwinnow/postwinnow/ciff/WireInputSkipShortFieldsPinLaw", name := "next", desc := "([BBII)I" } : Jvm.MethodName) method_4_code (5 : Nat) (Option.some Jvm.ClassFile.FieldType.int)).before a0 Z = true := hw _ (List.mem_of_getElem? (i := 28) rfl)
theorem wd29 {Z : State} {a0 : Array Value} (hw : ∀ d ∈ tables_1, d.before a0 Z = true) : (Jvm.Cond.methodLink "com/example/postwinnow/postwinnow/ciff/WireInputSkipShortFieldsPinLaw" (27 : Nat) ({ cls := "com/example/postwinnow/postwinnow/ciff/WireInput", name := "position", desc := "()I" } : Jvm.MethodName)).before a0 Z = true := hw _ (List.mem_of_getElem? (i := 29) rfl)
theorem wd30 {Z : State} {a0 : Array Value} (hw : ∀ d ∈ tables_1, d.before a0 Z = true) : (Jvm.Cond.declares ({ cls := "com/example/postwinnow/postwinnow/ciff/WireInput", name := "position", desc := "()I" } : Jvm.MethodName)).before a0 Z = true := hw _ (List.mem_of_getElem? (i := 30) rfl)
theorem wd31 {Z : State} {a0 : Array Value} (hw : ∀ d ∈ tables_1, d.before a0 Z = true) : (Jvm.Cond.instanceMethod ({ cls := "com/example/postwinnow/postwinnow/ciff/WireInput", name := "position", desc := "()I" } : Jvm.MethodName)).before a0 Z = true := hw _ (List.mem_of_getElem? (i := 31) rfl)
theorem wd32 {Z : State} {a0 : Array Value} (hw : ∀ d ∈ tables_1, d.before a0 Z = true) : (Jvm.Cond.selects "com/example/postwinnow/postwinnow/ciff/WireInput" ({ cls := "com/example/postwinnow/postwinnow/ciff/WireInput", name := "position", desc := "()I" } : Jvm.MethodName) ({ cls := "com/example/postwinnow/postwinnow/ciff/WireInput", name := "position", desc := "()I" } : Jvm.MethodName)).before a0 Z = true := hw _ (List.mem_of_getElem? (i := 32) rfl)
theorem wd33 {Z : State} {a0 : Array Value} (hw : ∀ d ∈ tables_1, d.before a0 Z = true) : (Jvm.Cond.code ({ cls := "com/example/postwinnow/postwinnow/ciff/WireInput", name := "position", desc := "()I" } : Jvm.MethodName) prog_12_method_11_code (1 : Nat) (Option.some Jvm.ClassFile.FieldType.int)).before a0 Z = true := hw _ (List.mem_of_getElem? (i := 33) rfl)
theorem wd34 {Z : State} {a0 : Array Value} (hw : ∀ d ∈ tables_1, d.before a0 Z = true) : (Jvm.Cond.methodLink "com/example/postwinnow/postwinnow/ciff/WireInputSkipShortFieldsPinLaw" (31 : Nat) ({ cls := "com/example/postwinnow/postwinnow/ciff/WireInput", name := "remaining", desc := "()I" } : Jvm.MethodName)).before a0 Z = true := hw _ (List.mem_of_getElem? (i := 34) rfl)
theorem wd35 {Z : State} {a0 : Array Value} (hw : ∀ d ∈ tables_1, d.before a0 Z = true) : (Jvm.Cond.declares ({ cls := "com/example/postwinnow/postwinnow/ciff/WireInput", name := "remaining", desc := "()I" } : Jvm.MethodName)).before a0 Z = true := hw _ (List.mem_of_getElem? (i := 35) rfl)
theorem wd36 {Z : State} {a0 : Array Value} (hw : ∀ d ∈ tables_1, d.before a0 Z = true) : (Jvm.Cond.instanceMethod ({ cls := "com/example/postwinnow/postwinnow/ciff/WireInput", name := "remaining", desc := "()I" } : Jvm.MethodName)).before a0 Z = true := hw _ (List.mem_of_getElem? (i := 36) rfl)
theorem wd37 {Z : State} {a0 : Array Value} (hw : ∀ d ∈ tables_1, d.before a0 Z = true) : (Jvm.Cond.selects "com/example/postwinnow/postwinnow/ciff/WireInput" ({ cls := "com/example/postwinnow/postwinnow/ciff/WireInput", name := "remaining", desc := "()I" } : Jvm.MethodName) ({ cls := "com/example/postwinnow/postwinnow/ciff/WireInput", name := "remaining", desc := "()I" } : Jvm.MethodName)).before a0 Z = true := hw _ (List.mem_of_getElem? (i := 37) rfl)
theorem wd38 {Z : State} {a0 : Array Value} (hw : ∀ d ∈ tables_1, d.before a0 Z = true) : (Jvm.Cond.code ({ cls := "com/example/postwinnow/postwinnow/ciff/WireInput", name := "remaining", desc := "()I" } : Jvm.MethodName) prog_12_method_3_code (1 : Nat) (Option.some Jvm.ClassFile.FieldType.int)).before a0 Z = true := hw _ (List.mem_of_getElem? (i := 38) rfl)
def fl_C0 : List (String × String) := [("bytes", "[B"), ("position", "I"), ("limit", "I")]
def dv_C0 : List Value := [Value.null, Value.int 0, Value.int 0]
theorem la_C0 {Z : State} {a0 : Array Value} (hw : ∀ d ∈ tables_1, d.before a0 Z = true) : ∀ (j : Nat) (n d : String), fl_C0[j]? = some (n, d) → Laid Z a0 "com/example/postwinnow/postwinnow/ciff/WireInput" "com/example/postwinnow/postwinnow/ciff/WireInput" n d ∧ ∃ t, parseFieldDescriptor d = some t
  | 0, n, d, h => by have h : some ("bytes", "[B") = some (n, d) := h; cases h; exact ⟨Or.inr (wd16 hw), (.array .byte), by decide⟩
  | 1, n, d, h => by have h : some ("position", "I") = some (n, d) := h; cases h; exact ⟨Or.inl (wd18 hw), .int, by decide⟩
  | 2, n, d, h => by have h : some ("limit", "I") = some (n, d) := h; cases h; exact ⟨Or.inl (wd20 hw), .int, by decide⟩
  | j + 3, n, d, h => by have h : none = some (n, d) := h; cases h
theorem ly_C0 {Z : State} {a0 : Array Value} (hw : ∀ d ∈ tables_1, d.before a0 Z = true) : ∀ (j : Nat) (n d : String) (v : Value), fl_C0[j]? = some (n, d) → dv_C0[j]? = some v → Laid Z a0 "com/example/postwinnow/postwinnow/ciff/WireInput" "com/example/postwinnow/postwinnow/ciff/WireInput" n d ∧ ∃ ty, parseFieldDescriptor d = some ty ∧ defaultValue ty = v
  | 0, n, d, v, h, h' => by have h : some ("bytes", "[B") = some (n, d) := h; have h' : some _ = some v := h'; cases h; cases h'; exact ⟨Or.inr (wd16 hw), (.array .byte), by decide, rfl⟩
  | 1, n, d, v, h, h' => by have h : some ("position", "I") = some (n, d) := h; have h' : some _ = some v := h'; cases h; cases h'; exact ⟨Or.inl (wd18 hw), .int, by decide, rfl⟩
  | 2, n, d, v, h, h' => by have h : some ("limit", "I") = some (n, d) := h; have h' : some _ = some v := h'; cases h; cases h'; exact ⟨Or.inl (wd20 hw), .int, by decide, rfl⟩
  | j + 3, n, d, v, h, h' => by have h : none = some (n, d) := h; cases h
theorem di_C0 {Z : State} {a0 : Array Value} (hw : ∀ d ∈ tables_1, d.before a0 Z = true) : Dis Z "com/example/postwinnow/postwinnow/ciff/WireInput" fl_C0 := own_dis (la_C0 hw) (by decide +kernel)
theorem d1_0 : decode method_3_code 0 = .ok (.iload_n 2, 1) := by decide +kernel
theorem d1_1 : decode method_3_code 1 = .ok (.iconst 2, 1) := by decide +kernel
theorem d1_2 : decode method_3_code 2 = .ok (.iload 4, 2) := by decide +kernel
theorem d1_4 : decode method_3_code 4 = .ok (.imul, 1) := by decide +kernel
theorem d1_5 : decode method_3_code 5 = .ok (.iushr, 1) := by decide +kernel
theorem d1_6 : decode method_3_code 6 = .ok (.iconst 3, 1) := by decide +kernel
theorem d1_7 : decode method_3_code 7 = .ok (.iand, 1) := by decide +kernel
theorem d1_8 : decode method_3_code 8 = .ok (.istore 5, 2) := by decide +kernel
theorem d1_10 : decode method_3_code 10 = .ok (.lload_n 0, 1) := by decide +kernel
theorem d1_11 : decode method_3_code 11 = .ok (.bipush 8, 2) := by decide +kernel
theorem d1_13 : decode method_3_code 13 = .ok (.iload 4, 2) := by decide +kernel
theorem d1_15 : decode method_3_code 15 = .ok (.imul, 1) := by decide +kernel
theorem d1_16 : decode method_3_code 16 = .ok (.lushr, 1) := by decide +kernel
theorem d1_17 : decode method_3_code 17 = .ok (.l2i, 1) := by decide +kernel
theorem d1_18 : decode method_3_code 18 = .ok (.sipush 255, 3) := by decide +kernel
theorem d1_21 : decode method_3_code 21 = .ok (.iand, 1) := by decide +kernel
theorem d1_22 : decode method_3_code 22 = .ok (.istore 6, 2) := by decide +kernel
theorem d1_24 : decode method_3_code 24 = .ok (.iload 5, 2) := by decide +kernel
theorem d1_26 : decode method_3_code 26 = .ok (.ifCond .ne 10, 3) := by decide +kernel
theorem d1_29 : decode method_3_code 29 = .ok (.iload_n 3, 1) := by decide +kernel
theorem d1_30 : decode method_3_code 30 = .ok (.iconst 3, 1) := by decide +kernel
theorem d1_31 : decode method_3_code 31 = .ok (.ishl, 1) := by decide +kernel
theorem d1_32 : decode method_3_code 32 = .ok (.iconst 2, 1) := by decide +kernel
theorem d1_33 : decode method_3_code 33 = .ok (.ior, 1) := by decide +kernel
theorem d1_34 : decode method_3_code 34 = .ok (.i2b, 1) := by decide +kernel
theorem d1_35 : decode method_3_code 35 = .ok (.ireturn, 1) := by decide +kernel
theorem d1_36 : decode method_3_code 36 = .ok (.iload 5, 2) := by decide +kernel
theorem d1_38 : decode method_3_code 38 = .ok (.iconst 1, 1) := by decide +kernel
theorem d1_39 : decode method_3_code 39 = .ok (.if_icmp .ne 10, 3) := by decide +kernel
theorem d1_42 : decode method_3_code 42 = .ok (.iload 6, 2) := by decide +kernel
theorem d1_44 : decode method_3_code 44 = .ok (.bipush 7, 2) := by decide +kernel
theorem d1_46 : decode method_3_code 46 = .ok (.iand, 1) := by decide +kernel
theorem d1_47 : decode method_3_code 47 = .ok (.i2b, 1) := by decide +kernel
theorem d1_48 : decode method_3_code 48 = .ok (.ireturn, 1) := by decide +kernel
theorem d1_49 : decode method_3_code 49 = .ok (.iload 5, 2) := by decide +kernel
theorem d1_51 : decode method_3_code 51 = .ok (.iconst 2, 1) := by decide +kernel
theorem d1_52 : decode method_3_code 52 = .ok (.if_icmp .ne 7, 3) := by decide +kernel
theorem d1_55 : decode method_3_code 55 = .ok (.iload 6, 2) := by decide +kernel
theorem d1_57 : decode method_3_code 57 = .ok (.i2b, 1) := by decide +kernel
theorem d1_58 : decode method_3_code 58 = .ok (.ireturn, 1) := by decide +kernel
theorem d1_59 : decode method_3_code 59 = .ok (.iload_n 3, 1) := by decide +kernel
theorem d1_60 : decode method_3_code 60 = .ok (.iconst 3, 1) := by decide +kernel
theorem d1_61 : decode method_3_code 61 = .ok (.ishl, 1) := by decide +kernel
theorem d1_62 : decode method_3_code 62 = .ok (.iload 6, 2) := by decide +kernel
theorem d1_64 : decode method_3_code 64 = .ok (.bipush 7, 2) := by decide +kernel
theorem d1_66 : decode method_3_code 66 = .ok (.iand, 1) := by decide +kernel
theorem d1_67 : decode method_3_code 67 = .ok (.ior, 1) := by decide +kernel
theorem d1_68 : decode method_3_code 68 = .ok (.i2b, 1) := by decide +kernel
theorem d1_69 : decode method_3_code 69 = .ok (.ireturn, 1) := by decide +kernel
theorem pn1 : plainFor (⟨"com/example/postwinnow/postwinnow/ciff/WireInputSkipShortFieldsPinLaw", "pick", "(JIII)B"⟩ : MethodName) = true := plainFor_of_name (by first | (simp [plainName, overriddenIn]; done) | decide +kernel)
theorem pd1 : parseMethodDescriptor (⟨"com/example/postwinnow/postwinnow/ciff/WireInputSkipShortFieldsPinLaw", "pick", "(JIII)B"⟩ : MethodName).desc = some ⟨[.long, .int, .int, .int], some .byte⟩ := by decide +kernel
theorem ef1 (m : MethodId) (x0 : Int64) (x1 : Int32) (x2 : Int32) (x3 : Int32) : entryFrame m #[Value.long x0, Value.int x1, Value.int x2, Value.int x3] 7 = mkF m 0 #[.val (.long x0), .second, .val (.int x1), .val (.int x2), .val (.int x3), .unset, .unset] [] := by first | (simp [entryFrame, mkF, argsToLocals, Value.category]; done) | rfl
def sp1 (x0 : Int64) (x1 : Int32) (x2 : Int32) (x3 : Int32) : Int32 := (if ((XT.ushr x1 ((2 : Int32) * x3)) &&& (3 : Int32)) = 0 then (nar .byte (Int8.toInt32 (Int32.toInt8 ((x2 <<< ((3 : Int32) &&& 31)) ||| (2 : Int32))))) else (if ((XT.ushr x1 ((2 : Int32) * x3)) &&& (3 : Int32)) = (1 : Int32) then (nar .byte (Int8.toInt32 (Int32.toInt8 (((Int64.toInt32 (XT.ushrL x0 ((8 : Int32) * x3))) &&& (255 : Int32)) &&& (7 : Int32))))) else (if ((XT.ushr x1 ((2 : Int32) * x3)) &&& (3 : Int32)) = (2 : Int32) then (nar .byte (Int8.toInt32 (Int32.toInt8 ((Int64.toInt32 (XT.ushrL x0 ((8 : Int32) * x3))) &&& (255 : Int32))))) else (nar .byte (Int8.toInt32 (Int32.toInt8 ((x2 <<< ((3 : Int32) &&& 31)) ||| (((Int64.toInt32 (XT.ushrL x0 ((8 : Int32) * x3))) &&& (255 : Int32)) &&& (7 : Int32)))))))))
set_option maxRecDepth 65536 in
set_option maxHeartbeats 40000000 in
theorem rm1 (l : Launch) (Z : State) (a0 : Array Value) (hw : ∀ d ∈ tables_1, d.before a0 Z = true) (ws : List Jvm.Cond) (x0 : Int64) (x1 : Int32) (x2 : Int32) (x3 : Int32) (hh : Heap) :
    MetFree l (⟨"com/example/postwinnow/postwinnow/ciff/WireInputSkipShortFieldsPinLaw", "pick", "(JIII)B"⟩ : MethodName) (head1 (Jvm.Cond.code (⟨"com/example/postwinnow/postwinnow/ciff/WireInputSkipShortFieldsPinLaw", "pick", "(JIII)B"⟩ : MethodName) method_3_code 7 (some .byte) :: ws) ({ frames := 0, cells := 0, slots := 0, locals := 0 } : Room)) (fun aa U => aa = #[Value.long x0, Value.int x1, Value.int x2, Value.int x3] ∧ Z.Warmed39 U.vm ∧ U.heap = hh) (fun _ _ _ _ _ => True) (fun _ U o U' => ∃ v L, o = .returned v ∧ PureQ (Value.int (sp1 x0 x1 x2 x3)) hh v U'.heap L ∧ FrameEnd U o U' L ({ frames := 0, cells := 0, slots := 0, locals := 0 } : Room).cells ({ frames := 0, cells := 0, slots := 0, locals := 0 } : Room).slots) := by
  refine own_body pn1 ?_
  intro p e s m below meth c T0 hx hby hml hret hlk hown hnm hZ X0 e0
  refine own_cast (ef1 m x0 x1 x2 x3) ?_
  refine w_iloadN X0 hx (hb hby d1_0) rfl (pc' := 1) rfl ?_
  refine w_iconst (v := (2 : Int32)) X0 hx (hb hby d1_1) rfl (pc' := 2) rfl ?_
  refine w_iload X0 hx (hb hby d1_2) rfl (pc' := 4) rfl ?_
  refine w_imul X0 hx (hb hby d1_4) (pc' := 5) rfl ?_
  refine w_iushr X0 hx (hb hby d1_5) (pc' := 6) rfl ?_
  refine w_iconst (v := (3 : Int32)) X0 hx (hb hby d1_6) rfl (pc' := 7) rfl ?_
  refine w_iand X0 hx (hb hby d1_7) (pc' := 8) rfl ?_
  refine w_istore (l' := #[.val (.long x0), .second, .val (.int x1), .val (.int x2), .val (.int x3), .val (.int ((XT.ushr x1 ((2 : Int32) * x3)) &&& (3 : Int32))), .unset]) X0 hx (hb hby d1_8) rfl (pc' := 10) rfl ?_
  refine w_lloadN X0 hx (hb hby d1_10) rfl (pc' := 11) rfl ?_
  refine w_bipush (v := (8 : Int32)) X0 hx (hb hby d1_11) rfl (pc' := 13) rfl ?_
  refine w_iload X0 hx (hb hby d1_13) rfl (pc' := 15) rfl ?_
  refine w_imul X0 hx (hb hby d1_15) (pc' := 16) rfl ?_
  refine w_lushr X0 hx (hb hby d1_16) (pc' := 17) rfl ?_
  refine w_l2i X0 hx (hb hby d1_17) (pc' := 18) rfl ?_
  refine w_sipush (v := (255 : Int32)) X0 hx (hb hby d1_18) rfl (pc' := 21) rfl ?_
  refine w_iand X0 hx (hb hby d1_21) (pc' := 22) rfl ?_
  refine w_istore (l' := #[.val (.long x0), .second, .val (.int x1), .val (.int x2), .val (.int x3), .val (.int ((XT.ushr x1 ((2 : Int32) * x3)) &&& (3 : Int32))), .val (.int ((Int64.toInt32 (XT.ushrL x0 ((8 : Int32) * x3))) &&& (255 : Int32)))]) X0 hx (hb hby d1_22) rfl (pc' := 24) rfl ?_
  refine w_iload X0 hx (hb hby d1_24) rfl (pc' := 26) rfl ?_
  refine w_if_ne X0 hx (hb hby d1_26) (by decide) (pcY := 36) (by decide) (pc' := 29) rfl (fun h0 => ?_) (fun h0 => ?_)
  · refine w_iload X0 hx (hb hby d1_36) rfl (pc' := 38) rfl ?_
    refine w_iconst (v := (1 : Int32)) X0 hx (hb hby d1_38) rfl (pc' := 39) rfl ?_
    refine w_icmp_ne X0 hx (hb hby d1_39) (by decide) (pcY := 49) (by decide) (pc' := 42) rfl (fun h1 => ?_) (fun h1 => ?_)
    · refine w_iload X0 hx (hb hby d1_49) rfl (pc' := 51) rfl ?_
      refine w_iconst (v := (2 : Int32)) X0 hx (hb hby d1_51) rfl (pc' := 52) rfl ?_
      refine w_icmp_ne X0 hx (hb hby d1_52) (by decide) (pcY := 59) (by decide) (pc' := 55) rfl (fun h2 => ?_) (fun h2 => ?_)
      · refine w_iloadN X0 hx (hb hby d1_59) rfl (pc' := 60) rfl ?_
        refine w_iconst (v := (3 : Int32)) X0 hx (hb hby d1_60) rfl (pc' := 61) rfl ?_
        refine w_ishl X0 hx (hb hby d1_61) (pc' := 62) rfl ?_
        refine w_iload X0 hx (hb hby d1_62) rfl (pc' := 64) rfl ?_
        refine w_bipush (v := (7 : Int32)) X0 hx (hb hby d1_64) rfl (pc' := 66) rfl ?_
        refine w_iand X0 hx (hb hby d1_66) (pc' := 67) rfl ?_
        refine w_ior X0 hx (hb hby d1_67) (pc' := 68) rfl ?_
        refine w_i2b X0 hx (hb hby d1_68) (pc' := 69) rfl ?_
        exact w_ret_n (t := .byte) X0 hx hret hlk (by simp) (hb hby d1_69) (z' := (nar .byte (Int8.toInt32 (Int32.toInt8 ((x2 <<< ((3 : Int32) &&& 31)) ||| (((Int64.toInt32 (XT.ushrL x0 ((8 : Int32) * x3))) &&& (255 : Int32)) &&& (7 : Int32))))))) rfl (by decide) (by decide) ⟨(congrArg (fun q => some (Value.int q)) (show (nar .byte (Int8.toInt32 (Int32.toInt8 ((x2 <<< ((3 : Int32) &&& 31)) ||| (((Int64.toInt32 (XT.ushrL x0 ((8 : Int32) * x3))) &&& (255 : Int32)) &&& (7 : Int32)))))) = sp1 x0 x1 x2 x3 from by rw [sp1, if_neg h0, if_neg h1, if_neg h2])), rfl, e0⟩
      · refine w_iload X0 hx (hb hby d1_55) rfl (pc' := 57) rfl ?_
        refine w_i2b X0 hx (hb hby d1_57) (pc' := 58) rfl ?_
        exact w_ret_n (t := .byte) X0 hx hret hlk (by simp) (hb hby d1_58) (z' := (nar .byte (Int8.toInt32 (Int32.toInt8 ((Int64.toInt32 (XT.ushrL x0 ((8 : Int32) * x3))) &&& (255 : Int32)))))) rfl (by decide) (by decide) ⟨(congrArg (fun q => some (Value.int q)) (show (nar .byte (Int8.toInt32 (Int32.toInt8 ((Int64.toInt32 (XT.ushrL x0 ((8 : Int32) * x3))) &&& (255 : Int32))))) = sp1 x0 x1 x2 x3 from by rw [sp1, if_neg h0, if_neg h1, if_pos h2])), rfl, e0⟩
    · refine w_iload X0 hx (hb hby d1_42) rfl (pc' := 44) rfl ?_
      refine w_bipush (v := (7 : Int32)) X0 hx (hb hby d1_44) rfl (pc' := 46) rfl ?_
      refine w_iand X0 hx (hb hby d1_46) (pc' := 47) rfl ?_
      refine w_i2b X0 hx (hb hby d1_47) (pc' := 48) rfl ?_
      exact w_ret_n (t := .byte) X0 hx hret hlk (by simp) (hb hby d1_48) (z' := (nar .byte (Int8.toInt32 (Int32.toInt8 (((Int64.toInt32 (XT.ushrL x0 ((8 : Int32) * x3))) &&& (255 : Int32)) &&& (7 : Int32)))))) rfl (by decide) (by decide) ⟨(congrArg (fun q => some (Value.int q)) (show (nar .byte (Int8.toInt32 (Int32.toInt8 (((Int64.toInt32 (XT.ushrL x0 ((8 : Int32) * x3))) &&& (255 : Int32)) &&& (7 : Int32))))) = sp1 x0 x1 x2 x3 from by rw [sp1, if_neg h0, if_pos h1])), rfl, e0⟩
  · refine w_iloadN X0 hx (hb hby d1_29) rfl (pc' := 30) rfl ?_
    refine w_iconst (v := (3 : Int32)) X0 hx (hb hby d1_30) rfl (pc' := 31) rfl ?_
    refine w_ishl X0 hx (hb hby d1_31) (pc' := 32) rfl ?_
    refine w_iconst (v := (2 : Int32)) X0 hx (hb hby d1_32) rfl (pc' := 33) rfl ?_
    refine w_ior X0 hx (hb hby d1_33) (pc' := 34) rfl ?_
    refine w_i2b X0 hx (hb hby d1_34) (pc' := 35) rfl ?_
    exact w_ret_n (t := .byte) X0 hx hret hlk (by simp) (hb hby d1_35) (z' := (nar .byte (Int8.toInt32 (Int32.toInt8 ((x2 <<< ((3 : Int32) &&& 31)) ||| (2 : Int32)))))) rfl (by decide) (by decide) ⟨(congrArg (fun q => some (Value.int q)) (show (nar .byte (Int8.toInt32 (Int32.toInt8 ((x2 <<< ((3 : Int32) &&& 31)) ||| (2 : Int32))))) = sp1 x0 x1 x2 x3 from by rw [sp1, if_pos h0])), rfl, e0⟩
theorem own_nz {n : Nat} (h : 0 < n) (h2 : n < 2147483648) : Int32.ofNat n ≠ 0 := fun q => by
  have := (own_oeq (a := n) (b := 0) h2 (by omega)).mp q
  omega
def own_nn (x : Int32) : Nat := x.toInt.toNat
theorem own_nneq {x : Int32} (h : ¬ x < 0) : x = Int32.ofNat (own_nn x) := by
  rw [Int32.lt_iff_toInt_lt] at h
  have h0 : (0 : Int32).toInt = 0 := rfl
  apply Int32.toInt_inj.mp
  have := x.toInt_lt
  rw [own_oN (by unfold own_nn; omega)]
  unfold own_nn
  omega
theorem own_addn {x : Int32} (m : Nat) (h : ¬ x < 0) : Int32.ofNat m + x = Int32.ofNat (m + own_nn x) := by
  conv => lhs; rw [own_nneq h]
  exact own_oadd _ _
theorem own_nb {x : Int32} (h : x.toInt < 128) : own_nn x < 128 := by unfold own_nn; omega
theorem own_br (l : List Int32) (h : ∀ x ∈ l, x.toInt < 128) (i : Nat) : (l.getD i 0).toInt < 128 := by
  rw [List.getD_eq_getElem?_getD]
  cases e : l[i]? with
  | none => simp
  | some x => exact h x (List.mem_of_getElem? e)
theorem own_bb (x : Int32) : (nar .byte x).toInt < 128 := (c_i2b x).2.2
def own_nx (B : List Int32) (tg : Int32) (lim a : Nat) : Option Nat := if lim - a < 2 then none else (if B.getD a 0 = tg then (if B.getD (a + 1) 0 < 0 then none else (if lim < a + 2 + own_nn (B.getD (a + 1) 0) then none else some (a + 2 + own_nn (B.getD (a + 1) 0)))) else none)
def own_nv : Option Nat → Int32
  | none => -1
  | some q => Int32.ofNat q
theorem own_nxb {B : List Int32} {tg : Int32} {lim a q : Nat} (h : own_nx B tg lim a = some q) : a + 2 ≤ q ∧ q ≤ lim := by
  unfold own_nx at h
  split at h
  · cases h
  · split at h
    · split at h
      · cases h
      · split at h
        · cases h
        · cases h; omega
    · cases h
def own_sk (B : List Int32) (tg : Int32) (lim : Nat) : Nat → Nat → Nat × Nat
  | 0, a => (a, 0)
  | f + 1, a => match own_nx B tg lim a with
    | none => (a, 0)
    | some q => ((own_sk B tg lim f q).1, (own_sk B tg lim f q).2 + 1)
theorem own_sk0 {B : List Int32} {tg : Int32} {lim f a : Nat} (h : own_nx B tg lim a = none) : own_sk B tg lim (f + 1) a = (a, 0) := by
  rw [own_sk, h]
theorem own_sk1 {B : List Int32} {tg : Int32} {lim f a q : Nat} (h : own_nx B tg lim a = some q) : own_sk B tg lim (f + 1) a = ((own_sk B tg lim f q).1, (own_sk B tg lim f q).2 + 1) := by
  rw [own_sk, h]
theorem d5_0 : decode method_4_code 0 = .ok (.iload_n 2, 1) := by decide +kernel
theorem d5_1 : decode method_4_code 1 = .ok (.ifCond .lt 10, 3) := by decide +kernel
theorem d5_4 : decode method_4_code 4 = .ok (.iload_n 3, 1) := by decide +kernel
theorem d5_5 : decode method_4_code 5 = .ok (.iload_n 2, 1) := by decide +kernel
theorem d5_6 : decode method_4_code 6 = .ok (.isub, 1) := by decide +kernel
theorem d5_7 : decode method_4_code 7 = .ok (.iconst 2, 1) := by decide +kernel
theorem d5_8 : decode method_4_code 8 = .ok (.if_icmp .ge 5, 3) := by decide +kernel
theorem d5_11 : decode method_4_code 11 = .ok (.iconst (-1), 1) := by decide +kernel
theorem d5_12 : decode method_4_code 12 = .ok (.ireturn, 1) := by decide +kernel
theorem d5_13 : decode method_4_code 13 = .ok (.aload_n 0, 1) := by decide +kernel
theorem d5_14 : decode method_4_code 14 = .ok (.iload_n 2, 1) := by decide +kernel
theorem d5_15 : decode method_4_code 15 = .ok (.baload, 1) := by decide +kernel
theorem d5_16 : decode method_4_code 16 = .ok (.iload_n 1, 1) := by decide +kernel
theorem d5_17 : decode method_4_code 17 = .ok (.if_icmp .eq 5, 3) := by decide +kernel
theorem d5_20 : decode method_4_code 20 = .ok (.iconst (-1), 1) := by decide +kernel
theorem d5_21 : decode method_4_code 21 = .ok (.ireturn, 1) := by decide +kernel
theorem d5_22 : decode method_4_code 22 = .ok (.aload_n 0, 1) := by decide +kernel
theorem d5_23 : decode method_4_code 23 = .ok (.iload_n 2, 1) := by decide +kernel
theorem d5_24 : decode method_4_code 24 = .ok (.iconst 1, 1) := by decide +kernel
theorem d5_25 : decode method_4_code 25 = .ok (.iadd, 1) := by decide +kernel
theorem d5_26 : decode method_4_code 26 = .ok (.baload, 1) := by decide +kernel
theorem d5_27 : decode method_4_code 27 = .ok (.istore 4, 2) := by decide +kernel
theorem d5_29 : decode method_4_code 29 = .ok (.iload 4, 2) := by decide +kernel
theorem d5_31 : decode method_4_code 31 = .ok (.ifCond .lt 13, 3) := by decide +kernel
theorem d5_34 : decode method_4_code 34 = .ok (.iload 4, 2) := by decide +kernel
theorem d5_36 : decode method_4_code 36 = .ok (.iload_n 3, 1) := by decide +kernel
theorem d5_37 : decode method_4_code 37 = .ok (.iload_n 2, 1) := by decide +kernel
theorem d5_38 : decode method_4_code 38 = .ok (.isub, 1) := by decide +kernel
theorem d5_39 : decode method_4_code 39 = .ok (.iconst 2, 1) := by decide +kernel
theorem d5_40 : decode method_4_code 40 = .ok (.isub, 1) := by decide +kernel
theorem d5_41 : decode method_4_code 41 = .ok (.if_icmp .le 5, 3) := by decide +kernel
theorem d5_44 : decode method_4_code 44 = .ok (.iconst (-1), 1) := by decide +kernel
theorem d5_45 : decode method_4_code 45 = .ok (.ireturn, 1) := by decide +kernel
theorem d5_46 : decode method_4_code 46 = .ok (.iload_n 2, 1) := by decide +kernel
theorem d5_47 : decode method_4_code 47 = .ok (.iconst 2, 1) := by decide +kernel
theorem d5_48 : decode method_4_code 48 = .ok (.iadd, 1) := by decide +kernel
theorem d5_49 : decode method_4_code 49 = .ok (.iload 4, 2) := by decide +kernel
theorem d5_51 : decode method_4_code 51 = .ok (.iadd, 1) := by decide +kernel
theorem d5_52 : decode method_4_code 52 = .ok (.ireturn, 1) := by decide +kernel
theorem pn5 : plainFor (⟨"com/example/postwinnow/postwinnow/ciff/WireInputSkipShortFieldsPinLaw", "next", "([BBII)I"⟩ : MethodName) = true := plainFor_of_name (by first | (simp [plainName, overriddenIn]; done) | decide +kernel)
theorem pd5 : parseMethodDescriptor (⟨"com/example/postwinnow/postwinnow/ciff/WireInputSkipShortFieldsPinLaw", "next", "([BBII)I"⟩ : MethodName).desc = some ⟨[(.array .byte), .byte, .int, .int], some .int⟩ := by decide +kernel
theorem ef_nxt (m : MethodId) (n0 : Nat) (tg : Int32) (a : Nat) (lim : Nat) : entryFrame m #[.ref (n0 + 0), .int tg, .int (Int32.ofNat a), .int (Int32.ofNat lim)] 5 = mkF m 0 #[.val (.ref (n0 + 0)), .val (.int tg), .val (.int (Int32.ofNat a)), .val (.int (Int32.ofNat lim)), .unset] [] := by first | (simp [entryFrame, mkF, argsToLocals, Value.category]; done) | rfl
def Q_nxt (Z : State) (n0 : Nat) (k0 : ClassId) (B : List Int32) (o1 : Jvm.Cell) (tg : Int32) (a : Nat) (lim : Nat) (v : Option Value) (h : Heap) (L : List Loc) : Prop := v = some (.int (own_nv (own_nx B tg lim a))) ∧ Fr n0 L ∧ HP n0 h [AC k0 (List.map Value.int B), o1]
set_option maxRecDepth 65536 in
set_option maxHeartbeats 40000000 in
theorem rm_nxt (l : Launch) (Z : State) (a0 : Array Value) (hw : ∀ d ∈ tables_1, d.before a0 Z = true) (ws : List Jvm.Cond) (n0 : Nat) (k0 : ClassId) (B : List Int32) (o1 : Jvm.Cell) (tg : Int32) (a : Nat) (lim : Nat) (h0 : Heap) (P0 : HP n0 h0 [AC k0 (List.map Value.int B), o1]) (hk0 : IsA Z k0 .byte) (hB : B.length = 8) (hBr : ∀ i, (B.getD i 0).toInt < 128) (hal : a ≤ lim) (hlim : lim ≤ 8) :
    MetFree l (⟨"com/example/postwinnow/postwinnow/ciff/WireInputSkipShortFieldsPinLaw", "next", "([BBII)I"⟩ : MethodName) (head1 (Jvm.Cond.code (⟨"com/example/postwinnow/postwinnow/ciff/WireInputSkipShortFieldsPinLaw", "next", "([BBII)I"⟩ : MethodName) method_4_code 5 (some .int) :: ws) ({ frames := 0, cells := 0, slots := 0, locals := 0 } : Room)) (fun aa U => aa = #[.ref (n0 + 0), .int tg, .int (Int32.ofNat a), .int (Int32.ofNat lim)] ∧ Z.Warmed39 U.vm ∧ U.heap = h0) (fun _ _ _ _ _ => True) (fun _ U o U' => ∃ v L, o = .returned v ∧ Q_nxt Z n0 k0 B o1 tg a lim v U'.heap L ∧ FrameEnd U o U' L ({ frames := 0, cells := 0, slots := 0, locals := 0 } : Room).cells ({ frames := 0, cells := 0, slots := 0, locals := 0 } : Room).slots) := by
  refine own_body pn5 ?_
  intro p e s m below meth c T0 hx hby hml hret hlk hown hnm hZ X0 e0
  subst e0
  have N0 : Fr n0 [] := Fr.nil n0
  have hnb := own_nb (hBr (a + 1))
  refine own_cast (ef_nxt m n0 tg a lim) ?_
  refine w_iloadN X0 hx (hb hby d5_0) rfl (pc' := 1) rfl ?_
  refine w_if_lt X0 hx (hb hby d5_1) (by decide) (pcY := 11) (by decide) (pc' := 4) rfl (fun h0 => absurd ((own_olt (a := a) (b := 0) (by omega) (by omega)).mp h0) (Nat.not_lt_zero _)) (fun h0 => ?_)
  refine w_iloadN X0 hx (hb hby d5_4) rfl (pc' := 5) rfl ?_
  refine w_iloadN X0 hx (hb hby d5_5) rfl (pc' := 6) rfl ?_
  refine w_isub X0 hx (hb hby d5_6) (pc' := 7) rfl ?_
  refine w_eqI (z := (Int32.ofNat (lim - a))) (own_osub (a := lim) (b := a) (by omega)) ?_
  refine w_iconst (v := (2 : Int32)) X0 hx (hb hby d5_7) rfl (pc' := 8) rfl ?_
  refine w_icmp_ge X0 hx (hb hby d5_8) (by decide) (pcY := 13) (by decide) (pc' := 11) rfl (fun h1 => ?_) (fun h1 => ?_)
  · have h1n : ¬ (lim - a) < 2 := fun q => h1 ((own_olt (a := (lim - a)) (b := 2) (by omega) (by omega)).mpr q)
    refine w_aloadN X0 hx (hb hby d5_13) rfl rfl (pc' := 14) rfl ?_
    refine w_iloadN X0 hx (hb hby d5_14) rfl (pc' := 15) rfl ?_
    refine w_baloadL (i := 0) (jn := a) X0 hx hZ P0 rfl hk0 (hb hby d5_15) (own_oN (by omega)) (own_llt hB (by omega)) (pc' := 16) rfl ?_
    refine w_iloadN X0 hx (hb hby d5_16) rfl (pc' := 17) rfl ?_
    refine w_icmp_eq X0 hx (hb hby d5_17) (by decide) (pcY := 22) (by decide) (pc' := 20) rfl (fun h2 => ?_) (fun h2 => ?_)
    · refine w_aloadN X0 hx (hb hby d5_22) rfl rfl (pc' := 23) rfl ?_
      refine w_iloadN X0 hx (hb hby d5_23) rfl (pc' := 24) rfl ?_
      refine w_iconst (v := (1 : Int32)) X0 hx (hb hby d5_24) rfl (pc' := 25) rfl ?_
      refine w_iadd X0 hx (hb hby d5_25) (pc' := 26) rfl ?_
      refine w_eqI (z := (Int32.ofNat (a + 1))) (own_oadd a 1) ?_
      refine w_baloadL (i := 0) (jn := (a + 1)) X0 hx hZ P0 rfl hk0 (hb hby d5_26) (own_oN (by omega)) (own_llt hB (by omega)) (pc' := 27) rfl ?_
      refine w_istore (l' := #[.val (.ref (n0 + 0)), .val (.int tg), .val (.int (Int32.ofNat a)), .val (.int (Int32.ofNat lim)), .val (.int (B.getD (a + 1) 0))]) X0 hx (hb hby d5_27) rfl (pc' := 29) rfl ?_
      refine w_iload X0 hx (hb hby d5_29) rfl (pc' := 31) rfl ?_
      refine w_if_lt X0 hx (hb hby d5_31) (by decide) (pcY := 44) (by decide) (pc' := 34) rfl (fun h3 => ?_) (fun h3 => ?_)
      · refine w_iconst (v := (-1 : Int32)) X0 hx (hb hby d5_44) rfl (pc' := 45) rfl ?_
        exact w_ret_i X0 hx hret hlk (hb hby d5_45) (by decide) (by decide) ⟨congrArg (fun q => some (Value.int q)) (show (-1 : Int32) = own_nv (own_nx B tg lim a) from by rw [own_nx, if_neg h1n, if_pos h2, if_pos h3]; rfl), N0, P0⟩
      · refine w_iload X0 hx (hb hby d5_34) rfl (pc' := 36) rfl ?_
        refine w_eqI (z := (Int32.ofNat (own_nn (B.getD (a + 1) 0)))) (own_nneq h3) ?_
        refine w_iloadN X0 hx (hb hby d5_36) rfl (pc' := 37) rfl ?_
        refine w_iloadN X0 hx (hb hby d5_37) rfl (pc' := 38) rfl ?_
        refine w_isub X0 hx (hb hby d5_38) (pc' := 39) rfl ?_
        refine w_eqI (z := (Int32.ofNat (lim - a))) (own_osub (a := lim) (b := a) (by omega)) ?_
        refine w_iconst (v := (2 : Int32)) X0 hx (hb hby d5_39) rfl (pc' := 40) rfl ?_
        refine w_isub X0 hx (hb hby d5_40) (pc' := 41) rfl ?_
        refine w_eqI (z := (Int32.ofNat ((lim - a) - 2))) (own_osub (a := (lim - a)) (b := 2) (by omega)) ?_
        refine w_icmp_le X0 hx (hb hby d5_41) (by decide) (pcY := 46) (by decide) (pc' := 44) rfl (fun h4 => ?_) (fun h4 => ?_)
        · have h4n : ¬ ((lim - a) - 2) < (own_nn (B.getD (a + 1) 0)) := fun q => h4 ((own_olt (a := ((lim - a) - 2)) (b := (own_nn (B.getD (a + 1) 0))) (by omega) (by omega)).mpr q)
          refine w_iloadN X0 hx (hb hby d5_46) rfl (pc' := 47) rfl ?_
          refine w_iconst (v := (2 : Int32)) X0 hx (hb hby d5_47) rfl (pc' := 48) rfl ?_
          refine w_iadd X0 hx (hb hby d5_48) (pc' := 49) rfl ?_
          refine w_eqI (z := (Int32.ofNat (a + 2))) (own_oadd a 2) ?_
          refine w_iload X0 hx (hb hby d5_49) rfl (pc' := 51) rfl ?_
          refine w_iadd X0 hx (hb hby d5_51) (pc' := 52) rfl ?_
          refine w_eqI (z := (Int32.ofNat (a + 2 + own_nn (B.getD (a + 1) 0)))) (own_addn (a + 2) h3) ?_
          exact w_ret_i X0 hx hret hlk (hb hby d5_52) (by decide) (by decide) ⟨congrArg (fun q => some (Value.int q)) (show (Int32.ofNat (a + 2 + own_nn (B.getD (a + 1) 0))) = own_nv (own_nx B tg lim a) from by rw [own_nx, if_neg h1n, if_pos h2, if_neg h3, if_neg (by omega)]; rfl), N0, P0⟩
        · have h4n : ((lim - a) - 2) < (own_nn (B.getD (a + 1) 0)) := (own_olt (a := ((lim - a) - 2)) (b := (own_nn (B.getD (a + 1) 0))) (by omega) (by omega)).mp h4
          refine w_iconst (v := (-1 : Int32)) X0 hx (hb hby d5_44) rfl (pc' := 45) rfl ?_
          exact w_ret_i X0 hx hret hlk (hb hby d5_45) (by decide) (by decide) ⟨congrArg (fun q => some (Value.int q)) (show (-1 : Int32) = own_nv (own_nx B tg lim a) from by rw [own_nx, if_neg h1n, if_pos h2, if_neg h3, if_pos (by omega)]; rfl), N0, P0⟩
    · refine w_iconst (v := (-1 : Int32)) X0 hx (hb hby d5_20) rfl (pc' := 21) rfl ?_
      exact w_ret_i X0 hx hret hlk (hb hby d5_21) (by decide) (by decide) ⟨congrArg (fun q => some (Value.int q)) (show (-1 : Int32) = own_nv (own_nx B tg lim a) from by rw [own_nx, if_neg h1n, if_neg h2]; rfl), N0, P0⟩
  · have h1n : (lim - a) < 2 := (own_olt (a := (lim - a)) (b := 2) (by omega) (by omega)).mp h1
    refine w_iconst (v := (-1 : Int32)) X0 hx (hb hby d5_11) rfl (pc' := 12) rfl ?_
    exact w_ret_i X0 hx hret hlk (hb hby d5_12) (by decide) (by decide) ⟨congrArg (fun q => some (Value.int q)) (show (-1 : Int32) = own_nv (own_nx B tg lim a) from by rw [own_nx, if_pos h1n]; rfl), N0, P0⟩
theorem ef_nxm (m : MethodId) (n0 : Nat) (tg : Int32) (lim : Nat) : entryFrame m #[.ref (n0 + 0), .int tg, .int (-1 : Int32), .int (Int32.ofNat lim)] 5 = mkF m 0 #[.val (.ref (n0 + 0)), .val (.int tg), .val (.int (-1 : Int32)), .val (.int (Int32.ofNat lim)), .unset] [] := by first | (simp [entryFrame, mkF, argsToLocals, Value.category]; done) | rfl
def Q_nxm (Z : State) (n0 : Nat) (k0 : ClassId) (B : List Int32) (o1 : Jvm.Cell) (tg : Int32) (lim : Nat) (v : Option Value) (h : Heap) (L : List Loc) : Prop := v = some (.int (-1)) ∧ Fr n0 L ∧ HP n0 h [AC k0 (List.map Value.int B), o1]
set_option maxRecDepth 65536 in
set_option maxHeartbeats 40000000 in
theorem rm_nxm (l : Launch) (Z : State) (a0 : Array Value) (hw : ∀ d ∈ tables_1, d.before a0 Z = true) (ws : List Jvm.Cond) (n0 : Nat) (k0 : ClassId) (B : List Int32) (o1 : Jvm.Cell) (tg : Int32) (lim : Nat) (h0 : Heap) (P0 : HP n0 h0 [AC k0 (List.map Value.int B), o1]) :
    MetFree l (⟨"com/example/postwinnow/postwinnow/ciff/WireInputSkipShortFieldsPinLaw", "next", "([BBII)I"⟩ : MethodName) (head1 (Jvm.Cond.code (⟨"com/example/postwinnow/postwinnow/ciff/WireInputSkipShortFieldsPinLaw", "next", "([BBII)I"⟩ : MethodName) method_4_code 5 (some .int) :: ws) ({ frames := 0, cells := 0, slots := 0, locals := 0 } : Room)) (fun aa U => aa = #[.ref (n0 + 0), .int tg, .int (-1 : Int32), .int (Int32.ofNat lim)] ∧ Z.Warmed39 U.vm ∧ U.heap = h0) (fun _ _ _ _ _ => True) (fun _ U o U' => ∃ v L, o = .returned v ∧ Q_nxm Z n0 k0 B o1 tg lim v U'.heap L ∧ FrameEnd U o U' L ({ frames := 0, cells := 0, slots := 0, locals := 0 } : Room).cells ({ frames := 0, cells := 0, slots := 0, locals := 0 } : Room).slots) := by
  refine own_body pn5 ?_
  intro p e s m below meth c T0 hx hby hml hret hlk hown hnm hZ X0 e0
  subst e0
  have N0 : Fr n0 [] := Fr.nil n0
  refine own_cast (ef_nxm m n0 tg lim) ?_
  refine w_iloadN X0 hx (hb hby d5_0) rfl (pc' := 1) rfl ?_
  refine w_if_lt X0 hx (hb hby d5_1) (by decide) (pcY := 11) (by decide) (pc' := 4) rfl (fun h0 => ?_) (fun h0 => absurd h0 (by decide))
  refine w_iconst (v := (-1 : Int32)) X0 hx (hb hby d5_11) rfl (pc' := 12) rfl ?_
  exact w_ret_i X0 hx hret hlk (hb hby d5_12) (by decide) (by decide) ⟨rfl, N0, P0⟩
theorem d4_0 : decode prog_12_method_16_code 0 = .ok (.iload_n 1, 1) := by decide +kernel
theorem d4_1 : decode prog_12_method_16_code 1 = .ok (.iconst 3, 1) := by decide +kernel
theorem d4_2 : decode prog_12_method_16_code 2 = .ok (.ishl, 1) := by decide +kernel
theorem d4_3 : decode prog_12_method_16_code 3 = .ok (.iconst 2, 1) := by decide +kernel
theorem d4_4 : decode prog_12_method_16_code 4 = .ok (.ior, 1) := by decide +kernel
theorem d4_5 : decode prog_12_method_16_code 5 = .ok (.i2b, 1) := by decide +kernel
theorem d4_6 : decode prog_12_method_16_code 6 = .ok (.istore_n 2, 1) := by decide +kernel
theorem d4_7 : decode prog_12_method_16_code 7 = .ok (.aload_n 0, 1) := by decide +kernel
theorem d4_8 : decode prog_12_method_16_code 8 = .ok (.getfield 15, 3) := by decide +kernel
theorem d4_11 : decode prog_12_method_16_code 11 = .ok (.istore_n 3, 1) := by decide +kernel
theorem d4_12 : decode prog_12_method_16_code 12 = .ok (.iconst 0, 1) := by decide +kernel
theorem d4_13 : decode prog_12_method_16_code 13 = .ok (.istore 4, 2) := by decide +kernel
theorem d4_15 : decode prog_12_method_16_code 15 = .ok (.aload_n 0, 1) := by decide +kernel
theorem d4_16 : decode prog_12_method_16_code 16 = .ok (.getfield 19, 3) := by decide +kernel
theorem d4_19 : decode prog_12_method_16_code 19 = .ok (.iload_n 3, 1) := by decide +kernel
theorem d4_20 : decode prog_12_method_16_code 20 = .ok (.isub, 1) := by decide +kernel
theorem d4_21 : decode prog_12_method_16_code 21 = .ok (.iconst 2, 1) := by decide +kernel
theorem d4_22 : decode prog_12_method_16_code 22 = .ok (.if_icmp .lt 59, 3) := by decide +kernel
theorem d4_25 : decode prog_12_method_16_code 25 = .ok (.aload_n 0, 1) := by decide +kernel
theorem d4_26 : decode prog_12_method_16_code 26 = .ok (.getfield 11, 3) := by decide +kernel
theorem d4_29 : decode prog_12_method_16_code 29 = .ok (.iload_n 3, 1) := by decide +kernel
theorem d4_30 : decode prog_12_method_16_code 30 = .ok (.baload, 1) := by decide +kernel
theorem d4_31 : decode prog_12_method_16_code 31 = .ok (.iload_n 2, 1) := by decide +kernel
theorem d4_32 : decode prog_12_method_16_code 32 = .ok (.if_icmp .ne 49, 3) := by decide +kernel
theorem d4_35 : decode prog_12_method_16_code 35 = .ok (.aload_n 0, 1) := by decide +kernel
theorem d4_36 : decode prog_12_method_16_code 36 = .ok (.getfield 11, 3) := by decide +kernel
theorem d4_39 : decode prog_12_method_16_code 39 = .ok (.iload_n 3, 1) := by decide +kernel
theorem d4_40 : decode prog_12_method_16_code 40 = .ok (.iconst 1, 1) := by decide +kernel
theorem d4_41 : decode prog_12_method_16_code 41 = .ok (.iadd, 1) := by decide +kernel
theorem d4_42 : decode prog_12_method_16_code 42 = .ok (.baload, 1) := by decide +kernel
theorem d4_43 : decode prog_12_method_16_code 43 = .ok (.ifCond .lt 38, 3) := by decide +kernel
theorem d4_46 : decode prog_12_method_16_code 46 = .ok (.iload_n 3, 1) := by decide +kernel
theorem d4_47 : decode prog_12_method_16_code 47 = .ok (.iconst 2, 1) := by decide +kernel
theorem d4_48 : decode prog_12_method_16_code 48 = .ok (.iadd, 1) := by decide +kernel
theorem d4_49 : decode prog_12_method_16_code 49 = .ok (.aload_n 0, 1) := by decide +kernel
theorem d4_50 : decode prog_12_method_16_code 50 = .ok (.getfield 11, 3) := by decide +kernel
theorem d4_53 : decode prog_12_method_16_code 53 = .ok (.iload_n 3, 1) := by decide +kernel
theorem d4_54 : decode prog_12_method_16_code 54 = .ok (.iconst 1, 1) := by decide +kernel
theorem d4_55 : decode prog_12_method_16_code 55 = .ok (.iadd, 1) := by decide +kernel
theorem d4_56 : decode prog_12_method_16_code 56 = .ok (.baload, 1) := by decide +kernel
theorem d4_57 : decode prog_12_method_16_code 57 = .ok (.iadd, 1) := by decide +kernel
theorem d4_58 : decode prog_12_method_16_code 58 = .ok (.istore 5, 2) := by decide +kernel
theorem d4_60 : decode prog_12_method_16_code 60 = .ok (.iload 5, 2) := by decide +kernel
theorem d4_62 : decode prog_12_method_16_code 62 = .ok (.aload_n 0, 1) := by decide +kernel
theorem d4_63 : decode prog_12_method_16_code 63 = .ok (.getfield 19, 3) := by decide +kernel
theorem d4_66 : decode prog_12_method_16_code 66 = .ok (.if_icmp .le 6, 3) := by decide +kernel
theorem d4_69 : decode prog_12_method_16_code 69 = .ok (.goto 12, 3) := by decide +kernel
theorem d4_72 : decode prog_12_method_16_code 72 = .ok (.iload 5, 2) := by decide +kernel
theorem d4_74 : decode prog_12_method_16_code 74 = .ok (.istore_n 3, 1) := by decide +kernel
theorem d4_75 : decode prog_12_method_16_code 75 = .ok (.iinc 4 1, 3) := by decide +kernel
theorem d4_78 : decode prog_12_method_16_code 78 = .ok (.goto (-63), 3) := by decide +kernel
theorem d4_81 : decode prog_12_method_16_code 81 = .ok (.aload_n 0, 1) := by decide +kernel
theorem d4_82 : decode prog_12_method_16_code 82 = .ok (.iload_n 3, 1) := by decide +kernel
theorem d4_83 : decode prog_12_method_16_code 83 = .ok (.putfield 15, 3) := by decide +kernel
theorem d4_86 : decode prog_12_method_16_code 86 = .ok (.iload 4, 2) := by decide +kernel
theorem d4_88 : decode prog_12_method_16_code 88 = .ok (.ireturn, 1) := by decide +kernel
theorem pn4 : plainFor (⟨"com/example/postwinnow/postwinnow/ciff/WireInput", "skipShortFields", "(I)I"⟩ : MethodName) = true := plainFor_of_name (by first | (simp [plainName, overriddenIn]; done) | decide +kernel)
theorem pd4 : parseMethodDescriptor (⟨"com/example/postwinnow/postwinnow/ciff/WireInput", "skipShortFields", "(I)I"⟩ : MethodName).desc = some ⟨[.int], some .int⟩ := by decide +kernel
theorem ef_skip (m : MethodId) (n0 : Nat) (ff : Int32) (ps : Nat) (lim : Nat) : entryFrame m #[.ref (n0 + 1), .int ff] 6 = mkF m 0 #[.val (.ref (n0 + 1)), .val (.int ff), .unset, .unset, .unset, .unset] [] := by first | (simp [entryFrame, mkF, argsToLocals, Value.category]; done) | rfl
def Q_skip (Z : State) (n0 : Nat) (k0 : ClassId) (B : List Int32) (o1 : Jvm.Cell) (ff : Int32) (ps : Nat) (lim : Nat) (v : Option Value) (h : Heap) (L : List Loc) : Prop := v = some (.int (Int32.ofNat (own_sk B (Int8.toInt32 (Int32.toInt8 ((ff <<< ((3 : Int32) &&& 31)) ||| (2 : Int32)))) lim 9 ps).2)) ∧ Fr n0 L ∧ ∃ o2 : Jvm.Cell, ObjF Z o2 "com/example/postwinnow/postwinnow/ciff/WireInput" fl_C0 [.ref (n0 + 0), .int (Int32.ofNat (own_sk B (Int8.toInt32 (Int32.toInt8 ((ff <<< ((3 : Int32) &&& 31)) ||| (2 : Int32)))) lim 9 ps).1), .int (Int32.ofNat lim)] ∧ HP n0 h [AC k0 (List.map Value.int B), o2]
set_option maxRecDepth 65536 in
set_option maxHeartbeats 40000000 in
theorem rm_skip (l : Launch) (Z : State) (a0 : Array Value) (hw : ∀ d ∈ tables_1, d.before a0 Z = true) (ws : List Jvm.Cond) (n0 : Nat) (k0 : ClassId) (B : List Int32) (o1 : Jvm.Cell) (ff : Int32) (ps : Nat) (lim : Nat) (h0 : Heap) (P0 : HP n0 h0 [AC k0 (List.map Value.int B), o1]) (hk0 : IsA Z k0 .byte) (hB : B.length = 8) (hBr : ∀ i, (B.getD i 0).toInt < 128) (Fo1 : ObjF Z o1 "com/example/postwinnow/postwinnow/ciff/WireInput" fl_C0 [.ref (n0 + 0), .int (Int32.ofNat ps), .int (Int32.ofNat lim)]) (hpl : ps ≤ lim) (hlim : lim ≤ 8) :
    MetFree l (⟨"com/example/postwinnow/postwinnow/ciff/WireInput", "skipShortFields", "(I)I"⟩ : MethodName) (head1 (Jvm.Cond.code (⟨"com/example/postwinnow/postwinnow/ciff/WireInput", "skipShortFields", "(I)I"⟩ : MethodName) prog_12_method_16_code 6 (some .int) :: ws) ({ frames := 0, cells := 0, slots := 0, locals := 0 } : Room)) (fun aa U => aa = #[.ref (n0 + 1), .int ff] ∧ Z.Warmed39 U.vm ∧ U.heap = h0) (fun _ _ _ _ _ => True) (fun _ U o U' => ∃ v L, o = .returned v ∧ Q_skip Z n0 k0 B o1 ff ps lim v U'.heap L ∧ FrameEnd U o U' L ({ frames := 0, cells := 0, slots := 0, locals := 0 } : Room).cells ({ frames := 0, cells := 0, slots := 0, locals := 0 } : Room).slots) := by
  refine own_body pn4 ?_
  intro p e s m below meth c T0 hx hby hml hret hlk hown hnm hZ X0 e0
  subst e0
  have N0 : Fr n0 [] := Fr.nil n0
  refine own_cast (ef_skip m n0 ff ps lim) ?_
  have J15 : ∀ (f a cn : Nat) (s5 : Slot) (T1 : State) (L1 : List Loc), One s5 → lim - a < f → a ≤ lim → (own_sk B (Int8.toInt32 (Int32.toInt8 ((ff <<< ((3 : Int32) &&& 31)) ||| (2 : Int32)))) lim f a).1 = (own_sk B (Int8.toInt32 (Int32.toInt8 ((ff <<< ((3 : Int32) &&& 31)) ||| (2 : Int32)))) lim 9 ps).1 → cn + (own_sk B (Int8.toInt32 (Int32.toInt8 ((ff <<< ((3 : Int32) &&& 31)) ||| (2 : Int32)))) lim f a).2 = (own_sk B (Int8.toInt32 (Int32.toInt8 ((ff <<< ((3 : Int32) &&& 31)) ||| (2 : Int32)))) lim 9 ps).2 → Fr n0 L1 → Stand p l e ({ frames := 0, cells := 0, slots := 0, locals := 0 } : Room) s m #[.ref (n0 + 1), .int ff] below meth c T1 L1 0 0 → HP n0 T1.heap [AC k0 (List.map Value.int B), o1] → Wp p e s below ({ frames := 0, cells := 0, slots := 0, locals := 0 } : Room).cells ({ frames := 0, cells := 0, slots := 0, locals := 0 } : Room).slots (Q_skip Z n0 k0 B o1 ff ps lim) T1 (mkF m 15 #[.val (.ref (n0 + 1)), .val (.int ff), .val (.int (Int8.toInt32 (Int32.toInt8 ((ff <<< ((3 : Int32) &&& 31)) ||| (2 : Int32))))), .val (.int (Int32.ofNat a)), .val (.int (Int32.ofNat cn)), s5] []) := by
    intro f
    induction f with
    | zero => intro a cn s5 T1 L1 hs5 h; omega
    | succ f ih =>
      intro a cn s5 T1 L1 hs5 hf hal hv1 hv2 N1 X1 P1
      have hnb := own_nb (hBr (a + 1))
      refine w_aloadN X1 hx (hb hby d4_15) rfl rfl (pc' := 16) rfl ?_
      refine w_getf (i := 1) (v := .int (Int32.ofNat lim)) X1 hx hZ hown (wd19 hw) P1 rfl Fo1 2 rfl rfl (hb hby d4_16) (pc' := 19) rfl ?_
      intro T2 X2 P2
      refine w_iloadN X2 hx (hb hby d4_19) rfl (pc' := 20) rfl ?_
      refine w_isub X2 hx (hb hby d4_20) (pc' := 21) rfl ?_
      refine w_eqI (z := (Int32.ofNat (lim - a))) (own_osub (a := lim) (b := a) (by omega)) ?_
      refine w_iconst (v := (2 : Int32)) X2 hx (hb hby d4_21) rfl (pc' := 22) rfl ?_
      refine w_icmp_lt X2 hx (hb hby d4_22) (by decide) (pcY := 81) (by decide) (pc' := 25) rfl (fun h0 => ?_) (fun h0 => ?_)
      · have h0n : (lim - a) < 2 := (own_olt (a := (lim - a)) (b := 2) (by omega) (by omega)).mp h0
        have en : own_nx B (Int8.toInt32 (Int32.toInt8 ((ff <<< ((3 : Int32) &&& 31)) ||| (2 : Int32)))) lim a = none := by rw [own_nx, if_pos h0n]
        have q1 : (own_sk B (Int8.toInt32 (Int32.toInt8 ((ff <<< ((3 : Int32) &&& 31)) ||| (2 : Int32)))) lim 9 ps).1 = a := by rw [← hv1, own_sk0 en]
        have q2 : (own_sk B (Int8.toInt32 (Int32.toInt8 ((ff <<< ((3 : Int32) &&& 31)) ||| (2 : Int32)))) lim 9 ps).2 = cn := by rw [← hv2, own_sk0 en]; rfl
        refine w_aloadN X2 hx (hb hby d4_81) rfl rfl (pc' := 82) rfl ?_
        refine w_iloadN X2 hx (hb hby d4_82) rfl (pc' := 83) rfl ?_
        refine w_putf (i := 1) (ty := .int) X2 hx hZ hown (wd17 hw) N1 P2 rfl Fo1 (di_C0 hw) 1 rfl (Or.inl (wd18 hw)) (wd7 hw) (by decide) rfl rfl (hb hby d4_83) (pc' := 86) rfl ?_
        intro T3 L2 c1 N2 X3 P3 F1
        replace P3 : HP n0 T3.heap [AC k0 (List.map Value.int B), c1] := P3
        replace F1 : ObjF Z c1 "com/example/postwinnow/postwinnow/ciff/WireInput" fl_C0 [.ref (n0 + 0), .int (Int32.ofNat a), .int (Int32.ofNat lim)] := F1
        refine w_iload X3 hx (hb hby d4_86) rfl (pc' := 88) rfl ?_
        exact w_ret_i X3 hx hret hlk (hb hby d4_88) (by decide) (by decide) ⟨by rw [q2], N2, c1, by rw [q1]; exact F1, P3⟩
      · have h0n : ¬ (lim - a) < 2 := fun q => h0 ((own_olt (a := (lim - a)) (b := 2) (by omega) (by omega)).mpr q)
        refine w_aloadN X2 hx (hb hby d4_25) rfl rfl (pc' := 26) rfl ?_
        refine w_getf (i := 1) (v := .ref (n0 + 0)) X2 hx hZ hown (wd15 hw) P2 rfl Fo1 0 rfl rfl (hb hby d4_26) (pc' := 29) rfl ?_
        intro T4 X4 P4
        refine w_iloadN X4 hx (hb hby d4_29) rfl (pc' := 30) rfl ?_
        refine w_baloadL (i := 0) (jn := a) X4 hx hZ P4 rfl hk0 (hb hby d4_30) (own_oN (by omega)) (own_llt hB (by omega)) (pc' := 31) rfl ?_
        refine w_iloadN X4 hx (hb hby d4_31) rfl (pc' := 32) rfl ?_
        refine w_icmp_ne X4 hx (hb hby d4_32) (by decide) (pcY := 81) (by decide) (pc' := 35) rfl (fun h1 => ?_) (fun h1 => ?_)
        · have en : own_nx B (Int8.toInt32 (Int32.toInt8 ((ff <<< ((3 : Int32) &&& 31)) ||| (2 : Int32)))) lim a = none := by rw [own_nx, if_neg h0n, if_neg h1]
          have q1 : (own_sk B (Int8.toInt32 (Int32.toInt8 ((ff <<< ((3 : Int32) &&& 31)) ||| (2 : Int32)))) lim 9 ps).1 = a := by rw [← hv1, own_sk0 en]
          have q2 : (own_sk B (Int8.toInt32 (Int32.toInt8 ((ff <<< ((3 : Int32) &&& 31)) ||| (2 : Int32)))) lim 9 ps).2 = cn := by rw [← hv2, own_sk0 en]; rfl
          refine w_aloadN X4 hx (hb hby d4_81) rfl rfl (pc' := 82) rfl ?_
          refine w_iloadN X4 hx (hb hby d4_82) rfl (pc' := 83) rfl ?_
          refine w_putf (i := 1) (ty := .int) X4 hx hZ hown (wd17 hw) N1 P4 rfl Fo1 (di_C0 hw) 1 rfl (Or.inl (wd18 hw)) (wd7 hw) (by decide) rfl rfl (hb hby d4_83) (pc' := 86) rfl ?_
          intro T5 L3 c2 N3 X5 P5 F2
          replace P5 : HP n0 T5.heap [AC k0 (List.map Value.int B), c2] := P5
          replace F2 : ObjF Z c2 "com/example/postwinnow/postwinnow/ciff/WireInput" fl_C0 [.ref (n0 + 0), .int (Int32.ofNat a), .int (Int32.ofNat lim)] := F2
          refine w_iload X5 hx (hb hby d4_86) rfl (pc' := 88) rfl ?_
          exact w_ret_i X5 hx hret hlk (hb hby d4_88) (by decide) (by decide) ⟨by rw [q2], N3, c2, by rw [q1]; exact F2, P5⟩
        · refine w_aloadN X4 hx (hb hby d4_35) rfl rfl (pc' := 36) rfl ?_
          refine w_getf (i := 1) (v := .ref (n0 + 0)) X4 hx hZ hown (wd15 hw) P4 rfl Fo1 0 rfl rfl (hb hby d4_36) (pc' := 39) rfl ?_
          intro T6 X6 P6
          refine w_iloadN X6 hx (hb hby d4_39) rfl (pc' := 40) rfl ?_
          refine w_iconst (v := (1 : Int32)) X6 hx (hb hby d4_40) rfl (pc' := 41) rfl ?_
          refine w_iadd X6 hx (hb hby d4_41) (pc' := 42) rfl ?_
          refine w_eqI (z := (Int32.ofNat (a + 1))) (own_oadd a 1) ?_
          refine w_baloadL (i := 0) (jn := (a + 1)) X6 hx hZ P6 rfl hk0 (hb hby d4_42) (own_oN (by omega)) (own_llt hB (by omega)) (pc' := 43) rfl ?_
          refine w_if_lt X6 hx (hb hby d4_43) (by decide) (pcY := 81) (by decide) (pc' := 46) rfl (fun h2 => ?_) (fun h2 => ?_)
          · have en : own_nx B (Int8.toInt32 (Int32.toInt8 ((ff <<< ((3 : Int32) &&& 31)) ||| (2 : Int32)))) lim a = none := by rw [own_nx, if_neg h0n, if_pos h1, if_pos h2]
            have q1 : (own_sk B (Int8.toInt32 (Int32.toInt8 ((ff <<< ((3 : Int32) &&& 31)) ||| (2 : Int32)))) lim 9 ps).1 = a := by rw [← hv1, own_sk0 en]
            have q2 : (own_sk B (Int8.toInt32 (Int32.toInt8 ((ff <<< ((3 : Int32) &&& 31)) ||| (2 : Int32)))) lim 9 ps).2 = cn := by rw [← hv2, own_sk0 en]; rfl
            refine w_aloadN X6 hx (hb hby d4_81) rfl rfl (pc' := 82) rfl ?_
            refine w_iloadN X6 hx (hb hby d4_82) rfl (pc' := 83) rfl ?_
            refine w_putf (i := 1) (ty := .int) X6 hx hZ hown (wd17 hw) N1 P6 rfl Fo1 (di_C0 hw) 1 rfl (Or.inl (wd18 hw)) (wd7 hw) (by decide) rfl rfl (hb hby d4_83) (pc' := 86) rfl ?_
            intro T7 L4 c3 N4 X7 P7 F3
            replace P7 : HP n0 T7.heap [AC k0 (List.map Value.int B), c3] := P7
            replace F3 : ObjF Z c3 "com/example/postwinnow/postwinnow/ciff/WireInput" fl_C0 [.ref (n0 + 0), .int (Int32.ofNat a), .int (Int32.ofNat lim)] := F3
            refine w_iload X7 hx (hb hby d4_86) rfl (pc' := 88) rfl ?_
            exact w_ret_i X7 hx hret hlk (hb hby d4_88) (by decide) (by decide) ⟨by rw [q2], N4, c3, by rw [q1]; exact F3, P7⟩
          · refine w_iloadN X6 hx (hb hby d4_46) rfl (pc' := 47) rfl ?_
            refine w_iconst (v := (2 : Int32)) X6 hx (hb hby d4_47) rfl (pc' := 48) rfl ?_
            refine w_iadd X6 hx (hb hby d4_48) (pc' := 49) rfl ?_
            refine w_eqI (z := (Int32.ofNat (a + 2))) (own_oadd a 2) ?_
            refine w_aloadN X6 hx (hb hby d4_49) rfl rfl (pc' := 50) rfl ?_
            refine w_getf (i := 1) (v := .ref (n0 + 0)) X6 hx hZ hown (wd15 hw) P6 rfl Fo1 0 rfl rfl (hb hby d4_50) (pc' := 53) rfl ?_
            intro T8 X8 P8
            refine w_iloadN X8 hx (hb hby d4_53) rfl (pc' := 54) rfl ?_
            refine w_iconst (v := (1 : Int32)) X8 hx (hb hby d4_54) rfl (pc' := 55) rfl ?_
            refine w_iadd X8 hx (hb hby d4_55) (pc' := 56) rfl ?_
            refine w_eqI (z := (Int32.ofNat (a + 1))) (own_oadd a 1) ?_
            refine w_baloadL (i := 0) (jn := (a + 1)) X8 hx hZ P8 rfl hk0 (hb hby d4_56) (own_oN (by omega)) (own_llt hB (by omega)) (pc' := 57) rfl ?_
            refine w_iadd X8 hx (hb hby d4_57) (pc' := 58) rfl ?_
            refine w_eqI (z := (Int32.ofNat (a + 2 + own_nn (B.getD (a + 1) 0)))) (own_addn (a + 2) h2) ?_
            refine w_istore (l' := #[.val (.ref (n0 + 1)), .val (.int ff), .val (.int (Int8.toInt32 (Int32.toInt8 ((ff <<< ((3 : Int32) &&& 31)) ||| (2 : Int32))))), .val (.int (Int32.ofNat a)), .val (.int (Int32.ofNat cn)), .val (.int (Int32.ofNat (a + 2 + own_nn (B.getD (a + 1) 0))))]) X8 hx (hb hby d4_58) (XS.store1 rfl hs5 rfl) (pc' := 60) rfl ?_
            refine w_iload X8 hx (hb hby d4_60) rfl (pc' := 62) rfl ?_
            refine w_aloadN X8 hx (hb hby d4_62) rfl rfl (pc' := 63) rfl ?_
            refine w_getf (i := 1) (v := .int (Int32.ofNat lim)) X8 hx hZ hown (wd19 hw) P8 rfl Fo1 2 rfl rfl (hb hby d4_63) (pc' := 66) rfl ?_
            intro T9 X9 P9
            refine w_icmp_le X9 hx (hb hby d4_66) (by decide) (pcY := 72) (by decide) (pc' := 69) rfl (fun h3 => ?_) (fun h3 => ?_)
            · have h3n : ¬ lim < (a + 2 + own_nn (B.getD (a + 1) 0)) := fun q => h3 ((own_olt (a := lim) (b := (a + 2 + own_nn (B.getD (a + 1) 0))) (by omega) (by omega)).mpr q)
              refine w_iload X9 hx (hb hby d4_72) rfl (pc' := 74) rfl ?_
              refine w_istoreN (l' := #[.val (.ref (n0 + 1)), .val (.int ff), .val (.int (Int8.toInt32 (Int32.toInt8 ((ff <<< ((3 : Int32) &&& 31)) ||| (2 : Int32))))), .val (.int (Int32.ofNat (a + 2 + own_nn (B.getD (a + 1) 0)))), .val (.int (Int32.ofNat cn)), .val (.int (Int32.ofNat (a + 2 + own_nn (B.getD (a + 1) 0))))]) X9 hx (hb hby d4_74) rfl (pc' := 75) rfl ?_
              refine w_iincE (z := (Int32.ofNat (cn + 1))) (l' := #[.val (.ref (n0 + 1)), .val (.int ff), .val (.int (Int8.toInt32 (Int32.toInt8 ((ff <<< ((3 : Int32) &&& 31)) ||| (2 : Int32))))), .val (.int (Int32.ofNat (a + 2 + own_nn (B.getD (a + 1) 0)))), .val (.int (Int32.ofNat (cn + 1))), .val (.int (Int32.ofNat (a + 2 + own_nn (B.getD (a + 1) 0))))]) X9 hx (hb hby d4_75) rfl (own_oadd cn 1) rfl (pc' := 78) rfl ?_
              refine w_goto X9 hx (hb hby d4_78) (by decide) (pc' := 15) (by decide) ?_
              have en : own_nx B (Int8.toInt32 (Int32.toInt8 ((ff <<< ((3 : Int32) &&& 31)) ||| (2 : Int32)))) lim a = some (a + 2 + own_nn (B.getD (a + 1) 0)) := by rw [own_nx, if_neg h0n, if_pos h1, if_neg h2, if_neg h3n]
              exact ih (a + 2 + own_nn (B.getD (a + 1) 0)) (cn + 1) _ T9 L1 (One.val rfl) (by omega) (by omega) (by rw [← hv1, own_sk1 en]) (by rw [← hv2, own_sk1 en]; show _ = cn + (_ + 1); omega) N1 X9 P9
            · have h3n : lim < (a + 2 + own_nn (B.getD (a + 1) 0)) := (own_olt (a := lim) (b := (a + 2 + own_nn (B.getD (a + 1) 0))) (by omega) (by omega)).mp h3
              refine w_goto X9 hx (hb hby d4_69) (by decide) (pc' := 81) (by decide) ?_
              have en : own_nx B (Int8.toInt32 (Int32.toInt8 ((ff <<< ((3 : Int32) &&& 31)) ||| (2 : Int32)))) lim a = none := by rw [own_nx, if_neg h0n, if_pos h1, if_neg h2, if_pos h3n]
              have q1 : (own_sk B (Int8.toInt32 (Int32.toInt8 ((ff <<< ((3 : Int32) &&& 31)) ||| (2 : Int32)))) lim 9 ps).1 = a := by rw [← hv1, own_sk0 en]
              have q2 : (own_sk B (Int8.toInt32 (Int32.toInt8 ((ff <<< ((3 : Int32) &&& 31)) ||| (2 : Int32)))) lim 9 ps).2 = cn := by rw [← hv2, own_sk0 en]; rfl
              refine w_aloadN X9 hx (hb hby d4_81) rfl rfl (pc' := 82) rfl ?_
              refine w_iloadN X9 hx (hb hby d4_82) rfl (pc' := 83) rfl ?_
              refine w_putf (i := 1) (ty := .int) X9 hx hZ hown (wd17 hw) N1 P9 rfl Fo1 (di_C0 hw) 1 rfl (Or.inl (wd18 hw)) (wd7 hw) (by decide) rfl rfl (hb hby d4_83) (pc' := 86) rfl ?_
              intro T10 L5 c4 N5 X10 P10 F4
              replace P10 : HP n0 T10.heap [AC k0 (List.map Value.int B), c4] := P10
              replace F4 : ObjF Z c4 "com/example/postwinnow/postwinnow/ciff/WireInput" fl_C0 [.ref (n0 + 0), .int (Int32.ofNat a), .int (Int32.ofNat lim)] := F4
              refine w_iload X10 hx (hb hby d4_86) rfl (pc' := 88) rfl ?_
              exact w_ret_i X10 hx hret hlk (hb hby d4_88) (by decide) (by decide) ⟨by rw [q2], N5, c4, by rw [q1]; exact F4, P10⟩
  refine w_iloadN X0 hx (hb hby d4_0) rfl (pc' := 1) rfl ?_
  refine w_iconst (v := (3 : Int32)) X0 hx (hb hby d4_1) rfl (pc' := 2) rfl ?_
  refine w_ishl X0 hx (hb hby d4_2) (pc' := 3) rfl ?_
  refine w_iconst (v := (2 : Int32)) X0 hx (hb hby d4_3) rfl (pc' := 4) rfl ?_
  refine w_ior X0 hx (hb hby d4_4) (pc' := 5) rfl ?_
  refine w_i2b X0 hx (hb hby d4_5) (pc' := 6) rfl ?_
  refine w_istoreN (l' := #[.val (.ref (n0 + 1)), .val (.int ff), .val (.int (Int8.toInt32 (Int32.toInt8 ((ff <<< ((3 : Int32) &&& 31)) ||| (2 : Int32))))), .unset, .unset, .unset]) X0 hx (hb hby d4_6) rfl (pc' := 7) rfl ?_
  refine w_aloadN X0 hx (hb hby d4_7) rfl rfl (pc' := 8) rfl ?_
  refine w_getf (i := 1) (v := .int (Int32.ofNat ps)) X0 hx hZ hown (wd17 hw) P0 rfl Fo1 1 rfl rfl (hb hby d4_8) (pc' := 11) rfl ?_
  intro T11 X11 P11
  refine w_istoreN (l' := #[.val (.ref (n0 + 1)), .val (.int ff), .val (.int (Int8.toInt32 (Int32.toInt8 ((ff <<< ((3 : Int32) &&& 31)) ||| (2 : Int32))))), .val (.int (Int32.ofNat ps)), .unset, .unset]) X11 hx (hb hby d4_11) rfl (pc' := 12) rfl ?_
  refine w_iconst (v := (0 : Int32)) X11 hx (hb hby d4_12) rfl (pc' := 13) rfl ?_
  refine w_istore (l' := #[.val (.ref (n0 + 1)), .val (.int ff), .val (.int (Int8.toInt32 (Int32.toInt8 ((ff <<< ((3 : Int32) &&& 31)) ||| (2 : Int32))))), .val (.int (Int32.ofNat ps)), .val (.int (0 : Int32)), .unset]) X11 hx (hb hby d4_13) rfl (pc' := 15) rfl ?_
  exact J15 9 ps 0 .unset T11 [] One.u (by omega) hpl rfl (Nat.zero_add _) N0 X11 P11
theorem d2_0 : decode prog_12_method_1_code 0 = .ok (.aload_n 0, 1) := by decide +kernel
theorem d2_1 : decode prog_12_method_1_code 1 = .ok (.invokespecial 5, 3) := by decide +kernel
theorem d2_4 : decode prog_12_method_1_code 4 = .ok (.aload_n 0, 1) := by decide +kernel
theorem d2_5 : decode prog_12_method_1_code 5 = .ok (.aload_n 1, 1) := by decide +kernel
theorem d2_6 : decode prog_12_method_1_code 6 = .ok (.putfield 11, 3) := by decide +kernel
theorem d2_9 : decode prog_12_method_1_code 9 = .ok (.aload_n 0, 1) := by decide +kernel
theorem d2_10 : decode prog_12_method_1_code 10 = .ok (.iload_n 2, 1) := by decide +kernel
theorem d2_11 : decode prog_12_method_1_code 11 = .ok (.putfield 15, 3) := by decide +kernel
theorem d2_14 : decode prog_12_method_1_code 14 = .ok (.aload_n 0, 1) := by decide +kernel
theorem d2_15 : decode prog_12_method_1_code 15 = .ok (.iload_n 3, 1) := by decide +kernel
theorem d2_16 : decode prog_12_method_1_code 16 = .ok (.putfield 19, 3) := by decide +kernel
theorem d2_19 : decode prog_12_method_1_code 19 = .ok (.return_, 1) := by decide +kernel
theorem pn2 : plainFor (⟨"com/example/postwinnow/postwinnow/ciff/WireInput", "<init>", "([BII)V"⟩ : MethodName) = true := plainFor_of_name (by first | (simp [plainName, overriddenIn]; done) | decide +kernel)
theorem pd2 : parseMethodDescriptor (⟨"com/example/postwinnow/postwinnow/ciff/WireInput", "<init>", "([BII)V"⟩ : MethodName).desc = some ⟨[(.array .byte), .int, .int], none⟩ := by decide +kernel
def Q_rm2_0 (Z : State) (n0 : Nat) (u0 : Int32) (u1 : Int32) (k0 : ClassId) (l0 : List Int32) (o1 : Jvm.Cell) (v : Option Value) (h : Heap) (L : List Loc) : Prop := v = none ∧ Fr n0 L ∧ ∃ c3 : Jvm.Cell, ObjF Z c3 "com/example/postwinnow/postwinnow/ciff/WireInput" fl_C0 [.ref (n0 + 0), .int u0, .int u1] ∧ HP n0 h [AC k0 (List.map Value.int l0), c3]
theorem ef_rm2_0 (m : MethodId) (n0 : Nat) (u0 : Int32) (u1 : Int32) : entryFrame m #[.ref (n0 + 1), .ref (n0 + 0), .int u0, .int u1] 4 = mkF m 0 #[.val (.ref (n0 + 1)), .val (.ref (n0 + 0)), .val (.int u0), .val (.int u1)] [] := by first | (simp [entryFrame, mkF, argsToLocals, Value.category]; done) | rfl
set_option maxRecDepth 65536 in
set_option maxHeartbeats 40000000 in
theorem rm2_0 (l : Launch) (Z : State) (a0 : Array Value) (hw : ∀ d ∈ tables_1, d.before a0 Z = true) (ws : List Jvm.Cond) (n0 : Nat) (u0 : Int32) (u1 : Int32) (k0 : ClassId) (hk0 : IsA Z k0 .byte) (l0 : List Int32) (o1 : Jvm.Cell) (Fo1 : ObjF Z o1 "com/example/postwinnow/postwinnow/ciff/WireInput" fl_C0 [.null, .int (0 : Int32), .int (0 : Int32)]) (h0 : Heap) (P0 : HP n0 h0 [AC k0 (List.map Value.int l0), o1]) :
    MetFree l (⟨"com/example/postwinnow/postwinnow/ciff/WireInput", "<init>", "([BII)V"⟩ : MethodName) (head1 (Jvm.Cond.code (⟨"com/example/postwinnow/postwinnow/ciff/WireInput", "<init>", "([BII)V"⟩ : MethodName) prog_12_method_1_code 4 none :: ws) ({ frames := 1, cells := 0, slots := 0, locals := 12 } : Room)) (fun aa U => aa = #[.ref (n0 + 1), .ref (n0 + 0), .int u0, .int u1] ∧ Z.Warmed39 U.vm ∧ U.heap = h0) (fun _ _ _ _ _ => True) (fun _ U o U' => ∃ v L, o = .returned v ∧ Q_rm2_0 Z n0 u0 u1 k0 l0 o1 v U'.heap L ∧ FrameEnd U o U' L ({ frames := 1, cells := 0, slots := 0, locals := 12 } : Room).cells ({ frames := 1, cells := 0, slots := 0, locals := 12 } : Room).slots) := by
  refine own_body pn2 ?_
  intro p e s m below meth c T0 hx hby hml hret hlk hown hnm hZ X0 e0
  subst e0
  have N0 : Fr n0 [] := Fr.nil n0
  refine own_cast (ef_rm2_0 m n0 u0 u1) ?_
  refine w_aloadN X0 hx (hb hby d2_0) rfl rfl (pc' := 1) rfl ?_
  refine w_initO (W := 0) X0 hx hZ hown (by rw [hml]; rfl) (wd12 hw) (wd13 hw) (wd14 hw) P0 (hb hby d2_1) (by decide) (Nat.le_of_eq rfl) (by decide) (pc' := 4) rfl ?_
  intro T1 X1 P1
  refine w_aloadN X1 hx (hb hby d2_4) rfl rfl (pc' := 5) rfl ?_
  refine w_aloadN X1 hx (hb hby d2_5) rfl rfl (pc' := 6) rfl ?_
  refine w_putf (i := 1) (ty := (.array .byte)) X1 hx hZ hown (wd15 hw) N0 P1 rfl Fo1 (di_C0 hw) 0 rfl (Or.inr ⟨(wd16 hw), rfl, hnm⟩) (wd7 hw) (by decide) rfl rfl (hb hby d2_6) (pc' := 9) rfl ?_
  intro T2 L1 c1 N1 X2 P2 F1
  replace P2 : HP n0 T2.heap [AC k0 (List.map Value.int l0), c1] := P2
  replace F1 : ObjF Z c1 "com/example/postwinnow/postwinnow/ciff/WireInput" fl_C0 [.ref (n0 + 0), .int (0 : Int32), .int (0 : Int32)] := F1
  refine w_aloadN X2 hx (hb hby d2_9) rfl rfl (pc' := 10) rfl ?_
  refine w_iloadN X2 hx (hb hby d2_10) rfl (pc' := 11) rfl ?_
  refine w_putf (i := 1) (ty := .int) X2 hx hZ hown (wd17 hw) N1 P2 rfl F1 (di_C0 hw) 1 rfl (Or.inl (wd18 hw)) (wd7 hw) (by decide) rfl rfl (hb hby d2_11) (pc' := 14) rfl ?_
  intro T3 L2 c2 N2 X3 P3 F2
  replace P3 : HP n0 T3.heap [AC k0 (List.map Value.int l0), c2] := P3
  replace F2 : ObjF Z c2 "com/example/postwinnow/postwinnow/ciff/WireInput" fl_C0 [.ref (n0 + 0), .int u0, .int (0 : Int32)] := F2
  refine w_aloadN X3 hx (hb hby d2_14) rfl rfl (pc' := 15) rfl ?_
  refine w_iloadN X3 hx (hb hby d2_15) rfl (pc' := 16) rfl ?_
  refine w_putf (i := 1) (ty := .int) X3 hx hZ hown (wd19 hw) N2 P3 rfl F2 (di_C0 hw) 2 rfl (Or.inl (wd20 hw)) (wd7 hw) (by decide) rfl rfl (hb hby d2_16) (pc' := 19) rfl ?_
  intro T4 L3 c3 N3 X4 P4 F3
  replace P4 : HP n0 T4.heap [AC k0 (List.map Value.int l0), c3] := P4
  replace F3 : ObjF Z c3 "com/example/postwinnow/postwinnow/ciff/WireInput" fl_C0 [.ref (n0 + 0), .int u0, .int u1] := F3
  exact w_ret_v X4 hx hret hlk (hb hby d2_19) (by decide) (by decide) ⟨rfl, N3, c3, F3, P4⟩
theorem d6_0 : decode prog_12_method_11_code 0 = .ok (.aload_n 0, 1) := by decide +kernel
theorem d6_1 : decode prog_12_method_11_code 1 = .ok (.getfield 15, 3) := by decide +kernel
theorem d6_4 : decode prog_12_method_11_code 4 = .ok (.ireturn, 1) := by decide +kernel
theorem pn6 : plainFor (⟨"com/example/postwinnow/postwinnow/ciff/WireInput", "position", "()I"⟩ : MethodName) = true := plainFor_of_name (by first | (simp [plainName, overriddenIn]; done) | decide +kernel)
theorem pd6 : parseMethodDescriptor (⟨"com/example/postwinnow/postwinnow/ciff/WireInput", "position", "()I"⟩ : MethodName).desc = some ⟨[], some .int⟩ := by decide +kernel
def Q_rm6_1 (Z : State) (n0 : Nat) (k0 : ClassId) (l0 : List Int32) (o1 : Jvm.Cell) (u0 : Int32) (u1 : Int32) (v : Option Value) (h : Heap) (L : List Loc) : Prop := v = some (.int u0) ∧ Fr n0 L ∧ HP n0 h [AC k0 (List.map Value.int l0), o1]
theorem ef_rm6_1 (m : MethodId) (n0 : Nat) (u0 : Int32) (u1 : Int32) : entryFrame m #[.ref (n0 + 1)] 1 = mkF m 0 #[.val (.ref (n0 + 1))] [] := by first | (simp [entryFrame, mkF, argsToLocals, Value.category]; done) | rfl
set_option maxRecDepth 65536 in
set_option maxHeartbeats 40000000 in
theorem rm6_1 (l : Launch) (Z : State) (a0 : Array Value) (hw : ∀ d ∈ tables_1, d.before a0 Z = true) (ws : List Jvm.Cond) (n0 : Nat) (k0 : ClassId) (hk0 : IsA Z k0 .byte) (l0 : List Int32) (o1 : Jvm.Cell) (u0 : Int32) (u1 : Int32) (Fo1 : ObjF Z o1 "com/example/postwinnow/postwinnow/ciff/WireInput" fl_C0 [.ref (n0 + 0), .int u0, .int u1]) (h0 : Heap) (P0 : HP n0 h0 [AC k0 (List.map Value.int l0), o1]) :
    MetFree l (⟨"com/example/postwinnow/postwinnow/ciff/WireInput", "position", "()I"⟩ : MethodName) (head1 (Jvm.Cond.code (⟨"com/example/postwinnow/postwinnow/ciff/WireInput", "position", "()I"⟩ : MethodName) prog_12_method_11_code 1 (some .int) :: ws) ({ frames := 0, cells := 0, slots := 0, locals := 0 } : Room)) (fun aa U => aa = #[.ref (n0 + 1)] ∧ Z.Warmed39 U.vm ∧ U.heap = h0) (fun _ _ _ _ _ => True) (fun _ U o U' => ∃ v L, o = .returned v ∧ Q_rm6_1 Z n0 k0 l0 o1 u0 u1 v U'.heap L ∧ FrameEnd U o U' L ({ frames := 0, cells := 0, slots := 0, locals := 0 } : Room).cells ({ frames := 0, cells := 0, slots := 0, locals := 0 } : Room).slots) := by
  refine own_body pn6 ?_
  intro p e s m below meth c T0 hx hby hml hret hlk hown hnm hZ X0 e0
  subst e0
  have N0 : Fr n0 [] := Fr.nil n0
  refine own_cast (ef_rm6_1 m n0 u0 u1) ?_
  refine w_aloadN X0 hx (hb hby d6_0) rfl rfl (pc' := 1) rfl ?_
  refine w_getf (i := 1) (v := .int u0) X0 hx hZ hown (wd17 hw) P0 rfl Fo1 1 rfl rfl (hb hby d6_1) (pc' := 4) rfl ?_
  intro T1 X1 P1
  exact w_ret_i X1 hx hret hlk (hb hby d6_4) (by decide) (by decide) ⟨rfl, N0, P1⟩
theorem d7_0 : decode prog_12_method_3_code 0 = .ok (.aload_n 0, 1) := by decide +kernel
theorem d7_1 : decode prog_12_method_3_code 1 = .ok (.getfield 19, 3) := by decide +kernel
theorem d7_4 : decode prog_12_method_3_code 4 = .ok (.aload_n 0, 1) := by decide +kernel
theorem d7_5 : decode prog_12_method_3_code 5 = .ok (.getfield 15, 3) := by decide +kernel
theorem d7_8 : decode prog_12_method_3_code 8 = .ok (.isub, 1) := by decide +kernel
theorem d7_9 : decode prog_12_method_3_code 9 = .ok (.ireturn, 1) := by decide +kernel
theorem pn7 : plainFor (⟨"com/example/postwinnow/postwinnow/ciff/WireInput", "remaining", "()I"⟩ : MethodName) = true := plainFor_of_name (by first | (simp [plainName, overriddenIn]; done) | decide +kernel)
theorem pd7 : parseMethodDescriptor (⟨"com/example/postwinnow/postwinnow/ciff/WireInput", "remaining", "()I"⟩ : MethodName).desc = some ⟨[], some .int⟩ := by decide +kernel
def Q_rm7_2 (Z : State) (n0 : Nat) (k0 : ClassId) (l0 : List Int32) (o1 : Jvm.Cell) (u0 : Int32) (u1 : Int32) (v : Option Value) (h : Heap) (L : List Loc) : Prop := v = some (.int (u1 - u0)) ∧ Fr n0 L ∧ HP n0 h [AC k0 (List.map Value.int l0), o1]
theorem ef_rm7_2 (m : MethodId) (n0 : Nat) (u0 : Int32) (u1 : Int32) : entryFrame m #[.ref (n0 + 1)] 1 = mkF m 0 #[.val (.ref (n0 + 1))] [] := by first | (simp [entryFrame, mkF, argsToLocals, Value.category]; done) | rfl
set_option maxRecDepth 65536 in
set_option maxHeartbeats 40000000 in
theorem rm7_2 (l : Launch) (Z : State) (a0 : Array Value) (hw : ∀ d ∈ tables_1, d.before a0 Z = true) (ws : List Jvm.Cond) (n0 : Nat) (k0 : ClassId) (hk0 : IsA Z k0 .byte) (l0 : List Int32) (o1 : Jvm.Cell) (u0 : Int32) (u1 : Int32) (Fo1 : ObjF Z o1 "com/example/postwinnow/postwinnow/ciff/WireInput" fl_C0 [.ref (n0 + 0), .int u0, .int u1]) (h0 : Heap) (P0 : HP n0 h0 [AC k0 (List.map Value.int l0), o1]) :
    MetFree l (⟨"com/example/postwinnow/postwinnow/ciff/WireInput", "remaining", "()I"⟩ : MethodName) (head1 (Jvm.Cond.code (⟨"com/example/postwinnow/postwinnow/ciff/WireInput", "remaining", "()I"⟩ : MethodName) prog_12_method_3_code 1 (some .int) :: ws) ({ frames := 0, cells := 0, slots := 0, locals := 0 } : Room)) (fun aa U => aa = #[.ref (n0 + 1)] ∧ Z.Warmed39 U.vm ∧ U.heap = h0) (fun _ _ _ _ _ => True) (fun _ U o U' => ∃ v L, o = .returned v ∧ Q_rm7_2 Z n0 k0 l0 o1 u0 u1 v U'.heap L ∧ FrameEnd U o U' L ({ frames := 0, cells := 0, slots := 0, locals := 0 } : Room).cells ({ frames := 0, cells := 0, slots := 0, locals := 0 } : Room).slots) := by
  refine own_body pn7 ?_
  intro p e s m below meth c T0 hx hby hml hret hlk hown hnm hZ X0 e0
  subst e0
  have N0 : Fr n0 [] := Fr.nil n0
  refine own_cast (ef_rm7_2 m n0 u0 u1) ?_
  refine w_aloadN X0 hx (hb hby d7_0) rfl rfl (pc' := 1) rfl ?_
  refine w_getf (i := 1) (v := .int u1) X0 hx hZ hown (wd19 hw) P0 rfl Fo1 2 rfl rfl (hb hby d7_1) (pc' := 4) rfl ?_
  intro T1 X1 P1
  refine w_aloadN X1 hx (hb hby d7_4) rfl rfl (pc' := 5) rfl ?_
  refine w_getf (i := 1) (v := .int u0) X1 hx hZ hown (wd17 hw) P1 rfl Fo1 1 rfl rfl (hb hby d7_5) (pc' := 8) rfl ?_
  intro T2 X2 P2
  refine w_isub X2 hx (hb hby d7_8) (pc' := 9) rfl ?_
  exact w_ret_i X2 hx hret hlk (hb hby d7_9) (by decide) (by decide) ⟨rfl, N0, P2⟩
theorem pn0 : plainFor (⟨"com/example/postwinnow/postwinnow/ciff/WireInputSkipShortFieldsPinLaw", "law", "(JIIII)Z"⟩ : MethodName) = true := plainFor_of_name (by first | (simp [plainName, overriddenIn]; done) | decide +kernel)
theorem pd0 : parseMethodDescriptor (⟨"com/example/postwinnow/postwinnow/ciff/WireInputSkipShortFieldsPinLaw", "law", "(JIIII)Z"⟩ : MethodName).desc = some ⟨[.long, .int, .int, .int, .int], some .boolean⟩ := by decide +kernel
theorem ef0 (m : MethodId) (x0 : Int64) (x1 : Int32) (x2 : Int32) (x3 : Int32) (x4 : Int32) : entryFrame m #[Value.long x0, Value.int x1, Value.int x2, Value.int x3, Value.int x4] maxLocals = mkF m 0 #[.val (.long x0), .second, .val (.int x1), .val (.int x2), .val (.int x3), .val (.int x4), .unset, .unset, .unset, .unset, .unset, .unset, .unset, .unset, .unset, .unset, .unset, .unset, .unset, .unset] [] := by first | (simp [entryFrame, mkF, argsToLocals, Value.category, maxLocals]; done) | rfl
def LawQ (n0 : Nat) (v : Option Value) (h : Heap) (L : List Loc) : Prop := v = some (.int 1) ∧ Fr n0 L
set_option maxRecDepth 65536 in
set_option maxHeartbeats 40000000 in
theorem rm0 (l : Launch) (Z : State) (a0 : Array Value) (hw : ∀ d ∈ tables_1, d.before a0 Z = true) (ws : List Jvm.Cond) (x0 : Int64) (x1 : Int32) (x2 : Int32) (x3 : Int32) (x4 : Int32) (h0 : Heap) (n0 : Nat) (Z0 : h0.size = n0) :
    MetFree l x (head1 (Jvm.Cond.code x code maxLocals ret :: ws) room_1) (fun aa U => aa = #[Value.long x0, Value.int x1, Value.int x2, Value.int x3, Value.int x4] ∧ Z.Warmed39 U.vm ∧ U.heap = h0) (fun _ _ _ _ _ => True) (fun _ U o U' => ∃ v L, o = .returned v ∧ LawQ n0 v U'.heap L ∧ FrameEnd U o U' L room_1.cells room_1.slots) := by
  refine own_body pn0 ?_
  intro p e s m below meth c T0 hx hby hml hret hlk hown hnm hZ X0 e0
  subst e0 Z0
  have P0 := HP.nil T0.heap
  generalize T0.heap.size = n0 at P0 ⊢
  have N0 : Fr n0 [] := Fr.nil n0
  refine own_cast (ef0 m x0 x1 x2 x3 x4) ?_
  obtain ⟨fr, hfr, efr⟩ := own_rem x3 9 9 (by decide) (by decide)
  refine w_iloadN X0 hx (hb hby at_0) rfl (pc' := 1) rfl ?_
  refine w_bipush (v := (15 : Int32)) X0 hx (hb hby at_1) rfl (pc' := 3) rfl ?_
  refine w_iand X0 hx (hb hby at_3) (pc' := 4) rfl ?_
  refine w_genI (fun ff eff => ?_)
  refine w_istore (l' := #[.val (.long x0), .second, .val (.int x1), .val (.int x2), .val (.int x3), .val (.int x4), .val (.int ff), .unset, .unset, .unset, .unset, .unset, .unset, .unset, .unset, .unset, .unset, .unset, .unset, .unset]) X0 hx (hb hby at_4) rfl (pc' := 6) rfl ?_
  refine w_iload X0 hx (hb hby at_6) rfl (pc' := 8) rfl ?_
  refine w_iconst (v := (3 : Int32)) X0 hx (hb hby at_8) rfl (pc' := 9) rfl ?_
  refine w_ishl X0 hx (hb hby at_9) (pc' := 10) rfl ?_
  refine w_iconst (v := (2 : Int32)) X0 hx (hb hby at_10) rfl (pc' := 11) rfl ?_
  refine w_ior X0 hx (hb hby at_11) (pc' := 12) rfl ?_
  refine w_i2b X0 hx (hb hby at_12) (pc' := 13) rfl ?_
  refine w_istore (l' := #[.val (.long x0), .second, .val (.int x1), .val (.int x2), .val (.int x3), .val (.int x4), .val (.int ff), .val (.int (Int8.toInt32 (Int32.toInt8 ((ff <<< ((3 : Int32) &&& 31)) ||| (2 : Int32))))), .unset, .unset, .unset, .unset, .unset, .unset, .unset, .unset, .unset, .unset, .unset, .unset]) X0 hx (hb hby at_13) rfl (pc' := 15) rfl ?_
  refine w_bipush (v := (8 : Int32)) X0 hx (hb hby at_15) rfl (pc' := 17) rfl ?_
  refine w_newarr (N := 8) (j := 0) X0 hx hZ P0 (ty := .byte) rfl (wd0 hw) (hb hby at_17) (by decide) (by decide) (by decide) (by decide) rfl (pc' := 19) rfl ?_
  intro T1 kA1 X1 hkA1 P1
  replace P1 : HP n0 T1.heap [AC kA1 [.int (0 : Int32), .int (0 : Int32), .int (0 : Int32), .int (0 : Int32), .int (0 : Int32), .int (0 : Int32), .int (0 : Int32), .int (0 : Int32)]] := P1
  refine w_astore (l' := #[.val (.long x0), .second, .val (.int x1), .val (.int x2), .val (.int x3), .val (.int x4), .val (.int ff), .val (.int (Int8.toInt32 (Int32.toInt8 ((ff <<< ((3 : Int32) &&& 31)) ||| (2 : Int32))))), .val (.ref (n0 + 0)), .unset, .unset, .unset, .unset, .unset, .unset, .unset, .unset, .unset, .unset, .unset]) X1 hx (hb hby at_19) rfl rfl (pc' := 21) rfl ?_
  refine w_aload X1 hx (hb hby at_21) rfl rfl (pc' := 23) rfl ?_
  refine w_iconst (v := (0 : Int32)) X1 hx (hb hby at_23) rfl (pc' := 24) rfl ?_
  refine w_lloadN X1 hx (hb hby at_24) rfl (pc' := 25) rfl ?_
  refine w_iloadN X1 hx (hb hby at_25) rfl (pc' := 26) rfl ?_
  refine w_iload X1 hx (hb hby at_26) rfl (pc' := 28) rfl ?_
  refine w_iconst (v := (0 : Int32)) X1 hx (hb hby at_28) rfl (pc' := 29) rfl ?_
  refine w_callP (W := 2) X1 hx hZ rfl hown hml.symm (wd1 hw) (wd2 hw) (wd3 hw) (wd4 hw) (rm1 l Z a0 hw [] x0 x1 ff (0 : Int32) _) (by decide) (by decide) (by decide) rfl rfl (by decide) (by decide) (argsL := [.long x0, .int x1, .int ff, .int (0 : Int32)]) (rest := [.int (0 : Int32), .ref (n0 + 0)]) pd1 rfl rfl rfl (Nat.le_of_eq rfl) (hb hby at_29) (pc' := 32) rfl ?_
  intro T2 X2 e2
  have P2 : HP n0 T2.heap [AC kA1 [.int (0 : Int32), .int (0 : Int32), .int (0 : Int32), .int (0 : Int32), .int (0 : Int32), .int (0 : Int32), .int (0 : Int32), .int (0 : Int32)]] := by rw [e2]; exact P1
  obtain ⟨b0, eb0⟩ : ∃ z : Int32, z = nar .byte (sp1 x0 x1 ff (0 : Int32)) := ⟨_, rfl⟩
  refine w_bastoreE (i := 0) (jn := 0) X2 hx hZ N0 P2 rfl hkA1 (hb hby at_32) eb0.symm (by decide) (Nat.le_of_ble_eq_true rfl) (pc' := 33) rfl ?_
  intro T3 L1 N1 X3 P3
  replace P3 : HP n0 T3.heap [AC kA1 [.int b0, .int (0 : Int32), .int (0 : Int32), .int (0 : Int32), .int (0 : Int32), .int (0 : Int32), .int (0 : Int32), .int (0 : Int32)]] := P3
  refine w_aload X3 hx (hb hby at_33) rfl rfl (pc' := 35) rfl ?_
  refine w_iconst (v := (1 : Int32)) X3 hx (hb hby at_35) rfl (pc' := 36) rfl ?_
  refine w_lloadN X3 hx (hb hby at_36) rfl (pc' := 37) rfl ?_
  refine w_iloadN X3 hx (hb hby at_37) rfl (pc' := 38) rfl ?_
  refine w_iload X3 hx (hb hby at_38) rfl (pc' := 40) rfl ?_
  refine w_iconst (v := (1 : Int32)) X3 hx (hb hby at_40) rfl (pc' := 41) rfl ?_
  refine w_callP (W := 2) X3 hx hZ rfl hown hml.symm (wd1 hw) (wd2 hw) (wd3 hw) (wd4 hw) (rm1 l Z a0 hw [] x0 x1 ff (1 : Int32) _) (by decide) (by decide) (by decide) rfl rfl (by decide) (by decide) (argsL := [.long x0, .int x1, .int ff, .int (1 : Int32)]) (rest := [.int (1 : Int32), .ref (n0 + 0)]) pd1 rfl rfl rfl (Nat.le_of_eq rfl) (hb hby at_41) (pc' := 44) rfl ?_
  intro T4 X4 e4
  have P4 : HP n0 T4.heap [AC kA1 [.int b0, .int (0 : Int32), .int (0 : Int32), .int (0 : Int32), .int (0 : Int32), .int (0 : Int32), .int (0 : Int32), .int (0 : Int32)]] := by rw [e4]; exact P3
  obtain ⟨b1, eb1⟩ : ∃ z : Int32, z = nar .byte (sp1 x0 x1 ff (1 : Int32)) := ⟨_, rfl⟩
  refine w_bastoreE (i := 0) (jn := 1) X4 hx hZ N1 P4 rfl hkA1 (hb hby at_44) eb1.symm (by decide) (Nat.le_of_ble_eq_true rfl) (pc' := 45) rfl ?_
  intro T5 L2 N2 X5 P5
  replace P5 : HP n0 T5.heap [AC kA1 [.int b0, .int b1, .int (0 : Int32), .int (0 : Int32), .int (0 : Int32), .int (0 : Int32), .int (0 : Int32), .int (0 : Int32)]] := P5
  refine w_aload X5 hx (hb hby at_45) rfl rfl (pc' := 47) rfl ?_
  refine w_iconst (v := (2 : Int32)) X5 hx (hb hby at_47) rfl (pc' := 48) rfl ?_
  refine w_lloadN X5 hx (hb hby at_48) rfl (pc' := 49) rfl ?_
  refine w_iloadN X5 hx (hb hby at_49) rfl (pc' := 50) rfl ?_
  refine w_iload X5 hx (hb hby at_50) rfl (pc' := 52) rfl ?_
  refine w_iconst (v := (2 : Int32)) X5 hx (hb hby at_52) rfl (pc' := 53) rfl ?_
  refine w_callP (W := 2) X5 hx hZ rfl hown hml.symm (wd1 hw) (wd2 hw) (wd3 hw) (wd4 hw) (rm1 l Z a0 hw [] x0 x1 ff (2 : Int32) _) (by decide) (by decide) (by decide) rfl rfl (by decide) (by decide) (argsL := [.long x0, .int x1, .int ff, .int (2 : Int32)]) (rest := [.int (2 : Int32), .ref (n0 + 0)]) pd1 rfl rfl rfl (Nat.le_of_eq rfl) (hb hby at_53) (pc' := 56) rfl ?_
  intro T6 X6 e6
  have P6 : HP n0 T6.heap [AC kA1 [.int b0, .int b1, .int (0 : Int32), .int (0 : Int32), .int (0 : Int32), .int (0 : Int32), .int (0 : Int32), .int (0 : Int32)]] := by rw [e6]; exact P5
  obtain ⟨b2, eb2⟩ : ∃ z : Int32, z = nar .byte (sp1 x0 x1 ff (2 : Int32)) := ⟨_, rfl⟩
  refine w_bastoreE (i := 0) (jn := 2) X6 hx hZ N2 P6 rfl hkA1 (hb hby at_56) eb2.symm (by decide) (Nat.le_of_ble_eq_true rfl) (pc' := 57) rfl ?_
  intro T7 L3 N3 X7 P7
  replace P7 : HP n0 T7.heap [AC kA1 [.int b0, .int b1, .int b2, .int (0 : Int32), .int (0 : Int32), .int (0 : Int32), .int (0 : Int32), .int (0 : Int32)]] := P7
  refine w_aload X7 hx (hb hby at_57) rfl rfl (pc' := 59) rfl ?_
  refine w_iconst (v := (3 : Int32)) X7 hx (hb hby at_59) rfl (pc' := 60) rfl ?_
  refine w_lloadN X7 hx (hb hby at_60) rfl (pc' := 61) rfl ?_
  refine w_iloadN X7 hx (hb hby at_61) rfl (pc' := 62) rfl ?_
  refine w_iload X7 hx (hb hby at_62) rfl (pc' := 64) rfl ?_
  refine w_iconst (v := (3 : Int32)) X7 hx (hb hby at_64) rfl (pc' := 65) rfl ?_
  refine w_callP (W := 2) X7 hx hZ rfl hown hml.symm (wd1 hw) (wd2 hw) (wd3 hw) (wd4 hw) (rm1 l Z a0 hw [] x0 x1 ff (3 : Int32) _) (by decide) (by decide) (by decide) rfl rfl (by decide) (by decide) (argsL := [.long x0, .int x1, .int ff, .int (3 : Int32)]) (rest := [.int (3 : Int32), .ref (n0 + 0)]) pd1 rfl rfl rfl (Nat.le_of_eq rfl) (hb hby at_65) (pc' := 68) rfl ?_
  intro T8 X8 e8
  have P8 : HP n0 T8.heap [AC kA1 [.int b0, .int b1, .int b2, .int (0 : Int32), .int (0 : Int32), .int (0 : Int32), .int (0 : Int32), .int (0 : Int32)]] := by rw [e8]; exact P7
  obtain ⟨b3, eb3⟩ : ∃ z : Int32, z = nar .byte (sp1 x0 x1 ff (3 : Int32)) := ⟨_, rfl⟩
  refine w_bastoreE (i := 0) (jn := 3) X8 hx hZ N3 P8 rfl hkA1 (hb hby at_68) eb3.symm (by decide) (Nat.le_of_ble_eq_true rfl) (pc' := 69) rfl ?_
  intro T9 L4 N4 X9 P9
  replace P9 : HP n0 T9.heap [AC kA1 [.int b0, .int b1, .int b2, .int b3, .int (0 : Int32), .int (0 : Int32), .int (0 : Int32), .int (0 : Int32)]] := P9
  refine w_aload X9 hx (hb hby at_69) rfl rfl (pc' := 71) rfl ?_
  refine w_iconst (v := (4 : Int32)) X9 hx (hb hby at_71) rfl (pc' := 72) rfl ?_
  refine w_lloadN X9 hx (hb hby at_72) rfl (pc' := 73) rfl ?_
  refine w_iloadN X9 hx (hb hby at_73) rfl (pc' := 74) rfl ?_
  refine w_iload X9 hx (hb hby at_74) rfl (pc' := 76) rfl ?_
  refine w_iconst (v := (4 : Int32)) X9 hx (hb hby at_76) rfl (pc' := 77) rfl ?_
  refine w_callP (W := 2) X9 hx hZ rfl hown hml.symm (wd1 hw) (wd2 hw) (wd3 hw) (wd4 hw) (rm1 l Z a0 hw [] x0 x1 ff (4 : Int32) _) (by decide) (by decide) (by decide) rfl rfl (by decide) (by decide) (argsL := [.long x0, .int x1, .int ff, .int (4 : Int32)]) (rest := [.int (4 : Int32), .ref (n0 + 0)]) pd1 rfl rfl rfl (Nat.le_of_eq rfl) (hb hby at_77) (pc' := 80) rfl ?_
  intro T10 X10 e10
  have P10 : HP n0 T10.heap [AC kA1 [.int b0, .int b1, .int b2, .int b3, .int (0 : Int32), .int (0 : Int32), .int (0 : Int32), .int (0 : Int32)]] := by rw [e10]; exact P9
  obtain ⟨b4, eb4⟩ : ∃ z : Int32, z = nar .byte (sp1 x0 x1 ff (4 : Int32)) := ⟨_, rfl⟩
  refine w_bastoreE (i := 0) (jn := 4) X10 hx hZ N4 P10 rfl hkA1 (hb hby at_80) eb4.symm (by decide) (Nat.le_of_ble_eq_true rfl) (pc' := 81) rfl ?_
  intro T11 L5 N5 X11 P11
  replace P11 : HP n0 T11.heap [AC kA1 [.int b0, .int b1, .int b2, .int b3, .int b4, .int (0 : Int32), .int (0 : Int32), .int (0 : Int32)]] := P11
  refine w_aload X11 hx (hb hby at_81) rfl rfl (pc' := 83) rfl ?_
  refine w_iconst (v := (5 : Int32)) X11 hx (hb hby at_83) rfl (pc' := 84) rfl ?_
  refine w_lloadN X11 hx (hb hby at_84) rfl (pc' := 85) rfl ?_
  refine w_iloadN X11 hx (hb hby at_85) rfl (pc' := 86) rfl ?_
  refine w_iload X11 hx (hb hby at_86) rfl (pc' := 88) rfl ?_
  refine w_iconst (v := (5 : Int32)) X11 hx (hb hby at_88) rfl (pc' := 89) rfl ?_
  refine w_callP (W := 2) X11 hx hZ rfl hown hml.symm (wd1 hw) (wd2 hw) (wd3 hw) (wd4 hw) (rm1 l Z a0 hw [] x0 x1 ff (5 : Int32) _) (by decide) (by decide) (by decide) rfl rfl (by decide) (by decide) (argsL := [.long x0, .int x1, .int ff, .int (5 : Int32)]) (rest := [.int (5 : Int32), .ref (n0 + 0)]) pd1 rfl rfl rfl (Nat.le_of_eq rfl) (hb hby at_89) (pc' := 92) rfl ?_
  intro T12 X12 e12
  have P12 : HP n0 T12.heap [AC kA1 [.int b0, .int b1, .int b2, .int b3, .int b4, .int (0 : Int32), .int (0 : Int32), .int (0 : Int32)]] := by rw [e12]; exact P11
  obtain ⟨b5, eb5⟩ : ∃ z : Int32, z = nar .byte (sp1 x0 x1 ff (5 : Int32)) := ⟨_, rfl⟩
  refine w_bastoreE (i := 0) (jn := 5) X12 hx hZ N5 P12 rfl hkA1 (hb hby at_92) eb5.symm (by decide) (Nat.le_of_ble_eq_true rfl) (pc' := 93) rfl ?_
  intro T13 L6 N6 X13 P13
  replace P13 : HP n0 T13.heap [AC kA1 [.int b0, .int b1, .int b2, .int b3, .int b4, .int b5, .int (0 : Int32), .int (0 : Int32)]] := P13
  refine w_aload X13 hx (hb hby at_93) rfl rfl (pc' := 95) rfl ?_
  refine w_bipush (v := (6 : Int32)) X13 hx (hb hby at_95) rfl (pc' := 97) rfl ?_
  refine w_lloadN X13 hx (hb hby at_97) rfl (pc' := 98) rfl ?_
  refine w_iloadN X13 hx (hb hby at_98) rfl (pc' := 99) rfl ?_
  refine w_iload X13 hx (hb hby at_99) rfl (pc' := 101) rfl ?_
  refine w_bipush (v := (6 : Int32)) X13 hx (hb hby at_101) rfl (pc' := 103) rfl ?_
  refine w_callP (W := 2) X13 hx hZ rfl hown hml.symm (wd1 hw) (wd2 hw) (wd3 hw) (wd4 hw) (rm1 l Z a0 hw [] x0 x1 ff (6 : Int32) _) (by decide) (by decide) (by decide) rfl rfl (by decide) (by decide) (argsL := [.long x0, .int x1, .int ff, .int (6 : Int32)]) (rest := [.int (6 : Int32), .ref (n0 + 0)]) pd1 rfl rfl rfl (Nat.le_of_eq rfl) (hb hby at_103) (pc' := 106) rfl ?_
  intro T14 X14 e14
  have P14 : HP n0 T14.heap [AC kA1 [.int b0, .int b1, .int b2, .int b3, .int b4, .int b5, .int (0 : Int32), .int (0 : Int32)]] := by rw [e14]; exact P13
  obtain ⟨b6, eb6⟩ : ∃ z : Int32, z = nar .byte (sp1 x0 x1 ff (6 : Int32)) := ⟨_, rfl⟩
  refine w_bastoreE (i := 0) (jn := 6) X14 hx hZ N6 P14 rfl hkA1 (hb hby at_106) eb6.symm (by decide) (Nat.le_of_ble_eq_true rfl) (pc' := 107) rfl ?_
  intro T15 L7 N7 X15 P15
  replace P15 : HP n0 T15.heap [AC kA1 [.int b0, .int b1, .int b2, .int b3, .int b4, .int b5, .int b6, .int (0 : Int32)]] := P15
  refine w_aload X15 hx (hb hby at_107) rfl rfl (pc' := 109) rfl ?_
  refine w_bipush (v := (7 : Int32)) X15 hx (hb hby at_109) rfl (pc' := 111) rfl ?_
  refine w_lloadN X15 hx (hb hby at_111) rfl (pc' := 112) rfl ?_
  refine w_iloadN X15 hx (hb hby at_112) rfl (pc' := 113) rfl ?_
  refine w_iload X15 hx (hb hby at_113) rfl (pc' := 115) rfl ?_
  refine w_bipush (v := (7 : Int32)) X15 hx (hb hby at_115) rfl (pc' := 117) rfl ?_
  refine w_callP (W := 2) X15 hx hZ rfl hown hml.symm (wd1 hw) (wd2 hw) (wd3 hw) (wd4 hw) (rm1 l Z a0 hw [] x0 x1 ff (7 : Int32) _) (by decide) (by decide) (by decide) rfl rfl (by decide) (by decide) (argsL := [.long x0, .int x1, .int ff, .int (7 : Int32)]) (rest := [.int (7 : Int32), .ref (n0 + 0)]) pd1 rfl rfl rfl (Nat.le_of_eq rfl) (hb hby at_117) (pc' := 120) rfl ?_
  intro T16 X16 e16
  have P16 : HP n0 T16.heap [AC kA1 [.int b0, .int b1, .int b2, .int b3, .int b4, .int b5, .int b6, .int (0 : Int32)]] := by rw [e16]; exact P15
  obtain ⟨b7, eb7⟩ : ∃ z : Int32, z = nar .byte (sp1 x0 x1 ff (7 : Int32)) := ⟨_, rfl⟩
  refine w_bastoreE (i := 0) (jn := 7) X16 hx hZ N7 P16 rfl hkA1 (hb hby at_120) eb7.symm (by decide) (Nat.le_of_ble_eq_true rfl) (pc' := 121) rfl ?_
  intro T17 L8 N8 X17 P17
  replace P17 : HP n0 T17.heap [AC kA1 [.int b0, .int b1, .int b2, .int b3, .int b4, .int b5, .int b6, .int b7]] := P17
  obtain ⟨B, eB⟩ : ∃ B : List Int32, B = [b0, b1, b2, b3, b4, b5, b6, b7] := ⟨_, rfl⟩
  have hB : B.length = 8 := by rw [eB]; rfl
  have hBr : ∀ i, (B.getD i 0).toInt < 128 := by
    rw [eB]
    refine own_br _ ?_
    intro x hx
    simp only [List.mem_cons, List.not_mem_nil, or_false] at hx
    rcases hx with rfl | rfl | rfl | rfl | rfl | rfl | rfl | rfl
    · rw [eb0]; exact own_bb _
    · rw [eb1]; exact own_bb _
    · rw [eb2]; exact own_bb _
    · rw [eb3]; exact own_bb _
    · rw [eb4]; exact own_bb _
    · rw [eb5]; exact own_bb _
    · rw [eb6]; exact own_bb _
    · rw [eb7]; exact own_bb _
  replace P17 : HP n0 T17.heap [AC kA1 (List.map Value.int B)] := by rw [eB]; exact P17
  refine w_iload X17 hx (hb hby at_121) rfl (pc' := 123) rfl ?_
  refine w_ldc X17 hx (hb hby at_123) hown (mvT hZ (wd5 hw)) (pc' := 125) rfl ?_
  refine w_iand X17 hx (hb hby at_125) (pc' := 126) rfl ?_
  refine w_bipush (v := (9 : Int32)) X17 hx (hb hby at_126) rfl (pc' := 128) rfl ?_
  refine w_irem X17 hx (hb hby at_128) (by decide) (pc' := 129) rfl ?_
  refine w_eqI (z := (Int32.ofNat fr)) efr ?_
  refine w_istore (l' := #[.val (.long x0), .second, .val (.int x1), .val (.int x2), .val (.int x3), .val (.int x4), .val (.int ff), .val (.int (Int8.toInt32 (Int32.toInt8 ((ff <<< ((3 : Int32) &&& 31)) ||| (2 : Int32))))), .val (.ref (n0 + 0)), .val (.int (Int32.ofNat fr)), .unset, .unset, .unset, .unset, .unset, .unset, .unset, .unset, .unset, .unset]) X17 hx (hb hby at_129) rfl (pc' := 131) rfl ?_
  refine w_iload X17 hx (hb hby at_131) rfl (pc' := 133) rfl ?_
  refine w_iload X17 hx (hb hby at_133) rfl (pc' := 135) rfl ?_
  refine w_ldc X17 hx (hb hby at_135) hown (mvT hZ (wd5 hw)) (pc' := 137) rfl ?_
  refine w_iand X17 hx (hb hby at_137) (pc' := 138) rfl ?_
  refine w_bipush (v := (9 : Int32)) X17 hx (hb hby at_138) rfl (pc' := 140) rfl ?_
  refine w_iload X17 hx (hb hby at_140) rfl (pc' := 142) rfl ?_
  refine w_isub X17 hx (hb hby at_142) (pc' := 143) rfl ?_
  refine w_eqI (z := (Int32.ofNat (9 - fr))) (own_osub (a := 9) (b := fr) (by omega)) ?_
  refine w_irem X17 hx (hb hby at_143) (own_nz (by omega) (by omega)) (pc' := 144) rfl ?_
  obtain ⟨lq, hlq, elq⟩ := own_rem x4 (Int32.ofNat (9 - fr)) (9 - fr) (own_oN (by omega)) (by omega)
  refine w_eqI elq ?_
  refine w_iadd X17 hx (hb hby at_144) (pc' := 145) rfl ?_
  refine w_eqI (z := (Int32.ofNat (fr + lq))) (own_oadd fr lq) ?_
  refine w_istore (l' := #[.val (.long x0), .second, .val (.int x1), .val (.int x2), .val (.int x3), .val (.int x4), .val (.int ff), .val (.int (Int8.toInt32 (Int32.toInt8 ((ff <<< ((3 : Int32) &&& 31)) ||| (2 : Int32))))), .val (.ref (n0 + 0)), .val (.int (Int32.ofNat fr)), .val (.int (Int32.ofNat (fr + lq))), .unset, .unset, .unset, .unset, .unset, .unset, .unset, .unset, .unset]) X17 hx (hb hby at_145) rfl (pc' := 147) rfl ?_
  refine w_new (j := 1) X17 hx hZ hown (wd6 hw) (wd7 hw) (wd8 hw) P17 fl_C0 dv_C0 rfl (ly_C0 hw) (hb hby at_147) (by decide) (by decide) rfl (pc' := 150) rfl ?_
  intro T18 c2 X18 P18 F2
  replace P18 : HP n0 T18.heap [AC kA1 (List.map Value.int B), c2] := P18
  refine w_dup X18 hx (hb hby at_150) rfl (pc' := 151) rfl ?_
  refine w_aload X18 hx (hb hby at_151) rfl rfl (pc' := 153) rfl ?_
  refine w_iload X18 hx (hb hby at_153) rfl (pc' := 155) rfl ?_
  refine w_iload X18 hx (hb hby at_155) rfl (pc' := 157) rfl ?_
  refine own_callI (W := 1) X18 hx hZ rfl rfl hown hml.symm (wd9 hw) (wd10 hw) (wd8 hw) (wd11 hw) (rm2_0 l Z a0 hw [] n0 (Int32.ofNat fr) (Int32.ofNat (fr + lq)) kA1 hkA1 B c2 F2 _ P18) (by decide) (by decide) (by decide) (by decide) (by decide) (a := (n0 + 1)) (argsL := [.ref (n0 + 0), .int (Int32.ofNat fr), .int (Int32.ofNat (fr + lq))]) (rest := [.ref (n0 + 1)]) pd2 rfl rfl rfl (Nat.le_of_eq rfl) (hb hby at_157) (pc' := 160) rfl ?_
  intro _ T19 L9 X19 hq
  obtain ⟨rfl, N9, c3, F3, P19⟩ := hq
  replace N9 := Fr.app N8 N9
  replace P19 : HP n0 T19.heap [AC kA1 (List.map Value.int B), c3] := P19
  refine w_astore (l' := #[.val (.long x0), .second, .val (.int x1), .val (.int x2), .val (.int x3), .val (.int x4), .val (.int ff), .val (.int (Int8.toInt32 (Int32.toInt8 ((ff <<< ((3 : Int32) &&& 31)) ||| (2 : Int32))))), .val (.ref (n0 + 0)), .val (.int (Int32.ofNat fr)), .val (.int (Int32.ofNat (fr + lq))), .val (.ref (n0 + 1)), .unset, .unset, .unset, .unset, .unset, .unset, .unset, .unset]) X19 hx (hb hby at_160) rfl rfl (pc' := 162) rfl ?_
  refine w_aload X19 hx (hb hby at_162) rfl rfl (pc' := 164) rfl ?_
  refine w_iload X19 hx (hb hby at_164) rfl (pc' := 166) rfl ?_
  refine own_callV (W := 0) X19 hx hZ rfl hown hml.symm (wd21 hw) (wd22 hw) (wd24 hw) (wd23 hw) (wd8 hw) (wd25 hw) (rm_skip l Z a0 hw [] n0 kA1 B c3 ff fr (fr + lq) _ P19 hkA1 hB hBr F3 (by omega) (by omega)) (a := (n0 + 1)) (P19.exa (i := 1) rfl F3.1) (by decide) (by decide) (by decide) (by decide) (by decide) (argsL := [.int ff]) (rest := []) pd4 rfl rfl rfl (Nat.le_of_eq rfl) (hb hby at_166) (pc' := 169) rfl ?_
  intro v20 T20 L10 X20 hq
  obtain ⟨rfl, N10, c4, F4, P20⟩ := hq
  replace N10 := Fr.app N9 N10
  refine w_istore (l' := #[.val (.long x0), .second, .val (.int x1), .val (.int x2), .val (.int x3), .val (.int x4), .val (.int ff), .val (.int (Int8.toInt32 (Int32.toInt8 ((ff <<< ((3 : Int32) &&& 31)) ||| (2 : Int32))))), .val (.ref (n0 + 0)), .val (.int (Int32.ofNat fr)), .val (.int (Int32.ofNat (fr + lq))), .val (.ref (n0 + 1)), .val (.int (Int32.ofNat (own_sk B (Int8.toInt32 (Int32.toInt8 ((ff <<< ((3 : Int32) &&& 31)) ||| (2 : Int32)))) (fr + lq) 9 fr).2)), .unset, .unset, .unset, .unset, .unset, .unset, .unset]) X20 hx (hb hby at_169) rfl (pc' := 171) rfl ?_
  refine w_aload X20 hx (hb hby at_171) rfl rfl (pc' := 173) rfl ?_
  refine w_iload X20 hx (hb hby at_173) rfl (pc' := 175) rfl ?_
  refine w_iload X20 hx (hb hby at_175) rfl (pc' := 177) rfl ?_
  refine w_iload X20 hx (hb hby at_177) rfl (pc' := 179) rfl ?_
  refine own_call (W := 0) X20 hx hZ rfl hown hml.symm (wd26 hw) (wd27 hw) (wd3 hw) (wd28 hw) (rm_nxt l Z a0 hw [] n0 kA1 B c4 (Int8.toInt32 (Int32.toInt8 ((ff <<< ((3 : Int32) &&& 31)) ||| (2 : Int32)))) fr (fr + lq) _ P20 hkA1 hB hBr (by omega) (by omega)) (by decide) (by decide) (by decide) (by decide) (by decide) (argsL := [.ref (n0 + 0), .int (Int8.toInt32 (Int32.toInt8 ((ff <<< ((3 : Int32) &&& 31)) ||| (2 : Int32)))), .int (Int32.ofNat fr), .int (Int32.ofNat (fr + lq))]) (rest := []) pd5 rfl rfl rfl (Nat.le_of_eq rfl) (hb hby at_179) (pc' := 182) rfl ?_
  intro v21 T21 L11 X21 hq
  obtain ⟨rfl, N11, P21⟩ := hq
  replace N11 := Fr.app N10 N11
  cases en1 : own_nx B (Int8.toInt32 (Int32.toInt8 ((ff <<< ((3 : Int32) &&& 31)) ||| (2 : Int32)))) (fr + lq) fr with
  | none =>
    have hr : own_sk B (Int8.toInt32 (Int32.toInt8 ((ff <<< ((3 : Int32) &&& 31)) ||| (2 : Int32)))) (fr + lq) 9 fr = (fr, 0) := by rw [own_sk0 en1]
    show Wp _ _ _ _ _ _ _ _ (mkF m 182 #[.val (.long x0), .second, .val (.int x1), .val (.int x2), .val (.int x3), .val (.int x4), .val (.int ff), .val (.int (Int8.toInt32 (Int32.toInt8 ((ff <<< ((3 : Int32) &&& 31)) ||| (2 : Int32))))), .val (.ref (n0 + 0)), .val (.int (Int32.ofNat fr)), .val (.int (Int32.ofNat (fr + lq))), .val (.ref (n0 + 1)), .val (.int (Int32.ofNat (own_sk B (Int8.toInt32 (Int32.toInt8 ((ff <<< ((3 : Int32) &&& 31)) ||| (2 : Int32)))) (fr + lq) 9 fr).2)), .unset, .unset, .unset, .unset, .unset, .unset, .unset] [.int (-1 : Int32)])
    refine w_istore (l' := #[.val (.long x0), .second, .val (.int x1), .val (.int x2), .val (.int x3), .val (.int x4), .val (.int ff), .val (.int (Int8.toInt32 (Int32.toInt8 ((ff <<< ((3 : Int32) &&& 31)) ||| (2 : Int32))))), .val (.ref (n0 + 0)), .val (.int (Int32.ofNat fr)), .val (.int (Int32.ofNat (fr + lq))), .val (.ref (n0 + 1)), .val (.int (Int32.ofNat (own_sk B (Int8.toInt32 (Int32.toInt8 ((ff <<< ((3 : Int32) &&& 31)) ||| (2 : Int32)))) (fr + lq) 9 fr).2)), .val (.int (-1 : Int32)), .unset, .unset, .unset, .unset, .unset, .unset]) X21 hx (hb hby at_182) rfl (pc' := 184) rfl ?_
    refine w_aload X21 hx (hb hby at_184) rfl rfl (pc' := 186) rfl ?_
    refine w_iload X21 hx (hb hby at_186) rfl (pc' := 188) rfl ?_
    refine w_iload X21 hx (hb hby at_188) rfl (pc' := 190) rfl ?_
    refine w_iload X21 hx (hb hby at_190) rfl (pc' := 192) rfl ?_
    refine own_call (W := 0) X21 hx hZ rfl hown hml.symm (wd26 hw) (wd27 hw) (wd3 hw) (wd28 hw) (rm_nxm l Z a0 hw [] n0 kA1 B c4 (Int8.toInt32 (Int32.toInt8 ((ff <<< ((3 : Int32) &&& 31)) ||| (2 : Int32)))) (fr + lq) _ P21) (by decide) (by decide) (by decide) (by decide) (by decide) (argsL := [.ref (n0 + 0), .int (Int8.toInt32 (Int32.toInt8 ((ff <<< ((3 : Int32) &&& 31)) ||| (2 : Int32)))), .int (-1 : Int32), .int (Int32.ofNat (fr + lq))]) (rest := []) pd5 rfl rfl rfl (Nat.le_of_eq rfl) (hb hby at_192) (pc' := 195) rfl ?_
    intro v22 T22 L12 X22 hq
    obtain ⟨rfl, N12, P22⟩ := hq
    replace N12 := Fr.app N11 N12
    refine w_istore (l' := #[.val (.long x0), .second, .val (.int x1), .val (.int x2), .val (.int x3), .val (.int x4), .val (.int ff), .val (.int (Int8.toInt32 (Int32.toInt8 ((ff <<< ((3 : Int32) &&& 31)) ||| (2 : Int32))))), .val (.ref (n0 + 0)), .val (.int (Int32.ofNat fr)), .val (.int (Int32.ofNat (fr + lq))), .val (.ref (n0 + 1)), .val (.int (Int32.ofNat (own_sk B (Int8.toInt32 (Int32.toInt8 ((ff <<< ((3 : Int32) &&& 31)) ||| (2 : Int32)))) (fr + lq) 9 fr).2)), .val (.int (-1 : Int32)), .val (.int (-1 : Int32)), .unset, .unset, .unset, .unset, .unset]) X22 hx (hb hby at_195) rfl (pc' := 197) rfl ?_
    refine w_aload X22 hx (hb hby at_197) rfl rfl (pc' := 199) rfl ?_
    refine w_iload X22 hx (hb hby at_199) rfl (pc' := 201) rfl ?_
    refine w_iload X22 hx (hb hby at_201) rfl (pc' := 203) rfl ?_
    refine w_iload X22 hx (hb hby at_203) rfl (pc' := 205) rfl ?_
    refine own_call (W := 0) X22 hx hZ rfl hown hml.symm (wd26 hw) (wd27 hw) (wd3 hw) (wd28 hw) (rm_nxm l Z a0 hw [] n0 kA1 B c4 (Int8.toInt32 (Int32.toInt8 ((ff <<< ((3 : Int32) &&& 31)) ||| (2 : Int32)))) (fr + lq) _ P22) (by decide) (by decide) (by decide) (by decide) (by decide) (argsL := [.ref (n0 + 0), .int (Int8.toInt32 (Int32.toInt8 ((ff <<< ((3 : Int32) &&& 31)) ||| (2 : Int32)))), .int (-1 : Int32), .int (Int32.ofNat (fr + lq))]) (rest := []) pd5 rfl rfl rfl (Nat.le_of_eq rfl) (hb hby at_205) (pc' := 208) rfl ?_
    intro v23 T23 L13 X23 hq
    obtain ⟨rfl, N13, P23⟩ := hq
    replace N13 := Fr.app N12 N13
    refine w_istore (l' := #[.val (.long x0), .second, .val (.int x1), .val (.int x2), .val (.int x3), .val (.int x4), .val (.int ff), .val (.int (Int8.toInt32 (Int32.toInt8 ((ff <<< ((3 : Int32) &&& 31)) ||| (2 : Int32))))), .val (.ref (n0 + 0)), .val (.int (Int32.ofNat fr)), .val (.int (Int32.ofNat (fr + lq))), .val (.ref (n0 + 1)), .val (.int (Int32.ofNat (own_sk B (Int8.toInt32 (Int32.toInt8 ((ff <<< ((3 : Int32) &&& 31)) ||| (2 : Int32)))) (fr + lq) 9 fr).2)), .val (.int (-1 : Int32)), .val (.int (-1 : Int32)), .val (.int (-1 : Int32)), .unset, .unset, .unset, .unset]) X23 hx (hb hby at_208) rfl (pc' := 210) rfl ?_
    refine w_aload X23 hx (hb hby at_210) rfl rfl (pc' := 212) rfl ?_
    refine w_iload X23 hx (hb hby at_212) rfl (pc' := 214) rfl ?_
    refine w_iload X23 hx (hb hby at_214) rfl (pc' := 216) rfl ?_
    refine w_iload X23 hx (hb hby at_216) rfl (pc' := 218) rfl ?_
    refine own_call (W := 0) X23 hx hZ rfl hown hml.symm (wd26 hw) (wd27 hw) (wd3 hw) (wd28 hw) (rm_nxm l Z a0 hw [] n0 kA1 B c4 (Int8.toInt32 (Int32.toInt8 ((ff <<< ((3 : Int32) &&& 31)) ||| (2 : Int32)))) (fr + lq) _ P23) (by decide) (by decide) (by decide) (by decide) (by decide) (argsL := [.ref (n0 + 0), .int (Int8.toInt32 (Int32.toInt8 ((ff <<< ((3 : Int32) &&& 31)) ||| (2 : Int32)))), .int (-1 : Int32), .int (Int32.ofNat (fr + lq))]) (rest := []) pd5 rfl rfl rfl (Nat.le_of_eq rfl) (hb hby at_218) (pc' := 221) rfl ?_
    intro v24 T24 L14 X24 hq
    obtain ⟨rfl, N14, P24⟩ := hq
    replace N14 := Fr.app N13 N14
    refine w_istore (l' := #[.val (.long x0), .second, .val (.int x1), .val (.int x2), .val (.int x3), .val (.int x4), .val (.int ff), .val (.int (Int8.toInt32 (Int32.toInt8 ((ff <<< ((3 : Int32) &&& 31)) ||| (2 : Int32))))), .val (.ref (n0 + 0)), .val (.int (Int32.ofNat fr)), .val (.int (Int32.ofNat (fr + lq))), .val (.ref (n0 + 1)), .val (.int (Int32.ofNat (own_sk B (Int8.toInt32 (Int32.toInt8 ((ff <<< ((3 : Int32) &&& 31)) ||| (2 : Int32)))) (fr + lq) 9 fr).2)), .val (.int (-1 : Int32)), .val (.int (-1 : Int32)), .val (.int (-1 : Int32)), .val (.int (-1 : Int32)), .unset, .unset, .unset]) X24 hx (hb hby at_221) rfl (pc' := 223) rfl ?_
    refine w_aload X24 hx (hb hby at_223) rfl rfl (pc' := 225) rfl ?_
    refine w_iload X24 hx (hb hby at_225) rfl (pc' := 227) rfl ?_
    refine w_iload X24 hx (hb hby at_227) rfl (pc' := 229) rfl ?_
    refine w_iload X24 hx (hb hby at_229) rfl (pc' := 231) rfl ?_
    refine own_call (W := 0) X24 hx hZ rfl hown hml.symm (wd26 hw) (wd27 hw) (wd3 hw) (wd28 hw) (rm_nxm l Z a0 hw [] n0 kA1 B c4 (Int8.toInt32 (Int32.toInt8 ((ff <<< ((3 : Int32) &&& 31)) ||| (2 : Int32)))) (fr + lq) _ P24) (by decide) (by decide) (by decide) (by decide) (by decide) (argsL := [.ref (n0 + 0), .int (Int8.toInt32 (Int32.toInt8 ((ff <<< ((3 : Int32) &&& 31)) ||| (2 : Int32)))), .int (-1 : Int32), .int (Int32.ofNat (fr + lq))]) (rest := []) pd5 rfl rfl rfl (Nat.le_of_eq rfl) (hb hby at_231) (pc' := 234) rfl ?_
    intro v25 T25 L15 X25 hq
    obtain ⟨rfl, N15, P25⟩ := hq
    replace N15 := Fr.app N14 N15
    refine w_istore (l' := #[.val (.long x0), .second, .val (.int x1), .val (.int x2), .val (.int x3), .val (.int x4), .val (.int ff), .val (.int (Int8.toInt32 (Int32.toInt8 ((ff <<< ((3 : Int32) &&& 31)) ||| (2 : Int32))))), .val (.ref (n0 + 0)), .val (.int (Int32.ofNat fr)), .val (.int (Int32.ofNat (fr + lq))), .val (.ref (n0 + 1)), .val (.int (Int32.ofNat (own_sk B (Int8.toInt32 (Int32.toInt8 ((ff <<< ((3 : Int32) &&& 31)) ||| (2 : Int32)))) (fr + lq) 9 fr).2)), .val (.int (-1 : Int32)), .val (.int (-1 : Int32)), .val (.int (-1 : Int32)), .val (.int (-1 : Int32)), .val (.int (-1 : Int32)), .unset, .unset]) X25 hx (hb hby at_234) rfl (pc' := 236) rfl ?_
    refine w_iload X25 hx (hb hby at_236) rfl (pc' := 238) rfl ?_
    refine w_if_lt X25 hx (hb hby at_238) (by decide) (pcY := 245) (by decide) (pc' := 241) rfl (fun h0 => ?_) (fun h0 => absurd h0 (by decide))
    refine w_iconst (v := (0 : Int32)) X25 hx (hb hby at_245) rfl (pc' := 246) rfl ?_
    refine w_iload X25 hx (hb hby at_246) rfl (pc' := 248) rfl ?_
    refine w_if_lt X25 hx (hb hby at_248) (by decide) (pcY := 255) (by decide) (pc' := 251) rfl (fun h1 => ?_) (fun h1 => absurd h1 (by decide))
    refine w_iconst (v := (0 : Int32)) X25 hx (hb hby at_255) rfl (pc' := 256) rfl ?_
    refine w_iadd X25 hx (hb hby at_256) (pc' := 257) rfl ?_
    refine w_eqI (z := (0 : Int32)) (by decide) ?_
    refine w_iload X25 hx (hb hby at_257) rfl (pc' := 259) rfl ?_
    refine w_if_lt X25 hx (hb hby at_259) (by decide) (pcY := 266) (by decide) (pc' := 262) rfl (fun h2 => ?_) (fun h2 => absurd h2 (by decide))
    refine w_iconst (v := (0 : Int32)) X25 hx (hb hby at_266) rfl (pc' := 267) rfl ?_
    refine w_iadd X25 hx (hb hby at_267) (pc' := 268) rfl ?_
    refine w_eqI (z := (0 : Int32)) (by decide) ?_
    refine w_iload X25 hx (hb hby at_268) rfl (pc' := 270) rfl ?_
    refine w_if_lt X25 hx (hb hby at_270) (by decide) (pcY := 277) (by decide) (pc' := 273) rfl (fun h3 => ?_) (fun h3 => absurd h3 (by decide))
    refine w_iconst (v := (0 : Int32)) X25 hx (hb hby at_277) rfl (pc' := 278) rfl ?_
    refine w_iadd X25 hx (hb hby at_278) (pc' := 279) rfl ?_
    refine w_eqI (z := (0 : Int32)) (by decide) ?_
    refine w_iload X25 hx (hb hby at_279) rfl (pc' := 281) rfl ?_
    refine w_if_lt X25 hx (hb hby at_281) (by decide) (pcY := 288) (by decide) (pc' := 284) rfl (fun h4 => ?_) (fun h4 => absurd h4 (by decide))
    refine w_iconst (v := (0 : Int32)) X25 hx (hb hby at_288) rfl (pc' := 289) rfl ?_
    refine w_iadd X25 hx (hb hby at_289) (pc' := 290) rfl ?_
    refine w_eqI (z := (0 : Int32)) (by decide) ?_
    refine w_istore (l' := #[.val (.long x0), .second, .val (.int x1), .val (.int x2), .val (.int x3), .val (.int x4), .val (.int ff), .val (.int (Int8.toInt32 (Int32.toInt8 ((ff <<< ((3 : Int32) &&& 31)) ||| (2 : Int32))))), .val (.ref (n0 + 0)), .val (.int (Int32.ofNat fr)), .val (.int (Int32.ofNat (fr + lq))), .val (.ref (n0 + 1)), .val (.int (Int32.ofNat (own_sk B (Int8.toInt32 (Int32.toInt8 ((ff <<< ((3 : Int32) &&& 31)) ||| (2 : Int32)))) (fr + lq) 9 fr).2)), .val (.int (-1 : Int32)), .val (.int (-1 : Int32)), .val (.int (-1 : Int32)), .val (.int (-1 : Int32)), .val (.int (-1 : Int32)), .val (.int (0 : Int32)), .unset]) X25 hx (hb hby at_290) rfl (pc' := 292) rfl ?_
    refine w_iload X25 hx (hb hby at_292) rfl (pc' := 294) rfl ?_
    refine w_if_lt X25 hx (hb hby at_294) (by decide) (pcY := 302) (by decide) (pc' := 297) rfl (fun h5 => ?_) (fun h5 => absurd h5 (by decide))
    refine w_iload X25 hx (hb hby at_302) rfl (pc' := 304) rfl ?_
    refine w_if_lt X25 hx (hb hby at_304) (by decide) (pcY := 312) (by decide) (pc' := 307) rfl (fun h6 => ?_) (fun h6 => absurd h6 (by decide))
    refine w_iload X25 hx (hb hby at_312) rfl (pc' := 314) rfl ?_
    refine w_if_lt X25 hx (hb hby at_314) (by decide) (pcY := 322) (by decide) (pc' := 317) rfl (fun h7 => ?_) (fun h7 => absurd h7 (by decide))
    refine w_iload X25 hx (hb hby at_322) rfl (pc' := 324) rfl ?_
    refine w_if_lt X25 hx (hb hby at_324) (by decide) (pcY := 332) (by decide) (pc' := 327) rfl (fun h8 => ?_) (fun h8 => absurd h8 (by decide))
    refine w_iload X25 hx (hb hby at_332) rfl (pc' := 334) rfl ?_
    refine w_if_lt X25 hx (hb hby at_334) (by decide) (pcY := 342) (by decide) (pc' := 337) rfl (fun h9 => ?_) (fun h9 => absurd h9 (by decide))
    refine w_iload X25 hx (hb hby at_342) rfl (pc' := 344) rfl ?_
    refine w_istore (l' := #[.val (.long x0), .second, .val (.int x1), .val (.int x2), .val (.int x3), .val (.int x4), .val (.int ff), .val (.int (Int8.toInt32 (Int32.toInt8 ((ff <<< ((3 : Int32) &&& 31)) ||| (2 : Int32))))), .val (.ref (n0 + 0)), .val (.int (Int32.ofNat fr)), .val (.int (Int32.ofNat (fr + lq))), .val (.ref (n0 + 1)), .val (.int (Int32.ofNat (own_sk B (Int8.toInt32 (Int32.toInt8 ((ff <<< ((3 : Int32) &&& 31)) ||| (2 : Int32)))) (fr + lq) 9 fr).2)), .val (.int (-1 : Int32)), .val (.int (-1 : Int32)), .val (.int (-1 : Int32)), .val (.int (-1 : Int32)), .val (.int (-1 : Int32)), .val (.int (0 : Int32)), .val (.int (Int32.ofNat fr))]) X25 hx (hb hby at_344) rfl (pc' := 346) rfl ?_
    refine w_iload X25 hx (hb hby at_346) rfl (pc' := 348) rfl ?_
    refine w_iload X25 hx (hb hby at_348) rfl (pc' := 350) rfl ?_
    refine w_icmp_ne X25 hx (hb hby at_350) (by decide) (pcY := 380) (by decide) (pc' := 353) rfl (fun h10 => absurd (by rw [hr]; rfl) h10) (fun h10 => ?_)
    refine w_aload X25 hx (hb hby at_353) rfl rfl (pc' := 355) rfl ?_
    refine own_callV (W := 0) X25 hx hZ rfl hown hml.symm (wd29 hw) (wd30 hw) (wd32 hw) (wd31 hw) (wd8 hw) (wd33 hw) (rm6_1 l Z a0 hw [] n0 kA1 hkA1 B c4 (Int32.ofNat (own_sk B (Int8.toInt32 (Int32.toInt8 ((ff <<< ((3 : Int32) &&& 31)) ||| (2 : Int32)))) (fr + lq) 9 fr).1) (Int32.ofNat (fr + lq)) F4 _ P25) (a := (n0 + 1)) (P25.exa (i := 1) rfl F4.1) (by decide) (by decide) (by decide) (by decide) (by decide) (argsL := []) (rest := []) pd6 rfl rfl rfl (Nat.le_of_eq rfl) (hb hby at_355) (pc' := 358) rfl ?_
    intro _ T26 L16 X26 hq
    obtain ⟨rfl, N16, P26⟩ := hq
    replace N16 := Fr.app N15 N16
    replace P26 : HP n0 T26.heap [AC kA1 (List.map Value.int B), c4] := P26
    refine w_iload X26 hx (hb hby at_358) rfl (pc' := 360) rfl ?_
    refine w_icmp_ne X26 hx (hb hby at_360) (by decide) (pcY := 380) (by decide) (pc' := 363) rfl (fun h11 => absurd (by rw [hr]) h11) (fun h11 => ?_)
    refine w_aload X26 hx (hb hby at_363) rfl rfl (pc' := 365) rfl ?_
    refine own_callV (W := 0) X26 hx hZ rfl hown hml.symm (wd34 hw) (wd35 hw) (wd37 hw) (wd36 hw) (wd8 hw) (wd38 hw) (rm7_2 l Z a0 hw [] n0 kA1 hkA1 B c4 (Int32.ofNat (own_sk B (Int8.toInt32 (Int32.toInt8 ((ff <<< ((3 : Int32) &&& 31)) ||| (2 : Int32)))) (fr + lq) 9 fr).1) (Int32.ofNat (fr + lq)) F4 _ P26) (a := (n0 + 1)) (P26.exa (i := 1) rfl F4.1) (by decide) (by decide) (by decide) (by decide) (by decide) (argsL := []) (rest := []) pd7 rfl rfl rfl (Nat.le_of_eq rfl) (hb hby at_365) (pc' := 368) rfl ?_
    intro _ T27 L17 X27 hq
    obtain ⟨rfl, N17, P27⟩ := hq
    replace N17 := Fr.app N16 N17
    replace P27 : HP n0 T27.heap [AC kA1 (List.map Value.int B), c4] := P27
    refine w_iload X27 hx (hb hby at_368) rfl (pc' := 370) rfl ?_
    refine w_iload X27 hx (hb hby at_370) rfl (pc' := 372) rfl ?_
    refine w_isub X27 hx (hb hby at_372) (pc' := 373) rfl ?_
    refine w_eqI (z := (Int32.ofNat ((fr + lq) - fr))) (own_osub (a := (fr + lq)) (b := fr) (by omega)) ?_
    refine w_icmp_ne X27 hx (hb hby at_373) (by decide) (pcY := 380) (by decide) (pc' := 376) rfl (fun h12 => absurd (by rw [hr]; exact own_osub (by omega)) h12) (fun h12 => ?_)
    refine w_iconst (v := (1 : Int32)) X27 hx (hb hby at_376) rfl (pc' := 377) rfl ?_
    refine w_goto X27 hx (hb hby at_377) (by decide) (pc' := 381) (by decide) ?_
    exact w_ret_n (t := .boolean) X27 hx hret hlk (by simp) (hb hby at_381) (z' := (1 : Int32)) rfl (by decide) (by decide) ⟨rfl, N17⟩
  | some q1 =>
    have hq1 := own_nxb en1
    show Wp _ _ _ _ _ _ _ _ (mkF m 182 #[.val (.long x0), .second, .val (.int x1), .val (.int x2), .val (.int x3), .val (.int x4), .val (.int ff), .val (.int (Int8.toInt32 (Int32.toInt8 ((ff <<< ((3 : Int32) &&& 31)) ||| (2 : Int32))))), .val (.ref (n0 + 0)), .val (.int (Int32.ofNat fr)), .val (.int (Int32.ofNat (fr + lq))), .val (.ref (n0 + 1)), .val (.int (Int32.ofNat (own_sk B (Int8.toInt32 (Int32.toInt8 ((ff <<< ((3 : Int32) &&& 31)) ||| (2 : Int32)))) (fr + lq) 9 fr).2)), .unset, .unset, .unset, .unset, .unset, .unset, .unset] [.int (Int32.ofNat q1)])
    refine w_istore (l' := #[.val (.long x0), .second, .val (.int x1), .val (.int x2), .val (.int x3), .val (.int x4), .val (.int ff), .val (.int (Int8.toInt32 (Int32.toInt8 ((ff <<< ((3 : Int32) &&& 31)) ||| (2 : Int32))))), .val (.ref (n0 + 0)), .val (.int (Int32.ofNat fr)), .val (.int (Int32.ofNat (fr + lq))), .val (.ref (n0 + 1)), .val (.int (Int32.ofNat (own_sk B (Int8.toInt32 (Int32.toInt8 ((ff <<< ((3 : Int32) &&& 31)) ||| (2 : Int32)))) (fr + lq) 9 fr).2)), .val (.int (Int32.ofNat q1)), .unset, .unset, .unset, .unset, .unset, .unset]) X21 hx (hb hby at_182) rfl (pc' := 184) rfl ?_
    refine w_aload X21 hx (hb hby at_184) rfl rfl (pc' := 186) rfl ?_
    refine w_iload X21 hx (hb hby at_186) rfl (pc' := 188) rfl ?_
    refine w_iload X21 hx (hb hby at_188) rfl (pc' := 190) rfl ?_
    refine w_iload X21 hx (hb hby at_190) rfl (pc' := 192) rfl ?_
    refine own_call (W := 0) X21 hx hZ rfl hown hml.symm (wd26 hw) (wd27 hw) (wd3 hw) (wd28 hw) (rm_nxt l Z a0 hw [] n0 kA1 B c4 (Int8.toInt32 (Int32.toInt8 ((ff <<< ((3 : Int32) &&& 31)) ||| (2 : Int32)))) q1 (fr + lq) _ P21 hkA1 hB hBr (by omega) (by omega)) (by decide) (by decide) (by decide) (by decide) (by decide) (argsL := [.ref (n0 + 0), .int (Int8.toInt32 (Int32.toInt8 ((ff <<< ((3 : Int32) &&& 31)) ||| (2 : Int32)))), .int (Int32.ofNat q1), .int (Int32.ofNat (fr + lq))]) (rest := []) pd5 rfl rfl rfl (Nat.le_of_eq rfl) (hb hby at_192) (pc' := 195) rfl ?_
    intro v28 T28 L18 X28 hq
    obtain ⟨rfl, N18, P28⟩ := hq
    replace N18 := Fr.app N11 N18
    cases en2 : own_nx B (Int8.toInt32 (Int32.toInt8 ((ff <<< ((3 : Int32) &&& 31)) ||| (2 : Int32)))) (fr + lq) q1 with
    | none =>
      have hr : own_sk B (Int8.toInt32 (Int32.toInt8 ((ff <<< ((3 : Int32) &&& 31)) ||| (2 : Int32)))) (fr + lq) 9 fr = (q1, 1) := by rw [own_sk1 en1, own_sk0 en2]
      show Wp _ _ _ _ _ _ _ _ (mkF m 195 #[.val (.long x0), .second, .val (.int x1), .val (.int x2), .val (.int x3), .val (.int x4), .val (.int ff), .val (.int (Int8.toInt32 (Int32.toInt8 ((ff <<< ((3 : Int32) &&& 31)) ||| (2 : Int32))))), .val (.ref (n0 + 0)), .val (.int (Int32.ofNat fr)), .val (.int (Int32.ofNat (fr + lq))), .val (.ref (n0 + 1)), .val (.int (Int32.ofNat (own_sk B (Int8.toInt32 (Int32.toInt8 ((ff <<< ((3 : Int32) &&& 31)) ||| (2 : Int32)))) (fr + lq) 9 fr).2)), .val (.int (Int32.ofNat q1)), .unset, .unset, .unset, .unset, .unset, .unset] [.int (-1 : Int32)])
      refine w_istore (l' := #[.val (.long x0), .second, .val (.int x1), .val (.int x2), .val (.int x3), .val (.int x4), .val (.int ff), .val (.int (Int8.toInt32 (Int32.toInt8 ((ff <<< ((3 : Int32) &&& 31)) ||| (2 : Int32))))), .val (.ref (n0 + 0)), .val (.int (Int32.ofNat fr)), .val (.int (Int32.ofNat (fr + lq))), .val (.ref (n0 + 1)), .val (.int (Int32.ofNat (own_sk B (Int8.toInt32 (Int32.toInt8 ((ff <<< ((3 : Int32) &&& 31)) ||| (2 : Int32)))) (fr + lq) 9 fr).2)), .val (.int (Int32.ofNat q1)), .val (.int (-1 : Int32)), .unset, .unset, .unset, .unset, .unset]) X28 hx (hb hby at_195) rfl (pc' := 197) rfl ?_
      refine w_aload X28 hx (hb hby at_197) rfl rfl (pc' := 199) rfl ?_
      refine w_iload X28 hx (hb hby at_199) rfl (pc' := 201) rfl ?_
      refine w_iload X28 hx (hb hby at_201) rfl (pc' := 203) rfl ?_
      refine w_iload X28 hx (hb hby at_203) rfl (pc' := 205) rfl ?_
      refine own_call (W := 0) X28 hx hZ rfl hown hml.symm (wd26 hw) (wd27 hw) (wd3 hw) (wd28 hw) (rm_nxm l Z a0 hw [] n0 kA1 B c4 (Int8.toInt32 (Int32.toInt8 ((ff <<< ((3 : Int32) &&& 31)) ||| (2 : Int32)))) (fr + lq) _ P28) (by decide) (by decide) (by decide) (by decide) (by decide) (argsL := [.ref (n0 + 0), .int (Int8.toInt32 (Int32.toInt8 ((ff <<< ((3 : Int32) &&& 31)) ||| (2 : Int32)))), .int (-1 : Int32), .int (Int32.ofNat (fr + lq))]) (rest := []) pd5 rfl rfl rfl (Nat.le_of_eq rfl) (hb hby at_205) (pc' := 208) rfl ?_
      intro v29 T29 L19 X29 hq
      obtain ⟨rfl, N19, P29⟩ := hq
      replace N19 := Fr.app N18 N19
      refine w_istore (l' := #[.val (.long x0), .second, .val (.int x1), .val (.int x2), .val (.int x3), .val (.int x4), .val (.int ff), .val (.int (Int8.toInt32 (Int32.toInt8 ((ff <<< ((3 : Int32) &&& 31)) ||| (2 : Int32))))), .val (.ref (n0 + 0)), .val (.int (Int32.ofNat fr)), .val (.int (Int32.ofNat (fr + lq))), .val (.ref (n0 + 1)), .val (.int (Int32.ofNat (own_sk B (Int8.toInt32 (Int32.toInt8 ((ff <<< ((3 : Int32) &&& 31)) ||| (2 : Int32)))) (fr + lq) 9 fr).2)), .val (.int (Int32.ofNat q1)), .val (.int (-1 : Int32)), .val (.int (-1 : Int32)), .unset, .unset, .unset, .unset]) X29 hx (hb hby at_208) rfl (pc' := 210) rfl ?_
      refine w_aload X29 hx (hb hby at_210) rfl rfl (pc' := 212) rfl ?_
      refine w_iload X29 hx (hb hby at_212) rfl (pc' := 214) rfl ?_
      refine w_iload X29 hx (hb hby at_214) rfl (pc' := 216) rfl ?_
      refine w_iload X29 hx (hb hby at_216) rfl (pc' := 218) rfl ?_
      refine own_call (W := 0) X29 hx hZ rfl hown hml.symm (wd26 hw) (wd27 hw) (wd3 hw) (wd28 hw) (rm_nxm l Z a0 hw [] n0 kA1 B c4 (Int8.toInt32 (Int32.toInt8 ((ff <<< ((3 : Int32) &&& 31)) ||| (2 : Int32)))) (fr + lq) _ P29) (by decide) (by decide) (by decide) (by decide) (by decide) (argsL := [.ref (n0 + 0), .int (Int8.toInt32 (Int32.toInt8 ((ff <<< ((3 : Int32) &&& 31)) ||| (2 : Int32)))), .int (-1 : Int32), .int (Int32.ofNat (fr + lq))]) (rest := []) pd5 rfl rfl rfl (Nat.le_of_eq rfl) (hb hby at_218) (pc' := 221) rfl ?_
      intro v30 T30 L20 X30 hq
      obtain ⟨rfl, N20, P30⟩ := hq
      replace N20 := Fr.app N19 N20
      refine w_istore (l' := #[.val (.long x0), .second, .val (.int x1), .val (.int x2), .val (.int x3), .val (.int x4), .val (.int ff), .val (.int (Int8.toInt32 (Int32.toInt8 ((ff <<< ((3 : Int32) &&& 31)) ||| (2 : Int32))))), .val (.ref (n0 + 0)), .val (.int (Int32.ofNat fr)), .val (.int (Int32.ofNat (fr + lq))), .val (.ref (n0 + 1)), .val (.int (Int32.ofNat (own_sk B (Int8.toInt32 (Int32.toInt8 ((ff <<< ((3 : Int32) &&& 31)) ||| (2 : Int32)))) (fr + lq) 9 fr).2)), .val (.int (Int32.ofNat q1)), .val (.int (-1 : Int32)), .val (.int (-1 : Int32)), .val (.int (-1 : Int32)), .unset, .unset, .unset]) X30 hx (hb hby at_221) rfl (pc' := 223) rfl ?_
      refine w_aload X30 hx (hb hby at_223) rfl rfl (pc' := 225) rfl ?_
      refine w_iload X30 hx (hb hby at_225) rfl (pc' := 227) rfl ?_
      refine w_iload X30 hx (hb hby at_227) rfl (pc' := 229) rfl ?_
      refine w_iload X30 hx (hb hby at_229) rfl (pc' := 231) rfl ?_
      refine own_call (W := 0) X30 hx hZ rfl hown hml.symm (wd26 hw) (wd27 hw) (wd3 hw) (wd28 hw) (rm_nxm l Z a0 hw [] n0 kA1 B c4 (Int8.toInt32 (Int32.toInt8 ((ff <<< ((3 : Int32) &&& 31)) ||| (2 : Int32)))) (fr + lq) _ P30) (by decide) (by decide) (by decide) (by decide) (by decide) (argsL := [.ref (n0 + 0), .int (Int8.toInt32 (Int32.toInt8 ((ff <<< ((3 : Int32) &&& 31)) ||| (2 : Int32)))), .int (-1 : Int32), .int (Int32.ofNat (fr + lq))]) (rest := []) pd5 rfl rfl rfl (Nat.le_of_eq rfl) (hb hby at_231) (pc' := 234) rfl ?_
      intro v31 T31 L21 X31 hq
      obtain ⟨rfl, N21, P31⟩ := hq
      replace N21 := Fr.app N20 N21
      refine w_istore (l' := #[.val (.long x0), .second, .val (.int x1), .val (.int x2), .val (.int x3), .val (.int x4), .val (.int ff), .val (.int (Int8.toInt32 (Int32.toInt8 ((ff <<< ((3 : Int32) &&& 31)) ||| (2 : Int32))))), .val (.ref (n0 + 0)), .val (.int (Int32.ofNat fr)), .val (.int (Int32.ofNat (fr + lq))), .val (.ref (n0 + 1)), .val (.int (Int32.ofNat (own_sk B (Int8.toInt32 (Int32.toInt8 ((ff <<< ((3 : Int32) &&& 31)) ||| (2 : Int32)))) (fr + lq) 9 fr).2)), .val (.int (Int32.ofNat q1)), .val (.int (-1 : Int32)), .val (.int (-1 : Int32)), .val (.int (-1 : Int32)), .val (.int (-1 : Int32)), .unset, .unset]) X31 hx (hb hby at_234) rfl (pc' := 236) rfl ?_
      refine w_iload X31 hx (hb hby at_236) rfl (pc' := 238) rfl ?_
      refine w_if_lt X31 hx (hb hby at_238) (by decide) (pcY := 245) (by decide) (pc' := 241) rfl (fun h13 => absurd ((own_olt (a := q1) (b := 0) (by omega) (by omega)).mp h13) (Nat.not_lt_zero _)) (fun h13 => ?_)
      refine w_iconst (v := (1 : Int32)) X31 hx (hb hby at_241) rfl (pc' := 242) rfl ?_
      refine w_goto X31 hx (hb hby at_242) (by decide) (pc' := 246) (by decide) ?_
      refine w_iload X31 hx (hb hby at_246) rfl (pc' := 248) rfl ?_
      refine w_if_lt X31 hx (hb hby at_248) (by decide) (pcY := 255) (by decide) (pc' := 251) rfl (fun h14 => ?_) (fun h14 => absurd h14 (by decide))
      refine w_iconst (v := (0 : Int32)) X31 hx (hb hby at_255) rfl (pc' := 256) rfl ?_
      refine w_iadd X31 hx (hb hby at_256) (pc' := 257) rfl ?_
      refine w_eqI (z := (1 : Int32)) (by decide) ?_
      refine w_iload X31 hx (hb hby at_257) rfl (pc' := 259) rfl ?_
      refine w_if_lt X31 hx (hb hby at_259) (by decide) (pcY := 266) (by decide) (pc' := 262) rfl (fun h15 => ?_) (fun h15 => absurd h15 (by decide))
      refine w_iconst (v := (0 : Int32)) X31 hx (hb hby at_266) rfl (pc' := 267) rfl ?_
      refine w_iadd X31 hx (hb hby at_267) (pc' := 268) rfl ?_
      refine w_eqI (z := (1 : Int32)) (by decide) ?_
      refine w_iload X31 hx (hb hby at_268) rfl (pc' := 270) rfl ?_
      refine w_if_lt X31 hx (hb hby at_270) (by decide) (pcY := 277) (by decide) (pc' := 273) rfl (fun h16 => ?_) (fun h16 => absurd h16 (by decide))
      refine w_iconst (v := (0 : Int32)) X31 hx (hb hby at_277) rfl (pc' := 278) rfl ?_
      refine w_iadd X31 hx (hb hby at_278) (pc' := 279) rfl ?_
      refine w_eqI (z := (1 : Int32)) (by decide) ?_
      refine w_iload X31 hx (hb hby at_279) rfl (pc' := 281) rfl ?_
      refine w_if_lt X31 hx (hb hby at_281) (by decide) (pcY := 288) (by decide) (pc' := 284) rfl (fun h17 => ?_) (fun h17 => absurd h17 (by decide))
      refine w_iconst (v := (0 : Int32)) X31 hx (hb hby at_288) rfl (pc' := 289) rfl ?_
      refine w_iadd X31 hx (hb hby at_289) (pc' := 290) rfl ?_
      refine w_eqI (z := (1 : Int32)) (by decide) ?_
      refine w_istore (l' := #[.val (.long x0), .second, .val (.int x1), .val (.int x2), .val (.int x3), .val (.int x4), .val (.int ff), .val (.int (Int8.toInt32 (Int32.toInt8 ((ff <<< ((3 : Int32) &&& 31)) ||| (2 : Int32))))), .val (.ref (n0 + 0)), .val (.int (Int32.ofNat fr)), .val (.int (Int32.ofNat (fr + lq))), .val (.ref (n0 + 1)), .val (.int (Int32.ofNat (own_sk B (Int8.toInt32 (Int32.toInt8 ((ff <<< ((3 : Int32) &&& 31)) ||| (2 : Int32)))) (fr + lq) 9 fr).2)), .val (.int (Int32.ofNat q1)), .val (.int (-1 : Int32)), .val (.int (-1 : Int32)), .val (.int (-1 : Int32)), .val (.int (-1 : Int32)), .val (.int (1 : Int32)), .unset]) X31 hx (hb hby at_290) rfl (pc' := 292) rfl ?_
      refine w_iload X31 hx (hb hby at_292) rfl (pc' := 294) rfl ?_
      refine w_if_lt X31 hx (hb hby at_294) (by decide) (pcY := 302) (by decide) (pc' := 297) rfl (fun h18 => ?_) (fun h18 => absurd h18 (by decide))
      refine w_iload X31 hx (hb hby at_302) rfl (pc' := 304) rfl ?_
      refine w_if_lt X31 hx (hb hby at_304) (by decide) (pcY := 312) (by decide) (pc' := 307) rfl (fun h19 => ?_) (fun h19 => absurd h19 (by decide))
      refine w_iload X31 hx (hb hby at_312) rfl (pc' := 314) rfl ?_
      refine w_if_lt X31 hx (hb hby at_314) (by decide) (pcY := 322) (by decide) (pc' := 317) rfl (fun h20 => ?_) (fun h20 => absurd h20 (by decide))
      refine w_iload X31 hx (hb hby at_322) rfl (pc' := 324) rfl ?_
      refine w_if_lt X31 hx (hb hby at_324) (by decide) (pcY := 332) (by decide) (pc' := 327) rfl (fun h21 => ?_) (fun h21 => absurd h21 (by decide))
      refine w_iload X31 hx (hb hby at_332) rfl (pc' := 334) rfl ?_
      refine w_if_lt X31 hx (hb hby at_334) (by decide) (pcY := 342) (by decide) (pc' := 337) rfl (fun h22 => absurd ((own_olt (a := q1) (b := 0) (by omega) (by omega)).mp h22) (Nat.not_lt_zero _)) (fun h22 => ?_)
      refine w_iload X31 hx (hb hby at_337) rfl (pc' := 339) rfl ?_
      refine w_goto X31 hx (hb hby at_339) (by decide) (pc' := 344) (by decide) ?_
      refine w_istore (l' := #[.val (.long x0), .second, .val (.int x1), .val (.int x2), .val (.int x3), .val (.int x4), .val (.int ff), .val (.int (Int8.toInt32 (Int32.toInt8 ((ff <<< ((3 : Int32) &&& 31)) ||| (2 : Int32))))), .val (.ref (n0 + 0)), .val (.int (Int32.ofNat fr)), .val (.int (Int32.ofNat (fr + lq))), .val (.ref (n0 + 1)), .val (.int (Int32.ofNat (own_sk B (Int8.toInt32 (Int32.toInt8 ((ff <<< ((3 : Int32) &&& 31)) ||| (2 : Int32)))) (fr + lq) 9 fr).2)), .val (.int (Int32.ofNat q1)), .val (.int (-1 : Int32)), .val (.int (-1 : Int32)), .val (.int (-1 : Int32)), .val (.int (-1 : Int32)), .val (.int (1 : Int32)), .val (.int (Int32.ofNat q1))]) X31 hx (hb hby at_344) rfl (pc' := 346) rfl ?_
      refine w_iload X31 hx (hb hby at_346) rfl (pc' := 348) rfl ?_
      refine w_iload X31 hx (hb hby at_348) rfl (pc' := 350) rfl ?_
      refine w_icmp_ne X31 hx (hb hby at_350) (by decide) (pcY := 380) (by decide) (pc' := 353) rfl (fun h23 => absurd (by rw [hr]; rfl) h23) (fun h23 => ?_)
      refine w_aload X31 hx (hb hby at_353) rfl rfl (pc' := 355) rfl ?_
      refine own_callV (W := 0) X31 hx hZ rfl hown hml.symm (wd29 hw) (wd30 hw) (wd32 hw) (wd31 hw) (wd8 hw) (wd33 hw) (rm6_1 l Z a0 hw [] n0 kA1 hkA1 B c4 (Int32.ofNat (own_sk B (Int8.toInt32 (Int32.toInt8 ((ff <<< ((3 : Int32) &&& 31)) ||| (2 : Int32)))) (fr + lq) 9 fr).1) (Int32.ofNat (fr + lq)) F4 _ P31) (a := (n0 + 1)) (P31.exa (i := 1) rfl F4.1) (by decide) (by decide) (by decide) (by decide) (by decide) (argsL := []) (rest := []) pd6 rfl rfl rfl (Nat.le_of_eq rfl) (hb hby at_355) (pc' := 358) rfl ?_
      intro _ T32 L22 X32 hq
      obtain ⟨rfl, N22, P32⟩ := hq
      replace N22 := Fr.app N21 N22
      replace P32 : HP n0 T32.heap [AC kA1 (List.map Value.int B), c4] := P32
      refine w_iload X32 hx (hb hby at_358) rfl (pc' := 360) rfl ?_
      refine w_icmp_ne X32 hx (hb hby at_360) (by decide) (pcY := 380) (by decide) (pc' := 363) rfl (fun h24 => absurd (by rw [hr]) h24) (fun h24 => ?_)
      refine w_aload X32 hx (hb hby at_363) rfl rfl (pc' := 365) rfl ?_
      refine own_callV (W := 0) X32 hx hZ rfl hown hml.symm (wd34 hw) (wd35 hw) (wd37 hw) (wd36 hw) (wd8 hw) (wd38 hw) (rm7_2 l Z a0 hw [] n0 kA1 hkA1 B c4 (Int32.ofNat (own_sk B (Int8.toInt32 (Int32.toInt8 ((ff <<< ((3 : Int32) &&& 31)) ||| (2 : Int32)))) (fr + lq) 9 fr).1) (Int32.ofNat (fr + lq)) F4 _ P32) (a := (n0 + 1)) (P32.exa (i := 1) rfl F4.1) (by decide) (by decide) (by decide) (by decide) (by decide) (argsL := []) (rest := []) pd7 rfl rfl rfl (Nat.le_of_eq rfl) (hb hby at_365) (pc' := 368) rfl ?_
      intro _ T33 L23 X33 hq
      obtain ⟨rfl, N23, P33⟩ := hq
      replace N23 := Fr.app N22 N23
      replace P33 : HP n0 T33.heap [AC kA1 (List.map Value.int B), c4] := P33
      refine w_iload X33 hx (hb hby at_368) rfl (pc' := 370) rfl ?_
      refine w_iload X33 hx (hb hby at_370) rfl (pc' := 372) rfl ?_
      refine w_isub X33 hx (hb hby at_372) (pc' := 373) rfl ?_
      refine w_eqI (z := (Int32.ofNat ((fr + lq) - q1))) (own_osub (a := (fr + lq)) (b := q1) (by omega)) ?_
      refine w_icmp_ne X33 hx (hb hby at_373) (by decide) (pcY := 380) (by decide) (pc' := 376) rfl (fun h25 => absurd (by rw [hr]; exact own_osub (by omega)) h25) (fun h25 => ?_)
      refine w_iconst (v := (1 : Int32)) X33 hx (hb hby at_376) rfl (pc' := 377) rfl ?_
      refine w_goto X33 hx (hb hby at_377) (by decide) (pc' := 381) (by decide) ?_
      exact w_ret_n (t := .boolean) X33 hx hret hlk (by simp) (hb hby at_381) (z' := (1 : Int32)) rfl (by decide) (by decide) ⟨rfl, N23⟩
    | some q2 =>
      have hq2 := own_nxb en2
      show Wp _ _ _ _ _ _ _ _ (mkF m 195 #[.val (.long x0), .second, .val (.int x1), .val (.int x2), .val (.int x3), .val (.int x4), .val (.int ff), .val (.int (Int8.toInt32 (Int32.toInt8 ((ff <<< ((3 : Int32) &&& 31)) ||| (2 : Int32))))), .val (.ref (n0 + 0)), .val (.int (Int32.ofNat fr)), .val (.int (Int32.ofNat (fr + lq))), .val (.ref (n0 + 1)), .val (.int (Int32.ofNat (own_sk B (Int8.toInt32 (Int32.toInt8 ((ff <<< ((3 : Int32) &&& 31)) ||| (2 : Int32)))) (fr + lq) 9 fr).2)), .val (.int (Int32.ofNat q1)), .unset, .unset, .unset, .unset, .unset, .unset] [.int (Int32.ofNat q2)])
      refine w_istore (l' := #[.val (.long x0), .second, .val (.int x1), .val (.int x2), .val (.int x3), .val (.int x4), .val (.int ff), .val (.int (Int8.toInt32 (Int32.toInt8 ((ff <<< ((3 : Int32) &&& 31)) ||| (2 : Int32))))), .val (.ref (n0 + 0)), .val (.int (Int32.ofNat fr)), .val (.int (Int32.ofNat (fr + lq))), .val (.ref (n0 + 1)), .val (.int (Int32.ofNat (own_sk B (Int8.toInt32 (Int32.toInt8 ((ff <<< ((3 : Int32) &&& 31)) ||| (2 : Int32)))) (fr + lq) 9 fr).2)), .val (.int (Int32.ofNat q1)), .val (.int (Int32.ofNat q2)), .unset, .unset, .unset, .unset, .unset]) X28 hx (hb hby at_195) rfl (pc' := 197) rfl ?_
      refine w_aload X28 hx (hb hby at_197) rfl rfl (pc' := 199) rfl ?_
      refine w_iload X28 hx (hb hby at_199) rfl (pc' := 201) rfl ?_
      refine w_iload X28 hx (hb hby at_201) rfl (pc' := 203) rfl ?_
      refine w_iload X28 hx (hb hby at_203) rfl (pc' := 205) rfl ?_
      refine own_call (W := 0) X28 hx hZ rfl hown hml.symm (wd26 hw) (wd27 hw) (wd3 hw) (wd28 hw) (rm_nxt l Z a0 hw [] n0 kA1 B c4 (Int8.toInt32 (Int32.toInt8 ((ff <<< ((3 : Int32) &&& 31)) ||| (2 : Int32)))) q2 (fr + lq) _ P28 hkA1 hB hBr (by omega) (by omega)) (by decide) (by decide) (by decide) (by decide) (by decide) (argsL := [.ref (n0 + 0), .int (Int8.toInt32 (Int32.toInt8 ((ff <<< ((3 : Int32) &&& 31)) ||| (2 : Int32)))), .int (Int32.ofNat q2), .int (Int32.ofNat (fr + lq))]) (rest := []) pd5 rfl rfl rfl (Nat.le_of_eq rfl) (hb hby at_205) (pc' := 208) rfl ?_
      intro v34 T34 L24 X34 hq
      obtain ⟨rfl, N24, P34⟩ := hq
      replace N24 := Fr.app N18 N24
      cases en3 : own_nx B (Int8.toInt32 (Int32.toInt8 ((ff <<< ((3 : Int32) &&& 31)) ||| (2 : Int32)))) (fr + lq) q2 with
      | none =>
        have hr : own_sk B (Int8.toInt32 (Int32.toInt8 ((ff <<< ((3 : Int32) &&& 31)) ||| (2 : Int32)))) (fr + lq) 9 fr = (q2, 2) := by rw [own_sk1 en1, own_sk1 en2, own_sk0 en3]
        show Wp _ _ _ _ _ _ _ _ (mkF m 208 #[.val (.long x0), .second, .val (.int x1), .val (.int x2), .val (.int x3), .val (.int x4), .val (.int ff), .val (.int (Int8.toInt32 (Int32.toInt8 ((ff <<< ((3 : Int32) &&& 31)) ||| (2 : Int32))))), .val (.ref (n0 + 0)), .val (.int (Int32.ofNat fr)), .val (.int (Int32.ofNat (fr + lq))), .val (.ref (n0 + 1)), .val (.int (Int32.ofNat (own_sk B (Int8.toInt32 (Int32.toInt8 ((ff <<< ((3 : Int32) &&& 31)) ||| (2 : Int32)))) (fr + lq) 9 fr).2)), .val (.int (Int32.ofNat q1)), .val (.int (Int32.ofNat q2)), .unset, .unset, .unset, .unset, .unset] [.int (-1 : Int32)])
        refine w_istore (l' := #[.val (.long x0), .second, .val (.int x1), .val (.int x2), .val (.int x3), .val (.int x4), .val (.int ff), .val (.int (Int8.toInt32 (Int32.toInt8 ((ff <<< ((3 : Int32) &&& 31)) ||| (2 : Int32))))), .val (.ref (n0 + 0)), .val (.int (Int32.ofNat fr)), .val (.int (Int32.ofNat (fr + lq))), .val (.ref (n0 + 1)), .val (.int (Int32.ofNat (own_sk B (Int8.toInt32 (Int32.toInt8 ((ff <<< ((3 : Int32) &&& 31)) ||| (2 : Int32)))) (fr + lq) 9 fr).2)), .val (.int (Int32.ofNat q1)), .val (.int (Int32.ofNat q2)), .val (.int (-1 : Int32)), .unset, .unset, .unset, .unset]) X34 hx (hb hby at_208) rfl (pc' := 210) rfl ?_
        refine w_aload X34 hx (hb hby at_210) rfl rfl (pc' := 212) rfl ?_
        refine w_iload X34 hx (hb hby at_212) rfl (pc' := 214) rfl ?_
        refine w_iload X34 hx (hb hby at_214) rfl (pc' := 216) rfl ?_
        refine w_iload X34 hx (hb hby at_216) rfl (pc' := 218) rfl ?_
        refine own_call (W := 0) X34 hx hZ rfl hown hml.symm (wd26 hw) (wd27 hw) (wd3 hw) (wd28 hw) (rm_nxm l Z a0 hw [] n0 kA1 B c4 (Int8.toInt32 (Int32.toInt8 ((ff <<< ((3 : Int32) &&& 31)) ||| (2 : Int32)))) (fr + lq) _ P34) (by decide) (by decide) (by decide) (by decide) (by decide) (argsL := [.ref (n0 + 0), .int (Int8.toInt32 (Int32.toInt8 ((ff <<< ((3 : Int32) &&& 31)) ||| (2 : Int32)))), .int (-1 : Int32), .int (Int32.ofNat (fr + lq))]) (rest := []) pd5 rfl rfl rfl (Nat.le_of_eq rfl) (hb hby at_218) (pc' := 221) rfl ?_
        intro v35 T35 L25 X35 hq
        obtain ⟨rfl, N25, P35⟩ := hq
        replace N25 := Fr.app N24 N25
        refine w_istore (l' := #[.val (.long x0), .second, .val (.int x1), .val (.int x2), .val (.int x3), .val (.int x4), .val (.int ff), .val (.int (Int8.toInt32 (Int32.toInt8 ((ff <<< ((3 : Int32) &&& 31)) ||| (2 : Int32))))), .val (.ref (n0 + 0)), .val (.int (Int32.ofNat fr)), .val (.int (Int32.ofNat (fr + lq))), .val (.ref (n0 + 1)), .val (.int (Int32.ofNat (own_sk B (Int8.toInt32 (Int32.toInt8 ((ff <<< ((3 : Int32) &&& 31)) ||| (2 : Int32)))) (fr + lq) 9 fr).2)), .val (.int (Int32.ofNat q1)), .val (.int (Int32.ofNat q2)), .val (.int (-1 : Int32)), .val (.int (-1 : Int32)), .unset, .unset, .unset]) X35 hx (hb hby at_221) rfl (pc' := 223) rfl ?_
        refine w_aload X35 hx (hb hby at_223) rfl rfl (pc' := 225) rfl ?_
        refine w_iload X35 hx (hb hby at_225) rfl (pc' := 227) rfl ?_
        refine w_iload X35 hx (hb hby at_227) rfl (pc' := 229) rfl ?_
        refine w_iload X35 hx (hb hby at_229) rfl (pc' := 231) rfl ?_
        refine own_call (W := 0) X35 hx hZ rfl hown hml.symm (wd26 hw) (wd27 hw) (wd3 hw) (wd28 hw) (rm_nxm l Z a0 hw [] n0 kA1 B c4 (Int8.toInt32 (Int32.toInt8 ((ff <<< ((3 : Int32) &&& 31)) ||| (2 : Int32)))) (fr + lq) _ P35) (by decide) (by decide) (by decide) (by decide) (by decide) (argsL := [.ref (n0 + 0), .int (Int8.toInt32 (Int32.toInt8 ((ff <<< ((3 : Int32) &&& 31)) ||| (2 : Int32)))), .int (-1 : Int32), .int (Int32.ofNat (fr + lq))]) (rest := []) pd5 rfl rfl rfl (Nat.le_of_eq rfl) (hb hby at_231) (pc' := 234) rfl ?_
        intro v36 T36 L26 X36 hq
        obtain ⟨rfl, N26, P36⟩ := hq
        replace N26 := Fr.app N25 N26
        refine w_istore (l' := #[.val (.long x0), .second, .val (.int x1), .val (.int x2), .val (.int x3), .val (.int x4), .val (.int ff), .val (.int (Int8.toInt32 (Int32.toInt8 ((ff <<< ((3 : Int32) &&& 31)) ||| (2 : Int32))))), .val (.ref (n0 + 0)), .val (.int (Int32.ofNat fr)), .val (.int (Int32.ofNat (fr + lq))), .val (.ref (n0 + 1)), .val (.int (Int32.ofNat (own_sk B (Int8.toInt32 (Int32.toInt8 ((ff <<< ((3 : Int32) &&& 31)) ||| (2 : Int32)))) (fr + lq) 9 fr).2)), .val (.int (Int32.ofNat q1)), .val (.int (Int32.ofNat q2)), .val (.int (-1 : Int32)), .val (.int (-1 : Int32)), .val (.int (-1 : Int32)), .unset, .unset]) X36 hx (hb hby at_234) rfl (pc' := 236) rfl ?_
        refine w_iload X36 hx (hb hby at_236) rfl (pc' := 238) rfl ?_
        refine w_if_lt X36 hx (hb hby at_238) (by decide) (pcY := 245) (by decide) (pc' := 241) rfl (fun h26 => absurd ((own_olt (a := q1) (b := 0) (by omega) (by omega)).mp h26) (Nat.not_lt_zero _)) (fun h26 => ?_)
        refine w_iconst (v := (1 : Int32)) X36 hx (hb hby at_241) rfl (pc' := 242) rfl ?_
        refine w_goto X36 hx (hb hby at_242) (by decide) (pc' := 246) (by decide) ?_
        refine w_iload X36 hx (hb hby at_246) rfl (pc' := 248) rfl ?_
        refine w_if_lt X36 hx (hb hby at_248) (by decide) (pcY := 255) (by decide) (pc' := 251) rfl (fun h27 => absurd ((own_olt (a := q2) (b := 0) (by omega) (by omega)).mp h27) (Nat.not_lt_zero _)) (fun h27 => ?_)
        refine w_iconst (v := (1 : Int32)) X36 hx (hb hby at_251) rfl (pc' := 252) rfl ?_
        refine w_goto X36 hx (hb hby at_252) (by decide) (pc' := 256) (by decide) ?_
        refine w_iadd X36 hx (hb hby at_256) (pc' := 257) rfl ?_
        refine w_eqI (z := (2 : Int32)) (by decide) ?_
        refine w_iload X36 hx (hb hby at_257) rfl (pc' := 259) rfl ?_
        refine w_if_lt X36 hx (hb hby at_259) (by decide) (pcY := 266) (by decide) (pc' := 262) rfl (fun h28 => ?_) (fun h28 => absurd h28 (by decide))
        refine w_iconst (v := (0 : Int32)) X36 hx (hb hby at_266) rfl (pc' := 267) rfl ?_
        refine w_iadd X36 hx (hb hby at_267) (pc' := 268) rfl ?_
        refine w_eqI (z := (2 : Int32)) (by decide) ?_
        refine w_iload X36 hx (hb hby at_268) rfl (pc' := 270) rfl ?_
        refine w_if_lt X36 hx (hb hby at_270) (by decide) (pcY := 277) (by decide) (pc' := 273) rfl (fun h29 => ?_) (fun h29 => absurd h29 (by decide))
        refine w_iconst (v := (0 : Int32)) X36 hx (hb hby at_277) rfl (pc' := 278) rfl ?_
        refine w_iadd X36 hx (hb hby at_278) (pc' := 279) rfl ?_
        refine w_eqI (z := (2 : Int32)) (by decide) ?_
        refine w_iload X36 hx (hb hby at_279) rfl (pc' := 281) rfl ?_
        refine w_if_lt X36 hx (hb hby at_281) (by decide) (pcY := 288) (by decide) (pc' := 284) rfl (fun h30 => ?_) (fun h30 => absurd h30 (by decide))
        refine w_iconst (v := (0 : Int32)) X36 hx (hb hby at_288) rfl (pc' := 289) rfl ?_
        refine w_iadd X36 hx (hb hby at_289) (pc' := 290) rfl ?_
        refine w_eqI (z := (2 : Int32)) (by decide) ?_
        refine w_istore (l' := #[.val (.long x0), .second, .val (.int x1), .val (.int x2), .val (.int x3), .val (.int x4), .val (.int ff), .val (.int (Int8.toInt32 (Int32.toInt8 ((ff <<< ((3 : Int32) &&& 31)) ||| (2 : Int32))))), .val (.ref (n0 + 0)), .val (.int (Int32.ofNat fr)), .val (.int (Int32.ofNat (fr + lq))), .val (.ref (n0 + 1)), .val (.int (Int32.ofNat (own_sk B (Int8.toInt32 (Int32.toInt8 ((ff <<< ((3 : Int32) &&& 31)) ||| (2 : Int32)))) (fr + lq) 9 fr).2)), .val (.int (Int32.ofNat q1)), .val (.int (Int32.ofNat q2)), .val (.int (-1 : Int32)), .val (.int (-1 : Int32)), .val (.int (-1 : Int32)), .val (.int (2 : Int32)), .unset]) X36 hx (hb hby at_290) rfl (pc' := 292) rfl ?_
        refine w_iload X36 hx (hb hby at_292) rfl (pc' := 294) rfl ?_
        refine w_if_lt X36 hx (hb hby at_294) (by decide) (pcY := 302) (by decide) (pc' := 297) rfl (fun h31 => ?_) (fun h31 => absurd h31 (by decide))
        refine w_iload X36 hx (hb hby at_302) rfl (pc' := 304) rfl ?_
        refine w_if_lt X36 hx (hb hby at_304) (by decide) (pcY := 312) (by decide) (pc' := 307) rfl (fun h32 => ?_) (fun h32 => absurd h32 (by decide))
        refine w_iload X36 hx (hb hby at_312) rfl (pc' := 314) rfl ?_
        refine w_if_lt X36 hx (hb hby at_314) (by decide) (pcY := 322) (by decide) (pc' := 317) rfl (fun h33 => ?_) (fun h33 => absurd h33 (by decide))
        refine w_iload X36 hx (hb hby at_322) rfl (pc' := 324) rfl ?_
        refine w_if_lt X36 hx (hb hby at_324) (by decide) (pcY := 332) (by decide) (pc' := 327) rfl (fun h34 => absurd ((own_olt (a := q2) (b := 0) (by omega) (by omega)).mp h34) (Nat.not_lt_zero _)) (fun h34 => ?_)
        refine w_iload X36 hx (hb hby at_327) rfl (pc' := 329) rfl ?_
        refine w_goto X36 hx (hb hby at_329) (by decide) (pc' := 344) (by decide) ?_
        refine w_istore (l' := #[.val (.long x0), .second, .val (.int x1), .val (.int x2), .val (.int x3), .val (.int x4), .val (.int ff), .val (.int (Int8.toInt32 (Int32.toInt8 ((ff <<< ((3 : Int32) &&& 31)) ||| (2 : Int32))))), .val (.ref (n0 + 0)), .val (.int (Int32.ofNat fr)), .val (.int (Int32.ofNat (fr + lq))), .val (.ref (n0 + 1)), .val (.int (Int32.ofNat (own_sk B (Int8.toInt32 (Int32.toInt8 ((ff <<< ((3 : Int32) &&& 31)) ||| (2 : Int32)))) (fr + lq) 9 fr).2)), .val (.int (Int32.ofNat q1)), .val (.int (Int32.ofNat q2)), .val (.int (-1 : Int32)), .val (.int (-1 : Int32)), .val (.int (-1 : Int32)), .val (.int (2 : Int32)), .val (.int (Int32.ofNat q2))]) X36 hx (hb hby at_344) rfl (pc' := 346) rfl ?_
        refine w_iload X36 hx (hb hby at_346) rfl (pc' := 348) rfl ?_
        refine w_iload X36 hx (hb hby at_348) rfl (pc' := 350) rfl ?_
        refine w_icmp_ne X36 hx (hb hby at_350) (by decide) (pcY := 380) (by decide) (pc' := 353) rfl (fun h35 => absurd (by rw [hr]; rfl) h35) (fun h35 => ?_)
        refine w_aload X36 hx (hb hby at_353) rfl rfl (pc' := 355) rfl ?_
        refine own_callV (W := 0) X36 hx hZ rfl hown hml.symm (wd29 hw) (wd30 hw) (wd32 hw) (wd31 hw) (wd8 hw) (wd33 hw) (rm6_1 l Z a0 hw [] n0 kA1 hkA1 B c4 (Int32.ofNat (own_sk B (Int8.toInt32 (Int32.toInt8 ((ff <<< ((3 : Int32) &&& 31)) ||| (2 : Int32)))) (fr + lq) 9 fr).1) (Int32.ofNat (fr + lq)) F4 _ P36) (a := (n0 + 1)) (P36.exa (i := 1) rfl F4.1) (by decide) (by decide) (by decide) (by decide) (by decide) (argsL := []) (rest := []) pd6 rfl rfl rfl (Nat.le_of_eq rfl) (hb hby at_355) (pc' := 358) rfl ?_
        intro _ T37 L27 X37 hq
        obtain ⟨rfl, N27, P37⟩ := hq
        replace N27 := Fr.app N26 N27
        replace P37 : HP n0 T37.heap [AC kA1 (List.map Value.int B), c4] := P37
        refine w_iload X37 hx (hb hby at_358) rfl (pc' := 360) rfl ?_
        refine w_icmp_ne X37 hx (hb hby at_360) (by decide) (pcY := 380) (by decide) (pc' := 363) rfl (fun h36 => absurd (by rw [hr]) h36) (fun h36 => ?_)
        refine w_aload X37 hx (hb hby at_363) rfl rfl (pc' := 365) rfl ?_
        refine own_callV (W := 0) X37 hx hZ rfl hown hml.symm (wd34 hw) (wd35 hw) (wd37 hw) (wd36 hw) (wd8 hw) (wd38 hw) (rm7_2 l Z a0 hw [] n0 kA1 hkA1 B c4 (Int32.ofNat (own_sk B (Int8.toInt32 (Int32.toInt8 ((ff <<< ((3 : Int32) &&& 31)) ||| (2 : Int32)))) (fr + lq) 9 fr).1) (Int32.ofNat (fr + lq)) F4 _ P37) (a := (n0 + 1)) (P37.exa (i := 1) rfl F4.1) (by decide) (by decide) (by decide) (by decide) (by decide) (argsL := []) (rest := []) pd7 rfl rfl rfl (Nat.le_of_eq rfl) (hb hby at_365) (pc' := 368) rfl ?_
        intro _ T38 L28 X38 hq
        obtain ⟨rfl, N28, P38⟩ := hq
        replace N28 := Fr.app N27 N28
        replace P38 : HP n0 T38.heap [AC kA1 (List.map Value.int B), c4] := P38
        refine w_iload X38 hx (hb hby at_368) rfl (pc' := 370) rfl ?_
        refine w_iload X38 hx (hb hby at_370) rfl (pc' := 372) rfl ?_
        refine w_isub X38 hx (hb hby at_372) (pc' := 373) rfl ?_
        refine w_eqI (z := (Int32.ofNat ((fr + lq) - q2))) (own_osub (a := (fr + lq)) (b := q2) (by omega)) ?_
        refine w_icmp_ne X38 hx (hb hby at_373) (by decide) (pcY := 380) (by decide) (pc' := 376) rfl (fun h37 => absurd (by rw [hr]; exact own_osub (by omega)) h37) (fun h37 => ?_)
        refine w_iconst (v := (1 : Int32)) X38 hx (hb hby at_376) rfl (pc' := 377) rfl ?_
        refine w_goto X38 hx (hb hby at_377) (by decide) (pc' := 381) (by decide) ?_
        exact w_ret_n (t := .boolean) X38 hx hret hlk (by simp) (hb hby at_381) (z' := (1 : Int32)) rfl (by decide) (by decide) ⟨rfl, N28⟩
      | some q3 =>
        have hq3 := own_nxb en3
        show Wp _ _ _ _ _ _ _ _ (mkF m 208 #[.val (.long x0), .second, .val (.int x1), .val (.int x2), .val (.int x3), .val (.int x4), .val (.int ff), .val (.int (Int8.toInt32 (Int32.toInt8 ((ff <<< ((3 : Int32) &&& 31)) ||| (2 : Int32))))), .val (.ref (n0 + 0)), .val (.int (Int32.ofNat fr)), .val (.int (Int32.ofNat (fr + lq))), .val (.ref (n0 + 1)), .val (.int (Int32.ofNat (own_sk B (Int8.toInt32 (Int32.toInt8 ((ff <<< ((3 : Int32) &&& 31)) ||| (2 : Int32)))) (fr + lq) 9 fr).2)), .val (.int (Int32.ofNat q1)), .val (.int (Int32.ofNat q2)), .unset, .unset, .unset, .unset, .unset] [.int (Int32.ofNat q3)])
        refine w_istore (l' := #[.val (.long x0), .second, .val (.int x1), .val (.int x2), .val (.int x3), .val (.int x4), .val (.int ff), .val (.int (Int8.toInt32 (Int32.toInt8 ((ff <<< ((3 : Int32) &&& 31)) ||| (2 : Int32))))), .val (.ref (n0 + 0)), .val (.int (Int32.ofNat fr)), .val (.int (Int32.ofNat (fr + lq))), .val (.ref (n0 + 1)), .val (.int (Int32.ofNat (own_sk B (Int8.toInt32 (Int32.toInt8 ((ff <<< ((3 : Int32) &&& 31)) ||| (2 : Int32)))) (fr + lq) 9 fr).2)), .val (.int (Int32.ofNat q1)), .val (.int (Int32.ofNat q2)), .val (.int (Int32.ofNat q3)), .unset, .unset, .unset, .unset]) X34 hx (hb hby at_208) rfl (pc' := 210) rfl ?_
        refine w_aload X34 hx (hb hby at_210) rfl rfl (pc' := 212) rfl ?_
        refine w_iload X34 hx (hb hby at_212) rfl (pc' := 214) rfl ?_
        refine w_iload X34 hx (hb hby at_214) rfl (pc' := 216) rfl ?_
        refine w_iload X34 hx (hb hby at_216) rfl (pc' := 218) rfl ?_
        refine own_call (W := 0) X34 hx hZ rfl hown hml.symm (wd26 hw) (wd27 hw) (wd3 hw) (wd28 hw) (rm_nxt l Z a0 hw [] n0 kA1 B c4 (Int8.toInt32 (Int32.toInt8 ((ff <<< ((3 : Int32) &&& 31)) ||| (2 : Int32)))) q3 (fr + lq) _ P34 hkA1 hB hBr (by omega) (by omega)) (by decide) (by decide) (by decide) (by decide) (by decide) (argsL := [.ref (n0 + 0), .int (Int8.toInt32 (Int32.toInt8 ((ff <<< ((3 : Int32) &&& 31)) ||| (2 : Int32)))), .int (Int32.ofNat q3), .int (Int32.ofNat (fr + lq))]) (rest := []) pd5 rfl rfl rfl (Nat.le_of_eq rfl) (hb hby at_218) (pc' := 221) rfl ?_
        intro v39 T39 L29 X39 hq
        obtain ⟨rfl, N29, P39⟩ := hq
        replace N29 := Fr.app N24 N29
        cases en4 : own_nx B (Int8.toInt32 (Int32.toInt8 ((ff <<< ((3 : Int32) &&& 31)) ||| (2 : Int32)))) (fr + lq) q3 with
        | none =>
          have hr : own_sk B (Int8.toInt32 (Int32.toInt8 ((ff <<< ((3 : Int32) &&& 31)) ||| (2 : Int32)))) (fr + lq) 9 fr = (q3, 3) := by rw [own_sk1 en1, own_sk1 en2, own_sk1 en3, own_sk0 en4]
          show Wp _ _ _ _ _ _ _ _ (mkF m 221 #[.val (.long x0), .second, .val (.int x1), .val (.int x2), .val (.int x3), .val (.int x4), .val (.int ff), .val (.int (Int8.toInt32 (Int32.toInt8 ((ff <<< ((3 : Int32) &&& 31)) ||| (2 : Int32))))), .val (.ref (n0 + 0)), .val (.int (Int32.ofNat fr)), .val (.int (Int32.ofNat (fr + lq))), .val (.ref (n0 + 1)), .val (.int (Int32.ofNat (own_sk B (Int8.toInt32 (Int32.toInt8 ((ff <<< ((3 : Int32) &&& 31)) ||| (2 : Int32)))) (fr + lq) 9 fr).2)), .val (.int (Int32.ofNat q1)), .val (.int (Int32.ofNat q2)), .val (.int (Int32.ofNat q3)), .unset, .unset, .unset, .unset] [.int (-1 : Int32)])
          refine w_istore (l' := #[.val (.long x0), .second, .val (.int x1), .val (.int x2), .val (.int x3), .val (.int x4), .val (.int ff), .val (.int (Int8.toInt32 (Int32.toInt8 ((ff <<< ((3 : Int32) &&& 31)) ||| (2 : Int32))))), .val (.ref (n0 + 0)), .val (.int (Int32.ofNat fr)), .val (.int (Int32.ofNat (fr + lq))), .val (.ref (n0 + 1)), .val (.int (Int32.ofNat (own_sk B (Int8.toInt32 (Int32.toInt8 ((ff <<< ((3 : Int32) &&& 31)) ||| (2 : Int32)))) (fr + lq) 9 fr).2)), .val (.int (Int32.ofNat q1)), .val (.int (Int32.ofNat q2)), .val (.int (Int32.ofNat q3)), .val (.int (-1 : Int32)), .unset, .unset, .unset]) X39 hx (hb hby at_221) rfl (pc' := 223) rfl ?_
          refine w_aload X39 hx (hb hby at_223) rfl rfl (pc' := 225) rfl ?_
          refine w_iload X39 hx (hb hby at_225) rfl (pc' := 227) rfl ?_
          refine w_iload X39 hx (hb hby at_227) rfl (pc' := 229) rfl ?_
          refine w_iload X39 hx (hb hby at_229) rfl (pc' := 231) rfl ?_
          refine own_call (W := 0) X39 hx hZ rfl hown hml.symm (wd26 hw) (wd27 hw) (wd3 hw) (wd28 hw) (rm_nxm l Z a0 hw [] n0 kA1 B c4 (Int8.toInt32 (Int32.toInt8 ((ff <<< ((3 : Int32) &&& 31)) ||| (2 : Int32)))) (fr + lq) _ P39) (by decide) (by decide) (by decide) (by decide) (by decide) (argsL := [.ref (n0 + 0), .int (Int8.toInt32 (Int32.toInt8 ((ff <<< ((3 : Int32) &&& 31)) ||| (2 : Int32)))), .int (-1 : Int32), .int (Int32.ofNat (fr + lq))]) (rest := []) pd5 rfl rfl rfl (Nat.le_of_eq rfl) (hb hby at_231) (pc' := 234) rfl ?_
          intro v40 T40 L30 X40 hq
          obtain ⟨rfl, N30, P40⟩ := hq
          replace N30 := Fr.app N29 N30
          refine w_istore (l' := #[.val (.long x0), .second, .val (.int x1), .val (.int x2), .val (.int x3), .val (.int x4), .val (.int ff), .val (.int (Int8.toInt32 (Int32.toInt8 ((ff <<< ((3 : Int32) &&& 31)) ||| (2 : Int32))))), .val (.ref (n0 + 0)), .val (.int (Int32.ofNat fr)), .val (.int (Int32.ofNat (fr + lq))), .val (.ref (n0 + 1)), .val (.int (Int32.ofNat (own_sk B (Int8.toInt32 (Int32.toInt8 ((ff <<< ((3 : Int32) &&& 31)) ||| (2 : Int32)))) (fr + lq) 9 fr).2)), .val (.int (Int32.ofNat q1)), .val (.int (Int32.ofNat q2)), .val (.int (Int32.ofNat q3)), .val (.int (-1 : Int32)), .val (.int (-1 : Int32)), .unset, .unset]) X40 hx (hb hby at_234) rfl (pc' := 236) rfl ?_
          refine w_iload X40 hx (hb hby at_236) rfl (pc' := 238) rfl ?_
          refine w_if_lt X40 hx (hb hby at_238) (by decide) (pcY := 245) (by decide) (pc' := 241) rfl (fun h38 => absurd ((own_olt (a := q1) (b := 0) (by omega) (by omega)).mp h38) (Nat.not_lt_zero _)) (fun h38 => ?_)
          refine w_iconst (v := (1 : Int32)) X40 hx (hb hby at_241) rfl (pc' := 242) rfl ?_
          refine w_goto X40 hx (hb hby at_242) (by decide) (pc' := 246) (by decide) ?_
          refine w_iload X40 hx (hb hby at_246) rfl (pc' := 248) rfl ?_
          refine w_if_lt X40 hx (hb hby at_248) (by decide) (pcY := 255) (by decide) (pc' := 251) rfl (fun h39 => absurd ((own_olt (a := q2) (b := 0) (by omega) (by omega)).mp h39) (Nat.not_lt_zero _)) (fun h39 => ?_)
          refine w_iconst (v := (1 : Int32)) X40 hx (hb hby at_251) rfl (pc' := 252) rfl ?_
          refine w_goto X40 hx (hb hby at_252) (by decide) (pc' := 256) (by decide) ?_
          refine w_iadd X40 hx (hb hby at_256) (pc' := 257) rfl ?_
          refine w_eqI (z := (2 : Int32)) (by decide) ?_
          refine w_iload X40 hx (hb hby at_257) rfl (pc' := 259) rfl ?_
          refine w_if_lt X40 hx (hb hby at_259) (by decide) (pcY := 266) (by decide) (pc' := 262) rfl (fun h40 => absurd ((own_olt (a := q3) (b := 0) (by omega) (by omega)).mp h40) (Nat.not_lt_zero _)) (fun h40 => ?_)
          refine w_iconst (v := (1 : Int32)) X40 hx (hb hby at_262) rfl (pc' := 263) rfl ?_
          refine w_goto X40 hx (hb hby at_263) (by decide) (pc' := 267) (by decide) ?_
          refine w_iadd X40 hx (hb hby at_267) (pc' := 268) rfl ?_
          refine w_eqI (z := (3 : Int32)) (by decide) ?_
          refine w_iload X40 hx (hb hby at_268) rfl (pc' := 270) rfl ?_
          refine w_if_lt X40 hx (hb hby at_270) (by decide) (pcY := 277) (by decide) (pc' := 273) rfl (fun h41 => ?_) (fun h41 => absurd h41 (by decide))
          refine w_iconst (v := (0 : Int32)) X40 hx (hb hby at_277) rfl (pc' := 278) rfl ?_
          refine w_iadd X40 hx (hb hby at_278) (pc' := 279) rfl ?_
          refine w_eqI (z := (3 : Int32)) (by decide) ?_
          refine w_iload X40 hx (hb hby at_279) rfl (pc' := 281) rfl ?_
          refine w_if_lt X40 hx (hb hby at_281) (by decide) (pcY := 288) (by decide) (pc' := 284) rfl (fun h42 => ?_) (fun h42 => absurd h42 (by decide))
          refine w_iconst (v := (0 : Int32)) X40 hx (hb hby at_288) rfl (pc' := 289) rfl ?_
          refine w_iadd X40 hx (hb hby at_289) (pc' := 290) rfl ?_
          refine w_eqI (z := (3 : Int32)) (by decide) ?_
          refine w_istore (l' := #[.val (.long x0), .second, .val (.int x1), .val (.int x2), .val (.int x3), .val (.int x4), .val (.int ff), .val (.int (Int8.toInt32 (Int32.toInt8 ((ff <<< ((3 : Int32) &&& 31)) ||| (2 : Int32))))), .val (.ref (n0 + 0)), .val (.int (Int32.ofNat fr)), .val (.int (Int32.ofNat (fr + lq))), .val (.ref (n0 + 1)), .val (.int (Int32.ofNat (own_sk B (Int8.toInt32 (Int32.toInt8 ((ff <<< ((3 : Int32) &&& 31)) ||| (2 : Int32)))) (fr + lq) 9 fr).2)), .val (.int (Int32.ofNat q1)), .val (.int (Int32.ofNat q2)), .val (.int (Int32.ofNat q3)), .val (.int (-1 : Int32)), .val (.int (-1 : Int32)), .val (.int (3 : Int32)), .unset]) X40 hx (hb hby at_290) rfl (pc' := 292) rfl ?_
          refine w_iload X40 hx (hb hby at_292) rfl (pc' := 294) rfl ?_
          refine w_if_lt X40 hx (hb hby at_294) (by decide) (pcY := 302) (by decide) (pc' := 297) rfl (fun h43 => ?_) (fun h43 => absurd h43 (by decide))
          refine w_iload X40 hx (hb hby at_302) rfl (pc' := 304) rfl ?_
          refine w_if_lt X40 hx (hb hby at_304) (by decide) (pcY := 312) (by decide) (pc' := 307) rfl (fun h44 => ?_) (fun h44 => absurd h44 (by decide))
          refine w_iload X40 hx (hb hby at_312) rfl (pc' := 314) rfl ?_
          refine w_if_lt X40 hx (hb hby at_314) (by decide) (pcY := 322) (by decide) (pc' := 317) rfl (fun h45 => absurd ((own_olt (a := q3) (b := 0) (by omega) (by omega)).mp h45) (Nat.not_lt_zero _)) (fun h45 => ?_)
          refine w_iload X40 hx (hb hby at_317) rfl (pc' := 319) rfl ?_
          refine w_goto X40 hx (hb hby at_319) (by decide) (pc' := 344) (by decide) ?_
          refine w_istore (l' := #[.val (.long x0), .second, .val (.int x1), .val (.int x2), .val (.int x3), .val (.int x4), .val (.int ff), .val (.int (Int8.toInt32 (Int32.toInt8 ((ff <<< ((3 : Int32) &&& 31)) ||| (2 : Int32))))), .val (.ref (n0 + 0)), .val (.int (Int32.ofNat fr)), .val (.int (Int32.ofNat (fr + lq))), .val (.ref (n0 + 1)), .val (.int (Int32.ofNat (own_sk B (Int8.toInt32 (Int32.toInt8 ((ff <<< ((3 : Int32) &&& 31)) ||| (2 : Int32)))) (fr + lq) 9 fr).2)), .val (.int (Int32.ofNat q1)), .val (.int (Int32.ofNat q2)), .val (.int (Int32.ofNat q3)), .val (.int (-1 : Int32)), .val (.int (-1 : Int32)), .val (.int (3 : Int32)), .val (.int (Int32.ofNat q3))]) X40 hx (hb hby at_344) rfl (pc' := 346) rfl ?_
          refine w_iload X40 hx (hb hby at_346) rfl (pc' := 348) rfl ?_
          refine w_iload X40 hx (hb hby at_348) rfl (pc' := 350) rfl ?_
          refine w_icmp_ne X40 hx (hb hby at_350) (by decide) (pcY := 380) (by decide) (pc' := 353) rfl (fun h46 => absurd (by rw [hr]; rfl) h46) (fun h46 => ?_)
          refine w_aload X40 hx (hb hby at_353) rfl rfl (pc' := 355) rfl ?_
          refine own_callV (W := 0) X40 hx hZ rfl hown hml.symm (wd29 hw) (wd30 hw) (wd32 hw) (wd31 hw) (wd8 hw) (wd33 hw) (rm6_1 l Z a0 hw [] n0 kA1 hkA1 B c4 (Int32.ofNat (own_sk B (Int8.toInt32 (Int32.toInt8 ((ff <<< ((3 : Int32) &&& 31)) ||| (2 : Int32)))) (fr + lq) 9 fr).1) (Int32.ofNat (fr + lq)) F4 _ P40) (a := (n0 + 1)) (P40.exa (i := 1) rfl F4.1) (by decide) (by decide) (by decide) (by decide) (by decide) (argsL := []) (rest := []) pd6 rfl rfl rfl (Nat.le_of_eq rfl) (hb hby at_355) (pc' := 358) rfl ?_
          intro _ T41 L31 X41 hq
          obtain ⟨rfl, N31, P41⟩ := hq
          replace N31 := Fr.app N30 N31
          replace P41 : HP n0 T41.heap [AC kA1 (List.map Value.int B), c4] := P41
          refine w_iload X41 hx (hb hby at_358) rfl (pc' := 360) rfl ?_
          refine w_icmp_ne X41 hx (hb hby at_360) (by decide) (pcY := 380) (by decide) (pc' := 363) rfl (fun h47 => absurd (by rw [hr]) h47) (fun h47 => ?_)
          refine w_aload X41 hx (hb hby at_363) rfl rfl (pc' := 365) rfl ?_
          refine own_callV (W := 0) X41 hx hZ rfl hown hml.symm (wd34 hw) (wd35 hw) (wd37 hw) (wd36 hw) (wd8 hw) (wd38 hw) (rm7_2 l Z a0 hw [] n0 kA1 hkA1 B c4 (Int32.ofNat (own_sk B (Int8.toInt32 (Int32.toInt8 ((ff <<< ((3 : Int32) &&& 31)) ||| (2 : Int32)))) (fr + lq) 9 fr).1) (Int32.ofNat (fr + lq)) F4 _ P41) (a := (n0 + 1)) (P41.exa (i := 1) rfl F4.1) (by decide) (by decide) (by decide) (by decide) (by decide) (argsL := []) (rest := []) pd7 rfl rfl rfl (Nat.le_of_eq rfl) (hb hby at_365) (pc' := 368) rfl ?_
          intro _ T42 L32 X42 hq
          obtain ⟨rfl, N32, P42⟩ := hq
          replace N32 := Fr.app N31 N32
          replace P42 : HP n0 T42.heap [AC kA1 (List.map Value.int B), c4] := P42
          refine w_iload X42 hx (hb hby at_368) rfl (pc' := 370) rfl ?_
          refine w_iload X42 hx (hb hby at_370) rfl (pc' := 372) rfl ?_
          refine w_isub X42 hx (hb hby at_372) (pc' := 373) rfl ?_
          refine w_eqI (z := (Int32.ofNat ((fr + lq) - q3))) (own_osub (a := (fr + lq)) (b := q3) (by omega)) ?_
          refine w_icmp_ne X42 hx (hb hby at_373) (by decide) (pcY := 380) (by decide) (pc' := 376) rfl (fun h48 => absurd (by rw [hr]; exact own_osub (by omega)) h48) (fun h48 => ?_)
          refine w_iconst (v := (1 : Int32)) X42 hx (hb hby at_376) rfl (pc' := 377) rfl ?_
          refine w_goto X42 hx (hb hby at_377) (by decide) (pc' := 381) (by decide) ?_
          exact w_ret_n (t := .boolean) X42 hx hret hlk (by simp) (hb hby at_381) (z' := (1 : Int32)) rfl (by decide) (by decide) ⟨rfl, N32⟩
        | some q4 =>
          have hq4 := own_nxb en4
          show Wp _ _ _ _ _ _ _ _ (mkF m 221 #[.val (.long x0), .second, .val (.int x1), .val (.int x2), .val (.int x3), .val (.int x4), .val (.int ff), .val (.int (Int8.toInt32 (Int32.toInt8 ((ff <<< ((3 : Int32) &&& 31)) ||| (2 : Int32))))), .val (.ref (n0 + 0)), .val (.int (Int32.ofNat fr)), .val (.int (Int32.ofNat (fr + lq))), .val (.ref (n0 + 1)), .val (.int (Int32.ofNat (own_sk B (Int8.toInt32 (Int32.toInt8 ((ff <<< ((3 : Int32) &&& 31)) ||| (2 : Int32)))) (fr + lq) 9 fr).2)), .val (.int (Int32.ofNat q1)), .val (.int (Int32.ofNat q2)), .val (.int (Int32.ofNat q3)), .unset, .unset, .unset, .unset] [.int (Int32.ofNat q4)])
          refine w_istore (l' := #[.val (.long x0), .second, .val (.int x1), .val (.int x2), .val (.int x3), .val (.int x4), .val (.int ff), .val (.int (Int8.toInt32 (Int32.toInt8 ((ff <<< ((3 : Int32) &&& 31)) ||| (2 : Int32))))), .val (.ref (n0 + 0)), .val (.int (Int32.ofNat fr)), .val (.int (Int32.ofNat (fr + lq))), .val (.ref (n0 + 1)), .val (.int (Int32.ofNat (own_sk B (Int8.toInt32 (Int32.toInt8 ((ff <<< ((3 : Int32) &&& 31)) ||| (2 : Int32)))) (fr + lq) 9 fr).2)), .val (.int (Int32.ofNat q1)), .val (.int (Int32.ofNat q2)), .val (.int (Int32.ofNat q3)), .val (.int (Int32.ofNat q4)), .unset, .unset, .unset]) X39 hx (hb hby at_221) rfl (pc' := 223) rfl ?_
          refine w_aload X39 hx (hb hby at_223) rfl rfl (pc' := 225) rfl ?_
          refine w_iload X39 hx (hb hby at_225) rfl (pc' := 227) rfl ?_
          refine w_iload X39 hx (hb hby at_227) rfl (pc' := 229) rfl ?_
          refine w_iload X39 hx (hb hby at_229) rfl (pc' := 231) rfl ?_
          refine own_call (W := 0) X39 hx hZ rfl hown hml.symm (wd26 hw) (wd27 hw) (wd3 hw) (wd28 hw) (rm_nxt l Z a0 hw [] n0 kA1 B c4 (Int8.toInt32 (Int32.toInt8 ((ff <<< ((3 : Int32) &&& 31)) ||| (2 : Int32)))) q4 (fr + lq) _ P39 hkA1 hB hBr (by omega) (by omega)) (by decide) (by decide) (by decide) (by decide) (by decide) (argsL := [.ref (n0 + 0), .int (Int8.toInt32 (Int32.toInt8 ((ff <<< ((3 : Int32) &&& 31)) ||| (2 : Int32)))), .int (Int32.ofNat q4), .int (Int32.ofNat (fr + lq))]) (rest := []) pd5 rfl rfl rfl (Nat.le_of_eq rfl) (hb hby at_231) (pc' := 234) rfl ?_
          intro v43 T43 L33 X43 hq
          obtain ⟨rfl, N33, P43⟩ := hq
          replace N33 := Fr.app N29 N33
          cases en5 : own_nx B (Int8.toInt32 (Int32.toInt8 ((ff <<< ((3 : Int32) &&& 31)) ||| (2 : Int32)))) (fr + lq) q4 with
          | none =>
            have hr : own_sk B (Int8.toInt32 (Int32.toInt8 ((ff <<< ((3 : Int32) &&& 31)) ||| (2 : Int32)))) (fr + lq) 9 fr = (q4, 4) := by rw [own_sk1 en1, own_sk1 en2, own_sk1 en3, own_sk1 en4, own_sk0 en5]
            show Wp _ _ _ _ _ _ _ _ (mkF m 234 #[.val (.long x0), .second, .val (.int x1), .val (.int x2), .val (.int x3), .val (.int x4), .val (.int ff), .val (.int (Int8.toInt32 (Int32.toInt8 ((ff <<< ((3 : Int32) &&& 31)) ||| (2 : Int32))))), .val (.ref (n0 + 0)), .val (.int (Int32.ofNat fr)), .val (.int (Int32.ofNat (fr + lq))), .val (.ref (n0 + 1)), .val (.int (Int32.ofNat (own_sk B (Int8.toInt32 (Int32.toInt8 ((ff <<< ((3 : Int32) &&& 31)) ||| (2 : Int32)))) (fr + lq) 9 fr).2)), .val (.int (Int32.ofNat q1)), .val (.int (Int32.ofNat q2)), .val (.int (Int32.ofNat q3)), .val (.int (Int32.ofNat q4)), .unset, .unset, .unset] [.int (-1 : Int32)])
            refine w_istore (l' := #[.val (.long x0), .second, .val (.int x1), .val (.int x2), .val (.int x3), .val (.int x4), .val (.int ff), .val (.int (Int8.toInt32 (Int32.toInt8 ((ff <<< ((3 : Int32) &&& 31)) ||| (2 : Int32))))), .val (.ref (n0 + 0)), .val (.int (Int32.ofNat fr)), .val (.int (Int32.ofNat (fr + lq))), .val (.ref (n0 + 1)), .val (.int (Int32.ofNat (own_sk B (Int8.toInt32 (Int32.toInt8 ((ff <<< ((3 : Int32) &&& 31)) ||| (2 : Int32)))) (fr + lq) 9 fr).2)), .val (.int (Int32.ofNat q1)), .val (.int (Int32.ofNat q2)), .val (.int (Int32.ofNat q3)), .val (.int (Int32.ofNat q4)), .val (.int (-1 : Int32)), .unset, .unset]) X43 hx (hb hby at_234) rfl (pc' := 236) rfl ?_
            refine w_iload X43 hx (hb hby at_236) rfl (pc' := 238) rfl ?_
            refine w_if_lt X43 hx (hb hby at_238) (by decide) (pcY := 245) (by decide) (pc' := 241) rfl (fun h49 => absurd ((own_olt (a := q1) (b := 0) (by omega) (by omega)).mp h49) (Nat.not_lt_zero _)) (fun h49 => ?_)
            refine w_iconst (v := (1 : Int32)) X43 hx (hb hby at_241) rfl (pc' := 242) rfl ?_
            refine w_goto X43 hx (hb hby at_242) (by decide) (pc' := 246) (by decide) ?_
            refine w_iload X43 hx (hb hby at_246) rfl (pc' := 248) rfl ?_
            refine w_if_lt X43 hx (hb hby at_248) (by decide) (pcY := 255) (by decide) (pc' := 251) rfl (fun h50 => absurd ((own_olt (a := q2) (b := 0) (by omega) (by omega)).mp h50) (Nat.not_lt_zero _)) (fun h50 => ?_)
            refine w_iconst (v := (1 : Int32)) X43 hx (hb hby at_251) rfl (pc' := 252) rfl ?_
            refine w_goto X43 hx (hb hby at_252) (by decide) (pc' := 256) (by decide) ?_
            refine w_iadd X43 hx (hb hby at_256) (pc' := 257) rfl ?_
            refine w_eqI (z := (2 : Int32)) (by decide) ?_
            refine w_iload X43 hx (hb hby at_257) rfl (pc' := 259) rfl ?_
            refine w_if_lt X43 hx (hb hby at_259) (by decide) (pcY := 266) (by decide) (pc' := 262) rfl (fun h51 => absurd ((own_olt (a := q3) (b := 0) (by omega) (by omega)).mp h51) (Nat.not_lt_zero _)) (fun h51 => ?_)
            refine w_iconst (v := (1 : Int32)) X43 hx (hb hby at_262) rfl (pc' := 263) rfl ?_
            refine w_goto X43 hx (hb hby at_263) (by decide) (pc' := 267) (by decide) ?_
            refine w_iadd X43 hx (hb hby at_267) (pc' := 268) rfl ?_
            refine w_eqI (z := (3 : Int32)) (by decide) ?_
            refine w_iload X43 hx (hb hby at_268) rfl (pc' := 270) rfl ?_
            refine w_if_lt X43 hx (hb hby at_270) (by decide) (pcY := 277) (by decide) (pc' := 273) rfl (fun h52 => absurd ((own_olt (a := q4) (b := 0) (by omega) (by omega)).mp h52) (Nat.not_lt_zero _)) (fun h52 => ?_)
            refine w_iconst (v := (1 : Int32)) X43 hx (hb hby at_273) rfl (pc' := 274) rfl ?_
            refine w_goto X43 hx (hb hby at_274) (by decide) (pc' := 278) (by decide) ?_
            refine w_iadd X43 hx (hb hby at_278) (pc' := 279) rfl ?_
            refine w_eqI (z := (4 : Int32)) (by decide) ?_
            refine w_iload X43 hx (hb hby at_279) rfl (pc' := 281) rfl ?_
            refine w_if_lt X43 hx (hb hby at_281) (by decide) (pcY := 288) (by decide) (pc' := 284) rfl (fun h53 => ?_) (fun h53 => absurd h53 (by decide))
            refine w_iconst (v := (0 : Int32)) X43 hx (hb hby at_288) rfl (pc' := 289) rfl ?_
            refine w_iadd X43 hx (hb hby at_289) (pc' := 290) rfl ?_
            refine w_eqI (z := (4 : Int32)) (by decide) ?_
            refine w_istore (l' := #[.val (.long x0), .second, .val (.int x1), .val (.int x2), .val (.int x3), .val (.int x4), .val (.int ff), .val (.int (Int8.toInt32 (Int32.toInt8 ((ff <<< ((3 : Int32) &&& 31)) ||| (2 : Int32))))), .val (.ref (n0 + 0)), .val (.int (Int32.ofNat fr)), .val (.int (Int32.ofNat (fr + lq))), .val (.ref (n0 + 1)), .val (.int (Int32.ofNat (own_sk B (Int8.toInt32 (Int32.toInt8 ((ff <<< ((3 : Int32) &&& 31)) ||| (2 : Int32)))) (fr + lq) 9 fr).2)), .val (.int (Int32.ofNat q1)), .val (.int (Int32.ofNat q2)), .val (.int (Int32.ofNat q3)), .val (.int (Int32.ofNat q4)), .val (.int (-1 : Int32)), .val (.int (4 : Int32)), .unset]) X43 hx (hb hby at_290) rfl (pc' := 292) rfl ?_
            refine w_iload X43 hx (hb hby at_292) rfl (pc' := 294) rfl ?_
            refine w_if_lt X43 hx (hb hby at_294) (by decide) (pcY := 302) (by decide) (pc' := 297) rfl (fun h54 => ?_) (fun h54 => absurd h54 (by decide))
            refine w_iload X43 hx (hb hby at_302) rfl (pc' := 304) rfl ?_
            refine w_if_lt X43 hx (hb hby at_304) (by decide) (pcY := 312) (by decide) (pc' := 307) rfl (fun h55 => absurd ((own_olt (a := q4) (b := 0) (by omega) (by omega)).mp h55) (Nat.not_lt_zero _)) (fun h55 => ?_)
            refine w_iload X43 hx (hb hby at_307) rfl (pc' := 309) rfl ?_
            refine w_goto X43 hx (hb hby at_309) (by decide) (pc' := 344) (by decide) ?_
            refine w_istore (l' := #[.val (.long x0), .second, .val (.int x1), .val (.int x2), .val (.int x3), .val (.int x4), .val (.int ff), .val (.int (Int8.toInt32 (Int32.toInt8 ((ff <<< ((3 : Int32) &&& 31)) ||| (2 : Int32))))), .val (.ref (n0 + 0)), .val (.int (Int32.ofNat fr)), .val (.int (Int32.ofNat (fr + lq))), .val (.ref (n0 + 1)), .val (.int (Int32.ofNat (own_sk B (Int8.toInt32 (Int32.toInt8 ((ff <<< ((3 : Int32) &&& 31)) ||| (2 : Int32)))) (fr + lq) 9 fr).2)), .val (.int (Int32.ofNat q1)), .val (.int (Int32.ofNat q2)), .val (.int (Int32.ofNat q3)), .val (.int (Int32.ofNat q4)), .val (.int (-1 : Int32)), .val (.int (4 : Int32)), .val (.int (Int32.ofNat q4))]) X43 hx (hb hby at_344) rfl (pc' := 346) rfl ?_
            refine w_iload X43 hx (hb hby at_346) rfl (pc' := 348) rfl ?_
            refine w_iload X43 hx (hb hby at_348) rfl (pc' := 350) rfl ?_
            refine w_icmp_ne X43 hx (hb hby at_350) (by decide) (pcY := 380) (by decide) (pc' := 353) rfl (fun h56 => absurd (by rw [hr]; rfl) h56) (fun h56 => ?_)
            refine w_aload X43 hx (hb hby at_353) rfl rfl (pc' := 355) rfl ?_
            refine own_callV (W := 0) X43 hx hZ rfl hown hml.symm (wd29 hw) (wd30 hw) (wd32 hw) (wd31 hw) (wd8 hw) (wd33 hw) (rm6_1 l Z a0 hw [] n0 kA1 hkA1 B c4 (Int32.ofNat (own_sk B (Int8.toInt32 (Int32.toInt8 ((ff <<< ((3 : Int32) &&& 31)) ||| (2 : Int32)))) (fr + lq) 9 fr).1) (Int32.ofNat (fr + lq)) F4 _ P43) (a := (n0 + 1)) (P43.exa (i := 1) rfl F4.1) (by decide) (by decide) (by decide) (by decide) (by decide) (argsL := []) (rest := []) pd6 rfl rfl rfl (Nat.le_of_eq rfl) (hb hby at_355) (pc' := 358) rfl ?_
            intro _ T44 L34 X44 hq
            obtain ⟨rfl, N34, P44⟩ := hq
            replace N34 := Fr.app N33 N34
            replace P44 : HP n0 T44.heap [AC kA1 (List.map Value.int B), c4] := P44
            refine w_iload X44 hx (hb hby at_358) rfl (pc' := 360) rfl ?_
            refine w_icmp_ne X44 hx (hb hby at_360) (by decide) (pcY := 380) (by decide) (pc' := 363) rfl (fun h57 => absurd (by rw [hr]) h57) (fun h57 => ?_)
            refine w_aload X44 hx (hb hby at_363) rfl rfl (pc' := 365) rfl ?_
            refine own_callV (W := 0) X44 hx hZ rfl hown hml.symm (wd34 hw) (wd35 hw) (wd37 hw) (wd36 hw) (wd8 hw) (wd38 hw) (rm7_2 l Z a0 hw [] n0 kA1 hkA1 B c4 (Int32.ofNat (own_sk B (Int8.toInt32 (Int32.toInt8 ((ff <<< ((3 : Int32) &&& 31)) ||| (2 : Int32)))) (fr + lq) 9 fr).1) (Int32.ofNat (fr + lq)) F4 _ P44) (a := (n0 + 1)) (P44.exa (i := 1) rfl F4.1) (by decide) (by decide) (by decide) (by decide) (by decide) (argsL := []) (rest := []) pd7 rfl rfl rfl (Nat.le_of_eq rfl) (hb hby at_365) (pc' := 368) rfl ?_
            intro _ T45 L35 X45 hq
            obtain ⟨rfl, N35, P45⟩ := hq
            replace N35 := Fr.app N34 N35
            replace P45 : HP n0 T45.heap [AC kA1 (List.map Value.int B), c4] := P45
            refine w_iload X45 hx (hb hby at_368) rfl (pc' := 370) rfl ?_
            refine w_iload X45 hx (hb hby at_370) rfl (pc' := 372) rfl ?_
            refine w_isub X45 hx (hb hby at_372) (pc' := 373) rfl ?_
            refine w_eqI (z := (Int32.ofNat ((fr + lq) - q4))) (own_osub (a := (fr + lq)) (b := q4) (by omega)) ?_
            refine w_icmp_ne X45 hx (hb hby at_373) (by decide) (pcY := 380) (by decide) (pc' := 376) rfl (fun h58 => absurd (by rw [hr]; exact own_osub (by omega)) h58) (fun h58 => ?_)
            refine w_iconst (v := (1 : Int32)) X45 hx (hb hby at_376) rfl (pc' := 377) rfl ?_
            refine w_goto X45 hx (hb hby at_377) (by decide) (pc' := 381) (by decide) ?_
            exact w_ret_n (t := .boolean) X45 hx hret hlk (by simp) (hb hby at_381) (z' := (1 : Int32)) rfl (by decide) (by decide) ⟨rfl, N35⟩
          | some q5 =>
            have hq5 := own_nxb en5
            exfalso; omega
set_option maxRecDepth 65536 in
set_option maxHeartbeats 40000000 in
theorem comes_1 {Post : Tables → Env → Array Value → State → Outcome → State → Prop} (hpost : ∀ tb e args s v u, (limb_1_1.after args s (.returned v) u = true ∧ limb_1_2.after args s (.returned v) u = true ∧ True) → FrameEnd s (.returned v) u (Jvm.fieldLocs frame_1_writes args s ++ Jvm.arrayLocs frame_1_arrays args s ++ Jvm.staticLocs frame_1_statics s) 16 128 → Post tb e args s (.returned v) u) :
    ArmFor flags0 classFile x code maxLocals ret World_1 tables_1 room_1 Calls_1 rest_1 Pre_1 Post := by
  intro l hfl _ _ p e ha hc hk s m args below hf hA hF happ hP
  obtain ⟨hcalls, hrest, hpre⟩ := hP
  obtain ⟨-, -, -, hnamed, -, -, -, hat⟩ := (Spec.applies_iff hf).mp happ
  obtain ⟨hg, hn⟩ := and_e (Cond.before_iff.mp (show (Jvm.Cond.and given_1 narrow_1).before args s = true from hpre))
  obtain ⟨g0, k0⟩ := and_e hg
  obtain ⟨q0, k1⟩ := and_e k0
  obtain ⟨q1, k2⟩ := and_e k1
  obtain ⟨q2, k3⟩ := and_e k2
  obtain ⟨q3, k4⟩ := and_e k3
  have q4 := k4
  obtain ⟨w0, w1, w2, w3, w4, rfl⟩ : ∃ w0 w1 w2 w3 w4 : Value, args = #[w0, w1, w2, w3, w4] := by
    have hs : args.size = 5 := by simpa [Cond.value, given_1] using g0
    obtain ⟨L⟩ := args
    match L, hs with
    | [w0, w1, w2, w3, w4], _ => exact ⟨w0, w1, w2, w3, w4, rfl⟩
  have hw := fun d (hd : d ∈ tables_1) => atoms_spec (ws := Jvm.Cond.code x code maxLocals ret :: tables_1) hat d (List.mem_cons_of_mem _ hd)
  obtain ⟨i0, ei0⟩ := isL_v q0
  obtain rfl : w0 = (.long i0) := Option.some.inj ei0
  obtain ⟨i1, ei1⟩ := is_v q1
  obtain rfl : w1 = (.int i1) := Option.some.inj ei1
  obtain ⟨i2, ei2⟩ := is_v q2
  obtain rfl : w2 = (.int i2) := Option.some.inj ei2
  obtain ⟨i3, ei3⟩ := is_v q3
  obtain rfl : w3 = (.int i3) := Option.some.inj ei3
  obtain ⟨i4, ei4⟩ := is_v q4
  obtain rfl : w4 = (.int i4) := Option.some.inj ei4
  obtain ⟨n, o, h1, h2, h3, _, L, rfl, ⟨rfl, N⟩, hq⟩ := rm0 l s _ hw tables_1 i0 i1 i2 i3 i4 s.heap s.heap.size rfl p e ha hc hk s m _ below hf ((Spec.applies_iff_loose hf).mp happ).1 ⟨rfl, State.Warmed39.refl s, rfl⟩ trivial
  refine ⟨n, _, h1, h2, h3, hpost _ _ _ _ _ _ ⟨Cond.after_iff.mpr rfl, Cond.after_iff.mpr (eq_i res_at (Term.int_eval (1)) rfl), trivial⟩ ⟨hq.1, hq.2.1, (hq.2.2.sift fun y hy => Or.inr (N y hy)).mono (by decide) (by decide)⟩⟩
theorem main_1_1 : Claimed_1_1 := comes_1 fun _ _ _ _ _ _ h hF => ⟨h.1, hF⟩
theorem main_1_2 : Claimed_1_2 := comes_1 fun _ _ _ _ _ _ h hF => ⟨h.2.1, hF⟩
end Jvm.Pilot.@@N@@
namespace Jvm.Pilot.@@N@@
open Jvm Jvm.ClassFile Sem Op Lib Jvm.Free Jvm.Stand Jvm.Pilot.@@N@@.Jvm.D
/-! MADE BY PROGRAM (witnessworld.py) out of the Statement's table words and the real class files: 9 classes; the members and pool entries that the words name. The judged class is class 1, her method 1. -/
namespace start1
open Jvm.ClassFile
def u (s : String) : CpInfo := .utf8 (stringToUtf16 s)
/-- a pool by its gaps: so many unusable entries, then the entry; so many at the end -/
def gap : Nat → List CpInfo → List CpInfo
  | 0, r => r
  | n + 1, r => .unusable :: gap n r
def poolList (es : List (Nat × CpInfo)) (last : Nat) : List CpInfo := es.foldr (fun e r => gap e.1 (e.2 :: r)) (gap last [])
def pool (es : List (Nat × CpInfo)) (last : Nat) : Array CpInfo := ⟨poolList es last⟩
def fileOf (pool : Array CpInfo) (this : Nat) (attrs : Array Attribute := #[]) (ms : Array MethodInfo := #[]) (fl : Nat := 33) (sup : Nat := 0) (ifs : Array Nat := #[]) (fds : Array FieldInfo := #[]) : ClassFile where
  minorVersion := 0
  majorVersion := 65
  constantPool := pool
  accessFlags := fl
  thisClass := this
  superClass := sup
  interfaces := ifs
  fields := fds
  methods := ms
  attributes := attrs
def plain (name : String) (sup : Option ClassId) : Class where
  name := name
  kind := .ordinary
  loader := none
  accessFlags := 33
  super := sup
  interfaces := #[]
  cf := none
  fields := #[]
  methods := #[]
  instanceTypes := #[]
  staticTypes := #[]
  resolved := #[]
  callSites := []
  init := .initialized
  statics := none
  mirror := none

def pool0 : Array CpInfo := pool [(5, u "<init>"), (0, u "()V"), (1, .class_ 10), (1, u "java/lang/Object")] 113

def k0c0 : Code := { maxStack := 0, maxLocals := 1, code := object_method_1_code, exceptionTable := #[], attributes := #[] }
def k0m0 : Method := { name := "<init>", desc := "()V", sig := { parameters := [], returnType := none }, accessFlags := 1, code := some k0c0 }
/-- java/lang/Object -/
def k0 : Class := { plain "java/lang/Object" none with
  accessFlags := 33
  interfaces := #[]
  cf := some (fileOf pool0 8 #[] #[{ accessFlags := 1, nameIndex := 5, descriptorIndex := 6, attributes := #[] }] 33 0 #[] #[])
  fields := #[]
  methods := #[k0m0]
  instanceTypes := #[]
  staticTypes := #[]
  resolved := Array.replicate 124 none
  statics := none }

def pool1 : Array CpInfo := pool [(2, .class_ 4), (1, u "java/lang/Object"), (0, u "<init>"), (0, u "()V"), (0, .methodref 8 9), (0, .class_ 10), (0, .nameAndType 11 12), (0, u "com/example/postwinnow/postwinnow/ciff/WireInputSkipShortFieldsPinLaw"), (0, u "pick"), (0, u "(JIII)B"), (0, .integer 2147483647), (0, .class_ 15), (0, u "com/example/postwinnow/postwinnow/ciff/WireInput"), (0, .methodref 14 17), (0, .nameAndType 5 18), (0, u "([BII)V"), (0, .methodref 14 20), (0, .nameAndType 21 22), (0, u "skipShortFields"), (0, u "(I)I"), (0, .methodref 8 24), (0, .nameAndType 25 26), (0, u "next"), (0, u "([BBII)I"), (0, .methodref 14 28), (0, .nameAndType 29 30), (0, u "position"), (0, u "()I"), (0, .methodref 14 32), (0, .nameAndType 33 30), (0, u "remaining"), (2, u "law"), (0, u "(JIIII)Z")] 5

def k1m0 : Method := { name := "<init>", desc := "()V", sig := { parameters := [], returnType := none }, accessFlags := 1, code := none }
def k1c1 : Code := { maxStack := 7, maxLocals := 20, code := code, exceptionTable := #[], attributes := #[] }
def k1m1 : Method := { name := "law", desc := "(JIIII)Z", sig := { parameters := [.long, .int, .int, .int, .int], returnType := some .boolean }, accessFlags := 9, code := some k1c1 }
def k1c2 : Code := { maxStack := 4, maxLocals := 7, code := method_3_code, exceptionTable := #[], attributes := #[] }
def k1m2 : Method := { name := "pick", desc := "(JIII)B", sig := { parameters := [.long, .int, .int, .int], returnType := some .byte }, accessFlags := 10, code := some k1c2 }
def k1c3 : Code := { maxStack := 3, maxLocals := 5, code := method_4_code, exceptionTable := #[], attributes := #[] }
def k1m3 : Method := { name := "next", desc := "([BBII)I", sig := { parameters := [(.array .byte), .byte, .int, .int], returnType := some .int }, accessFlags := 10, code := some k1c3 }
/-- com/example/postwinnow/postwinnow/ciff/WireInputSkipShortFieldsPinLaw -/
def k1 : Class := { plain "com/example/postwinnow/postwinnow/ciff/WireInputSkipShortFieldsPinLaw" (some 0) with
  accessFlags := 49
  interfaces := #[]
  cf := some (fileOf pool1 8 #[] #[{ accessFlags := 1, nameIndex := 5, descriptorIndex := 6, attributes := #[] }, { accessFlags := 9, nameIndex := 36, descriptorIndex := 37, attributes := #[] }, { accessFlags := 10, nameIndex := 11, descriptorIndex := 12, attributes := #[] }, { accessFlags := 10, nameIndex := 25, descriptorIndex := 26, attributes := #[] }] 49 2 #[] #[])
  fields := #[]
  methods := #[k1m0, k1m1, k1m2, k1m3]
  instanceTypes := #[]
  staticTypes := #[]
  resolved := Array.replicate 43 none
  statics := none }

def pool2 : Array CpInfo := pool [(3, .class_ 4), (0, u "com/example/postwinnow/postwinnow/ciff/WireInput"), (0, .methodref 6 7), (0, .class_ 8), (0, .nameAndType 9 10), (0, u "java/lang/Object"), (0, u "<init>"), (0, u "()V"), (0, .fieldref 3 12), (0, .nameAndType 13 14), (0, u "bytes"), (0, u "[B"), (0, .fieldref 3 16), (0, .nameAndType 17 18), (0, u "position"), (0, u "I"), (0, .fieldref 3 20), (0, .nameAndType 21 18), (0, u "limit"), (2, u "([BII)V"), (29, u "(I)I"), (57, u "FIRST_VARINT"), (0, u "B"), (2, u "SECOND_VARINT"), (1, u "SMALL_BITS"), (1, u "SIZE_BITS"), (1, u "SIZE_MASK"), (6, u "remaining"), (0, u "()I"), (17, u "skipShortFields")] 31

def k2c0 : Code := { maxStack := 2, maxLocals := 4, code := prog_12_method_1_code, exceptionTable := #[], attributes := #[] }
def k2m0 : Method := { name := "<init>", desc := "([BII)V", sig := { parameters := [(.array .byte), .int, .int], returnType := none }, accessFlags := 0, code := some k2c0 }
def k2c1 : Code := { maxStack := 2, maxLocals := 1, code := prog_12_method_3_code, exceptionTable := #[], attributes := #[] }
def k2m1 : Method := { name := "remaining", desc := "()I", sig := { parameters := [], returnType := some .int }, accessFlags := 0, code := some k2c1 }
def k2c2 : Code := { maxStack := 1, maxLocals := 1, code := prog_12_method_11_code, exceptionTable := #[], attributes := #[] }
def k2m2 : Method := { name := "position", desc := "()I", sig := { parameters := [], returnType := some .int }, accessFlags := 0, code := some k2c2 }
def k2c3 : Code := { maxStack := 4, maxLocals := 6, code := prog_12_method_16_code, exceptionTable := #[], attributes := #[] }
def k2m3 : Method := { name := "skipShortFields", desc := "(I)I", sig := { parameters := [.int], returnType := some .int }, accessFlags := 0, code := some k2c3 }
/-- com/example/postwinnow/postwinnow/ciff/WireInput -/
def k2 : Class := { plain "com/example/postwinnow/postwinnow/ciff/WireInput" (some 0) with
  accessFlags := 48
  interfaces := #[]
  cf := some (fileOf pool2 3 #[] #[{ accessFlags := 0, nameIndex := 9, descriptorIndex := 24, attributes := #[] }, { accessFlags := 0, nameIndex := 129, descriptorIndex := 130, attributes := #[] }, { accessFlags := 0, nameIndex := 17, descriptorIndex := 130, attributes := #[] }, { accessFlags := 0, nameIndex := 148, descriptorIndex := 54, attributes := #[] }] 48 6 #[] #[{ accessFlags := 26, nameIndex := 112, descriptorIndex := 113, attributes := #[] }, { accessFlags := 26, nameIndex := 116, descriptorIndex := 113, attributes := #[] }, { accessFlags := 26, nameIndex := 118, descriptorIndex := 18, attributes := #[] }, { accessFlags := 26, nameIndex := 120, descriptorIndex := 18, attributes := #[] }, { accessFlags := 26, nameIndex := 122, descriptorIndex := 18, attributes := #[] }, { accessFlags := 18, nameIndex := 13, descriptorIndex := 14, attributes := #[] }, { accessFlags := 2, nameIndex := 21, descriptorIndex := 18, attributes := #[] }, { accessFlags := 2, nameIndex := 17, descriptorIndex := 18, attributes := #[] }])
  fields := #[{ name := "FIRST_VARINT", type := .byte, accessFlags := 26, slot := 0, constantValue := 0 }, { name := "SECOND_VARINT", type := .byte, accessFlags := 26, slot := 1, constantValue := 0 }, { name := "SMALL_BITS", type := .int, accessFlags := 26, slot := 2, constantValue := 0 }, { name := "SIZE_BITS", type := .int, accessFlags := 26, slot := 3, constantValue := 0 }, { name := "SIZE_MASK", type := .int, accessFlags := 26, slot := 4, constantValue := 0 }, { name := "bytes", type := (.array .byte), accessFlags := 18, slot := 0, constantValue := 0 }, { name := "limit", type := .int, accessFlags := 2, slot := 1, constantValue := 0 }, { name := "position", type := .int, accessFlags := 2, slot := 2, constantValue := 0 }]
  methods := #[k2m0, k2m1, k2m2, k2m3]
  instanceTypes := #[(.array .byte), .int, .int]
  staticTypes := #[.byte, .byte, .int, .int, .int]
  resolved := Array.replicate 180 none
  statics := none }

def pool3 : Array CpInfo := pool [(1, u "java/lang/Cloneable"), (0, .class_ 1), (0, u "java/lang/Object"), (0, .class_ 3)] 3

/-- java/lang/Cloneable -/
def k3 : Class := { plain "java/lang/Cloneable" (some 0) with
  accessFlags := 1537
  interfaces := #[]
  cf := some (fileOf pool3 2 #[] #[] 1537 4 #[] #[])
  fields := #[]
  methods := #[]
  instanceTypes := #[]
  staticTypes := #[]
  resolved := Array.replicate 8 none
  statics := none }

def pool4 : Array CpInfo := pool [(1, u "java/io/Serializable"), (0, .class_ 1), (0, u "java/lang/Object"), (0, .class_ 3)] 3

/-- java/io/Serializable -/
def k4 : Class := { plain "java/io/Serializable" (some 0) with
  accessFlags := 1537
  interfaces := #[]
  cf := some (fileOf pool4 2 #[] #[] 1537 4 #[] #[])
  fields := #[]
  methods := #[]
  instanceTypes := #[]
  staticTypes := #[]
  resolved := Array.replicate 8 none
  statics := none }

/-- the primitive byte -/
def k5 : Class := { plain "byte" none with kind := .primitive 'B', accessFlags := 0x411 }
/-- [B -/
def k6 : Class := { plain "[B" (some 0) with kind := .array 5 .byte, interfaces := #[3, 4], accessFlags := 1041 }

/-- the primitive int -/
def k7 : Class := { plain "int" none with kind := .primitive 'I', accessFlags := 0x411 }
/-- [I -/
def k8 : Class := { plain "[I" (some 0) with kind := .array 7 .int, interfaces := #[3, 4], accessFlags := 1041 }

def heap : Heap := #[]
def classes : Array Class := #[k0, k1, k2, k3, k4, k5, k6, k7, k8]
def interned : List (Array UInt16 × Addr) := []
def slotsUsed : Nat := 0
def theMethod : MethodId := ⟨1, 1⟩
def args0 : Array Value := #[.long 5, .int 7, .int 3, .int 2, .int 6]
def aboutOver (below : List Frame) : State where
  vm := { classes := classes, interned := interned.toArray }
  heap := heap
  slotsUsed := slotsUsed
  threads := #[{ frames := .invoking theMethod args0 :: below }]
def below0 : List Frame := [.native { method := ⟨0, 0⟩, args := #[] }]
def about1 : State := aboutOver below0
def p0 : Program := .bare "" "" ""
def e0 : Env := launch0.env 0 0 0
theorem w_frames : about1.frames = Frame.invoking theMethod args0 :: below0 := rfl
set_option maxRecDepth 65536 in
theorem w_args : argsFit about1.vm theMethod args0 = true := by decide +kernel
set_option maxRecDepth 65536 in
theorem w_heap : heapFits about1 = true := by decide +kernel
set_option maxRecDepth 65536 in
theorem w_runnable : about1.curStatus? = some .runnable := by decide +kernel
set_option maxRecDepth 65536 in
theorem w_alone : about1.alone = true := by decide +kernel
set_option maxRecDepth 65536 in
theorem w_named : about1.methodNamed? x = some theMethod := by decide +kernel
set_option maxRecDepth 65536 in
theorem w_hears : about1.hears theMethod below0 = true := by decide +kernel
set_option maxRecDepth 65536 in
theorem w_ripe : about1.ripe theMethod args0 below0 = true := by decide +kernel
theorem w_running : about1.status = .running := rfl
set_option maxRecDepth 65536 in
theorem w_room : about1.hasRoom e0.platform room_1 = true :=
  launch0.hasRoom_least _ room_1 (by decide +kernel) (by decide +kernel) (by decide +kernel) (by decide +kernel) (by decide +kernel) (by decide +kernel)
theorem allAtoms_all (ts : List Jvm.Cond) (a : Array Jvm.Value) (st : Jvm.State) : (allAtoms ts).before a st = ts.all (fun c => c.before a st) := by
  induction ts with
  | nil => rfl
  | cons c t ih =>
    show (Jvm.Cond.and c (allAtoms t)).before a st = _
    rw [Jvm.Cond.before_and, ih, List.all_cons]
def words1 : List Jvm.Cond := Jvm.Cond.code x code maxLocals ret :: tables_1
/-- a 'code' word, met by the world's own term for the bytes: nothing is compared byte by byte -/
theorem code_word {y : MethodName} {bytes : ByteArray} {mx : Nat} {rt : Option FieldType} {a : Array Value} {s : State} {m : MethodId} {meth : Method} {c : Code} (h1 : s.methodNamed? y = some m) (h2 : s.vm.method? m = some meth) (h3 : meth.code = some c) (h4 : c.code = bytes)
    (h5 : (c.maxLocals == mx && c.exceptionTable.isEmpty && decide (c.maxStack ≤ mostOperands) && decide (meth.sig.returnType = rt) && !meth.locks && decide (parseMethodDescriptor y.desc = some meth.sig)) = true) : (Jvm.Cond.code y bytes mx rt).before a s = true := by
  simp only [Bool.and_eq_true, beq_iff_eq, Bool.not_eq_true', decide_eq_true_eq] at h5
  obtain ⟨⟨⟨⟨⟨g1, g2⟩, g3⟩, g4⟩, g5⟩, g6⟩ := h5
  simp [Cond.before, Cond.holds, Cond.value, h1, h2, h3, h4, g1, g2, g3, g4, g5, g6]
def isCode : Jvm.Cond → Bool
  | .code _ _ _ _ => true
  | _ => false
theorem all_split {L : List Jvm.Cond} {P : Jvm.Cond → Bool} (h1 : L.all (fun c => isCode c || P c) = true) (h2 : ∀ c ∈ L.filter isCode, P c = true) : L.all P = true := by
  refine List.all_eq_true.mpr fun c hc => ?_
  have h := List.all_eq_true.mp h1 c hc
  rcases Bool.eq_false_or_eq_true (isCode c) with hi | hi
  · exact h2 c (List.mem_filter.mpr ⟨hc, hi⟩)
  · simpa [hi] using h
set_option maxRecDepth 65536 in
theorem w_c0 : (Jvm.Cond.code x code maxLocals ret).before args0 about1 = true := code_word (m := ⟨1, 1⟩) (meth := k1m1) (c := k1c1) (by decide +kernel) rfl rfl rfl (by decide +kernel)
set_option maxRecDepth 65536 in
theorem w_c1 : (Jvm.Cond.code ({ cls := "com/example/postwinnow/postwinnow/ciff/WireInputSkipShortFieldsPinLaw", name := "pick", desc := "(JIII)B" } : Jvm.MethodName) method_3_code (7 : Nat) (Option.some Jvm.ClassFile.FieldType.byte)).before args0 about1 = true := code_word (m := ⟨1, 2⟩) (meth := k1m2) (c := k1c2) (by decide +kernel) rfl rfl rfl (by decide +kernel)
set_option maxRecDepth 65536 in
theorem w_c2 : (Jvm.Cond.code ({ cls := "com/example/postwinnow/postwinnow/ciff/WireInput", name := "<init>", desc := "([BII)V" } : Jvm.MethodName) prog_12_method_1_code (4 : Nat) (Option.none : Option Jvm.ClassFile.FieldType)).before args0 about1 = true := code_word (m := ⟨2, 0⟩) (meth := k2m0) (c := k2c0) (by decide +kernel) rfl rfl rfl (by decide +kernel)
set_option maxRecDepth 65536 in
theorem w_c3 : (Jvm.Cond.code ({ cls := "java/lang/Object", name := "<init>", desc := "()V" } : Jvm.MethodName) object_method_1_code (1 : Nat) (Option.none : Option Jvm.ClassFile.FieldType)).before args0 about1 = true := code_word (m := ⟨0, 0⟩) (meth := k0m0) (c := k0c0) (by decide +kernel) rfl rfl rfl (by decide +kernel)
set_option maxRecDepth 65536 in
theorem w_c4 : (Jvm.Cond.code ({ cls := "com/example/postwinnow/postwinnow/ciff/WireInput", name := "skipShortFields", desc := "(I)I" } : Jvm.MethodName) prog_12_method_16_code (6 : Nat) (Option.some Jvm.ClassFile.FieldType.int)).before args0 about1 = true := code_word (m := ⟨2, 3⟩) (meth := k2m3) (c := k2c3) (by decide +kernel) rfl rfl rfl (by decide +kernel)
set_option maxRecDepth 65536 in
theorem w_c5 : (Jvm.Cond.code ({ cls := "com/example/postwinnow/postwinnow/ciff/WireInputSkipShortFieldsPinLaw", name := "next", desc := "([BBII)I" } : Jvm.MethodName) method_4_code (5 : Nat) (Option.some Jvm.ClassFile.FieldType.int)).before args0 about1 = true := code_word (m := ⟨1, 3⟩) (meth := k1m3) (c := k1c3) (by decide +kernel) rfl rfl rfl (by decide +kernel)
set_option maxRecDepth 65536 in
theorem w_c6 : (Jvm.Cond.code ({ cls := "com/example/postwinnow/postwinnow/ciff/WireInput", name := "position", desc := "()I" } : Jvm.MethodName) prog_12_method_11_code (1 : Nat) (Option.some Jvm.ClassFile.FieldType.int)).before args0 about1 = true := code_word (m := ⟨2, 2⟩) (meth := k2m2) (c := k2c2) (by decide +kernel) rfl rfl rfl (by decide +kernel)
set_option maxRecDepth 65536 in
theorem w_c7 : (Jvm.Cond.code ({ cls := "com/example/postwinnow/postwinnow/ciff/WireInput", name := "remaining", desc := "()I" } : Jvm.MethodName) prog_12_method_3_code (1 : Nat) (Option.some Jvm.ClassFile.FieldType.int)).before args0 about1 = true := code_word (m := ⟨2, 1⟩) (meth := k2m1) (c := k2c1) (by decide +kernel) rfl rfl rfl (by decide +kernel)
def codes1 : List Jvm.Cond := [Jvm.Cond.code x code maxLocals ret, Jvm.Cond.code ({ cls := "com/example/postwinnow/postwinnow/ciff/WireInputSkipShortFieldsPinLaw", name := "pick", desc := "(JIII)B" } : Jvm.MethodName) method_3_code (7 : Nat) (Option.some Jvm.ClassFile.FieldType.byte), Jvm.Cond.code ({ cls := "com/example/postwinnow/postwinnow/ciff/WireInput", name := "<init>", desc := "([BII)V" } : Jvm.MethodName) prog_12_method_1_code (4 : Nat) (Option.none : Option Jvm.ClassFile.FieldType), Jvm.Cond.code ({ cls := "java/lang/Object", name := "<init>", desc := "()V" } : Jvm.MethodName) object_method_1_code (1 : Nat) (Option.none : Option Jvm.ClassFile.FieldType), Jvm.Cond.code ({ cls := "com/example/postwinnow/postwinnow/ciff/WireInput", name := "skipShortFields", desc := "(I)I" } : Jvm.MethodName) prog_12_method_16_code (6 : Nat) (Option.some Jvm.ClassFile.FieldType.int), Jvm.Cond.code ({ cls := "com/example/postwinnow/postwinnow/ciff/WireInputSkipShortFieldsPinLaw", name := "next", desc := "([BBII)I" } : Jvm.MethodName) method_4_code (5 : Nat) (Option.some Jvm.ClassFile.FieldType.int), Jvm.Cond.code ({ cls := "com/example/postwinnow/postwinnow/ciff/WireInput", name := "position", desc := "()I" } : Jvm.MethodName) prog_12_method_11_code (1 : Nat) (Option.some Jvm.ClassFile.FieldType.int), Jvm.Cond.code ({ cls := "com/example/postwinnow/postwinnow/ciff/WireInput", name := "remaining", desc := "()I" } : Jvm.MethodName) prog_12_method_3_code (1 : Nat) (Option.some Jvm.ClassFile.FieldType.int)]
set_option maxRecDepth 65536 in
theorem codes_eq : words1.filter isCode = codes1 := rfl
theorem w_codes : ∀ c ∈ words1.filter isCode, c.before args0 about1 = true := by
  rw [codes_eq]
  intro c hc
  simp only [codes1, List.mem_cons, List.not_mem_nil, or_false] at hc
  rcases hc with rfl | rfl | rfl | rfl | rfl | rfl | rfl | rfl
  · exact w_c0
  · exact w_c1
  · exact w_c2
  · exact w_c3
  · exact w_c4
  · exact w_c5
  · exact w_c6
  · exact w_c7
set_option maxRecDepth 65536 in
theorem w_t1 : (words1.take 24).all (fun c => isCode c || c.before args0 about1) = true := by decide +kernel
set_option maxRecDepth 65536 in
theorem w_t2 : (words1.drop 24).all (fun c => isCode c || c.before args0 about1) = true := by decide +kernel
theorem w_tables : (allAtoms (Jvm.Cond.code x code maxLocals ret :: tables_1)).before args0 about1 = true := by
  rw [allAtoms_all]
  show words1.all (fun c => c.before args0 about1) = true
  refine all_split ?_ w_codes
  rw [← List.take_append_drop 24 words1, List.all_append, w_t1, w_t2]
  rfl
set_option maxRecDepth 65536 in
theorem w_case : (Jvm.Cond.and given_1 narrow_1).before args0 about1 = true := by decide +kernel
theorem w_applies : (headSpec (Jvm.Cond.code x code maxLocals ret :: tables_1) room_1).applies x e0.platform about1 = true :=
  (Spec.applies_iff w_frames).mpr ⟨w_running, w_runnable, w_alone, w_named, w_hears, w_ripe, w_room, w_tables⟩
theorem atStart : AtStart classFile x code maxLocals ret World_1 tables_1 room_1 Calls_1 rest_1 Pre_1 launch0 p0 e0 about1 theMethod args0 below0 :=
  ⟨lists_1, trivial, launch0.admits_env _ _ _, launch0.least_env, fairChoices_fair.cas, fairChoices_fair.clock, w_frames, w_args, w_heap, w_applies, trivial, trivial, w_case⟩
end start1
theorem witness_1 : WitnessClaimed_1 := ⟨start1.p0, start1.e0, start1.about1, start1.theMethod, start1.args0, start1.below0, start1.atStart⟩
end Jvm.Pilot.@@N@@
