import JvmDerived
import JvmDerived.Pilot.@@N@@Statement
import JvmDerived.Pilot.@@N@@Code
set_option linter.unusedVariables false
set_option linter.unusedSimpArgs false
namespace Jvm.RoadKit
open Sem ClassFile Op Lib Jvm.Stand Jvm.Free Jvm.LawKit
section New
variable {p : Program} {l : Launch} {e : Env} {R : Room} {s : State} {m : MethodId} {args : Array Value} {below : List Frame} {meth : Method} {c : Code} {T : State} {locs : List Loc} {cells slots : Nat}
theorem retI (X : Stand p l e R s m args below meth c T locs cells slots) (hx : p.tables.exec = Jvm.exec) {pc : Nat} {Ls : Array Slot} {z : Int32} {rest : List Value} (hret : meth.sig.returnType = some .int) (hd : decode c.code pc = .ok (.ireturn, 1)) {fs : List Frame}
    (hl : ∀ (f : JFrame) (acts : List Action), f.method = m → f.locked = none → f.entered = [] → (doReturn e (T.setTop f) acts (some (.int z))).1 = T.setFrames fs) : Steps p.tables e below (T.setTop (mkF m pc Ls (.int z :: rest))) (T.setFrames fs) := by
  have hm' : T.vm.method? m = some meth := X.method'
  have hn : narrow .int (.int z) = .int z := rfl
  show Steps p.tables e below (T.setTop { method := m, pc := pc, locals := Ls, stack := _ :: rest, locked := none }) _
  jvm_step X.here [X.here.top, hx, hd, hm', hret, hn]
  first | (intro acts; rw [hl _ acts rfl rfl rfl]) | rw [hl _ _ rfl rfl rfl]
  exact Steps.refl _
end New
end Jvm.RoadKit
namespace Jvm.Pilot.@@N@@
open Jvm Jvm.ClassFile Sem Op Lib Jvm.Free Jvm.Stand Jvm.LawKit Jvm.RoadKit Bundle Jvm.Pilot.@@N@@.Jvm.D
def Wp (p : Program) (e : Env) (s : State) (below : List Frame) (C S : Nat) (Q : Option Value → Heap → List Loc → Prop) (T : State) (g : JFrame) : Prop :=
  ∃ s₂ o, Steps p.tables e below (T.setTop g) s₂ ∧ s₂.status = .running ∧ Ended s₂ below o ∧ ∃ v L, o = .returned v ∧ Q v s₂.heap L ∧ FrameEnd s o s₂ L C S
section OwnW
variable {p : Program} {l : Launch} {e : Env} {R : Room} {s : State} {m : MethodId} {args : Array Value} {below : List Frame} {meth : Method} {c : Code} {T : State} {locs : List Loc} {cells slots : Nat} {C S : Nat} {Q : Option Value → Heap → List Loc → Prop} {pc pc' : Nat} {Ls : Array Slot} {st : List Value}
theorem Wp.via {T' : State} {g g' : JFrame} (st : ∀ t, Steps p.tables e below (T'.setTop g') t → Steps p.tables e below (T.setTop g) t) (k : Wp p e s below C S Q T' g') : Wp p e s below C S Q T g := by
  obtain ⟨s₂, o, h1, h2⟩ := k
  exact ⟨s₂, o, st _ h1, h2⟩
theorem w_iload (X : Stand p l e R s m args below meth c T locs cells slots) (hx : p.tables.exec = Jvm.exec) {k : Nat} {v : Int32} (hd : decode c.code pc = .ok (.iload k, 2)) (hl : Ls[k]? = some (.val (.int v))) (hp : pc + 2 = pc') (k : Wp p e s below C S Q T (mkF m pc' Ls (Value.int v :: st))) : Wp p e s below C S Q T (mkF m pc Ls (st)) := by
  subst hp
  exact Wp.via (fun _ h => XS.iload X.here hx rfl hd hl h) k
theorem w_iloadN (X : Stand p l e R s m args below meth c T locs cells slots) (hx : p.tables.exec = Jvm.exec) {k : Fin 4} {v : Int32} (hd : decode c.code pc = .ok (.iload_n k, 1)) (hl : Ls[k.val]? = some (.val (.int v))) (hp : pc + 1 = pc') (k : Wp p e s below C S Q T (mkF m pc' Ls (Value.int v :: st))) : Wp p e s below C S Q T (mkF m pc Ls (st)) := by
  subst hp
  exact Wp.via (fun _ h => XS.iloadN X.here hx rfl hd hl h) k
theorem w_lload (X : Stand p l e R s m args below meth c T locs cells slots) (hx : p.tables.exec = Jvm.exec) {k : Nat} {v : Int64} (hd : decode c.code pc = .ok (.lload k, 2)) (hl : Ls[k]? = some (.val (.long v))) (hp : pc + 2 = pc') (k : Wp p e s below C S Q T (mkF m pc' Ls (Value.long v :: st))) : Wp p e s below C S Q T (mkF m pc Ls (st)) := by
  subst hp
  exact Wp.via (fun _ h => XT.lload X.here hx rfl hd hl h) k
theorem w_lloadN (X : Stand p l e R s m args below meth c T locs cells slots) (hx : p.tables.exec = Jvm.exec) {k : Fin 4} {v : Int64} (hd : decode c.code pc = .ok (.lload_n k, 1)) (hl : Ls[k.val]? = some (.val (.long v))) (hp : pc + 1 = pc') (k : Wp p e s below C S Q T (mkF m pc' Ls (Value.long v :: st))) : Wp p e s below C S Q T (mkF m pc Ls (st)) := by
  subst hp
  exact Wp.via (fun _ h => XT.lloadN X.here hx rfl hd hl h) k
theorem w_aload (X : Stand p l e R s m args below meth c T locs cells slots) (hx : p.tables.exec = Jvm.exec) {k : Nat} {v : Value} (hd : decode c.code pc = .ok (.aload k, 2)) (hl : Ls[k]? = some (.val v)) (hv : v.isRef = true) (hp : pc + 2 = pc') (k : Wp p e s below C S Q T (mkF m pc' Ls (v :: st))) : Wp p e s below C S Q T (mkF m pc Ls (st)) := by
  subst hp
  exact Wp.via (fun _ h => XS.aload X.here hx rfl hd hl hv h) k
theorem w_aloadN (X : Stand p l e R s m args below meth c T locs cells slots) (hx : p.tables.exec = Jvm.exec) {k : Fin 4} {v : Value} (hd : decode c.code pc = .ok (.aload_n k, 1)) (hl : Ls[k.val]? = some (.val v)) (hv : v.isRef = true) (hp : pc + 1 = pc') (k : Wp p e s below C S Q T (mkF m pc' Ls (v :: st))) : Wp p e s below C S Q T (mkF m pc Ls (st)) := by
  subst hp
  exact Wp.via (fun _ h => XS.aloadN X.here hx rfl hd hl hv h) k
theorem w_istore (X : Stand p l e R s m args below meth c T locs cells slots) (hx : p.tables.exec = Jvm.exec) {k : Nat} {v : Int32} {l' : Array Slot} (hd : decode c.code pc = .ok (.istore k, 2)) (hl : storeLocals Ls k (Value.int v) = some l') (hp : pc + 2 = pc') (k : Wp p e s below C S Q T (mkF m pc' l' (st))) : Wp p e s below C S Q T (mkF m pc Ls (Value.int v :: st)) := by
  subst hp
  exact Wp.via (fun _ h => XS.istore X.here hx rfl hd rfl hl h) k
theorem w_istoreN (X : Stand p l e R s m args below meth c T locs cells slots) (hx : p.tables.exec = Jvm.exec) {k : Fin 4} {v : Int32} {l' : Array Slot} (hd : decode c.code pc = .ok (.istore_n k, 1)) (hl : storeLocals Ls k.val (Value.int v) = some l') (hp : pc + 1 = pc') (k : Wp p e s below C S Q T (mkF m pc' l' (st))) : Wp p e s below C S Q T (mkF m pc Ls (Value.int v :: st)) := by
  subst hp
  exact Wp.via (fun _ h => XS.istoreN X.here hx rfl hd rfl hl h) k
theorem w_lstore (X : Stand p l e R s m args below meth c T locs cells slots) (hx : p.tables.exec = Jvm.exec) {k : Nat} {v : Int64} {l' : Array Slot} (hd : decode c.code pc = .ok (.lstore k, 2)) (hl : storeLocals Ls k (Value.long v) = some l') (hp : pc + 2 = pc') (k : Wp p e s below C S Q T (mkF m pc' l' (st))) : Wp p e s below C S Q T (mkF m pc Ls (Value.long v :: st)) := by
  subst hp
  exact Wp.via (fun _ h => XT.lstore X.here hx rfl hd rfl hl h) k
theorem w_lstoreN (X : Stand p l e R s m args below meth c T locs cells slots) (hx : p.tables.exec = Jvm.exec) {k : Fin 4} {v : Int64} {l' : Array Slot} (hd : decode c.code pc = .ok (.lstore_n k, 1)) (hl : storeLocals Ls k.val (Value.long v) = some l') (hp : pc + 1 = pc') (k : Wp p e s below C S Q T (mkF m pc' l' (st))) : Wp p e s below C S Q T (mkF m pc Ls (Value.long v :: st)) := by
  subst hp
  exact Wp.via (fun _ h => XT.lstoreN X.here hx rfl hd rfl hl h) k
theorem w_astore (X : Stand p l e R s m args below meth c T locs cells slots) (hx : p.tables.exec = Jvm.exec) {k : Nat} {v : Value} {l' : Array Slot} (hd : decode c.code pc = .ok (.astore k, 2)) (hv : v.isRef = true) (hl : storeLocals Ls k v = some l') (hp : pc + 2 = pc') (k : Wp p e s below C S Q T (mkF m pc' l' (st))) : Wp p e s below C S Q T (mkF m pc Ls (v :: st)) := by
  subst hp
  exact Wp.via (fun _ h => XS.astore X.here hx rfl hd rfl hv hl h) k
theorem w_astoreN (X : Stand p l e R s m args below meth c T locs cells slots) (hx : p.tables.exec = Jvm.exec) {k : Fin 4} {v : Value} {l' : Array Slot} (hd : decode c.code pc = .ok (.astore_n k, 1)) (hv : v.isRef = true) (hl : storeLocals Ls k.val v = some l') (hp : pc + 1 = pc') (k : Wp p e s below C S Q T (mkF m pc' l' (st))) : Wp p e s below C S Q T (mkF m pc Ls (v :: st)) := by
  subst hp
  exact Wp.via (fun _ h => XS.astoreN X.here hx rfl hd rfl hv hl h) k
theorem w_iconst (X : Stand p l e R s m args below meth c T locs cells slots) (hx : p.tables.exec = Jvm.exec) {i : Int} {v : Int32} (hd : decode c.code pc = .ok (.iconst i, 1)) (hv : Int32.ofInt i = v) (hp : pc + 1 = pc') (k : Wp p e s below C S Q T (mkF m pc' Ls (Value.int v :: st))) : Wp p e s below C S Q T (mkF m pc Ls (st)) := by
  subst hp hv
  exact Wp.via (fun _ h => XS.iconst X.here hx rfl hd h) k
theorem w_bipush (X : Stand p l e R s m args below meth c T locs cells slots) (hx : p.tables.exec = Jvm.exec) {i : Int} {v : Int32} (hd : decode c.code pc = .ok (.bipush i, 2)) (hv : (Int8.ofInt i).toInt32 = v) (hp : pc + 2 = pc') (k : Wp p e s below C S Q T (mkF m pc' Ls (Value.int v :: st))) : Wp p e s below C S Q T (mkF m pc Ls (st)) := by
  subst hp hv
  exact Wp.via (fun _ h => XS.bipush X.here hx rfl hd h) k
theorem w_sipush (X : Stand p l e R s m args below meth c T locs cells slots) (hx : p.tables.exec = Jvm.exec) {i : Int} {v : Int32} (hd : decode c.code pc = .ok (.sipush i, 3)) (hv : (Int16.ofInt i).toInt32 = v) (hp : pc + 3 = pc') (k : Wp p e s below C S Q T (mkF m pc' Ls (Value.int v :: st))) : Wp p e s below C S Q T (mkF m pc Ls (st)) := by
  subst hp hv
  exact Wp.via (fun _ h => XS.sipush X.here hx rfl hd h) k
theorem w_lconst (X : Stand p l e R s m args below meth c T locs cells slots) (hx : p.tables.exec = Jvm.exec) {k : Fin 2} {v : Int64} (hd : decode c.code pc = .ok (.lconst k, 1)) (hv : Int64.ofNat k = v) (hp : pc + 1 = pc') (k : Wp p e s below C S Q T (mkF m pc' Ls (Value.long v :: st))) : Wp p e s below C S Q T (mkF m pc Ls (st)) := by
  subst hp hv
  exact Wp.via (fun _ h => XT.lconst X.here hx rfl hd h) k
theorem w_aconst (X : Stand p l e R s m args below meth c T locs cells slots) (hx : p.tables.exec = Jvm.exec)  (hd : decode c.code pc = .ok (.aconst_null, 1))  (hp : pc + 1 = pc') (k : Wp p e s below C S Q T (mkF m pc' Ls (Value.null :: st))) : Wp p e s below C S Q T (mkF m pc Ls (st)) := by
  subst hp
  exact Wp.via (fun _ h => XS.aconstNull X.here hx rfl hd h) k
theorem w_ldc (X : Stand p l e R s m args below meth c T locs cells slots) (hx : p.tables.exec = Jvm.exec) {i : Nat} {v : Int32} {own : String} (hd : decode c.code pc = .ok (.ldc i, 2)) (hown : s.vm.findClass own = some m.cls) (hc : (Jvm.Cond.constant own i v).before args s = true) (hp : pc + 2 = pc') (k : Wp p e s below C S Q T (mkF m pc' Ls (Value.int v :: st))) : Wp p e s below C S Q T (mkF m pc Ls (st)) := by
  subst hp
  exact Wp.via (fun _ h => X.ldcInt hx hown hc (g := mkF m pc Ls st) rfl hd _ h) k
theorem w_ldc2 (X : Stand p l e R s m args below meth c T locs cells slots) (hx : p.tables.exec = Jvm.exec) {i : Nat} {v : Int64} {own : String} (hd : decode c.code pc = .ok (.ldc2_w i, 3)) (hown : s.vm.findClass own = some m.cls) (hc : (Jvm.Cond.constantLong own i v).before args s = true) (hp : pc + 3 = pc') (k : Wp p e s below C S Q T (mkF m pc' Ls (Value.long v :: st))) : Wp p e s below C S Q T (mkF m pc Ls (st)) := by
  subst hp
  exact Wp.via (fun _ h => X.ldc2Long hx hown hc (g := mkF m pc Ls st) rfl hd _ h) k
theorem w_iadd (X : Stand p l e R s m args below meth c T locs cells slots) (hx : p.tables.exec = Jvm.exec) {x y : Int32} (hd : decode c.code pc = .ok (.iadd, 1))  (hp : pc + 1 = pc') (k : Wp p e s below C S Q T (mkF m pc' Ls (Value.int (x + y) :: st))) : Wp p e s below C S Q T (mkF m pc Ls (Value.int y :: Value.int x :: st)) := by
  subst hp
  exact Wp.via (fun _ h => XS.iadd X.here hx rfl hd rfl h) k
theorem w_isub (X : Stand p l e R s m args below meth c T locs cells slots) (hx : p.tables.exec = Jvm.exec) {x y : Int32} (hd : decode c.code pc = .ok (.isub, 1))  (hp : pc + 1 = pc') (k : Wp p e s below C S Q T (mkF m pc' Ls (Value.int (x - y) :: st))) : Wp p e s below C S Q T (mkF m pc Ls (Value.int y :: Value.int x :: st)) := by
  subst hp
  exact Wp.via (fun _ h => XS.isub X.here hx rfl hd rfl h) k
theorem w_iand (X : Stand p l e R s m args below meth c T locs cells slots) (hx : p.tables.exec = Jvm.exec) {x y : Int32} (hd : decode c.code pc = .ok (.iand, 1))  (hp : pc + 1 = pc') (k : Wp p e s below C S Q T (mkF m pc' Ls (Value.int (x &&& y) :: st))) : Wp p e s below C S Q T (mkF m pc Ls (Value.int y :: Value.int x :: st)) := by
  subst hp
  exact Wp.via (fun _ h => XS.iand X.here hx rfl hd rfl h) k
theorem w_imul (X : Stand p l e R s m args below meth c T locs cells slots) (hx : p.tables.exec = Jvm.exec) {x y : Int32} (hd : decode c.code pc = .ok (.imul, 1))  (hp : pc + 1 = pc') (k : Wp p e s below C S Q T (mkF m pc' Ls (Value.int (x * y) :: st))) : Wp p e s below C S Q T (mkF m pc Ls (Value.int y :: Value.int x :: st)) := by
  subst hp
  exact Wp.via (fun _ h => XS.imul X.here hx rfl hd rfl h) k
theorem w_ixor (X : Stand p l e R s m args below meth c T locs cells slots) (hx : p.tables.exec = Jvm.exec) {x y : Int32} (hd : decode c.code pc = .ok (.ixor, 1))  (hp : pc + 1 = pc') (k : Wp p e s below C S Q T (mkF m pc' Ls (Value.int (x ^^^ y) :: st))) : Wp p e s below C S Q T (mkF m pc Ls (Value.int y :: Value.int x :: st)) := by
  subst hp
  exact Wp.via (fun _ h => XT.ixor X.here hx rfl hd rfl h) k
theorem w_ior (X : Stand p l e R s m args below meth c T locs cells slots) (hx : p.tables.exec = Jvm.exec) {x y : Int32} (hd : decode c.code pc = .ok (.ior, 1))  (hp : pc + 1 = pc') (k : Wp p e s below C S Q T (mkF m pc' Ls (Value.int (x ||| y) :: st))) : Wp p e s below C S Q T (mkF m pc Ls (Value.int y :: Value.int x :: st)) := by
  subst hp
  exact Wp.via (fun _ h => XT.ior X.here hx rfl hd rfl h) k
theorem w_ishl (X : Stand p l e R s m args below meth c T locs cells slots) (hx : p.tables.exec = Jvm.exec) {x y : Int32} (hd : decode c.code pc = .ok (.ishl, 1))  (hp : pc + 1 = pc') (k : Wp p e s below C S Q T (mkF m pc' Ls (Value.int (x <<< (y &&& 31)) :: st))) : Wp p e s below C S Q T (mkF m pc Ls (Value.int y :: Value.int x :: st)) := by
  subst hp
  exact Wp.via (fun _ h => XT.ishl X.here hx rfl hd rfl h) k
theorem w_ishr (X : Stand p l e R s m args below meth c T locs cells slots) (hx : p.tables.exec = Jvm.exec) {x y : Int32} (hd : decode c.code pc = .ok (.ishr, 1))  (hp : pc + 1 = pc') (k : Wp p e s below C S Q T (mkF m pc' Ls (Value.int (x >>> (y &&& 31)) :: st))) : Wp p e s below C S Q T (mkF m pc Ls (Value.int y :: Value.int x :: st)) := by
  subst hp
  exact Wp.via (fun _ h => XT.ishr X.here hx rfl hd rfl h) k
theorem w_iushr (X : Stand p l e R s m args below meth c T locs cells slots) (hx : p.tables.exec = Jvm.exec) {x y : Int32} (hd : decode c.code pc = .ok (.iushr, 1))  (hp : pc + 1 = pc') (k : Wp p e s below C S Q T (mkF m pc' Ls (Value.int (XT.ushr x y) :: st))) : Wp p e s below C S Q T (mkF m pc Ls (Value.int y :: Value.int x :: st)) := by
  subst hp
  exact Wp.via (fun _ h => XT.iushr X.here hx rfl hd rfl h) k
theorem w_idiv (X : Stand p l e R s m args below meth c T locs cells slots) (hx : p.tables.exec = Jvm.exec) {x y : Int32} (hd : decode c.code pc = .ok (.idiv, 1)) (hy : y ≠ 0) (hp : pc + 1 = pc') (k : Wp p e s below C S Q T (mkF m pc' Ls (Value.int (x / y) :: st))) : Wp p e s below C S Q T (mkF m pc Ls (Value.int y :: Value.int x :: st)) := by
  subst hp
  exact Wp.via (fun _ h => XS.idiv X.here hx rfl hd rfl hy h) k
theorem w_irem (X : Stand p l e R s m args below meth c T locs cells slots) (hx : p.tables.exec = Jvm.exec) {x y : Int32} (hd : decode c.code pc = .ok (.irem, 1)) (hy : y ≠ 0) (hp : pc + 1 = pc') (k : Wp p e s below C S Q T (mkF m pc' Ls (Value.int (x % y) :: st))) : Wp p e s below C S Q T (mkF m pc Ls (Value.int y :: Value.int x :: st)) := by
  subst hp
  exact Wp.via (fun _ h => iremM X hx rfl hd rfl hy h) k
theorem w_ladd (X : Stand p l e R s m args below meth c T locs cells slots) (hx : p.tables.exec = Jvm.exec) {x y : Int64} (hd : decode c.code pc = .ok (.ladd, 1))  (hp : pc + 1 = pc') (k : Wp p e s below C S Q T (mkF m pc' Ls (Value.long (x + y) :: st))) : Wp p e s below C S Q T (mkF m pc Ls (Value.long y :: Value.long x :: st)) := by
  subst hp
  exact Wp.via (fun _ h => XT.ladd X.here hx rfl hd rfl h) k
theorem w_lsub (X : Stand p l e R s m args below meth c T locs cells slots) (hx : p.tables.exec = Jvm.exec) {x y : Int64} (hd : decode c.code pc = .ok (.lsub, 1))  (hp : pc + 1 = pc') (k : Wp p e s below C S Q T (mkF m pc' Ls (Value.long (x - y) :: st))) : Wp p e s below C S Q T (mkF m pc Ls (Value.long y :: Value.long x :: st)) := by
  subst hp
  exact Wp.via (fun _ h => XT.lsub X.here hx rfl hd rfl h) k
theorem w_lmul (X : Stand p l e R s m args below meth c T locs cells slots) (hx : p.tables.exec = Jvm.exec) {x y : Int64} (hd : decode c.code pc = .ok (.lmul, 1))  (hp : pc + 1 = pc') (k : Wp p e s below C S Q T (mkF m pc' Ls (Value.long (x * y) :: st))) : Wp p e s below C S Q T (mkF m pc Ls (Value.long y :: Value.long x :: st)) := by
  subst hp
  exact Wp.via (fun _ h => XT.lmul X.here hx rfl hd rfl h) k
theorem w_land (X : Stand p l e R s m args below meth c T locs cells slots) (hx : p.tables.exec = Jvm.exec) {x y : Int64} (hd : decode c.code pc = .ok (.land, 1))  (hp : pc + 1 = pc') (k : Wp p e s below C S Q T (mkF m pc' Ls (Value.long (x &&& y) :: st))) : Wp p e s below C S Q T (mkF m pc Ls (Value.long y :: Value.long x :: st)) := by
  subst hp
  exact Wp.via (fun _ h => XT.land X.here hx rfl hd rfl h) k
theorem w_lor (X : Stand p l e R s m args below meth c T locs cells slots) (hx : p.tables.exec = Jvm.exec) {x y : Int64} (hd : decode c.code pc = .ok (.lor, 1))  (hp : pc + 1 = pc') (k : Wp p e s below C S Q T (mkF m pc' Ls (Value.long (x ||| y) :: st))) : Wp p e s below C S Q T (mkF m pc Ls (Value.long y :: Value.long x :: st)) := by
  subst hp
  exact Wp.via (fun _ h => XT.lor X.here hx rfl hd rfl h) k
theorem w_lxor (X : Stand p l e R s m args below meth c T locs cells slots) (hx : p.tables.exec = Jvm.exec) {x y : Int64} (hd : decode c.code pc = .ok (.lxor, 1))  (hp : pc + 1 = pc') (k : Wp p e s below C S Q T (mkF m pc' Ls (Value.long (x ^^^ y) :: st))) : Wp p e s below C S Q T (mkF m pc Ls (Value.long y :: Value.long x :: st)) := by
  subst hp
  exact Wp.via (fun _ h => XT.lxor X.here hx rfl hd rfl h) k
theorem w_ldiv (X : Stand p l e R s m args below meth c T locs cells slots) (hx : p.tables.exec = Jvm.exec) {x y : Int64} (hd : decode c.code pc = .ok (.ldiv, 1)) (hy : y ≠ 0) (hp : pc + 1 = pc') (k : Wp p e s below C S Q T (mkF m pc' Ls (Value.long (x / y) :: st))) : Wp p e s below C S Q T (mkF m pc Ls (Value.long y :: Value.long x :: st)) := by
  subst hp
  exact Wp.via (fun _ h => XT.ldiv X.here hx rfl hd rfl hy h) k
theorem w_lrem (X : Stand p l e R s m args below meth c T locs cells slots) (hx : p.tables.exec = Jvm.exec) {x y : Int64} (hd : decode c.code pc = .ok (.lrem, 1)) (hy : y ≠ 0) (hp : pc + 1 = pc') (k : Wp p e s below C S Q T (mkF m pc' Ls (Value.long (x % y) :: st))) : Wp p e s below C S Q T (mkF m pc Ls (Value.long y :: Value.long x :: st)) := by
  subst hp
  exact Wp.via (fun _ h => XT.lrem X.here hx rfl hd rfl hy (by rw [lrem_mod]; exact h)) k
theorem w_lshl (X : Stand p l e R s m args below meth c T locs cells slots) (hx : p.tables.exec = Jvm.exec) {x : Int64} {y : Int32} (hd : decode c.code pc = .ok (.lshl, 1))  (hp : pc + 1 = pc') (k : Wp p e s below C S Q T (mkF m pc' Ls (Value.long (x <<< (y.toInt64 &&& 63)) :: st))) : Wp p e s below C S Q T (mkF m pc Ls (Value.int y :: Value.long x :: st)) := by
  subst hp
  exact Wp.via (fun _ h => XT.lshl X.here hx rfl hd rfl h) k
theorem w_lshr (X : Stand p l e R s m args below meth c T locs cells slots) (hx : p.tables.exec = Jvm.exec) {x : Int64} {y : Int32} (hd : decode c.code pc = .ok (.lshr, 1))  (hp : pc + 1 = pc') (k : Wp p e s below C S Q T (mkF m pc' Ls (Value.long (x >>> (y.toInt64 &&& 63)) :: st))) : Wp p e s below C S Q T (mkF m pc Ls (Value.int y :: Value.long x :: st)) := by
  subst hp
  exact Wp.via (fun _ h => XT.lshr X.here hx rfl hd rfl h) k
theorem w_lushr (X : Stand p l e R s m args below meth c T locs cells slots) (hx : p.tables.exec = Jvm.exec) {x : Int64} {y : Int32} (hd : decode c.code pc = .ok (.lushr, 1))  (hp : pc + 1 = pc') (k : Wp p e s below C S Q T (mkF m pc' Ls (Value.long (XT.ushrL x y) :: st))) : Wp p e s below C S Q T (mkF m pc Ls (Value.int y :: Value.long x :: st)) := by
  subst hp
  exact Wp.via (fun _ h => XT.lushr X.here hx rfl hd rfl h) k
theorem w_lcmp (X : Stand p l e R s m args below meth c T locs cells slots) (hx : p.tables.exec = Jvm.exec) {x y : Int64} (hd : decode c.code pc = .ok (.lcmp, 1))  (hp : pc + 1 = pc') (k : Wp p e s below C S Q T (mkF m pc' Ls (Value.int (XT.cmpL x y) :: st))) : Wp p e s below C S Q T (mkF m pc Ls (Value.long y :: Value.long x :: st)) := by
  subst hp
  exact Wp.via (fun _ h => XT.lcmp X.here hx rfl hd rfl h) k
theorem w_ineg (X : Stand p l e R s m args below meth c T locs cells slots) (hx : p.tables.exec = Jvm.exec) {x : Int32} (hd : decode c.code pc = .ok (.ineg, 1))  (hp : pc + 1 = pc') (k : Wp p e s below C S Q T (mkF m pc' Ls (Value.int (-x) :: st))) : Wp p e s below C S Q T (mkF m pc Ls (Value.int x :: st)) := by
  subst hp
  exact Wp.via (fun _ h => XS.ineg X.here hx rfl hd rfl h) k
theorem w_lneg (X : Stand p l e R s m args below meth c T locs cells slots) (hx : p.tables.exec = Jvm.exec) {x : Int64} (hd : decode c.code pc = .ok (.lneg, 1))  (hp : pc + 1 = pc') (k : Wp p e s below C S Q T (mkF m pc' Ls (Value.long (-x) :: st))) : Wp p e s below C S Q T (mkF m pc Ls (Value.long x :: st)) := by
  subst hp
  exact Wp.via (fun _ h => XT.lneg X.here hx rfl hd rfl h) k
theorem w_i2l (X : Stand p l e R s m args below meth c T locs cells slots) (hx : p.tables.exec = Jvm.exec) {x : Int32} (hd : decode c.code pc = .ok (.i2l, 1))  (hp : pc + 1 = pc') (k : Wp p e s below C S Q T (mkF m pc' Ls (Value.long x.toInt64 :: st))) : Wp p e s below C S Q T (mkF m pc Ls (Value.int x :: st)) := by
  subst hp
  exact Wp.via (fun _ h => XT.i2l X.here hx rfl hd rfl h) k
theorem w_l2i (X : Stand p l e R s m args below meth c T locs cells slots) (hx : p.tables.exec = Jvm.exec) {x : Int64} (hd : decode c.code pc = .ok (.l2i, 1))  (hp : pc + 1 = pc') (k : Wp p e s below C S Q T (mkF m pc' Ls (Value.int x.toInt32 :: st))) : Wp p e s below C S Q T (mkF m pc Ls (Value.long x :: st)) := by
  subst hp
  exact Wp.via (fun _ h => XT.l2i X.here hx rfl hd rfl h) k
theorem w_i2b (X : Stand p l e R s m args below meth c T locs cells slots) (hx : p.tables.exec = Jvm.exec) {x : Int32} (hd : decode c.code pc = .ok (.i2b, 1))  (hp : pc + 1 = pc') (k : Wp p e s below C S Q T (mkF m pc' Ls (Value.int x.toInt8.toInt32 :: st))) : Wp p e s below C S Q T (mkF m pc Ls (Value.int x :: st)) := by
  subst hp
  exact Wp.via (fun _ h => XT.i2b X.here hx rfl hd rfl h) k
theorem w_i2c (X : Stand p l e R s m args below meth c T locs cells slots) (hx : p.tables.exec = Jvm.exec) {x : Int32} (hd : decode c.code pc = .ok (.i2c, 1))  (hp : pc + 1 = pc') (k : Wp p e s below C S Q T (mkF m pc' Ls (Value.int x.toUInt32.toUInt16.toUInt32.toInt32 :: st))) : Wp p e s below C S Q T (mkF m pc Ls (Value.int x :: st)) := by
  subst hp
  exact Wp.via (fun _ h => XT.i2c X.here hx rfl hd rfl h) k
theorem w_iinc (X : Stand p l e R s m args below meth c T locs cells slots) (hx : p.tables.exec = Jvm.exec) {k : Nat} {cst : Int} {v : Int32} {l' : Array Slot} (hd : decode c.code pc = .ok (.iinc k cst, 3)) (hl : Ls[k]? = some (.val (.int v))) (hl' : storeLocals Ls k (.int (v + Int32.ofInt cst)) = some l') (hp : pc + 3 = pc') (k : Wp p e s below C S Q T (mkF m pc' l' (st))) : Wp p e s below C S Q T (mkF m pc Ls (st)) := by
  subst hp
  exact Wp.via (fun _ h => XS.iinc X.here hx rfl hd hl hl' h) k
theorem w_dup (X : Stand p l e R s m args below meth c T locs cells slots) (hx : p.tables.exec = Jvm.exec) {x : Value} (hd : decode c.code pc = .ok (.dup, 1)) (hc : x.category = 1) (hp : pc + 1 = pc') (k : Wp p e s below C S Q T (mkF m pc' Ls (x :: x :: st))) : Wp p e s below C S Q T (mkF m pc Ls (x :: st)) := by
  subst hp
  exact Wp.via (fun _ h => XS.dup X.here hx rfl hd rfl hc h) k
theorem w_dup2 (X : Stand p l e R s m args below meth c T locs cells slots) (hx : p.tables.exec = Jvm.exec) {x y : Value} (hd : decode c.code pc = .ok (.dup2, 1)) (hc : x.category = 1) (hc' : y.category = 1) (hp : pc + 1 = pc') (k : Wp p e s below C S Q T (mkF m pc' Ls (x :: y :: x :: y :: st))) : Wp p e s below C S Q T (mkF m pc Ls (x :: y :: st)) := by
  subst hp
  exact Wp.via (fun _ h => XT.dup2 X.here hx rfl hd rfl hc hc' h) k
theorem w_dup2L (X : Stand p l e R s m args below meth c T locs cells slots) (hx : p.tables.exec = Jvm.exec) {x : Int64} (hd : decode c.code pc = .ok (.dup2, 1))  (hp : pc + 1 = pc') (k : Wp p e s below C S Q T (mkF m pc' Ls (Value.long x :: Value.long x :: st))) : Wp p e s below C S Q T (mkF m pc Ls (Value.long x :: st)) := by
  subst hp
  exact Wp.via (fun _ h => XT.dup2L X.here hx rfl hd rfl h) k
theorem w_dupX1 (X : Stand p l e R s m args below meth c T locs cells slots) (hx : p.tables.exec = Jvm.exec) {x y : Value} (hd : decode c.code pc = .ok (.dup_x1, 1)) (hc : x.category = 1) (hc' : y.category = 1) (hp : pc + 1 = pc') (k : Wp p e s below C S Q T (mkF m pc' Ls (x :: y :: x :: st))) : Wp p e s below C S Q T (mkF m pc Ls (x :: y :: st)) := by
  subst hp
  exact Wp.via (fun _ h => XT.dupX1 X.here hx rfl hd rfl hc hc' h) k
theorem w_pop (X : Stand p l e R s m args below meth c T locs cells slots) (hx : p.tables.exec = Jvm.exec) {x : Value} (hd : decode c.code pc = .ok (.pop, 1)) (hc : x.category = 1) (hp : pc + 1 = pc') (k : Wp p e s below C S Q T (mkF m pc' Ls (st))) : Wp p e s below C S Q T (mkF m pc Ls (x :: st)) := by
  subst hp
  exact Wp.via (fun _ h => XT.pop X.here hx rfl hd rfl hc h) k
theorem w_goto (X : Stand p l e R s m args below meth c T locs cells slots) (hx : p.tables.exec = Jvm.exec) {o : Int} (hd : decode c.code pc = .ok (.goto o, 3)) (ho : 0 ≤ (pc : Int) + o) (hp : ((pc : Int) + o).toNat = pc') (k : Wp p e s below C S Q T (mkF m pc' Ls st)) : Wp p e s below C S Q T (mkF m pc Ls st) :=
  Wp.via (fun _ h => XS.goto X.here hx rfl (pc0 := pc) (pc' := pc') rfl hd ho hp h) k
theorem w_icmp_eq (X : Stand p l e R s m args below meth c T locs cells slots) (hx : p.tables.exec = Jvm.exec) {o : Int} {pcY : Nat} {x y : Int32} (hd : decode c.code pc = .ok (.if_icmp .eq o, 3)) (ho : 0 ≤ (pc : Int) + o) (hy : ((pc : Int) + o).toNat = pcY) (hp : pc + 3 = pc') (kY : x = y → Wp p e s below C S Q T (mkF m pcY Ls st)) (kN : ¬ x = y → Wp p e s below C S Q T (mkF m pc' Ls st)) : Wp p e s below C S Q T (mkF m pc Ls (Value.int y :: Value.int x :: st)) := by
  by_cases q : x = y
  · exact Wp.via (fun _ h => XS.icmpYes X.here hx rfl (pc0 := pc) (pc' := pcY) rfl hd rfl (teq q).1 ho hy h) (kY q)
  · exact Wp.via (fun _ h => XS.icmpNo X.here hx rfl hd rfl (feq (by simpa using q)).1 h) (by subst hp; exact kN (by simpa using q))
theorem w_if_eq (X : Stand p l e R s m args below meth c T locs cells slots) (hx : p.tables.exec = Jvm.exec) {o : Int} {pcY : Nat} {x : Int32} (hd : decode c.code pc = .ok (.ifCond .eq o, 3)) (ho : 0 ≤ (pc : Int) + o) (hy : ((pc : Int) + o).toNat = pcY) (hp : pc + 3 = pc') (kY : x = 0 → Wp p e s below C S Q T (mkF m pcY Ls st)) (kN : ¬ x = 0 → Wp p e s below C S Q T (mkF m pc' Ls st)) : Wp p e s below C S Q T (mkF m pc Ls (Value.int x :: st)) := by
  by_cases q : x = 0
  · exact Wp.via (fun _ h => XS.ifYes X.here hx rfl (pc0 := pc) (pc' := pcY) rfl hd rfl ((if0 _ _).trans (teq q).1) ho hy h) (kY q)
  · exact Wp.via (fun _ h => XS.ifNo X.here hx rfl hd rfl ((if0 _ _).trans (feq (by simpa using q)).1) h) (by subst hp; exact kN (by simpa using q))
theorem w_icmp_ne (X : Stand p l e R s m args below meth c T locs cells slots) (hx : p.tables.exec = Jvm.exec) {o : Int} {pcY : Nat} {x y : Int32} (hd : decode c.code pc = .ok (.if_icmp .ne o, 3)) (ho : 0 ≤ (pc : Int) + o) (hy : ((pc : Int) + o).toNat = pcY) (hp : pc + 3 = pc') (kY : ¬ x = y → Wp p e s below C S Q T (mkF m pcY Ls st)) (kN : x = y → Wp p e s below C S Q T (mkF m pc' Ls st)) : Wp p e s below C S Q T (mkF m pc Ls (Value.int y :: Value.int x :: st)) := by
  by_cases q : ¬ x = y
  · exact Wp.via (fun _ h => XS.icmpYes X.here hx rfl (pc0 := pc) (pc' := pcY) rfl hd rfl (feq q).2 ho hy h) (kY q)
  · exact Wp.via (fun _ h => XS.icmpNo X.here hx rfl hd rfl (teq (by simpa using q)).2 h) (by subst hp; exact kN (by simpa using q))
theorem w_if_ne (X : Stand p l e R s m args below meth c T locs cells slots) (hx : p.tables.exec = Jvm.exec) {o : Int} {pcY : Nat} {x : Int32} (hd : decode c.code pc = .ok (.ifCond .ne o, 3)) (ho : 0 ≤ (pc : Int) + o) (hy : ((pc : Int) + o).toNat = pcY) (hp : pc + 3 = pc') (kY : ¬ x = 0 → Wp p e s below C S Q T (mkF m pcY Ls st)) (kN : x = 0 → Wp p e s below C S Q T (mkF m pc' Ls st)) : Wp p e s below C S Q T (mkF m pc Ls (Value.int x :: st)) := by
  by_cases q : ¬ x = 0
  · exact Wp.via (fun _ h => XS.ifYes X.here hx rfl (pc0 := pc) (pc' := pcY) rfl hd rfl ((if0 _ _).trans (feq q).2) ho hy h) (kY q)
  · exact Wp.via (fun _ h => XS.ifNo X.here hx rfl hd rfl ((if0 _ _).trans (teq (by simpa using q)).2) h) (by subst hp; exact kN (by simpa using q))
theorem w_icmp_lt (X : Stand p l e R s m args below meth c T locs cells slots) (hx : p.tables.exec = Jvm.exec) {o : Int} {pcY : Nat} {x y : Int32} (hd : decode c.code pc = .ok (.if_icmp .lt o, 3)) (ho : 0 ≤ (pc : Int) + o) (hy : ((pc : Int) + o).toNat = pcY) (hp : pc + 3 = pc') (kY : x < y → Wp p e s below C S Q T (mkF m pcY Ls st)) (kN : ¬ x < y → Wp p e s below C S Q T (mkF m pc' Ls st)) : Wp p e s below C S Q T (mkF m pc Ls (Value.int y :: Value.int x :: st)) := by
  by_cases q : x < y
  · exact Wp.via (fun _ h => XS.icmpYes X.here hx rfl (pc0 := pc) (pc' := pcY) rfl hd rfl (tlt q).1 ho hy h) (kY q)
  · exact Wp.via (fun _ h => XS.icmpNo X.here hx rfl hd rfl (flt (by simpa using q)).1 h) (by subst hp; exact kN (by simpa using q))
theorem w_if_lt (X : Stand p l e R s m args below meth c T locs cells slots) (hx : p.tables.exec = Jvm.exec) {o : Int} {pcY : Nat} {x : Int32} (hd : decode c.code pc = .ok (.ifCond .lt o, 3)) (ho : 0 ≤ (pc : Int) + o) (hy : ((pc : Int) + o).toNat = pcY) (hp : pc + 3 = pc') (kY : x < 0 → Wp p e s below C S Q T (mkF m pcY Ls st)) (kN : ¬ x < 0 → Wp p e s below C S Q T (mkF m pc' Ls st)) : Wp p e s below C S Q T (mkF m pc Ls (Value.int x :: st)) := by
  by_cases q : x < 0
  · exact Wp.via (fun _ h => XS.ifYes X.here hx rfl (pc0 := pc) (pc' := pcY) rfl hd rfl ((if0 _ _).trans (tlt q).1) ho hy h) (kY q)
  · exact Wp.via (fun _ h => XS.ifNo X.here hx rfl hd rfl ((if0 _ _).trans (flt (by simpa using q)).1) h) (by subst hp; exact kN (by simpa using q))
theorem w_icmp_ge (X : Stand p l e R s m args below meth c T locs cells slots) (hx : p.tables.exec = Jvm.exec) {o : Int} {pcY : Nat} {x y : Int32} (hd : decode c.code pc = .ok (.if_icmp .ge o, 3)) (ho : 0 ≤ (pc : Int) + o) (hy : ((pc : Int) + o).toNat = pcY) (hp : pc + 3 = pc') (kY : ¬ x < y → Wp p e s below C S Q T (mkF m pcY Ls st)) (kN : x < y → Wp p e s below C S Q T (mkF m pc' Ls st)) : Wp p e s below C S Q T (mkF m pc Ls (Value.int y :: Value.int x :: st)) := by
  by_cases q : ¬ x < y
  · exact Wp.via (fun _ h => XS.icmpYes X.here hx rfl (pc0 := pc) (pc' := pcY) rfl hd rfl (flt q).2.1 ho hy h) (kY q)
  · exact Wp.via (fun _ h => XS.icmpNo X.here hx rfl hd rfl (tlt (by simpa using q)).2.1 h) (by subst hp; exact kN (by simpa using q))
theorem w_if_ge (X : Stand p l e R s m args below meth c T locs cells slots) (hx : p.tables.exec = Jvm.exec) {o : Int} {pcY : Nat} {x : Int32} (hd : decode c.code pc = .ok (.ifCond .ge o, 3)) (ho : 0 ≤ (pc : Int) + o) (hy : ((pc : Int) + o).toNat = pcY) (hp : pc + 3 = pc') (kY : ¬ x < 0 → Wp p e s below C S Q T (mkF m pcY Ls st)) (kN : x < 0 → Wp p e s below C S Q T (mkF m pc' Ls st)) : Wp p e s below C S Q T (mkF m pc Ls (Value.int x :: st)) := by
  by_cases q : ¬ x < 0
  · exact Wp.via (fun _ h => XS.ifYes X.here hx rfl (pc0 := pc) (pc' := pcY) rfl hd rfl ((if0 _ _).trans (flt q).2.1) ho hy h) (kY q)
  · exact Wp.via (fun _ h => XS.ifNo X.here hx rfl hd rfl ((if0 _ _).trans (tlt (by simpa using q)).2.1) h) (by subst hp; exact kN (by simpa using q))
theorem w_icmp_gt (X : Stand p l e R s m args below meth c T locs cells slots) (hx : p.tables.exec = Jvm.exec) {o : Int} {pcY : Nat} {x y : Int32} (hd : decode c.code pc = .ok (.if_icmp .gt o, 3)) (ho : 0 ≤ (pc : Int) + o) (hy : ((pc : Int) + o).toNat = pcY) (hp : pc + 3 = pc') (kY : y < x → Wp p e s below C S Q T (mkF m pcY Ls st)) (kN : ¬ y < x → Wp p e s below C S Q T (mkF m pc' Ls st)) : Wp p e s below C S Q T (mkF m pc Ls (Value.int y :: Value.int x :: st)) := by
  by_cases q : y < x
  · exact Wp.via (fun _ h => XS.icmpYes X.here hx rfl (pc0 := pc) (pc' := pcY) rfl hd rfl (tlt q).2.2.1 ho hy h) (kY q)
  · exact Wp.via (fun _ h => XS.icmpNo X.here hx rfl hd rfl (flt (by simpa using q)).2.2.1 h) (by subst hp; exact kN (by simpa using q))
theorem w_if_gt (X : Stand p l e R s m args below meth c T locs cells slots) (hx : p.tables.exec = Jvm.exec) {o : Int} {pcY : Nat} {x : Int32} (hd : decode c.code pc = .ok (.ifCond .gt o, 3)) (ho : 0 ≤ (pc : Int) + o) (hy : ((pc : Int) + o).toNat = pcY) (hp : pc + 3 = pc') (kY : 0 < x → Wp p e s below C S Q T (mkF m pcY Ls st)) (kN : ¬ 0 < x → Wp p e s below C S Q T (mkF m pc' Ls st)) : Wp p e s below C S Q T (mkF m pc Ls (Value.int x :: st)) := by
  by_cases q : 0 < x
  · exact Wp.via (fun _ h => XS.ifYes X.here hx rfl (pc0 := pc) (pc' := pcY) rfl hd rfl ((if0 _ _).trans (tlt q).2.2.1) ho hy h) (kY q)
  · exact Wp.via (fun _ h => XS.ifNo X.here hx rfl hd rfl ((if0 _ _).trans (flt (by simpa using q)).2.2.1) h) (by subst hp; exact kN (by simpa using q))
theorem w_icmp_le (X : Stand p l e R s m args below meth c T locs cells slots) (hx : p.tables.exec = Jvm.exec) {o : Int} {pcY : Nat} {x y : Int32} (hd : decode c.code pc = .ok (.if_icmp .le o, 3)) (ho : 0 ≤ (pc : Int) + o) (hy : ((pc : Int) + o).toNat = pcY) (hp : pc + 3 = pc') (kY : ¬ y < x → Wp p e s below C S Q T (mkF m pcY Ls st)) (kN : y < x → Wp p e s below C S Q T (mkF m pc' Ls st)) : Wp p e s below C S Q T (mkF m pc Ls (Value.int y :: Value.int x :: st)) := by
  by_cases q : ¬ y < x
  · exact Wp.via (fun _ h => XS.icmpYes X.here hx rfl (pc0 := pc) (pc' := pcY) rfl hd rfl (flt q).2.2.2 ho hy h) (kY q)
  · exact Wp.via (fun _ h => XS.icmpNo X.here hx rfl hd rfl (tlt (by simpa using q)).2.2.2 h) (by subst hp; exact kN (by simpa using q))
theorem w_if_le (X : Stand p l e R s m args below meth c T locs cells slots) (hx : p.tables.exec = Jvm.exec) {o : Int} {pcY : Nat} {x : Int32} (hd : decode c.code pc = .ok (.ifCond .le o, 3)) (ho : 0 ≤ (pc : Int) + o) (hy : ((pc : Int) + o).toNat = pcY) (hp : pc + 3 = pc') (kY : ¬ 0 < x → Wp p e s below C S Q T (mkF m pcY Ls st)) (kN : 0 < x → Wp p e s below C S Q T (mkF m pc' Ls st)) : Wp p e s below C S Q T (mkF m pc Ls (Value.int x :: st)) := by
  by_cases q : ¬ 0 < x
  · exact Wp.via (fun _ h => XS.ifYes X.here hx rfl (pc0 := pc) (pc' := pcY) rfl hd rfl ((if0 _ _).trans (flt q).2.2.2) ho hy h) (kY q)
  · exact Wp.via (fun _ h => XS.ifNo X.here hx rfl hd rfl ((if0 _ _).trans (tlt (by simpa using q)).2.2.2) h) (by subst hp; exact kN (by simpa using q))
theorem own_cl_lt (x y : Int64) : XT.cmpL x y < 0 ↔ x < y := by
  unfold XT.cmpL
  by_cases h1 : y < x
  · rw [if_pos h1]
    refine ⟨fun h => absurd h (by decide), fun h => absurd (Int64.lt_trans h1 h) Int64.lt_irrefl⟩
  · rw [if_neg h1]
    by_cases h2 : x = y
    · rw [if_pos h2]
      refine ⟨fun h => absurd h (by decide), fun h => absurd (h2 ▸ h) Int64.lt_irrefl⟩
    · rw [if_neg h2]
      refine ⟨fun _ => ?_, fun _ => by decide⟩
      rw [Int64.lt_iff_toInt_lt] at *
      have : x.toInt ≠ y.toInt := fun q => h2 (Int64.toInt_inj.mp q)
      omega
theorem own_cl_gt (x y : Int64) : 0 < XT.cmpL x y ↔ y < x := by
  unfold XT.cmpL
  by_cases h1 : y < x
  · rw [if_pos h1]
    exact ⟨fun _ => h1, fun _ => by decide⟩
  · rw [if_neg h1]
    by_cases h2 : x = y
    · rw [if_pos h2]
      exact ⟨fun h => absurd h (by decide), fun h => absurd h h1⟩
    · rw [if_neg h2]
      exact ⟨fun h => absurd h (by decide), fun h => absurd h h1⟩
theorem own_cl_eq (x y : Int64) : XT.cmpL x y = 0 ↔ x = y := by
  unfold XT.cmpL
  by_cases h1 : y < x
  · rw [if_pos h1]
    exact ⟨fun h => absurd h (by decide), fun h => absurd (h ▸ h1) Int64.lt_irrefl⟩
  · rw [if_neg h1]
    by_cases h2 : x = y
    · rw [if_pos h2]
      exact ⟨fun _ => h2, fun _ => rfl⟩
    · rw [if_neg h2]
      exact ⟨fun h => absurd h (by decide), fun h => absurd h h2⟩
theorem w_lcmp_eq (X : Stand p l e R s m args below meth c T locs cells slots) (hx : p.tables.exec = Jvm.exec) {o : Int} {pcY pc1 : Nat} {x y : Int64} (hd : decode c.code pc = .ok (.lcmp, 1)) (hp1 : pc + 1 = pc1) (hd1 : decode c.code pc1 = .ok (.ifCond .eq o, 3)) (ho : 0 ≤ (pc1 : Int) + o) (hy : ((pc1 : Int) + o).toNat = pcY) (hp : pc1 + 3 = pc') (kY : x = y → Wp p e s below C S Q T (mkF m pcY Ls st)) (kN : ¬ x = y → Wp p e s below C S Q T (mkF m pc' Ls st)) : Wp p e s below C S Q T (mkF m pc Ls (Value.long y :: Value.long x :: st)) :=
  w_lcmp X hx hd hp1 (w_if_eq X hx hd1 ho hy hp (fun q => kY ((own_cl_eq x y).mp q)) (fun q => kN fun r => q ((own_cl_eq x y).mpr r)))
theorem w_lcmp_ne (X : Stand p l e R s m args below meth c T locs cells slots) (hx : p.tables.exec = Jvm.exec) {o : Int} {pcY pc1 : Nat} {x y : Int64} (hd : decode c.code pc = .ok (.lcmp, 1)) (hp1 : pc + 1 = pc1) (hd1 : decode c.code pc1 = .ok (.ifCond .ne o, 3)) (ho : 0 ≤ (pc1 : Int) + o) (hy : ((pc1 : Int) + o).toNat = pcY) (hp : pc1 + 3 = pc') (kY : ¬ x = y → Wp p e s below C S Q T (mkF m pcY Ls st)) (kN : x = y → Wp p e s below C S Q T (mkF m pc' Ls st)) : Wp p e s below C S Q T (mkF m pc Ls (Value.long y :: Value.long x :: st)) :=
  w_lcmp X hx hd hp1 (w_if_ne X hx hd1 ho hy hp (fun q => kY fun r => q ((own_cl_eq x y).mpr r)) (fun q => kN ((own_cl_eq x y).mp q)))
theorem w_lcmp_lt (X : Stand p l e R s m args below meth c T locs cells slots) (hx : p.tables.exec = Jvm.exec) {o : Int} {pcY pc1 : Nat} {x y : Int64} (hd : decode c.code pc = .ok (.lcmp, 1)) (hp1 : pc + 1 = pc1) (hd1 : decode c.code pc1 = .ok (.ifCond .lt o, 3)) (ho : 0 ≤ (pc1 : Int) + o) (hy : ((pc1 : Int) + o).toNat = pcY) (hp : pc1 + 3 = pc') (kY : x < y → Wp p e s below C S Q T (mkF m pcY Ls st)) (kN : ¬ x < y → Wp p e s below C S Q T (mkF m pc' Ls st)) : Wp p e s below C S Q T (mkF m pc Ls (Value.long y :: Value.long x :: st)) :=
  w_lcmp X hx hd hp1 (w_if_lt X hx hd1 ho hy hp (fun q => kY ((own_cl_lt x y).mp q)) (fun q => kN fun r => q ((own_cl_lt x y).mpr r)))
theorem w_lcmp_ge (X : Stand p l e R s m args below meth c T locs cells slots) (hx : p.tables.exec = Jvm.exec) {o : Int} {pcY pc1 : Nat} {x y : Int64} (hd : decode c.code pc = .ok (.lcmp, 1)) (hp1 : pc + 1 = pc1) (hd1 : decode c.code pc1 = .ok (.ifCond .ge o, 3)) (ho : 0 ≤ (pc1 : Int) + o) (hy : ((pc1 : Int) + o).toNat = pcY) (hp : pc1 + 3 = pc') (kY : ¬ x < y → Wp p e s below C S Q T (mkF m pcY Ls st)) (kN : x < y → Wp p e s below C S Q T (mkF m pc' Ls st)) : Wp p e s below C S Q T (mkF m pc Ls (Value.long y :: Value.long x :: st)) :=
  w_lcmp X hx hd hp1 (w_if_ge X hx hd1 ho hy hp (fun q => kY fun r => q ((own_cl_lt x y).mpr r)) (fun q => kN ((own_cl_lt x y).mp q)))
theorem w_lcmp_gt (X : Stand p l e R s m args below meth c T locs cells slots) (hx : p.tables.exec = Jvm.exec) {o : Int} {pcY pc1 : Nat} {x y : Int64} (hd : decode c.code pc = .ok (.lcmp, 1)) (hp1 : pc + 1 = pc1) (hd1 : decode c.code pc1 = .ok (.ifCond .gt o, 3)) (ho : 0 ≤ (pc1 : Int) + o) (hy : ((pc1 : Int) + o).toNat = pcY) (hp : pc1 + 3 = pc') (kY : y < x → Wp p e s below C S Q T (mkF m pcY Ls st)) (kN : ¬ y < x → Wp p e s below C S Q T (mkF m pc' Ls st)) : Wp p e s below C S Q T (mkF m pc Ls (Value.long y :: Value.long x :: st)) :=
  w_lcmp X hx hd hp1 (w_if_gt X hx hd1 ho hy hp (fun q => kY ((own_cl_gt x y).mp q)) (fun q => kN fun r => q ((own_cl_gt x y).mpr r)))
theorem w_lcmp_le (X : Stand p l e R s m args below meth c T locs cells slots) (hx : p.tables.exec = Jvm.exec) {o : Int} {pcY pc1 : Nat} {x y : Int64} (hd : decode c.code pc = .ok (.lcmp, 1)) (hp1 : pc + 1 = pc1) (hd1 : decode c.code pc1 = .ok (.ifCond .le o, 3)) (ho : 0 ≤ (pc1 : Int) + o) (hy : ((pc1 : Int) + o).toNat = pcY) (hp : pc1 + 3 = pc') (kY : ¬ y < x → Wp p e s below C S Q T (mkF m pcY Ls st)) (kN : y < x → Wp p e s below C S Q T (mkF m pc' Ls st)) : Wp p e s below C S Q T (mkF m pc Ls (Value.long y :: Value.long x :: st)) :=
  w_lcmp X hx hd hp1 (w_if_le X hx hd1 ho hy hp (fun q => kY fun r => q ((own_cl_gt x y).mpr r)) (fun q => kN ((own_cl_gt x y).mp q)))
theorem w_eqI {x z : Int32} (h : x = z) (k : Wp p e s below C S Q T (mkF m pc Ls (Value.int z :: st))) : Wp p e s below C S Q T (mkF m pc Ls (Value.int x :: st)) := h ▸ k
theorem w_genI {x : Int32} (k : ∀ z, z = x → Wp p e s below C S Q T (mkF m pc Ls (Value.int z :: st))) : Wp p e s below C S Q T (mkF m pc Ls (Value.int x :: st)) := k x rfl
theorem w_eqJ {x z : Int64} (h : x = z) (k : Wp p e s below C S Q T (mkF m pc Ls (Value.long z :: st))) : Wp p e s below C S Q T (mkF m pc Ls (Value.long x :: st)) := h ▸ k
theorem w_genJ {x : Int64} (k : ∀ z, z = x → Wp p e s below C S Q T (mkF m pc Ls (Value.long z :: st))) : Wp p e s below C S Q T (mkF m pc Ls (Value.long x :: st)) := k x rfl
theorem w_iincE (X : Stand p l e R s m args below meth c T locs cells slots) (hx : p.tables.exec = Jvm.exec) {k : Nat} {cst : Int} {v z : Int32} {l' : Array Slot} (hd : decode c.code pc = .ok (.iinc k cst, 3)) (hl : Ls[k]? = some (.val (.int v))) (hz : v + Int32.ofInt cst = z) (hl' : storeLocals Ls k (.int z) = some l') (hp : pc + 3 = pc') (k : Wp p e s below C S Q T (mkF m pc' l' (st))) : Wp p e s below C S Q T (mkF m pc Ls (st)) := by
  subst hp
  exact Wp.via (fun _ h => XS.iinc X.here hx rfl hd hl (hz ▸ hl') h) k
theorem w_ifnullY (X : Stand p l e R s m args below meth c T locs cells slots) (hx : p.tables.exec = Jvm.exec) {o : Int}  (hd : decode c.code pc = .ok (.ifnull o, 3)) (ho : 0 ≤ (pc : Int) + o) (hp : ((pc : Int) + o).toNat = pc') (k : Wp p e s below C S Q T (mkF m pc' Ls st)) : Wp p e s below C S Q T (mkF m pc Ls (Value.null :: st)) :=
  Wp.via (fun _ h => XS.ifnullYes X.here hx rfl (pc0 := pc) (pc' := pc') rfl hd rfl ho hp h) k
theorem w_ifnonnullY (X : Stand p l e R s m args below meth c T locs cells slots) (hx : p.tables.exec = Jvm.exec) {o : Int} {b : Addr} (hd : decode c.code pc = .ok (.ifnonnull o, 3)) (ho : 0 ≤ (pc : Int) + o) (hp : ((pc : Int) + o).toNat = pc') (k : Wp p e s below C S Q T (mkF m pc' Ls st)) : Wp p e s below C S Q T (mkF m pc Ls (Value.ref b :: st)) :=
  Wp.via (fun _ h => XT.ifnonnullYes X.here hx rfl (pc0 := pc) (pc' := pc') rfl hd rfl ho hp h) k
theorem w_ifnullN (X : Stand p l e R s m args below meth c T locs cells slots) (hx : p.tables.exec = Jvm.exec) {o : Int} {b : Addr} (hd : decode c.code pc = .ok (.ifnull o, 3))  (hp : pc + 3 = pc') (k : Wp p e s below C S Q T (mkF m pc' Ls (st))) : Wp p e s below C S Q T (mkF m pc Ls (Value.ref b :: st)) := by
  subst hp
  exact Wp.via (fun _ h => XS.ifnullNo X.here hx rfl hd rfl h) k
theorem w_ifnonnullN (X : Stand p l e R s m args below meth c T locs cells slots) (hx : p.tables.exec = Jvm.exec) {o : Int} (hd : decode c.code pc = .ok (.ifnonnull o, 3))  (hp : pc + 3 = pc') (k : Wp p e s below C S Q T (mkF m pc' Ls (st))) : Wp p e s below C S Q T (mkF m pc Ls (Value.null :: st)) := by
  subst hp
  exact Wp.via (fun _ h => XT.ifnonnullNo X.here hx rfl hd rfl h) k
theorem own_out {fs : List Frame} {v : Option Value} {g : JFrame} (hs : Steps p.tables e below (T.setTop g) (T.setFrames fs)) (h1 : (T.setFrames fs).status = .running) (h2 : Ended (T.setFrames fs) below (.returned v)) (h3 : s.WarmedH (T.setFrames fs).vm) (h4 : s.sameButNew ({ T.setFrames fs with vm := s.vm } : State) locs cells slots)
    (hc : cells ≤ C) (hl : slots ≤ S) (hq : Q v T.heap locs) : Wp p e s below C S Q T g :=
  ⟨_, _, hs, h1, h2, _, _, rfl, hq, ⟨_, rfl⟩, h3, h4.mono hc hl⟩
theorem w_ret_i (X : Stand p l e R s m args below meth c T locs cells slots) (hx : p.tables.exec = Jvm.exec) {z : Int32} (hret : meth.sig.returnType = some .int) (hlk : meth.locks = false) (hd : decode c.code pc = .ok (.ireturn, 1)) (hc : cells ≤ C) (hl : slots ≤ S) (hq : Q (some (.int z)) T.heap locs) : Wp p e s below C S Q T (mkF m pc Ls (Value.int z :: st)) := by
  obtain ⟨fs, hr, h1, h2, h3, h4⟩ := X.leave (v := some (.int z)) (fun h => by rw [hret] at h; cases h) hlk
  exact own_out (retI X hx hret hd hr) h1 h2 h3 h4 hc hl hq
theorem w_ret_n (X : Stand p l e R s m args below meth c T locs cells slots) (hx : p.tables.exec = Jvm.exec) {z z' : Int32} {t : FieldType} (hret : meth.sig.returnType = some t) (hlk : meth.locks = false) (ht : t = .boolean ∨ t = .byte ∨ t = .char ∨ t = .short) (hd : decode c.code pc = .ok (.ireturn, 1)) (hz : nar t z = z') (hc : cells ≤ C) (hl : slots ≤ S) (hq : Q (some (.int z')) T.heap locs) : Wp p e s below C S Q T (mkF m pc Ls (Value.int z :: st)) := by
  subst hz
  obtain ⟨fs, hr, h1, h2, h3, h4⟩ := X.leave (v := some (.int (nar t z))) (fun h => by rw [hret] at h; cases h) hlk
  exact own_out (retN X hx hret ht hd hr) h1 h2 h3 h4 hc hl hq
theorem w_ret_l (X : Stand p l e R s m args below meth c T locs cells slots) (hx : p.tables.exec = Jvm.exec) {z : Int64} (hret : meth.sig.returnType = some .long) (hlk : meth.locks = false) (hd : decode c.code pc = .ok (.lreturn, 1)) (hc : cells ≤ C) (hl : slots ≤ S) (hq : Q (some (.long z)) T.heap locs) : Wp p e s below C S Q T (mkF m pc Ls [Value.long z]) := by
  obtain ⟨fs, hr, h1, h2, h3, h4⟩ := X.leave (v := some (.long z)) (fun h => by rw [hret] at h; cases h) hlk
  exact own_out (X.lreturnOut hx hret hd hr) h1 h2 h3 h4 hc hl hq
theorem w_ret_a (X : Stand p l e R s m args below meth c T locs cells slots) (hx : p.tables.exec = Jvm.exec) {w : Value} {t : FieldType} (hw : w.isRef = true) (hret : meth.sig.returnType = some t) (ht : t.isReference = true) (hlk : meth.locks = false) (hd : decode c.code pc = .ok (.areturn, 1)) (hc : cells ≤ C) (hl : slots ≤ S) (hq : Q (some w) T.heap locs) : Wp p e s below C S Q T (mkF m pc Ls [w]) := by
  obtain ⟨fs, hr, h1, h2, h3, h4⟩ := X.leave (v := some w) (fun h => by rw [hret] at h; cases h) hlk
  exact own_out (X.areturnOut hx hw hret ht hd hr) h1 h2 h3 h4 hc hl hq
theorem w_ret_v (X : Stand p l e R s m args below meth c T locs cells slots) (hx : p.tables.exec = Jvm.exec) (hret : meth.sig.returnType = none) (hlk : meth.locks = false) (hd : decode c.code pc = .ok (.return_, 1)) (hc : cells ≤ C) (hl : slots ≤ S) (hq : Q none T.heap locs) : Wp p e s below C S Q T (mkF m pc Ls []) := by
  obtain ⟨fs, hr, h1, h2, h3, h4⟩ := X.leave (v := none) (fun h => rfl) hlk
  exact own_out (X.returnOut hx hret hd hr) h1 h2 h3 h4 hc hl hq
theorem own_call (X : Stand p l e R s m args below meth c T locs cells slots) (hx : p.tables.exec = Jvm.exec) {Z : State} {a0 : Array Value} {h : Heap} (hZ : Z.Warmed39 s.vm) (eT : T.heap = h) {own : String} {i : Nat} {y : MethodName} {bytes : ByteArray} {maxL : Nat} {ret : Option FieldType} {rm : Room} {W : Nat} {as' : Array Value} {Qc : Option Value → Heap → List Loc → Prop}
    (hown : s.vm.findClass own = some m.cls) (hml : Ls.size = c.maxLocals) (w1 : (Jvm.Cond.methodLink own i y).before a0 Z = true) (w2 : (Jvm.Cond.static y).before a0 Z = true) (w3 : (Jvm.Cond.initialized y.cls).before a0 Z = true) (w4 : (Jvm.Cond.code y bytes maxL ret).before a0 Z = true)
    (hM : MetFree l y (head1 [Jvm.Cond.code y bytes maxL ret] rm) (fun a U => a = as' ∧ Z.Warmed39 U.vm ∧ U.heap = h) (fun _ _ _ _ _ => True) (fun _ U o U' => ∃ v L, o = .returned v ∧ Qc v U'.heap L ∧ FrameEnd U o U' L rm.cells rm.slots))
    (hy : y.cls ≠ "java/lang/invoke/MethodHandle" ∧ y.cls ≠ "java/lang/invoke/VarHandle") (hf : rm.frames + 1 ≤ R.frames) (hl : W + (maxL + 11) + rm.locals ≤ R.locals) (hc : cells + rm.cells ≤ R.cells) (hsl : slots + rm.slots ≤ R.slots)
    {argsL rest : List Value} {ps : List FieldType} {r : Option FieldType} (hpd : parseMethodDescriptor y.desc = some ⟨ps, r⟩) (hlen : argsL.length = ps.length) (has : argsL.toArray = as') (hst : st = argsL.reverse ++ rest) (hW : (rest.map fun v => v.category).sum ≤ W) (hd : decode c.code pc = .ok (.invokestatic i, 3)) (hp : pc + 3 = pc')
    (k : ∀ (v : Option Value) (T' : State) (L : List Loc), Stand p l e R s m args below meth c T' (locs ++ L) (cells + rm.cells) (slots + rm.slots) → Qc v T'.heap L → Wp p e s below C S Q T' (mkF m pc' Ls (v.toList ++ rest))) : Wp p e s below C S Q T (mkF m pc Ls st) := by
  obtain ⟨v, _, ⟨T1, L1, k1, n1⟩, -, X1, ⟨Lc1, hQ1, l1, y1, z1⟩, st1⟩ := Jvm.LawKit.callS X hx (y := y) hown (mvT hZ w1) (mvT hZ w2) (mvT hZ w3) (mvT hZ w4) hy (backOf (W := W) hM hZ w4 w3 hf hl) (g := mkF m pc Ls st) rfl hml (argsL := argsL) (rest := rest) (lenOf hpd hlen) hst (by show 2 * 0 + _ ≤ _; omega) hd (fun _ _ => ⟨has, eT, hc, hsl⟩)
  dsimp only [Pt.U, Pt.locs, Pt.cells, Pt.slots] at X1 l1 y1 z1 st1 hQ1
  subst l1 y1 z1
  subst hp
  exact Wp.via st1 (k v T1 Lc1 X1 hQ1)
theorem own_cast {g g' : JFrame} (q : g = g') (k : Wp p e s below C S Q T g') : Wp p e s below C S Q T g := q ▸ k
def PureQ (r : Value) (h0 : Heap) (v : Option Value) (h : Heap) (L : List Loc) : Prop := v = some r ∧ L = [] ∧ h = h0
theorem w_callP (X : Stand p l e R s m args below meth c T locs cells slots) (hx : p.tables.exec = Jvm.exec) {Z : State} {a0 : Array Value} {h : Heap} (hZ : Z.Warmed39 s.vm) (eT : T.heap = h) {own : String} {i : Nat} {y : MethodName} {bytes : ByteArray} {maxL : Nat} {ret : Option FieldType} {rm : Room} {W : Nat} {as' : Array Value} {r0 : Value}
    (hown : s.vm.findClass own = some m.cls) (hml : Ls.size = c.maxLocals) (w1 : (Jvm.Cond.methodLink own i y).before a0 Z = true) (w2 : (Jvm.Cond.static y).before a0 Z = true) (w3 : (Jvm.Cond.initialized y.cls).before a0 Z = true) (w4 : (Jvm.Cond.code y bytes maxL ret).before a0 Z = true)
    (hM : MetFree l y (head1 [Jvm.Cond.code y bytes maxL ret] rm) (fun a U => a = as' ∧ Z.Warmed39 U.vm ∧ U.heap = h) (fun _ _ _ _ _ => True) (fun _ U o U' => ∃ v L, o = .returned v ∧ PureQ r0 h v U'.heap L ∧ FrameEnd U o U' L rm.cells rm.slots))
    (hy : y.cls ≠ "java/lang/invoke/MethodHandle" ∧ y.cls ≠ "java/lang/invoke/VarHandle") (hf : rm.frames + 1 ≤ R.frames) (hl : W + (maxL + 11) + rm.locals ≤ R.locals) (hc : rm.cells = 0) (hsl : rm.slots = 0) (hc' : cells ≤ R.cells) (hsl' : slots ≤ R.slots)
    {argsL rest : List Value} {ps : List FieldType} {r : Option FieldType} (hpd : parseMethodDescriptor y.desc = some ⟨ps, r⟩) (hlen : argsL.length = ps.length) (has : argsL.toArray = as') (hst : st = argsL.reverse ++ rest) (hW : (rest.map fun v => v.category).sum ≤ W) (hd : decode c.code pc = .ok (.invokestatic i, 3)) (hp : pc + 3 = pc')
    (k : ∀ (T' : State), Stand p l e R s m args below meth c T' locs cells slots → T'.heap = h → Wp p e s below C S Q T' (mkF m pc' Ls (r0 :: rest))) : Wp p e s below C S Q T (mkF m pc Ls st) := by
  refine own_call X hx hZ eT hown hml w1 w2 w3 w4 hM hy hf hl (by omega) (by omega) hpd hlen has hst hW hd hp ?_
  intro v T' L X' hq
  obtain ⟨rfl, rfl, e1⟩ := hq
  rw [List.append_nil, hc, hsl] at X'
  exact k T' X' e1
def PureQV (h0 : Heap) (v : Option Value) (h : Heap) (L : List Loc) : Prop := v = none ∧ L = [] ∧ h = h0
theorem w_callPV (X : Stand p l e R s m args below meth c T locs cells slots) (hx : p.tables.exec = Jvm.exec) {Z : State} {a0 : Array Value} {h : Heap} (hZ : Z.Warmed39 s.vm) (eT : T.heap = h) {own : String} {i : Nat} {y : MethodName} {bytes : ByteArray} {maxL : Nat} {ret : Option FieldType} {rm : Room} {W : Nat} {as' : Array Value}
    (hown : s.vm.findClass own = some m.cls) (hml : Ls.size = c.maxLocals) (w1 : (Jvm.Cond.methodLink own i y).before a0 Z = true) (w2 : (Jvm.Cond.static y).before a0 Z = true) (w3 : (Jvm.Cond.initialized y.cls).before a0 Z = true) (w4 : (Jvm.Cond.code y bytes maxL ret).before a0 Z = true)
    (hM : MetFree l y (head1 [Jvm.Cond.code y bytes maxL ret] rm) (fun a U => a = as' ∧ Z.Warmed39 U.vm ∧ U.heap = h) (fun _ _ _ _ _ => True) (fun _ U o U' => ∃ v L, o = .returned v ∧ PureQV h v U'.heap L ∧ FrameEnd U o U' L rm.cells rm.slots))
    (hy : y.cls ≠ "java/lang/invoke/MethodHandle" ∧ y.cls ≠ "java/lang/invoke/VarHandle") (hf : rm.frames + 1 ≤ R.frames) (hl : W + (maxL + 11) + rm.locals ≤ R.locals) (hc : rm.cells = 0) (hsl : rm.slots = 0) (hc' : cells ≤ R.cells) (hsl' : slots ≤ R.slots)
    {argsL rest : List Value} {ps : List FieldType} {r : Option FieldType} (hpd : parseMethodDescriptor y.desc = some ⟨ps, r⟩) (hlen : argsL.length = ps.length) (has : argsL.toArray = as') (hst : st = argsL.reverse ++ rest) (hW : (rest.map fun v => v.category).sum ≤ W) (hd : decode c.code pc = .ok (.invokestatic i, 3)) (hp : pc + 3 = pc')
    (k : ∀ (T' : State), Stand p l e R s m args below meth c T' locs cells slots → T'.heap = h → Wp p e s below C S Q T' (mkF m pc' Ls rest)) : Wp p e s below C S Q T (mkF m pc Ls st) := by
  refine own_call X hx hZ eT hown hml w1 w2 w3 w4 hM hy hf hl (by omega) (by omega) hpd hlen has hst hW hd hp ?_
  intro v T' L X' hq
  obtain ⟨rfl, rfl, e1⟩ := hq
  rw [List.append_nil, hc, hsl] at X'
  exact k T' X' e1
theorem own_body {x : MethodName} {code : ByteArray} {maxL : Nat} {ret : Option FieldType} {ws : List Jvm.Cond} {rm : Room} {Z : State} {as : Array Value} {h0 : Heap} (hx : plainFor x = true)
    (body : ∀ (p : Program) (e : Env) (s : State) (m : MethodId) (below : List Frame) (meth : Method) (c : Code) (T : State), p.tables.exec = Jvm.exec → c.code = code → c.maxLocals = maxL → meth.sig.returnType = ret → meth.locks = false → s.vm.findClass x.cls = some m.cls → meth.name = x.name → Z.Warmed39 s.vm → Stand p l e rm s m as below meth c T [] 0 0 → T.heap = h0 → Wp p e s below rm.cells rm.slots Q T (entryFrame m as maxL)) :
    MetFree l x (head1 (Jvm.Cond.code x code maxL ret :: ws) rm) (fun a U => a = as ∧ Z.Warmed39 U.vm ∧ U.heap = h0) (fun _ _ _ _ _ => True) (fun _ U o U' => ∃ v L, o = .returned v ∧ Q v U'.heap L ∧ FrameEnd U o U' L rm.cells rm.slots) := by
  refine MetFree.of_bodySF hx hisR ?_
  intro p e s m args below meth c s₁ Bd hml0 hP hK
  obtain ⟨rfl, hZ, hh⟩ := hP
  exact body p e s m below meth c s₁ Bd.exec Bd.bytes hml0 Bd.returns Bd.notSynchronized (findClass_of_methodNamed Bd.named) (name_of_methodNamed Bd.named Bd.method).1 hZ (Stand.of_body Bd) (by rw [← hh, Bd.state]; rfl)
end OwnW
/-! cells made since the start: explicit -/
def HP (n0 : Nat) (h : Heap) (cs : List Cell) : Prop := h.size = n0 + cs.length ∧ ∀ (i : Nat) (c : Cell), cs[i]? = some c → h[n0 + i]? = some c
def IsA (Z : State) (k : ClassId) (ty : FieldType) : Prop := (∃ kc, Z.vm.classes[k]? = some kc ∧ ∃ comp, kc.kind = .array comp ty) ∧ Z.vm.findClass ("[" ++ ty.toString) = some k
def AC (k : ClassId) (vs : List Value) : Cell := { cls := k, slots := vs.toArray, vm := .none }
def FldC (Z : State) (cell : Cell) (C n d : String) (v : Value) : Prop := ∃ (cf : ClassId) (k : Class) (i : Nat) (f : Field), Z.fieldFound? C n d = some (cf, k, i, f) ∧ f.isStatic = false ∧ cell.vm ≠ .unknown ∧ cell.vm.isStatics = false ∧ Z.vm.assignable cell.cls cf = true ∧ cell.slots[f.slot]? = some v
def ExaC (Z : State) (cell : Cell) (C : String) : Prop := ∃ (k : Class), Z.vm.findClass C = some cell.cls ∧ Z.vm.classes[cell.cls]? = some k ∧ cell.vm.isStatics = false ∧ (k.kind = .ordinary → cell.slots.size = k.instanceTypes.size)
def ObjF (Z : State) (cell : Cell) (C : String) (fl : List (String × String)) (vs : List Value) : Prop := ExaC Z cell C ∧ vs.length = fl.length ∧ ∀ (j : Nat) (n d : String) (v : Value), fl[j]? = some (n, d) → vs[j]? = some v → FldC Z cell C n d v
def Dis (Z : State) (C : String) (fl : List (String × String)) : Prop := ∀ (i j : Nat) (a b : String × String), fl[i]? = some a → fl[j]? = some b → i ≠ j → Jvm.RoadKit.slotOf Z C a.1 a.2 ≠ Jvm.RoadKit.slotOf Z C b.1 b.2
section OwnHP
variable {Z : State} {h h' : Heap} {n0 : Nat} {cs : List Cell} {i sl : Nat} {cell : Cell} {v : Value} {k : ClassId} {vs : List Value} {ty : FieldType} {C : String} {fl : List (String × String)}
theorem HP.nil (h : Heap) : HP h.size h [] := ⟨by simp, fun i c q => by simp at q⟩
theorem HP.push (P : HP n0 h cs) (c : Cell) : HP n0 (h.push c) (cs ++ [c]) := by
  refine ⟨by simp [P.1]; omega, fun i c' q => ?_⟩
  by_cases hi : i < cs.length
  · rw [List.getElem?_append_left hi] at q
    have := P.2 i c' q
    rw [Array.getElem?_push_lt (by rw [P.1]; omega)]
    rw [Array.getElem?_eq_getElem (by rw [P.1]; omega)] at this
    exact this
  · have hl : i < (cs ++ [c]).length := (List.getElem?_eq_some_iff.mp q).1
    have e : i = cs.length := by simp at hl; omega
    subst e
    rw [List.getElem?_append_right (Nat.le_refl _)] at q
    simp at q
    subst q
    rw [← P.1]; simp
theorem HP.wr (P : HP n0 h cs) (W : Wr h h' (n0 + i) sl v) (q : cs[i]? = some cell) : HP n0 h' (cs.set i (cell.setSlot sl v)) := by
  obtain ⟨c0, h1, h2, h3, rfl⟩ := W
  cases h1.symm.trans (P.2 i cell q)
  refine ⟨by simp [P.1], fun j c' r => ?_⟩
  by_cases e : i = j
  · subst e
    have hl : i < cs.length := (List.getElem?_eq_some_iff.mp q).1
    rw [List.getElem?_set_self hl] at r
    cases r
    rw [Array.getElem?_setIfInBounds_self_of_lt (by rw [P.1]; omega)]
  · rw [List.getElem?_set_ne e] at r
    rw [Array.getElem?_setIfInBounds_ne (by omega)]
    exact P.2 j c' r
theorem HP.arr (P : HP n0 h cs) (q : cs[i]? = some (AC k vs)) (a : IsA Z k ty) : Arr Z h (n0 + i) (AC k vs) ty := ⟨P.2 _ _ q, ⟨fun _ => by simp [AC], a.1⟩, by simp [AC]⟩
theorem HP.exaA (P : HP n0 h cs) (q : cs[i]? = some (AC k vs)) (a : IsA Z k ty) {ad : String} (had : "[" ++ ty.toString = ad) : Exa Z h (n0 + i) ad := by
  obtain ⟨⟨kc, h1, comp, h2⟩, h3⟩ := a
  exact ⟨AC k vs, kc, P.2 _ _ q, by rw [← had]; exact h3, h1, rfl, fun z => by rw [h2] at z; cases z⟩
theorem HP.fld (P : HP n0 h cs) (q : cs[i]? = some cell) {n d : String} (F : FldC Z cell C n d v) : Fld Z h (n0 + i) C n d v := by
  obtain ⟨cf, k, j, f, r⟩ := F
  exact ⟨cell, cf, k, j, f, P.2 _ _ q, r⟩
theorem HP.exa (P : HP n0 h cs) (q : cs[i]? = some cell) (F : ExaC Z cell C) : Exa Z h (n0 + i) C := by
  obtain ⟨k, r⟩ := F
  exact ⟨cell, k, P.2 _ _ q, r⟩
theorem AC.set (k : ClassId) (vs : List Value) (j : Nat) (v : Value) : (AC k vs).setSlot j v = AC k (vs.set j v) := by simp [AC, Cell.setSlot]
theorem ExaC.set (F : ExaC Z cell C) (sl : Nat) (v : Value) : ExaC Z (cell.setSlot sl v) C := by
  obtain ⟨k, h1, h2, h3, h4⟩ := F
  exact ⟨k, h1, h2, h3, fun q => by rw [← h4 q]; simp [Cell.setSlot]⟩
theorem ObjF.set (F : ObjF Z cell C fl vs) (D : Dis Z C fl) {j : Nat} {n d : String} (hj : fl[j]? = some (n, d)) (v : Value) : ObjF Z (cell.setSlot (Jvm.RoadKit.slotOf Z C n d) v) C fl (vs.set j v) := by
  obtain ⟨E, hl, F⟩ := F
  refine ⟨E.set _ _, by simp [hl], fun i n' d' v' h1 h2 => ?_⟩
  have hjl : j < fl.length := (List.getElem?_eq_some_iff.mp hj).1
  by_cases e : j = i
  · subst e
    cases hj.symm.trans h1
    rw [List.getElem?_set_self (by omega)] at h2
    cases h2
    obtain ⟨cf, k, x, f, g1, g2, g3, g4, g5, g6⟩ := F j n d _ hj (List.getElem?_eq_getElem (by omega))
    have es : Jvm.RoadKit.slotOf Z C n d = f.slot := by simp [Jvm.RoadKit.slotOf, g1]
    refine ⟨cf, k, x, f, g1, g2, g3, g4, g5, ?_⟩
    rw [es]
    have := (Array.getElem?_eq_some_iff.mp g6).1
    simp [Cell.setSlot, this]
  · rw [List.getElem?_set_ne e] at h2
    obtain ⟨cf, k, x, f, g1, g2, g3, g4, g5, g6⟩ := F i n' d' v' h1 h2
    have es : Jvm.RoadKit.slotOf Z C n' d' = f.slot := by simp [Jvm.RoadKit.slotOf, g1]
    have ne := D j i _ _ hj h1 e
    refine ⟨cf, k, x, f, g1, g2, g3, g4, g5, ?_⟩
    show ((cell.slots.setIfInBounds _ _)[_]?) = _
    rw [Array.getElem?_setIfInBounds_ne (by rw [← es]; exact ne)]
    exact g6
theorem own_dis {a0 : Array Value} (hL : ∀ (j : Nat) (n d : String), fl[j]? = some (n, d) → Laid Z a0 C C n d ∧ ∃ t, parseFieldDescriptor d = some t) (hN : (fl.map Prod.fst).Nodup) : Dis Z C fl := by
  intro i j a b h1 h2 hne
  obtain ⟨L1, t1, p1⟩ := hL i a.1 a.2 h1
  obtain ⟨L2, t2, p2⟩ := hL j b.1 b.2 h2
  refine slot_ne L1 L2 (fun q => hne ?_) p1 p2
  have i1 := (List.getElem?_eq_some_iff.mp h1).1
  have i2 := (List.getElem?_eq_some_iff.mp h2).1
  have e1 : (fl.map Prod.fst)[i]? = some a.1 := by simp [h1]
  have e2 : (fl.map Prod.fst)[j]? = some b.1 := by simp [h2]
  exact (List.getElem?_inj (by simpa using i1) hN).mp (by rw [e1, e2, q])
theorem own_one {n0 : Nat} {L : List Loc} (N : Fr n0 L) (i sl : Nat) : Fr n0 (L ++ [⟨n0 + i, sl⟩]) := N.app fun y hy => by cases List.mem_singleton.mp hy; exact Nat.le_add_right _ _
theorem own_idx {j : Int32} {jn N : Nat} (hj : j.toInt = (jn : Int)) (hn : jn < N) : j.toNatClampNeg = jn ∧ ¬ (j < 0 ∨ N ≤ j.toNatClampNeg) := by
  have e : j.toNatClampNeg = jn := by simp [Int32.toNatClampNeg, hj]
  refine ⟨e, ?_⟩
  rw [e, Int32.lt_iff_toInt_lt, hj]
  simp
  omega
end OwnHP
theorem own_get {α : Type} {f : α → Value} {l : List α} {j : Nat} {d : α} (h : j < l.length) : (List.map f l)[j]? = some (f (l.getD j d)) := by
  simp [List.getD_eq_getElem?_getD, h]
theorem own_sl {α : Type} {l : List α} {i N : Nat} {x : α} (h : l.length = N) : (l.set i x).length = N := by simp [h]
theorem own_llt {α : Type} {l : List α} {j N : Nat} (h : l.length = N) (q : j < N) : j < l.length := by omega
theorem own_oN {n : Nat} (h : n < 2147483648) : (Int32.ofNat n).toInt = (n : Int) := Int32.toInt_ofNat_of_lt h
theorem own_oadd (a b : Nat) : Int32.ofNat a + Int32.ofNat b = Int32.ofNat (a + b) := (Int32.ofNat_add a b).symm
theorem own_osub {a b : Nat} (h : b ≤ a) : Int32.ofNat a - Int32.ofNat b = Int32.ofNat (a - b) := by
  have := own_oadd (a - b) b
  rw [Nat.sub_add_cancel h] at this
  rw [← this, Int32.add_sub_cancel]
theorem own_omul (a b : Nat) : Int32.ofNat a * Int32.ofNat b = Int32.ofNat (a * b) := (Int32.ofNat_mul a b).symm
theorem own_olt {a b : Nat} (ha : a < 2147483648) (hb : b < 2147483648) : Int32.ofNat a < Int32.ofNat b ↔ a < b := by
  rw [Int32.lt_iff_toInt_lt, own_oN ha, own_oN hb]; omega
theorem own_oeq {a b : Nat} (ha : a < 2147483648) (hb : b < 2147483648) : Int32.ofNat a = Int32.ofNat b ↔ a = b := by
  rw [← Int32.toInt_inj, own_oN ha, own_oN hb]; omega
theorem own_len {α : Type} {f : α → Value} {l : List α} {N : Nat} (h : l.length = N) : (List.map f l).length.toInt32 = Int32.ofNat N := by
  rw [List.length_map, h]
section OwnH
variable {p : Program} {l : Launch} {e : Env} {R : Room} {s : State} {m : MethodId} {args : Array Value} {below : List Frame} {meth : Method} {c : Code} {T : State} {locs : List Loc} {cells slots : Nat} {C S : Nat} {Q : Option Value → Heap → List Loc → Prop} {pc pc' : Nat} {Ls : Array Slot} {st : List Value}
  {Z : State} {a0 : Array Value} {n0 : Nat} {cs : List Cell}
theorem w_newarr (X : Stand p l e R s m args below meth c T locs cells slots) (hx : p.tables.exec = Jvm.exec) (hZ : Z.Warmed39 s.vm) (P : HP n0 T.heap cs) {aty : ArrayType} {ty : FieldType} (hty : newarray.typeOf aty = ty) (w : (Jvm.Cond.arrayClass ty).before a0 Z = true) (hd : decode c.code pc = .ok (.newarray aty, 2))
    {n : Int32} {N j : Nat} (hn : n.toInt = (N : Int)) (hN : N ≤ 1000) (hc : cells + 1 ≤ R.cells) (hl : slots + N ≤ R.slots) (hj : cs.length = j) (hp : pc + 2 = pc')
    (k : ∀ (T' : State) (kA : ClassId), Stand p l e R s m args below meth c T' locs (cells + 1) (slots + N) → IsA Z kA ty → HP n0 T'.heap (cs ++ [AC kA (List.replicate N (defaultValue ty))]) → Wp p e s below C S Q T' (mkF m pc' Ls (.ref (n0 + j) :: st))) :
    Wp p e s below C S Q T (mkF m pc Ls (.int n :: st)) := by
  subst hp hty hj
  have en : n.toNatClampNeg = N := by simp [Int32.toNatClampNeg, hn]
  have hcb : componentBytes (newarray.typeOf aty) ≤ 8 := by cases aty <;> decide
  obtain ⟨cA, kA, comp, h1, h2, h3, X', st1⟩ := X.newarrayPrim hx (mvA hZ w) (g := mkF m pc Ls (.int n :: st)) rfl hd rfl (by rw [Int32.lt_iff_toInt_lt, hn]; simp) (by rw [en]; exact Nat.le_trans (Nat.mul_le_mul hN hcb) (by decide)) hc (by rw [en]; exact hl)
  rw [en] at X' st1
  rw [hZ.alike.findClass] at h1
  obtain ⟨kZ, z1, -⟩ := Vm.findClass_spec h1
  obtain ⟨k', z2, z3⟩ := hZ.alike.2.2 _ _ z1
  cases h2.symm.trans z2
  rw [P.1] at st1
  have ec : ({ cls := cA, slots := Array.replicate N (defaultValue (newarray.typeOf aty)), vm := .none } : Cell) = AC cA (List.replicate N (defaultValue (newarray.typeOf aty))) := by simp [AC]
  rw [ec] at X' st1
  exact Wp.via st1 (k _ cA X' ⟨⟨kZ, z1, comp, by rw [← h3, z3]⟩, h1⟩ (P.push _))
theorem w_arrlen (X : Stand p l e R s m args below meth c T locs cells slots) (hx : p.tables.exec = Jvm.exec) (hZ : Z.Warmed39 s.vm) (P : HP n0 T.heap cs) {i : Nat} {kA : ClassId} {vs : List Value} {ty : FieldType} (q : cs[i]? = some (AC kA vs)) (hk : IsA Z kA ty) (hd : decode c.code pc = .ok (.arraylength, 1)) {z : Int32} (hz : vs.length.toInt32 = z) (hp : pc + 1 = pc')
    (k : Wp p e s below C S Q T (mkF m pc' Ls (.int z :: st))) : Wp p e s below C S Q T (mkF m pc Ls (.ref (n0 + i) :: st)) := by
  subst hp hz
  have A := P.arr q hk
  refine Wp.via (fun t ht => X.arraylength hx (cell := AC kA vs) A.1 (State.isArrayOf_alike hZ.alike A.2.1) (g := mkF m pc Ls (.ref (n0 + i) :: st)) rfl (rest := st) rfl hd _ ?_) k
  simpa [AC] using ht
theorem w_iaload (X : Stand p l e R s m args below meth c T locs cells slots) (hx : p.tables.exec = Jvm.exec) (hZ : Z.Warmed39 s.vm) (P : HP n0 T.heap cs) {i : Nat} {kA : ClassId} {vs : List Value} (q : cs[i]? = some (AC kA vs)) (hk : IsA Z kA .int) (hd : decode c.code pc = .ok (.iaload, 1)) {j : Int32} {jn : Nat} (hj : j.toInt = (jn : Int)) {v : Value} (hv : vs[jn]? = some v) (hp : pc + 1 = pc')
    (k : Wp p e s below C S Q T (mkF m pc' Ls (v :: st))) : Wp p e s below C S Q T (mkF m pc Ls (.int j :: .ref (n0 + i) :: st)) := by
  subst hp
  have A := P.arr q hk
  have hl : jn < (AC kA vs).slots.size := by simp [AC]; exact (List.getElem?_eq_some_iff.mp hv).1
  obtain ⟨e1, e2⟩ := own_idx hj hl
  exact Wp.via (fun t ht => X.iaload hx (j := j) (v := v) A.1 (State.isArrayOf_alike hZ.alike A.2.1) A.2.2 e2 (by rw [e1]; simpa [AC] using hv) (g := mkF m pc Ls (.int j :: .ref (n0 + i) :: st)) rfl rfl hd _ ht) k
theorem w_laload (X : Stand p l e R s m args below meth c T locs cells slots) (hx : p.tables.exec = Jvm.exec) (hZ : Z.Warmed39 s.vm) (P : HP n0 T.heap cs) {i : Nat} {kA : ClassId} {vs : List Value} (q : cs[i]? = some (AC kA vs)) (hk : IsA Z kA .long) (hd : decode c.code pc = .ok (.laload, 1)) {j : Int32} {jn : Nat} (hj : j.toInt = (jn : Int)) {v : Value} (hv : vs[jn]? = some v) (hp : pc + 1 = pc')
    (k : Wp p e s below C S Q T (mkF m pc' Ls (v :: st))) : Wp p e s below C S Q T (mkF m pc Ls (.int j :: .ref (n0 + i) :: st)) := by
  subst hp
  have A := P.arr q hk
  have hl : jn < (AC kA vs).slots.size := by simp [AC]; exact (List.getElem?_eq_some_iff.mp hv).1
  obtain ⟨e1, e2⟩ := own_idx hj hl
  exact Wp.via (fun t ht => X.laload hx (j := j) (v := v) A.1 (State.isArrayOf_alike hZ.alike A.2.1) A.2.2 e2 (by rw [e1]; simpa [AC] using hv) (g := mkF m pc Ls (.int j :: .ref (n0 + i) :: st)) rfl rfl hd _ ht) k
theorem w_baload (X : Stand p l e R s m args below meth c T locs cells slots) (hx : p.tables.exec = Jvm.exec) (hZ : Z.Warmed39 s.vm) (P : HP n0 T.heap cs) {i : Nat} {kA : ClassId} {vs : List Value} (q : cs[i]? = some (AC kA vs)) (hk : IsA Z kA .byte) (hd : decode c.code pc = .ok (.baload, 1)) {j : Int32} {jn : Nat} (hj : j.toInt = (jn : Int)) {v : Value} (hv : vs[jn]? = some v) (hp : pc + 1 = pc')
    (k : Wp p e s below C S Q T (mkF m pc' Ls (v :: st))) : Wp p e s below C S Q T (mkF m pc Ls (.int j :: .ref (n0 + i) :: st)) := by
  subst hp
  have A := P.arr q hk
  have hl : jn < (AC kA vs).slots.size := by simp [AC]; exact (List.getElem?_eq_some_iff.mp hv).1
  obtain ⟨e1, e2⟩ := own_idx hj hl
  exact Wp.via (fun t ht => X.baloadBytes hx (j := j) (v := v) A.1 (State.isArrayOf_alike hZ.alike A.2.1) A.2.2 e2 (by rw [e1]; simpa [AC] using hv) (g := mkF m pc Ls (.int j :: .ref (n0 + i) :: st)) rfl rfl hd _ ht) k
theorem w_caload (X : Stand p l e R s m args below meth c T locs cells slots) (hx : p.tables.exec = Jvm.exec) (hZ : Z.Warmed39 s.vm) (P : HP n0 T.heap cs) {i : Nat} {kA : ClassId} {vs : List Value} (q : cs[i]? = some (AC kA vs)) (hk : IsA Z kA .char) (hd : decode c.code pc = .ok (.caload, 1)) {j : Int32} {jn : Nat} (hj : j.toInt = (jn : Int)) {v : Value} (hv : vs[jn]? = some v) (hp : pc + 1 = pc')
    (k : Wp p e s below C S Q T (mkF m pc' Ls (v :: st))) : Wp p e s below C S Q T (mkF m pc Ls (.int j :: .ref (n0 + i) :: st)) := by
  subst hp
  have A := P.arr q hk
  have hl : jn < (AC kA vs).slots.size := by simp [AC]; exact (List.getElem?_eq_some_iff.mp hv).1
  obtain ⟨e1, e2⟩ := own_idx hj hl
  exact Wp.via (fun t ht => X.caload hx (j := j) (v := v) A.1 (State.isArrayOf_alike hZ.alike A.2.1) A.2.2 e2 (by rw [e1]; simpa [AC] using hv) (g := mkF m pc Ls (.int j :: .ref (n0 + i) :: st)) rfl rfl hd _ ht) k
theorem w_iastore (X : Stand p l e R s m args below meth c T locs cells slots) (hx : p.tables.exec = Jvm.exec) (hZ : Z.Warmed39 s.vm) (N : Fr n0 locs) (P : HP n0 T.heap cs) {i : Nat} {kA : ClassId} {vs : List Value} (q : cs[i]? = some (AC kA vs)) (hk : IsA Z kA .int) (hd : decode c.code pc = .ok (.iastore, 1)) {j : Int32} {x : Int32} {jn : Nat} (hj : j.toInt = (jn : Int)) (hl : jn < vs.length) (hp : pc + 1 = pc')
    (k : ∀ (T' : State) (L' : List Loc), Fr n0 L' → Stand p l e R s m args below meth c T' L' cells slots → HP n0 T'.heap (cs.set i (AC kA (vs.set jn (.int x)))) → Wp p e s below C S Q T' (mkF m pc' Ls st)) : Wp p e s below C S Q T (mkF m pc Ls (.int x :: .int j :: .ref (n0 + i) :: st)) := by
  subst hp
  have A := P.arr q hk
  obtain ⟨e1, e2⟩ := own_idx hj (N := (AC kA vs).slots.size) (by simpa [AC] using hl)
  obtain ⟨T', h', X', eh, W, st1⟩ := stI X hx hZ rfl A e2 (g := mkF m pc Ls (.int x :: .int j :: .ref (n0 + i) :: st)) rfl rfl hd
  rw [e1] at X' W
  subst eh
  have P' := P.wr W q
  rw [AC.set] at P'
  exact Wp.via st1 (k T' _ (own_one N _ _) X' P')
theorem w_lastore (X : Stand p l e R s m args below meth c T locs cells slots) (hx : p.tables.exec = Jvm.exec) (hZ : Z.Warmed39 s.vm) (N : Fr n0 locs) (P : HP n0 T.heap cs) {i : Nat} {kA : ClassId} {vs : List Value} (q : cs[i]? = some (AC kA vs)) (hk : IsA Z kA .long) (hd : decode c.code pc = .ok (.lastore, 1)) {j : Int32} {x : Int64} {jn : Nat} (hj : j.toInt = (jn : Int)) (hl : jn < vs.length) (hp : pc + 1 = pc')
    (k : ∀ (T' : State) (L' : List Loc), Fr n0 L' → Stand p l e R s m args below meth c T' L' cells slots → HP n0 T'.heap (cs.set i (AC kA (vs.set jn (.long x)))) → Wp p e s below C S Q T' (mkF m pc' Ls st)) : Wp p e s below C S Q T (mkF m pc Ls (.long x :: .int j :: .ref (n0 + i) :: st)) := by
  subst hp
  have A := P.arr q hk
  obtain ⟨e1, e2⟩ := own_idx hj (N := (AC kA vs).slots.size) (by simpa [AC] using hl)
  obtain ⟨T', h', X', eh, W, st1⟩ := stJ X hx hZ rfl A e2 (g := mkF m pc Ls (.long x :: .int j :: .ref (n0 + i) :: st)) rfl rfl hd
  rw [e1] at X' W
  subst eh
  have P' := P.wr W q
  rw [AC.set] at P'
  exact Wp.via st1 (k T' _ (own_one N _ _) X' P')
theorem w_bastore (X : Stand p l e R s m args below meth c T locs cells slots) (hx : p.tables.exec = Jvm.exec) (hZ : Z.Warmed39 s.vm) (N : Fr n0 locs) (P : HP n0 T.heap cs) {i : Nat} {kA : ClassId} {vs : List Value} (q : cs[i]? = some (AC kA vs)) (hk : IsA Z kA .byte) (hd : decode c.code pc = .ok (.bastore, 1)) {j : Int32} {x : Int32} {jn : Nat} (hj : j.toInt = (jn : Int)) (hl : jn < vs.length) (hp : pc + 1 = pc')
    (k : ∀ (T' : State) (L' : List Loc), Fr n0 L' → Stand p l e R s m args below meth c T' L' cells slots → HP n0 T'.heap (cs.set i (AC kA (vs.set jn (.int (nar .byte x))))) → Wp p e s below C S Q T' (mkF m pc' Ls st)) : Wp p e s below C S Q T (mkF m pc Ls (.int x :: .int j :: .ref (n0 + i) :: st)) := by
  subst hp
  have A := P.arr q hk
  obtain ⟨e1, e2⟩ := own_idx hj (N := (AC kA vs).slots.size) (by simpa [AC] using hl)
  obtain ⟨T', h', X', eh, W, st1⟩ := stB X hx hZ rfl A e2 (g := mkF m pc Ls (.int x :: .int j :: .ref (n0 + i) :: st)) rfl rfl hd
  rw [e1] at X' W
  subst eh
  have P' := P.wr W q
  rw [AC.set] at P'
  exact Wp.via st1 (k T' _ (own_one N _ _) X' P')
theorem w_bastoreE (X : Stand p l e R s m args below meth c T locs cells slots) (hx : p.tables.exec = Jvm.exec) (hZ : Z.Warmed39 s.vm) (N : Fr n0 locs) (P : HP n0 T.heap cs) {i : Nat} {kA : ClassId} {vs : List Value} (q : cs[i]? = some (AC kA vs)) (hk : IsA Z kA .byte) (hd : decode c.code pc = .ok (.bastore, 1)) {j : Int32} {x z : Int32} {jn : Nat} (hz : nar .byte x = z) (hj : j.toInt = (jn : Int)) (hl : jn < vs.length) (hp : pc + 1 = pc')
    (k : ∀ (T' : State) (L' : List Loc), Fr n0 L' → Stand p l e R s m args below meth c T' L' cells slots → HP n0 T'.heap (cs.set i (AC kA (vs.set jn (.int z)))) → Wp p e s below C S Q T' (mkF m pc' Ls st)) : Wp p e s below C S Q T (mkF m pc Ls (.int x :: .int j :: .ref (n0 + i) :: st)) := by
  subst hp hz
  have A := P.arr q hk
  obtain ⟨e1, e2⟩ := own_idx hj (N := (AC kA vs).slots.size) (by simpa [AC] using hl)
  obtain ⟨T', h', X', eh, W, st1⟩ := stB X hx hZ rfl A e2 (g := mkF m pc Ls (.int x :: .int j :: .ref (n0 + i) :: st)) rfl rfl hd
  rw [e1] at X' W
  subst eh
  have P' := P.wr W q
  rw [AC.set] at P'
  exact Wp.via st1 (k T' _ (own_one N _ _) X' P')
theorem w_getf (X : Stand p l e R s m args below meth c T locs cells slots) (hx : p.tables.exec = Jvm.exec) (hZ : Z.Warmed39 s.vm) {own O n d : String} {idx : Nat} (hown : s.vm.findClass own = some m.cls) (w : (Jvm.Cond.fieldLink own idx O n d).before a0 Z = true) (P : HP n0 T.heap cs) {i : Nat} {cell : Cell} (q : cs[i]? = some cell) {fl : List (String × String)} {vs : List Value} (F : ObjF Z cell O fl vs) (j : Nat) (hf : fl[j]? = some (n, d)) {v : Value} (hv : vs[j]? = some v) (hd : decode c.code pc = .ok (.getfield idx, 3)) (hp : pc + 3 = pc')
    (k : ∀ (T' : State), Stand p l e R s m args below meth c T' locs cells slots → HP n0 T'.heap cs → Wp p e s below C S Q T' (mkF m pc' Ls (v :: st))) : Wp p e s below C S Q T (mkF m pc Ls (.ref (n0 + i) :: st)) := by
  subst hp
  obtain ⟨T', X', eh, st1⟩ := getF X hx hZ hown (host := "") (Or.inl w) Via.refl rfl (P.fld q (F.2.2 j n d v hf hv)) (g := mkF m pc Ls (.ref (n0 + i) :: st)) rfl rfl hd
  exact Wp.via st1 (k T' X' (by rw [eh]; exact P))
theorem w_putf (X : Stand p l e R s m args below meth c T locs cells slots) (hx : p.tables.exec = Jvm.exec) (hZ : Z.Warmed39 s.vm) {own O n d : String} {idx kk : Nat} {ty : FieldType} (hown : s.vm.findClass own = some m.cls) (w : (Jvm.Cond.fieldLink own idx O n d).before a0 Z = true) (N : Fr n0 locs) (P : HP n0 T.heap cs) {i : Nat} {cell : Cell} (q : cs[i]? = some cell) {fl : List (String × String)} {vs : List Value} (F : ObjF Z cell O fl vs) (D : Dis Z O fl) (j : Nat) (hf : fl[j]? = some (n, d))
    (L : (Jvm.Cond.lays O O n d).before a0 Z = true ∨ ((Jvm.Cond.laysFinal O O n d).before a0 Z = true ∧ own = O ∧ meth.name = "<init>")) (wi : (Jvm.Cond.instantiable O kk).before a0 Z = true) (hty : parseFieldDescriptor d = some ty) {v : Value} (hn : narrow ty v = v) (hfit : fits ty v = true) (hd : decode c.code pc = .ok (.putfield idx, 3)) (hp : pc + 3 = pc')
    (k : ∀ (T' : State) (L' : List Loc) (cell' : Cell), Fr n0 L' → Stand p l e R s m args below meth c T' L' cells slots → HP n0 T'.heap (cs.set i cell') → ObjF Z cell' O fl (vs.set j v) → Wp p e s below C S Q T' (mkF m pc' Ls st)) : Wp p e s below C S Q T (mkF m pc Ls (v :: .ref (n0 + i) :: st)) := by
  subst hp
  have hjl : j < vs.length := by rw [F.2.1]; exact (List.getElem?_eq_some_iff.mp hf).1
  obtain ⟨T', h', X', eh, W, st1⟩ := putF X hx hZ hown (host := "") (Or.inl w) Via.refl rfl (P.fld q (F.2.2 j n d _ hf (List.getElem?_eq_getElem hjl))) (P.exa q F.1) L wi hty hn hfit (g := mkF m pc Ls (v :: .ref (n0 + i) :: st)) rfl rfl hd
  subst eh
  exact Wp.via st1 (k T' _ _ (own_one N _ _) X' (P.wr W q) (F.set D hf v))
theorem w_new (X : Stand p l e R s m args below meth c T locs cells slots) (hx : p.tables.exec = Jvm.exec) (hZ : Z.Warmed39 s.vm) {own K : String} {idx n j : Nat} (hown : s.vm.findClass own = some m.cls) (w : (Jvm.Cond.classLink own idx K).before a0 Z = true) (wi : (Jvm.Cond.instantiable K n).before a0 Z = true) (wz : (Jvm.Cond.initialized K).before a0 Z = true) (P : HP n0 T.heap cs)
    (fl : List (String × String)) (vs : List Value) (hfl : vs.length = fl.length) (hlay : ∀ (j : Nat) (n d : String) (v : Value), fl[j]? = some (n, d) → vs[j]? = some v → Laid Z a0 K K n d ∧ ∃ ty, parseFieldDescriptor d = some ty ∧ defaultValue ty = v) (hd : decode c.code pc = .ok (.new idx, 3)) (hc : cells + 1 ≤ R.cells) (hl : slots + n ≤ R.slots) (hj : cs.length = j) (hp : pc + 3 = pc')
    (k : ∀ (T' : State) (cell' : Cell), Stand p l e R s m args below meth c T' locs (cells + 1) (slots + n) → HP n0 T'.heap (cs ++ [cell']) → ObjF Z cell' K fl vs → Wp p e s below C S Q T' (mkF m pc' Ls (.ref (n0 + j) :: st))) : Wp p e s below C S Q T (mkF m pc Ls st) := by
  subst hp hj
  obtain ⟨vm', cC, kC, h1, h2, h3, h4, X', st1⟩ := X.newCold hx hown (mv hZ w) (mv hZ wi) (mv hZ wz) (g := mkF m pc Ls st) rfl hd hc hl
  rw [hZ.alike.findClass] at h1
  obtain ⟨kZ, z1, -⟩ := Vm.findClass_spec h1
  obtain ⟨k', z2, z3⟩ := hZ.alike.2.2 _ _ z1
  cases h2.symm.trans z2
  have ei : kC.instanceTypes = kZ.instanceTypes := by rw [z3]
  rw [P.1] at st1
  refine Wp.via st1 (k _ _ X' (P.push _) ⟨⟨kZ, h1, z1, rfl, fun _ => by simp [ei]⟩, hfl, fun j n d v a b => ?_⟩)
  obtain ⟨L, ty, ht, hv⟩ := hlay j n d v a b
  obtain ⟨c1, k1, cf, kf, i, f, a1, a2, a3, a4, a5, a6, -⟩ := L.spec
  cases h1.symm.trans a1
  cases z1.symm.trans a2
  exact ⟨cf, kf, i, f, a3, a4, by simp, rfl, a5, by simp [ei, a6, (State.fieldFound?_type a3 ht).2, hv]⟩
theorem w_initO (X : Stand p l e R s m args below meth c T locs cells slots) (hx : p.tables.exec = Jvm.exec) (hZ : Z.Warmed39 s.vm) {own : String} {idx : Nat} (hown : s.vm.findClass own = some m.cls) (hml : Ls.size = c.maxLocals) (w1 : (Jvm.Cond.methodLink own idx Lib.objectInit).before a0 Z = true) (w2 : (Jvm.Cond.instanceMethod Lib.objectInit).before a0 Z = true)
    (w3 : (Jvm.Cond.code Lib.objectInit ⟨#[0xb1]⟩ 1 none).before a0 Z = true) (P : HP n0 T.heap cs) {a : Addr} (hd : decode c.code pc = .ok (.invokespecial idx, 3)) (hf : 1 ≤ R.frames) {W : Nat} (hW : (st.map fun v => v.category).sum ≤ W) (hl : W + 12 ≤ R.locals) (hp : pc + 3 = pc')
    (k : ∀ (T' : State), Stand p l e R s m args below meth c T' locs cells slots → HP n0 T'.heap cs → Wp p e s below C S Q T' (mkF m pc' Ls st)) : Wp p e s below C S Q T (mkF m pc Ls (.ref a :: st)) := by
  subst hp
  obtain ⟨T', X', eh, st1⟩ := initO X hx hZ hown w1 w2 w3 rfl (g := mkF m pc Ls (.ref a :: st)) rfl hml (rest := st) rfl hd hf (W := W) (by show 2 * 0 + _ ≤ _; omega) hl
  exact Wp.via st1 (k T' X' (by rw [eh]; exact P))
theorem own_callI (X : Stand p l e R s m args below meth c T locs cells slots) (hx : p.tables.exec = Jvm.exec) {h : Heap} (hZ : Z.Warmed39 s.vm) (eT : T.heap = h) {own : String} {i : Nat} {y : MethodName} {bytes : ByteArray} {maxL : Nat} {rm : Room} {W : Nat} {as' : Array Value} {Qc : Option Value → Heap → List Loc → Prop} (hy1 : y.name = "<init>")
    (hown : s.vm.findClass own = some m.cls) (hml : Ls.size = c.maxLocals) (w1 : (Jvm.Cond.methodLink own i y).before a0 Z = true) (w2 : (Jvm.Cond.instanceMethod y).before a0 Z = true) (w3 : (Jvm.Cond.initialized y.cls).before a0 Z = true) (w4 : (Jvm.Cond.code y bytes maxL none).before a0 Z = true)
    (hM : MetFree l y (head1 [Jvm.Cond.code y bytes maxL none] rm) (fun a U => a = as' ∧ Z.Warmed39 U.vm ∧ U.heap = h) (fun _ _ _ _ _ => True) (fun _ U o U' => ∃ v L, o = .returned v ∧ Qc v U'.heap L ∧ FrameEnd U o U' L rm.cells rm.slots))
    (hy : y.cls ≠ "java/lang/invoke/MethodHandle" ∧ y.cls ≠ "java/lang/invoke/VarHandle") (hf : rm.frames + 1 ≤ R.frames) (hl : W + (maxL + 11) + rm.locals ≤ R.locals) (hc : cells + rm.cells ≤ R.cells) (hsl : slots + rm.slots ≤ R.slots)
    {a : Addr} {argsL rest : List Value} {ps : List FieldType} {r : Option FieldType} (hpd : parseMethodDescriptor y.desc = some ⟨ps, r⟩) (hlen : argsL.length = ps.length) (has : (.ref a :: argsL).toArray = as') (hst : st = argsL.reverse ++ .ref a :: rest) (hW : (rest.map fun v => v.category).sum ≤ W) (hd : decode c.code pc = .ok (.invokespecial i, 3)) (hp : pc + 3 = pc')
    (k : ∀ (v : Option Value) (T' : State) (L : List Loc), Stand p l e R s m args below meth c T' (locs ++ L) (cells + rm.cells) (slots + rm.slots) → Qc v T'.heap L → Wp p e s below C S Q T' (mkF m pc' Ls (v.toList ++ rest))) : Wp p e s below C S Q T (mkF m pc Ls st) := by
  obtain ⟨v, _, ⟨T1, L1, k1, n1⟩, -, X1, ⟨Lc1, hQ1, l1, y1, z1⟩, st1⟩ := X.specialBack hx (y := y) hy1 hown (mvT hZ w1) (mvT hZ w2) (mvT hZ w4) hy (backOf (W := W) hM hZ w4 w3 hf hl) (g := mkF m pc Ls st) rfl hml (Steps.refl _) (a := a) (argsL := argsL) (rest := rest) (lenOf hpd hlen) hst (by show 2 * 0 + _ ≤ _; omega) hd (fun _ _ => ⟨has, eT, hc, hsl⟩)
  dsimp only [Pt.U, Pt.locs, Pt.cells, Pt.slots] at X1 l1 y1 z1 st1 hQ1
  subst l1 y1 z1
  subst hp
  exact Wp.via (fun _ h => st1.trans h) (k v T1 Lc1 X1 hQ1)
theorem own_callV (X : Stand p l e R s m args below meth c T locs cells slots) (hx : p.tables.exec = Jvm.exec) {h : Heap} (hZ : Z.Warmed39 s.vm) (eT : T.heap = h) {own K : String} {i : Nat} {y : MethodName} {bytes : ByteArray} {maxL : Nat} {ret : Option FieldType} {rm : Room} {W : Nat} {as' : Array Value} {Qc : Option Value → Heap → List Loc → Prop}
    (hown : s.vm.findClass own = some m.cls) (hml : Ls.size = c.maxLocals) (w1 : (Jvm.Cond.methodLink own i y).before a0 Z = true) (w2 : (Jvm.Cond.declares y).before a0 Z = true) (w5 : (Jvm.Cond.selects K y y).before a0 Z = true) (w6 : (Jvm.Cond.instanceMethod y).before a0 Z = true) (w3 : (Jvm.Cond.initialized y.cls).before a0 Z = true) (w4 : (Jvm.Cond.code y bytes maxL ret).before a0 Z = true)
    (hM : MetFree l y (head1 [Jvm.Cond.code y bytes maxL ret] rm) (fun a U => a = as' ∧ Z.Warmed39 U.vm ∧ U.heap = h) (fun _ _ _ _ _ => True) (fun _ U o U' => ∃ v L, o = .returned v ∧ Qc v U'.heap L ∧ FrameEnd U o U' L rm.cells rm.slots))
    {a : Addr} (E : Exa Z h a K) (hy : y.cls ≠ "java/lang/invoke/MethodHandle" ∧ y.cls ≠ "java/lang/invoke/VarHandle") (hf : rm.frames + 1 ≤ R.frames) (hl : W + (maxL + 11) + rm.locals ≤ R.locals) (hc : cells + rm.cells ≤ R.cells) (hsl : slots + rm.slots ≤ R.slots)
    {argsL rest : List Value} {ps : List FieldType} {r : Option FieldType} (hpd : parseMethodDescriptor y.desc = some ⟨ps, r⟩) (hlen : argsL.length = ps.length) (has : (.ref a :: argsL).toArray = as') (hst : st = argsL.reverse ++ .ref a :: rest) (hW : (rest.map fun v => v.category).sum ≤ W) (hd : decode c.code pc = .ok (.invokevirtual i, 3)) (hp : pc + 3 = pc')
    (k : ∀ (v : Option Value) (T' : State) (L : List Loc), Stand p l e R s m args below meth c T' (locs ++ L) (cells + rm.cells) (slots + rm.slots) → Qc v T'.heap L → Wp p e s below C S Q T' (mkF m pc' Ls (v.toList ++ rest))) : Wp p e s below C S Q T (mkF m pc Ls st) := by
  obtain ⟨cq, kq, qa, qb, qc⟩ := isOf hZ eT E
  obtain ⟨v, _, ⟨T1, L1, k1, n1⟩, -, X1, ⟨Lc1, hQ1, l1, y1, z1⟩, st1⟩ := X.virtualBack hx (y := y) (z := y) hown (mvT hZ w1) (mvT hZ w2) (notFace_of_selects (args := #[]) (mvT hZ w5)) (mvT hZ w5) (mvT hZ w6) hy (backOf (W := W) hM hZ w4 w3 hf hl) qa qc (g := mkF m pc Ls st) rfl hml (Steps.refl _) (argsL := argsL) (rest := rest) (lenOf hpd hlen) hst (by show 2 * 0 + _ ≤ _; omega) hd (fun _ _ => ⟨has, eT, hc, hsl⟩)
  dsimp only [Pt.U, Pt.locs, Pt.cells, Pt.slots] at X1 l1 y1 z1 st1 hQ1
  subst l1 y1 z1
  subst hp
  exact Wp.via (fun _ h => st1.trans h) (k v T1 Lc1 X1 hQ1)
theorem w_clone (X : Stand p l e R s m args below meth c T locs cells slots) (hx : p.tables.exec = Jvm.exec) (hZ : Z.Warmed39 s.vm) {own ad : String} {idx : Nat} (hown : s.vm.findClass own = some m.cls) (hml : Ls.size = c.maxLocals)
    (w1 : (Jvm.Cond.methodLink own idx ⟨ad, "clone", "()Ljava/lang/Object;"⟩).before a0 Z = true) (w2 : (Jvm.Cond.sameMethod ad "java/lang/Object" "clone" "()Ljava/lang/Object;").before a0 Z = true) (w3 : (Jvm.Cond.native ⟨"java/lang/Object", "clone", "()Ljava/lang/Object;"⟩).before a0 Z = true)
    (w4 : (Jvm.Cond.instanceMethod ⟨"java/lang/Object", "clone", "()Ljava/lang/Object;"⟩).before a0 Z = true) (w5 : (Jvm.Cond.selects ad ⟨ad, "clone", "()Ljava/lang/Object;"⟩ ⟨"java/lang/Object", "clone", "()Ljava/lang/Object;"⟩).before a0 Z = true) (w6 : (Jvm.Cond.castable ad "java/lang/Cloneable").before a0 Z = true)
    (P : HP n0 T.heap cs) {i : Nat} {kA : ClassId} {vs : List Value} {ty : FieldType} (q : cs[i]? = some (AC kA vs)) (hk : IsA Z kA ty) (had : "[" ++ ty.toString = ad) (hfit : ∀ v ∈ vs, fits ty v = true) (hd : decode c.code pc = .ok (.invokevirtual idx, 3)) (hf : 1 ≤ R.frames) {W N j : Nat} (hW : (st.map fun v => v.category).sum ≤ W) (hl : W + 14 ≤ R.locals) (hN : vs.length = N) (hc : cells + 1 ≤ R.cells) (hsl : slots + N ≤ R.slots) (hj : cs.length = j) (hp : pc + 3 = pc')
    (k : ∀ (T' : State), Stand p l e R s m args below meth c T' locs (cells + 1) (slots + N) → HP n0 T'.heap (cs ++ [AC kA vs]) → Wp p e s below C S Q T' (mkF m pc' Ls (.ref (n0 + j) :: st))) : Wp p e s below C S Q T (mkF m pc Ls (.ref (n0 + i) :: st)) := by
  subst hp hj hN
  have A := P.arr q hk
  have E := P.exaA q hk had
  have F : FitC Z (AC kA vs) := fitC_of A fun i hi v hv => hfit v (by simp [AC] at hv; exact List.mem_of_getElem? hv)
  obtain ⟨c1, cC, g1, g2, g3⟩ := Cond.castable_spec w6
  have e2 : Z.vm.findClass ad = some (AC kA vs).cls := by rw [← had]; exact hk.2
  cases e2.symm.trans g1
  have hal : Z.vm.Alike T.vm := hZ.alike.trans X.warmed.alike
  obtain ⟨vm', X', st1⟩ := X.cloneArray hx hown (mv hZ w1) (mv hZ w2) (mv hZ w3) (mv hZ w4) (mv hZ w5) (a := n0 + i) A.1 A.2.1.1 A.2.2 (by rw [hZ.alike.findClass]; exact e2) (by rw [hZ.alike.findClass]; exact g2) (by rw [hZ.alike.assignable]; exact g3)
    (fun i v hv => by have q := F i v hv; rw [← State.fitsSlot_setVm hal] at q; exact q) (g := mkF m pc Ls (.ref (n0 + i) :: st)) rfl hml rfl hd hf (by show 2 * 0 + _ + 14 ≤ _; omega) hc (by simpa [AC] using hsl)
    (by obtain ⟨-, k2, hk2, comp, hkind⟩ := A.2.1; rw [hZ.alike.clonesLoader]; exact Vm.clonesLoader_of_array hk2 hkind)
  rw [P.1] at st1
  have es : (AC kA vs).slots.size = vs.length := by simp [AC]
  rw [es] at X'
  exact Wp.via st1 (k _ X' (P.push _))
theorem w_ccastA (X : Stand p l e R s m args below meth c T locs cells slots) (hx : p.tables.exec = Jvm.exec) (hZ : Z.Warmed39 s.vm) {own ad : String} {idx : Nat} (hown : s.vm.findClass own = some m.cls) (w : (Jvm.Cond.classLink own idx ad).before a0 Z = true) (P : HP n0 T.heap cs) {i : Nat} {kA : ClassId} {vs : List Value} {ty : FieldType} (q : cs[i]? = some (AC kA vs)) (hk : IsA Z kA ty) (had : "[" ++ ty.toString = ad) (hd : decode c.code pc = .ok (.checkcast idx, 3)) (hp : pc + 3 = pc')
    (k : ∀ (T' : State), Stand p l e R s m args below meth c T' locs cells slots → HP n0 T'.heap cs → Wp p e s below C S Q T' (mkF m pc' Ls (.ref (n0 + i) :: st))) : Wp p e s below C S Q T (mkF m pc Ls (.ref (n0 + i) :: st)) := by
  subst hp
  obtain ⟨T', X', eh, st1⟩ := castY X hx hZ hown w rfl (Ins.self (P.exaA q hk had)) (g := mkF m pc Ls (.ref (n0 + i) :: st)) rfl rfl hd
  exact Wp.via st1 (k T' X' (by rw [eh]; exact P))
theorem w_ialoadL (X : Stand p l e R s m args below meth c T locs cells slots) (hx : p.tables.exec = Jvm.exec) (hZ : Z.Warmed39 s.vm) (P : HP n0 T.heap cs) {i : Nat} {kA : ClassId} {ll : List Int32} (q : cs[i]? = some (AC kA (List.map Value.int ll))) (hk : IsA Z kA .int) (hd : decode c.code pc = .ok (.iaload, 1)) {j : Int32} {jn : Nat} (hj : j.toInt = (jn : Int)) (hl : jn < ll.length) (hp : pc + 1 = pc')
    (k : Wp p e s below C S Q T (mkF m pc' Ls (.int (ll.getD jn 0) :: st))) : Wp p e s below C S Q T (mkF m pc Ls (.int j :: .ref (n0 + i) :: st)) :=
  w_iaload X hx hZ P q hk hd hj (own_get hl) hp k
theorem w_laloadL (X : Stand p l e R s m args below meth c T locs cells slots) (hx : p.tables.exec = Jvm.exec) (hZ : Z.Warmed39 s.vm) (P : HP n0 T.heap cs) {i : Nat} {kA : ClassId} {ll : List Int64} (q : cs[i]? = some (AC kA (List.map Value.long ll))) (hk : IsA Z kA .long) (hd : decode c.code pc = .ok (.laload, 1)) {j : Int32} {jn : Nat} (hj : j.toInt = (jn : Int)) (hl : jn < ll.length) (hp : pc + 1 = pc')
    (k : Wp p e s below C S Q T (mkF m pc' Ls (.long (ll.getD jn 0) :: st))) : Wp p e s below C S Q T (mkF m pc Ls (.int j :: .ref (n0 + i) :: st)) :=
  w_laload X hx hZ P q hk hd hj (own_get hl) hp k
theorem w_baloadL (X : Stand p l e R s m args below meth c T locs cells slots) (hx : p.tables.exec = Jvm.exec) (hZ : Z.Warmed39 s.vm) (P : HP n0 T.heap cs) {i : Nat} {kA : ClassId} {ll : List Int32} (q : cs[i]? = some (AC kA (List.map Value.int ll))) (hk : IsA Z kA .byte) (hd : decode c.code pc = .ok (.baload, 1)) {j : Int32} {jn : Nat} (hj : j.toInt = (jn : Int)) (hl : jn < ll.length) (hp : pc + 1 = pc')
    (k : Wp p e s below C S Q T (mkF m pc' Ls (.int (ll.getD jn 0) :: st))) : Wp p e s below C S Q T (mkF m pc Ls (.int j :: .ref (n0 + i) :: st)) :=
  w_baload X hx hZ P q hk hd hj (own_get hl) hp k
theorem w_iastoreL (X : Stand p l e R s m args below meth c T locs cells slots) (hx : p.tables.exec = Jvm.exec) (hZ : Z.Warmed39 s.vm) (N : Fr n0 locs) (P : HP n0 T.heap cs) {i : Nat} {kA : ClassId} {ll : List Int32} (q : cs[i]? = some (AC kA (List.map Value.int ll))) (hk : IsA Z kA .int) (hd : decode c.code pc = .ok (.iastore, 1)) {j : Int32} {x : Int32} {jn : Nat} (hj : j.toInt = (jn : Int)) (hl : jn < ll.length) (hp : pc + 1 = pc')
    (k : ∀ (T' : State) (L' : List Loc), Fr n0 L' → Stand p l e R s m args below meth c T' L' cells slots → HP n0 T'.heap (cs.set i (AC kA (List.map Value.int (ll.set jn x)))) → Wp p e s below C S Q T' (mkF m pc' Ls st)) : Wp p e s below C S Q T (mkF m pc Ls (.int x :: .int j :: .ref (n0 + i) :: st)) :=
  w_iastore X hx hZ N P q hk hd hj (by simpa using hl) hp (fun T' L' N' X' P' => k T' L' N' X' (by rw [List.map_set]; exact P'))
theorem w_lastoreL (X : Stand p l e R s m args below meth c T locs cells slots) (hx : p.tables.exec = Jvm.exec) (hZ : Z.Warmed39 s.vm) (N : Fr n0 locs) (P : HP n0 T.heap cs) {i : Nat} {kA : ClassId} {ll : List Int64} (q : cs[i]? = some (AC kA (List.map Value.long ll))) (hk : IsA Z kA .long) (hd : decode c.code pc = .ok (.lastore, 1)) {j : Int32} {x : Int64} {jn : Nat} (hj : j.toInt = (jn : Int)) (hl : jn < ll.length) (hp : pc + 1 = pc')
    (k : ∀ (T' : State) (L' : List Loc), Fr n0 L' → Stand p l e R s m args below meth c T' L' cells slots → HP n0 T'.heap (cs.set i (AC kA (List.map Value.long (ll.set jn x)))) → Wp p e s below C S Q T' (mkF m pc' Ls st)) : Wp p e s below C S Q T (mkF m pc Ls (.long x :: .int j :: .ref (n0 + i) :: st)) :=
  w_lastore X hx hZ N P q hk hd hj (by simpa using hl) hp (fun T' L' N' X' P' => k T' L' N' X' (by rw [List.map_set]; exact P'))
theorem w_bastoreEL (X : Stand p l e R s m args below meth c T locs cells slots) (hx : p.tables.exec = Jvm.exec) (hZ : Z.Warmed39 s.vm) (N : Fr n0 locs) (P : HP n0 T.heap cs) {i : Nat} {kA : ClassId} {ll : List Int32} (q : cs[i]? = some (AC kA (List.map Value.int ll))) (hk : IsA Z kA .byte) (hd : decode c.code pc = .ok (.bastore, 1)) {j : Int32} {x : Int32} {z : Int32} (hz : nar .byte x = z) {jn : Nat} (hj : j.toInt = (jn : Int)) (hl : jn < ll.length) (hp : pc + 1 = pc')
    (k : ∀ (T' : State) (L' : List Loc), Fr n0 L' → Stand p l e R s m args below meth c T' L' cells slots → HP n0 T'.heap (cs.set i (AC kA (List.map Value.int (ll.set jn z)))) → Wp p e s below C S Q T' (mkF m pc' Ls st)) : Wp p e s below C S Q T (mkF m pc Ls (.int x :: .int j :: .ref (n0 + i) :: st)) :=
  w_bastoreE X hx hZ N P q hk hd hz hj (by simpa using hl) hp (fun T' L' N' X' P' => k T' L' N' X' (by rw [List.map_set]; exact P'))
end OwnH
/-! small numbers -/
theorem own_small {x : Int32} {n : Nat} (h0 : 0 ≤ x.toInt) (h1 : x.toInt < n) (hn : n ≤ 2147483648) : ∃ k : Nat, k < n ∧ x = Int32.ofNat k := by
  refine ⟨x.toInt.toNat, by omega, Int32.toInt_inj.mp ?_⟩
  rw [Int32.toInt_ofNat_of_lt (by omega)]
  omega
theorem own_mask (a : Int32) : 0 ≤ (a &&& 2147483647).toInt ∧ (a &&& 2147483647).toInt < 2147483648 := by
  have h := c_mask a 2147483647 31 (by decide) (by decide)
  omega
theorem own_rem (a d : Int32) (D : Nat) (hd : d.toInt = (D : Int)) (h0 : 0 < D) : ∃ k : Nat, k < D ∧ (a &&& 2147483647) % d = Int32.ofNat k := by
  have h := own_mask a
  have h2 := (c_irem (a &&& 2147483647) d D hd).1 h.1
  have h3 := Int.emod_nonneg (a &&& 2147483647).toInt (b := (D : Int)) (by omega)
  have h4 := Int.emod_lt_of_pos (a &&& 2147483647).toInt (b := (D : Int)) (by omega)
  have h5 := d.toInt_lt
  exact own_small (by omega) (by omega) (by omega)
theorem own_remP (y d : Int32) (D : Nat) (h0 : 0 ≤ y.toInt) (hd : d.toInt = (D : Int)) (h1 : 0 < D) : ∃ k : Nat, k < D ∧ y % d = Int32.ofNat k := by
  have h2 := (c_irem y d D hd).1 h0
  have h3 := Int.emod_nonneg y.toInt (b := (D : Int)) (by omega)
  have h4 := Int.emod_lt_of_pos y.toInt (b := (D : Int)) (by omega)
  have h5 := d.toInt_lt
  exact own_small (by omega) (by omega) (by omega)
theorem own_andk (a m : Int32) (M : Nat) (hm : m.toInt = (M : Int)) : ∃ k : Nat, k < M + 1 ∧ a &&& m = Int32.ofNat k := by
  have h := c_and a m (by omega)
  have h5 := m.toInt_lt
  exact own_small h.1 (by omega) (by omega)
theorem own_c1 {x : Int32} (h : ∃ k : Nat, k < 1 ∧ x = Int32.ofNat k) : x = 0 := by
  obtain ⟨k, hk, e⟩ := h
  obtain rfl : k = 0 := by omega
  exact e
theorem own_c2 {x : Int32} (h : ∃ k : Nat, k < 2 ∧ x = Int32.ofNat k) : x = 0 ∨ x = 1 := by
  obtain ⟨k, hk, e⟩ := h
  have q : k = 0 ∨ k = 1 := by omega
  rcases q with rfl | rfl
  · exact Or.inl e
  · exact Or.inr (e)
theorem own_c3 {x : Int32} (h : ∃ k : Nat, k < 3 ∧ x = Int32.ofNat k) : x = 0 ∨ x = 1 ∨ x = 2 := by
  obtain ⟨k, hk, e⟩ := h
  have q : k = 0 ∨ k = 1 ∨ k = 2 := by omega
  rcases q with rfl | rfl | rfl
  · exact Or.inl e
  · exact Or.inr (Or.inl e)
  · exact Or.inr (Or.inr (e))
theorem own_c4 {x : Int32} (h : ∃ k : Nat, k < 4 ∧ x = Int32.ofNat k) : x = 0 ∨ x = 1 ∨ x = 2 ∨ x = 3 := by
  obtain ⟨k, hk, e⟩ := h
  have q : k = 0 ∨ k = 1 ∨ k = 2 ∨ k = 3 := by omega
  rcases q with rfl | rfl | rfl | rfl
  · exact Or.inl e
  · exact Or.inr (Or.inl e)
  · exact Or.inr (Or.inr (Or.inl e))
  · exact Or.inr (Or.inr (Or.inr (e)))
theorem own_c5 {x : Int32} (h : ∃ k : Nat, k < 5 ∧ x = Int32.ofNat k) : x = 0 ∨ x = 1 ∨ x = 2 ∨ x = 3 ∨ x = 4 := by
  obtain ⟨k, hk, e⟩ := h
  have q : k = 0 ∨ k = 1 ∨ k = 2 ∨ k = 3 ∨ k = 4 := by omega
  rcases q with rfl | rfl | rfl | rfl | rfl
  · exact Or.inl e
  · exact Or.inr (Or.inl e)
  · exact Or.inr (Or.inr (Or.inl e))
  · exact Or.inr (Or.inr (Or.inr (Or.inl e)))
  · exact Or.inr (Or.inr (Or.inr (Or.inr (e))))
theorem own_c6 {x : Int32} (h : ∃ k : Nat, k < 6 ∧ x = Int32.ofNat k) : x = 0 ∨ x = 1 ∨ x = 2 ∨ x = 3 ∨ x = 4 ∨ x = 5 := by
  obtain ⟨k, hk, e⟩ := h
  have q : k = 0 ∨ k = 1 ∨ k = 2 ∨ k = 3 ∨ k = 4 ∨ k = 5 := by omega
  rcases q with rfl | rfl | rfl | rfl | rfl | rfl
  · exact Or.inl e
  · exact Or.inr (Or.inl e)
  · exact Or.inr (Or.inr (Or.inl e))
  · exact Or.inr (Or.inr (Or.inr (Or.inl e)))
  · exact Or.inr (Or.inr (Or.inr (Or.inr (Or.inl e))))
  · exact Or.inr (Or.inr (Or.inr (Or.inr (Or.inr (e)))))
theorem own_c7 {x : Int32} (h : ∃ k : Nat, k < 7 ∧ x = Int32.ofNat k) : x = 0 ∨ x = 1 ∨ x = 2 ∨ x = 3 ∨ x = 4 ∨ x = 5 ∨ x = 6 := by
  obtain ⟨k, hk, e⟩ := h
  have q : k = 0 ∨ k = 1 ∨ k = 2 ∨ k = 3 ∨ k = 4 ∨ k = 5 ∨ k = 6 := by omega
  rcases q with rfl | rfl | rfl | rfl | rfl | rfl | rfl
  · exact Or.inl e
  · exact Or.inr (Or.inl e)
  · exact Or.inr (Or.inr (Or.inl e))
  · exact Or.inr (Or.inr (Or.inr (Or.inl e)))
  · exact Or.inr (Or.inr (Or.inr (Or.inr (Or.inl e))))
  · exact Or.inr (Or.inr (Or.inr (Or.inr (Or.inr (Or.inl e)))))
  · exact Or.inr (Or.inr (Or.inr (Or.inr (Or.inr (Or.inr (e))))))
theorem own_c8 {x : Int32} (h : ∃ k : Nat, k < 8 ∧ x = Int32.ofNat k) : x = 0 ∨ x = 1 ∨ x = 2 ∨ x = 3 ∨ x = 4 ∨ x = 5 ∨ x = 6 ∨ x = 7 := by
  obtain ⟨k, hk, e⟩ := h
  have q : k = 0 ∨ k = 1 ∨ k = 2 ∨ k = 3 ∨ k = 4 ∨ k = 5 ∨ k = 6 ∨ k = 7 := by omega
  rcases q with rfl | rfl | rfl | rfl | rfl | rfl | rfl | rfl
  · exact Or.inl e
  · exact Or.inr (Or.inl e)
  · exact Or.inr (Or.inr (Or.inl e))
  · exact Or.inr (Or.inr (Or.inr (Or.inl e)))
  · exact Or.inr (Or.inr (Or.inr (Or.inr (Or.inl e))))
  · exact Or.inr (Or.inr (Or.inr (Or.inr (Or.inr (Or.inl e)))))
  · exact Or.inr (Or.inr (Or.inr (Or.inr (Or.inr (Or.inr (Or.inl e))))))
  · exact Or.inr (Or.inr (Or.inr (Or.inr (Or.inr (Or.inr (Or.inr (e)))))))
theorem own_c9 {x : Int32} (h : ∃ k : Nat, k < 9 ∧ x = Int32.ofNat k) : x = 0 ∨ x = 1 ∨ x = 2 ∨ x = 3 ∨ x = 4 ∨ x = 5 ∨ x = 6 ∨ x = 7 ∨ x = 8 := by
  obtain ⟨k, hk, e⟩ := h
  have q : k = 0 ∨ k = 1 ∨ k = 2 ∨ k = 3 ∨ k = 4 ∨ k = 5 ∨ k = 6 ∨ k = 7 ∨ k = 8 := by omega
  rcases q with rfl | rfl | rfl | rfl | rfl | rfl | rfl | rfl | rfl
  · exact Or.inl e
  · exact Or.inr (Or.inl e)
  · exact Or.inr (Or.inr (Or.inl e))
  · exact Or.inr (Or.inr (Or.inr (Or.inl e)))
  · exact Or.inr (Or.inr (Or.inr (Or.inr (Or.inl e))))
  · exact Or.inr (Or.inr (Or.inr (Or.inr (Or.inr (Or.inl e)))))
  · exact Or.inr (Or.inr (Or.inr (Or.inr (Or.inr (Or.inr (Or.inl e))))))
  · exact Or.inr (Or.inr (Or.inr (Or.inr (Or.inr (Or.inr (Or.inr (Or.inl e)))))))
  · exact Or.inr (Or.inr (Or.inr (Or.inr (Or.inr (Or.inr (Or.inr (Or.inr (e))))))))
theorem own_c10 {x : Int32} (h : ∃ k : Nat, k < 10 ∧ x = Int32.ofNat k) : x = 0 ∨ x = 1 ∨ x = 2 ∨ x = 3 ∨ x = 4 ∨ x = 5 ∨ x = 6 ∨ x = 7 ∨ x = 8 ∨ x = 9 := by
  obtain ⟨k, hk, e⟩ := h
  have q : k = 0 ∨ k = 1 ∨ k = 2 ∨ k = 3 ∨ k = 4 ∨ k = 5 ∨ k = 6 ∨ k = 7 ∨ k = 8 ∨ k = 9 := by omega
  rcases q with rfl | rfl | rfl | rfl | rfl | rfl | rfl | rfl | rfl | rfl
  · exact Or.inl e
  · exact Or.inr (Or.inl e)
  · exact Or.inr (Or.inr (Or.inl e))
  · exact Or.inr (Or.inr (Or.inr (Or.inl e)))
  · exact Or.inr (Or.inr (Or.inr (Or.inr (Or.inl e))))
  · exact Or.inr (Or.inr (Or.inr (Or.inr (Or.inr (Or.inl e)))))
  · exact Or.inr (Or.inr (Or.inr (Or.inr (Or.inr (Or.inr (Or.inl e))))))
  · exact Or.inr (Or.inr (Or.inr (Or.inr (Or.inr (Or.inr (Or.inr (Or.inl e)))))))
  · exact Or.inr (Or.inr (Or.inr (Or.inr (Or.inr (Or.inr (Or.inr (Or.inr (Or.inl e))))))))
  · exact Or.inr (Or.inr (Or.inr (Or.inr (Or.inr (Or.inr (Or.inr (Or.inr (Or.inr (e)))))))))
theorem own_c11 {x : Int32} (h : ∃ k : Nat, k < 11 ∧ x = Int32.ofNat k) : x = 0 ∨ x = 1 ∨ x = 2 ∨ x = 3 ∨ x = 4 ∨ x = 5 ∨ x = 6 ∨ x = 7 ∨ x = 8 ∨ x = 9 ∨ x = 10 := by
  obtain ⟨k, hk, e⟩ := h
  have q : k = 0 ∨ k = 1 ∨ k = 2 ∨ k = 3 ∨ k = 4 ∨ k = 5 ∨ k = 6 ∨ k = 7 ∨ k = 8 ∨ k = 9 ∨ k = 10 := by omega
  rcases q with rfl | rfl | rfl | rfl | rfl | rfl | rfl | rfl | rfl | rfl | rfl
  · exact Or.inl e
  · exact Or.inr (Or.inl e)
  · exact Or.inr (Or.inr (Or.inl e))
  · exact Or.inr (Or.inr (Or.inr (Or.inl e)))
  · exact Or.inr (Or.inr (Or.inr (Or.inr (Or.inl e))))
  · exact Or.inr (Or.inr (Or.inr (Or.inr (Or.inr (Or.inl e)))))
  · exact Or.inr (Or.inr (Or.inr (Or.inr (Or.inr (Or.inr (Or.inl e))))))
  · exact Or.inr (Or.inr (Or.inr (Or.inr (Or.inr (Or.inr (Or.inr (Or.inl e)))))))
  · exact Or.inr (Or.inr (Or.inr (Or.inr (Or.inr (Or.inr (Or.inr (Or.inr (Or.inl e))))))))
  · exact Or.inr (Or.inr (Or.inr (Or.inr (Or.inr (Or.inr (Or.inr (Or.inr (Or.inr (Or.inl e)))))))))
  · exact Or.inr (Or.inr (Or.inr (Or.inr (Or.inr (Or.inr (Or.inr (Or.inr (Or.inr (Or.inr (e))))))))))
theorem own_c12 {x : Int32} (h : ∃ k : Nat, k < 12 ∧ x = Int32.ofNat k) : x = 0 ∨ x = 1 ∨ x = 2 ∨ x = 3 ∨ x = 4 ∨ x = 5 ∨ x = 6 ∨ x = 7 ∨ x = 8 ∨ x = 9 ∨ x = 10 ∨ x = 11 := by
  obtain ⟨k, hk, e⟩ := h
  have q : k = 0 ∨ k = 1 ∨ k = 2 ∨ k = 3 ∨ k = 4 ∨ k = 5 ∨ k = 6 ∨ k = 7 ∨ k = 8 ∨ k = 9 ∨ k = 10 ∨ k = 11 := by omega
  rcases q with rfl | rfl | rfl | rfl | rfl | rfl | rfl | rfl | rfl | rfl | rfl | rfl
  · exact Or.inl e
  · exact Or.inr (Or.inl e)
  · exact Or.inr (Or.inr (Or.inl e))
  · exact Or.inr (Or.inr (Or.inr (Or.inl e)))
  · exact Or.inr (Or.inr (Or.inr (Or.inr (Or.inl e))))
  · exact Or.inr (Or.inr (Or.inr (Or.inr (Or.inr (Or.inl e)))))
  · exact Or.inr (Or.inr (Or.inr (Or.inr (Or.inr (Or.inr (Or.inl e))))))
  · exact Or.inr (Or.inr (Or.inr (Or.inr (Or.inr (Or.inr (Or.inr (Or.inl e)))))))
  · exact Or.inr (Or.inr (Or.inr (Or.inr (Or.inr (Or.inr (Or.inr (Or.inr (Or.inl e))))))))
  · exact Or.inr (Or.inr (Or.inr (Or.inr (Or.inr (Or.inr (Or.inr (Or.inr (Or.inr (Or.inl e)))))))))
  · exact Or.inr (Or.inr (Or.inr (Or.inr (Or.inr (Or.inr (Or.inr (Or.inr (Or.inr (Or.inr (Or.inl e))))))))))
  · exact Or.inr (Or.inr (Or.inr (Or.inr (Or.inr (Or.inr (Or.inr (Or.inr (Or.inr (Or.inr (Or.inr (e)))))))))))
theorem own_c13 {x : Int32} (h : ∃ k : Nat, k < 13 ∧ x = Int32.ofNat k) : x = 0 ∨ x = 1 ∨ x = 2 ∨ x = 3 ∨ x = 4 ∨ x = 5 ∨ x = 6 ∨ x = 7 ∨ x = 8 ∨ x = 9 ∨ x = 10 ∨ x = 11 ∨ x = 12 := by
  obtain ⟨k, hk, e⟩ := h
  have q : k = 0 ∨ k = 1 ∨ k = 2 ∨ k = 3 ∨ k = 4 ∨ k = 5 ∨ k = 6 ∨ k = 7 ∨ k = 8 ∨ k = 9 ∨ k = 10 ∨ k = 11 ∨ k = 12 := by omega
  rcases q with rfl | rfl | rfl | rfl | rfl | rfl | rfl | rfl | rfl | rfl | rfl | rfl | rfl
  · exact Or.inl e
  · exact Or.inr (Or.inl e)
  · exact Or.inr (Or.inr (Or.inl e))
  · exact Or.inr (Or.inr (Or.inr (Or.inl e)))
  · exact Or.inr (Or.inr (Or.inr (Or.inr (Or.inl e))))
  · exact Or.inr (Or.inr (Or.inr (Or.inr (Or.inr (Or.inl e)))))
  · exact Or.inr (Or.inr (Or.inr (Or.inr (Or.inr (Or.inr (Or.inl e))))))
  · exact Or.inr (Or.inr (Or.inr (Or.inr (Or.inr (Or.inr (Or.inr (Or.inl e)))))))
  · exact Or.inr (Or.inr (Or.inr (Or.inr (Or.inr (Or.inr (Or.inr (Or.inr (Or.inl e))))))))
  · exact Or.inr (Or.inr (Or.inr (Or.inr (Or.inr (Or.inr (Or.inr (Or.inr (Or.inr (Or.inl e)))))))))
  · exact Or.inr (Or.inr (Or.inr (Or.inr (Or.inr (Or.inr (Or.inr (Or.inr (Or.inr (Or.inr (Or.inl e))))))))))
  · exact Or.inr (Or.inr (Or.inr (Or.inr (Or.inr (Or.inr (Or.inr (Or.inr (Or.inr (Or.inr (Or.inr (Or.inl e)))))))))))
  · exact Or.inr (Or.inr (Or.inr (Or.inr (Or.inr (Or.inr (Or.inr (Or.inr (Or.inr (Or.inr (Or.inr (Or.inr (e))))))))))))
theorem own_c14 {x : Int32} (h : ∃ k : Nat, k < 14 ∧ x = Int32.ofNat k) : x = 0 ∨ x = 1 ∨ x = 2 ∨ x = 3 ∨ x = 4 ∨ x = 5 ∨ x = 6 ∨ x = 7 ∨ x = 8 ∨ x = 9 ∨ x = 10 ∨ x = 11 ∨ x = 12 ∨ x = 13 := by
  obtain ⟨k, hk, e⟩ := h
  have q : k = 0 ∨ k = 1 ∨ k = 2 ∨ k = 3 ∨ k = 4 ∨ k = 5 ∨ k = 6 ∨ k = 7 ∨ k = 8 ∨ k = 9 ∨ k = 10 ∨ k = 11 ∨ k = 12 ∨ k = 13 := by omega
  rcases q with rfl | rfl | rfl | rfl | rfl | rfl | rfl | rfl | rfl | rfl | rfl | rfl | rfl | rfl
  · exact Or.inl e
  · exact Or.inr (Or.inl e)
  · exact Or.inr (Or.inr (Or.inl e))
  · exact Or.inr (Or.inr (Or.inr (Or.inl e)))
  · exact Or.inr (Or.inr (Or.inr (Or.inr (Or.inl e))))
  · exact Or.inr (Or.inr (Or.inr (Or.inr (Or.inr (Or.inl e)))))
  · exact Or.inr (Or.inr (Or.inr (Or.inr (Or.inr (Or.inr (Or.inl e))))))
  · exact Or.inr (Or.inr (Or.inr (Or.inr (Or.inr (Or.inr (Or.inr (Or.inl e)))))))
  · exact Or.inr (Or.inr (Or.inr (Or.inr (Or.inr (Or.inr (Or.inr (Or.inr (Or.inl e))))))))
  · exact Or.inr (Or.inr (Or.inr (Or.inr (Or.inr (Or.inr (Or.inr (Or.inr (Or.inr (Or.inl e)))))))))
  · exact Or.inr (Or.inr (Or.inr (Or.inr (Or.inr (Or.inr (Or.inr (Or.inr (Or.inr (Or.inr (Or.inl e))))))))))
  · exact Or.inr (Or.inr (Or.inr (Or.inr (Or.inr (Or.inr (Or.inr (Or.inr (Or.inr (Or.inr (Or.inr (Or.inl e)))))))))))
  · exact Or.inr (Or.inr (Or.inr (Or.inr (Or.inr (Or.inr (Or.inr (Or.inr (Or.inr (Or.inr (Or.inr (Or.inr (Or.inl e))))))))))))
  · exact Or.inr (Or.inr (Or.inr (Or.inr (Or.inr (Or.inr (Or.inr (Or.inr (Or.inr (Or.inr (Or.inr (Or.inr (Or.inr (e)))))))))))))
theorem own_c15 {x : Int32} (h : ∃ k : Nat, k < 15 ∧ x = Int32.ofNat k) : x = 0 ∨ x = 1 ∨ x = 2 ∨ x = 3 ∨ x = 4 ∨ x = 5 ∨ x = 6 ∨ x = 7 ∨ x = 8 ∨ x = 9 ∨ x = 10 ∨ x = 11 ∨ x = 12 ∨ x = 13 ∨ x = 14 := by
  obtain ⟨k, hk, e⟩ := h
  have q : k = 0 ∨ k = 1 ∨ k = 2 ∨ k = 3 ∨ k = 4 ∨ k = 5 ∨ k = 6 ∨ k = 7 ∨ k = 8 ∨ k = 9 ∨ k = 10 ∨ k = 11 ∨ k = 12 ∨ k = 13 ∨ k = 14 := by omega
  rcases q with rfl | rfl | rfl | rfl | rfl | rfl | rfl | rfl | rfl | rfl | rfl | rfl | rfl | rfl | rfl
  · exact Or.inl e
  · exact Or.inr (Or.inl e)
  · exact Or.inr (Or.inr (Or.inl e))
  · exact Or.inr (Or.inr (Or.inr (Or.inl e)))
  · exact Or.inr (Or.inr (Or.inr (Or.inr (Or.inl e))))
  · exact Or.inr (Or.inr (Or.inr (Or.inr (Or.inr (Or.inl e)))))
  · exact Or.inr (Or.inr (Or.inr (Or.inr (Or.inr (Or.inr (Or.inl e))))))
  · exact Or.inr (Or.inr (Or.inr (Or.inr (Or.inr (Or.inr (Or.inr (Or.inl e)))))))
  · exact Or.inr (Or.inr (Or.inr (Or.inr (Or.inr (Or.inr (Or.inr (Or.inr (Or.inl e))))))))
  · exact Or.inr (Or.inr (Or.inr (Or.inr (Or.inr (Or.inr (Or.inr (Or.inr (Or.inr (Or.inl e)))))))))
  · exact Or.inr (Or.inr (Or.inr (Or.inr (Or.inr (Or.inr (Or.inr (Or.inr (Or.inr (Or.inr (Or.inl e))))))))))
  · exact Or.inr (Or.inr (Or.inr (Or.inr (Or.inr (Or.inr (Or.inr (Or.inr (Or.inr (Or.inr (Or.inr (Or.inl e)))))))))))
  · exact Or.inr (Or.inr (Or.inr (Or.inr (Or.inr (Or.inr (Or.inr (Or.inr (Or.inr (Or.inr (Or.inr (Or.inr (Or.inl e))))))))))))
  · exact Or.inr (Or.inr (Or.inr (Or.inr (Or.inr (Or.inr (Or.inr (Or.inr (Or.inr (Or.inr (Or.inr (Or.inr (Or.inr (Or.inl e)))))))))))))
  · exact Or.inr (Or.inr (Or.inr (Or.inr (Or.inr (Or.inr (Or.inr (Or.inr (Or.inr (Or.inr (Or.inr (Or.inr (Or.inr (Or.inr (e))))))))))))))
theorem own_c16 {x : Int32} (h : ∃ k : Nat, k < 16 ∧ x = Int32.ofNat k) : x = 0 ∨ x = 1 ∨ x = 2 ∨ x = 3 ∨ x = 4 ∨ x = 5 ∨ x = 6 ∨ x = 7 ∨ x = 8 ∨ x = 9 ∨ x = 10 ∨ x = 11 ∨ x = 12 ∨ x = 13 ∨ x = 14 ∨ x = 15 := by
  obtain ⟨k, hk, e⟩ := h
  have q : k = 0 ∨ k = 1 ∨ k = 2 ∨ k = 3 ∨ k = 4 ∨ k = 5 ∨ k = 6 ∨ k = 7 ∨ k = 8 ∨ k = 9 ∨ k = 10 ∨ k = 11 ∨ k = 12 ∨ k = 13 ∨ k = 14 ∨ k = 15 := by omega
  rcases q with rfl | rfl | rfl | rfl | rfl | rfl | rfl | rfl | rfl | rfl | rfl | rfl | rfl | rfl | rfl | rfl
  · exact Or.inl e
  · exact Or.inr (Or.inl e)
  · exact Or.inr (Or.inr (Or.inl e))
  · exact Or.inr (Or.inr (Or.inr (Or.inl e)))
  · exact Or.inr (Or.inr (Or.inr (Or.inr (Or.inl e))))
  · exact Or.inr (Or.inr (Or.inr (Or.inr (Or.inr (Or.inl e)))))
  · exact Or.inr (Or.inr (Or.inr (Or.inr (Or.inr (Or.inr (Or.inl e))))))
  · exact Or.inr (Or.inr (Or.inr (Or.inr (Or.inr (Or.inr (Or.inr (Or.inl e)))))))
  · exact Or.inr (Or.inr (Or.inr (Or.inr (Or.inr (Or.inr (Or.inr (Or.inr (Or.inl e))))))))
  · exact Or.inr (Or.inr (Or.inr (Or.inr (Or.inr (Or.inr (Or.inr (Or.inr (Or.inr (Or.inl e)))))))))
  · exact Or.inr (Or.inr (Or.inr (Or.inr (Or.inr (Or.inr (Or.inr (Or.inr (Or.inr (Or.inr (Or.inl e))))))))))
  · exact Or.inr (Or.inr (Or.inr (Or.inr (Or.inr (Or.inr (Or.inr (Or.inr (Or.inr (Or.inr (Or.inr (Or.inl e)))))))))))
  · exact Or.inr (Or.inr (Or.inr (Or.inr (Or.inr (Or.inr (Or.inr (Or.inr (Or.inr (Or.inr (Or.inr (Or.inr (Or.inl e))))))))))))
  · exact Or.inr (Or.inr (Or.inr (Or.inr (Or.inr (Or.inr (Or.inr (Or.inr (Or.inr (Or.inr (Or.inr (Or.inr (Or.inr (Or.inl e)))))))))))))
  · exact Or.inr (Or.inr (Or.inr (Or.inr (Or.inr (Or.inr (Or.inr (Or.inr (Or.inr (Or.inr (Or.inr (Or.inr (Or.inr (Or.inr (Or.inl e))))))))))))))
  · exact Or.inr (Or.inr (Or.inr (Or.inr (Or.inr (Or.inr (Or.inr (Or.inr (Or.inr (Or.inr (Or.inr (Or.inr (Or.inr (Or.inr (Or.inr (e)))))))))))))))
theorem own_c17 {x : Int32} (h : ∃ k : Nat, k < 17 ∧ x = Int32.ofNat k) : x = 0 ∨ x = 1 ∨ x = 2 ∨ x = 3 ∨ x = 4 ∨ x = 5 ∨ x = 6 ∨ x = 7 ∨ x = 8 ∨ x = 9 ∨ x = 10 ∨ x = 11 ∨ x = 12 ∨ x = 13 ∨ x = 14 ∨ x = 15 ∨ x = 16 := by
  obtain ⟨k, hk, e⟩ := h
  have q : k = 0 ∨ k = 1 ∨ k = 2 ∨ k = 3 ∨ k = 4 ∨ k = 5 ∨ k = 6 ∨ k = 7 ∨ k = 8 ∨ k = 9 ∨ k = 10 ∨ k = 11 ∨ k = 12 ∨ k = 13 ∨ k = 14 ∨ k = 15 ∨ k = 16 := by omega
  rcases q with rfl | rfl | rfl | rfl | rfl | rfl | rfl | rfl | rfl | rfl | rfl | rfl | rfl | rfl | rfl | rfl | rfl
  · exact Or.inl e
  · exact Or.inr (Or.inl e)
  · exact Or.inr (Or.inr (Or.inl e))
  · exact Or.inr (Or.inr (Or.inr (Or.inl e)))
  · exact Or.inr (Or.inr (Or.inr (Or.inr (Or.inl e))))
  · exact Or.inr (Or.inr (Or.inr (Or.inr (Or.inr (Or.inl e)))))
  · exact Or.inr (Or.inr (Or.inr (Or.inr (Or.inr (Or.inr (Or.inl e))))))
  · exact Or.inr (Or.inr (Or.inr (Or.inr (Or.inr (Or.inr (Or.inr (Or.inl e)))))))
  · exact Or.inr (Or.inr (Or.inr (Or.inr (Or.inr (Or.inr (Or.inr (Or.inr (Or.inl e))))))))
  · exact Or.inr (Or.inr (Or.inr (Or.inr (Or.inr (Or.inr (Or.inr (Or.inr (Or.inr (Or.inl e)))))))))
  · exact Or.inr (Or.inr (Or.inr (Or.inr (Or.inr (Or.inr (Or.inr (Or.inr (Or.inr (Or.inr (Or.inl e))))))))))
  · exact Or.inr (Or.inr (Or.inr (Or.inr (Or.inr (Or.inr (Or.inr (Or.inr (Or.inr (Or.inr (Or.inr (Or.inl e)))))))))))
  · exact Or.inr (Or.inr (Or.inr (Or.inr (Or.inr (Or.inr (Or.inr (Or.inr (Or.inr (Or.inr (Or.inr (Or.inr (Or.inl e))))))))))))
  · exact Or.inr (Or.inr (Or.inr (Or.inr (Or.inr (Or.inr (Or.inr (Or.inr (Or.inr (Or.inr (Or.inr (Or.inr (Or.inr (Or.inl e)))))))))))))
  · exact Or.inr (Or.inr (Or.inr (Or.inr (Or.inr (Or.inr (Or.inr (Or.inr (Or.inr (Or.inr (Or.inr (Or.inr (Or.inr (Or.inr (Or.inl e))))))))))))))
  · exact Or.inr (Or.inr (Or.inr (Or.inr (Or.inr (Or.inr (Or.inr (Or.inr (Or.inr (Or.inr (Or.inr (Or.inr (Or.inr (Or.inr (Or.inr (Or.inl e)))))))))))))))
  · exact Or.inr (Or.inr (Or.inr (Or.inr (Or.inr (Or.inr (Or.inr (Or.inr (Or.inr (Or.inr (Or.inr (Or.inr (Or.inr (Or.inr (Or.inr (Or.inr (e))))))))))))))))
theorem HP.setc {n0 : Nat} {h : Heap} {cs : List Cell} {j : Nat} {cell c' : Cell} (P : HP n0 h cs) (q : cs[j]? = some cell) : HP n0 (h.setIfInBounds (n0 + j) c') (cs.set j c') := by
  refine ⟨by simp [P.1], fun i c r => ?_⟩
  by_cases e : j = i
  · subst e
    have hl : j < cs.length := (List.getElem?_eq_some_iff.mp q).1
    rw [List.getElem?_set_self hl] at r
    cases r
    rw [Array.getElem?_setIfInBounds_self_of_lt (by rw [P.1]; omega)]
  · rw [List.getElem?_set_ne e] at r
    rw [Array.getElem?_setIfInBounds_ne (by omega)]
    exact P.2 i c r
theorem own_copied {kA kB : ClassId} {vs vd : List Value} {sn dn n : Nat} (h4 : sn + n ≤ vs.length) (h5 : dn + n ≤ vd.length) : (AC kB vd).storeRun dn ((AC kA vs).stretch sn n) = AC kB (vd.take dn ++ (vs.drop sn).take n ++ vd.drop (dn + n)) := by
  have f := Cell.storeRun_facts (AC kB vd) dn ((AC kA vs).stretch sn n)
  have hl : ((AC kA vs).stretch sn n).length = n := by simp [Cell.stretch]
  have hs : (AC kB vd).slots.size = vd.length := by simp [AC]
  have hd : ∀ j : Nat, (AC kB vd).slots[j]? = vd[j]? := fun j => by simp [AC]
  have g := fun j => Cell.storeRun_get (AC kB vd) dn ((AC kA vs).stretch sn n) j (by rw [hl, hs]; omega)
  generalize (AC kB vd).storeRun dn ((AC kA vs).stretch sn n) = c at f g ⊢
  obtain ⟨cls, slots, mon, hash, vm⟩ := c
  obtain ⟨f1, f2, f3, f4, f5⟩ := f
  dsimp only at f1 f2 f3 f4 f5 g
  subst f1 f2 f4 f5
  have e : slots = (vd.take dn ++ (vs.drop sn).take n ++ vd.drop (dn + n)).toArray := by
    apply Array.ext_getElem?
    intro j
    rw [g j, hl]
    rw [hd j, List.getElem?_toArray]
    by_cases c1 : j < dn
    · rw [if_neg (by omega), List.append_assoc, List.getElem?_append_left (by simp; omega), List.getElem?_take_of_lt c1]
    · by_cases c2 : j < dn + n
      · rw [if_pos (by omega), List.append_assoc, List.getElem?_append_right (by simp; omega), List.getElem?_append_left (by simp; omega)]
        have e1 : (vd.take dn).length = dn := by simp; omega
        rw [e1, List.getElem?_take_of_lt (by omega), List.getElem?_drop]
        have : ((AC kA vs).stretch sn n)[j - dn]? = some ((AC kA vs).slots.getD (sn + (j - dn)) .null) := by
          have hj : j - dn < n := by omega
          rw [Cell.stretch, List.getElem?_map, List.getElem?_range hj]
          rfl
        rw [this]
        have h6 : sn + (j - dn) < vs.length := by omega
        simp [AC, h6]
      · rw [if_neg (by omega), List.getElem?_append_right (by simp; omega)]
        have e1 : (vd.take dn ++ (vs.drop sn).take n).length = dn + n := by simp; omega
        rw [e1, List.getElem?_drop, Nat.add_sub_cancel' (by omega)]
  subst e
  rfl
section OwnAC
variable {p : Program} {l : Launch} {e : Env} {R : Room} {s : State} {m : MethodId} {args : Array Value} {below : List Frame} {meth : Method} {c : Code} {T : State} {locs : List Loc} {cells slots : Nat} {C S : Nat} {Q : Option Value → Heap → List Loc → Prop} {pc pc' : Nat} {Ls : Array Slot} {st : List Value}
  {Z : State} {a0 : Array Value} {n0 : Nat} {cs : List Cell}
theorem w_acopy (X : Stand p l e R s m args below meth c T locs cells slots) (hx : p.tables.exec = Jvm.exec) (hZ : Z.Warmed39 s.vm) {own : String} {idx : Nat} (hown : s.vm.findClass own = some m.cls) (hml : Ls.size = c.maxLocals)
    (w1 : (Jvm.Cond.methodLink own idx Jvm.Stand.acN).before a0 Z = true) (w2 : (Jvm.Cond.native Jvm.Stand.acN).before a0 Z = true) (w3 : (Jvm.Cond.static Jvm.Stand.acN).before a0 Z = true) (w4 : (Jvm.Cond.initialized "java/lang/System").before a0 Z = true)
    (N : Fr n0 locs) (P : HP n0 T.heap cs) {i j : Nat} {kA kB : ClassId} {vs vd : List Value} {ty : FieldType} (qi : cs[i]? = some (AC kA vs)) (qj : cs[j]? = some (AC kB vd)) (hA : IsA Z kA ty) (hB : IsA Z kB ty) (hty : refKind ty = false) (hfit : ∀ v ∈ vs, fits ty v = true)
    {sp dp nn : Int32} {sn dn n : Nat} (h1 : sp.toInt = (sn : Int)) (h2 : dp.toInt = (dn : Int)) (h3 : nn.toInt = (n : Int)) (h4 : sn + n ≤ vs.length) (h5 : dn + n ≤ vd.length) (hd : decode c.code pc = .ok (.invokestatic idx, 3)) (hf : 1 ≤ R.frames) {W : Nat} (hW : (st.map fun v => v.category).sum ≤ W) (hlo : W + (nativeFrameWords "java/lang/System" "arraycopy" 5 + 11) ≤ R.locals)
    {vd' : List Value} (hvd : vd.take dn ++ (vs.drop sn).take n ++ vd.drop (dn + n) = vd') (hp : pc + 3 = pc')
    (k : ∀ (T' : State) (L' : List Loc), Fr n0 L' → Stand p l e R s m args below meth c T' L' cells slots → HP n0 T'.heap (cs.set j (AC kB vd')) → Wp p e s below C S Q T' (mkF m pc' Ls st)) :
    Wp p e s below C S Q T (mkF m pc Ls (.int nn :: .int dp :: .ref (n0 + j) :: .int sp :: .ref (n0 + i) :: st)) := by
  subst hp hvd
  have A := P.arr qi hA
  have B := P.arr qj hB
  obtain ⟨os, ks, hks, sc, hsk⟩ := State.isArrayOf_alike hZ.alike A.2.1
  obtain ⟨od, kd, hkd, dc, hdk⟩ := State.isArrayOf_alike hZ.alike B.2.1
  have z : ∀ {x : Int32} {y : Nat}, x.toInt = (y : Int) → ¬ x < 0 ∧ x.toNatClampNeg = y := fun {x y} q => ⟨by rw [Int32.lt_iff_toInt_lt, q]; simp, by simp [Int32.toNatClampNeg, q]⟩
  obtain ⟨vm₁, hW₁, X', st1⟩ := X.arraycopyK hx hown (mvT hZ w1) (mvT hZ w2) (mvT hZ w3) (mvT hZ w4) A.1 B.1 os od A.2.2 B.2.2 hks hkd hsk hdk (by simp [hty]) (z h1).1 (z h2).1 (z h3).1 (by rw [h1, h3]; simp [AC]; omega) (by rw [h2, h3]; simp [AC]; omega)
    (fun vm₁ hw i hi => by
      rw [(z h3).2] at hi
      rw [(z h1).2]
      have hv : (AC kA vs).slots.getD (sn + i) .null ∈ vs := by
        have : sn + i < vs.length := by omega
        simp [AC, this]
      have q := hfit _ hv
      generalize (AC kA vs).slots.getD (sn + i) .null = u at q ⊢
      refine ⟨q, ?_⟩
      cases u <;> try trivial
      exact (prim_no_ref hty q).elim) (g := mkF m pc Ls (.int nn :: .int dp :: .ref (n0 + j) :: .int sp :: .ref (n0 + i) :: st)) rfl hml rfl hd hf (by show 2 * 0 + _ + _ ≤ _; omega)
  have ec : copied (AC kA vs) (AC kB vd) sp dp nn = AC kB (vd.take dn ++ (vs.drop sn).take n ++ vd.drop (dn + n)) := by
    show (AC kB vd).storeRun dp.toNatClampNeg ((AC kA vs).stretch sp.toNatClampNeg nn.toNatClampNeg) = _
    rw [(z h1).2, (z h2).2, (z h3).2]
    exact own_copied h4 h5
  rw [ec] at X' st1
  refine Wp.via st1 (k _ _ (Fr.app N fun y hy => ?_) X' (P.setc qj))
  rw [Jvm.Stand.copyLocs_base hy]
  exact Nat.le_add_right _ _
end OwnAC
theorem wd0 {Z : State} {a0 : Array Value} (hw : ∀ d ∈ tables_1, d.before a0 Z = true) : (Jvm.Cond.arrayClass Jvm.ClassFile.FieldType.int).before a0 Z = true := hw _ (List.mem_of_getElem? (i := 0) rfl)
theorem wd1 {Z : State} {a0 : Array Value} (hw : ∀ d ∈ tables_1, d.before a0 Z = true) : (Jvm.Cond.classLink "com/example/dirichlet/dirichlet/index/PostingsHasPositionsPinLaw" (7 : Nat) "com/example/dirichlet/dirichlet/index/Postings").before a0 Z = true := hw _ (List.mem_of_getElem? (i := 1) rfl)
theorem wd2 {Z : State} {a0 : Array Value} (hw : ∀ d ∈ tables_1, d.before a0 Z = true) : (Jvm.Cond.instantiable "com/example/dirichlet/dirichlet/index/Postings" (4 : Nat)).before a0 Z = true := hw _ (List.mem_of_getElem? (i := 2) rfl)
theorem wd3 {Z : State} {a0 : Array Value} (hw : ∀ d ∈ tables_1, d.before a0 Z = true) : (Jvm.Cond.initialized "com/example/dirichlet/dirichlet/index/Postings").before a0 Z = true := hw _ (List.mem_of_getElem? (i := 3) rfl)
theorem wd4 {Z : State} {a0 : Array Value} (hw : ∀ d ∈ tables_1, d.before a0 Z = true) : (Jvm.Cond.methodLink "com/example/dirichlet/dirichlet/index/PostingsHasPositionsPinLaw" (9 : Nat) ({ cls := "com/example/dirichlet/dirichlet/index/Postings", name := "<init>", desc := "([I[I[I)V" } : Jvm.MethodName)).before a0 Z = true := hw _ (List.mem_of_getElem? (i := 4) rfl)
theorem wd5 {Z : State} {a0 : Array Value} (hw : ∀ d ∈ tables_1, d.before a0 Z = true) : (Jvm.Cond.instanceMethod ({ cls := "com/example/dirichlet/dirichlet/index/Postings", name := "<init>", desc := "([I[I[I)V" } : Jvm.MethodName)).before a0 Z = true := hw _ (List.mem_of_getElem? (i := 5) rfl)
theorem wd6 {Z : State} {a0 : Array Value} (hw : ∀ d ∈ tables_1, d.before a0 Z = true) : (Jvm.Cond.code ({ cls := "com/example/dirichlet/dirichlet/index/Postings", name := "<init>", desc := "([I[I[I)V" } : Jvm.MethodName) prog_23_method_1_code (5 : Nat) (Option.none : Option Jvm.ClassFile.FieldType)).before a0 Z = true := hw _ (List.mem_of_getElem? (i := 6) rfl)
theorem wd7 {Z : State} {a0 : Array Value} (hw : ∀ d ∈ tables_1, d.before a0 Z = true) : (Jvm.Cond.methodLink "com/example/dirichlet/dirichlet/index/Postings" (1 : Nat) ({ cls := "java/lang/Object", name := "<init>", desc := "()V" } : Jvm.MethodName)).before a0 Z = true := hw _ (List.mem_of_getElem? (i := 7) rfl)
theorem wd8 {Z : State} {a0 : Array Value} (hw : ∀ d ∈ tables_1, d.before a0 Z = true) : (Jvm.Cond.instanceMethod ({ cls := "java/lang/Object", name := "<init>", desc := "()V" } : Jvm.MethodName)).before a0 Z = true := hw _ (List.mem_of_getElem? (i := 8) rfl)
theorem wd9 {Z : State} {a0 : Array Value} (hw : ∀ d ∈ tables_1, d.before a0 Z = true) : (Jvm.Cond.code ({ cls := "java/lang/Object", name := "<init>", desc := "()V" } : Jvm.MethodName) object_method_1_code (1 : Nat) (Option.none : Option Jvm.ClassFile.FieldType)).before a0 Z = true := hw _ (List.mem_of_getElem? (i := 9) rfl)
theorem wd10 {Z : State} {a0 : Array Value} (hw : ∀ d ∈ tables_1, d.before a0 Z = true) : (Jvm.Cond.fieldLink "com/example/dirichlet/dirichlet/index/Postings" (7 : Nat) "com/example/dirichlet/dirichlet/index/Postings" "documents" "[I").before a0 Z = true := hw _ (List.mem_of_getElem? (i := 10) rfl)
theorem wd11 {Z : State} {a0 : Array Value} (hw : ∀ d ∈ tables_1, d.before a0 Z = true) : (Jvm.Cond.laysFinal "com/example/dirichlet/dirichlet/index/Postings" "com/example/dirichlet/dirichlet/index/Postings" "documents" "[I").before a0 Z = true := hw _ (List.mem_of_getElem? (i := 11) rfl)
theorem wd12 {Z : State} {a0 : Array Value} (hw : ∀ d ∈ tables_1, d.before a0 Z = true) : (Jvm.Cond.fieldLink "com/example/dirichlet/dirichlet/index/Postings" (13 : Nat) "com/example/dirichlet/dirichlet/index/Postings" "counts" "[I").before a0 Z = true := hw _ (List.mem_of_getElem? (i := 12) rfl)
theorem wd13 {Z : State} {a0 : Array Value} (hw : ∀ d ∈ tables_1, d.before a0 Z = true) : (Jvm.Cond.laysFinal "com/example/dirichlet/dirichlet/index/Postings" "com/example/dirichlet/dirichlet/index/Postings" "counts" "[I").before a0 Z = true := hw _ (List.mem_of_getElem? (i := 13) rfl)
theorem wd14 {Z : State} {a0 : Array Value} (hw : ∀ d ∈ tables_1, d.before a0 Z = true) : (Jvm.Cond.fieldLink "com/example/dirichlet/dirichlet/index/Postings" (16 : Nat) "com/example/dirichlet/dirichlet/index/Postings" "positions" "[I").before a0 Z = true := hw _ (List.mem_of_getElem? (i := 14) rfl)
theorem wd15 {Z : State} {a0 : Array Value} (hw : ∀ d ∈ tables_1, d.before a0 Z = true) : (Jvm.Cond.laysFinal "com/example/dirichlet/dirichlet/index/Postings" "com/example/dirichlet/dirichlet/index/Postings" "positions" "[I").before a0 Z = true := hw _ (List.mem_of_getElem? (i := 15) rfl)
theorem wd16 {Z : State} {a0 : Array Value} (hw : ∀ d ∈ tables_1, d.before a0 Z = true) : (Jvm.Cond.fieldLink "com/example/dirichlet/dirichlet/index/Postings" (19 : Nat) "com/example/dirichlet/dirichlet/index/Postings" "starts" "[I").before a0 Z = true := hw _ (List.mem_of_getElem? (i := 16) rfl)
theorem wd17 {Z : State} {a0 : Array Value} (hw : ∀ d ∈ tables_1, d.before a0 Z = true) : (Jvm.Cond.laysFinal "com/example/dirichlet/dirichlet/index/Postings" "com/example/dirichlet/dirichlet/index/Postings" "starts" "[I").before a0 Z = true := hw _ (List.mem_of_getElem? (i := 17) rfl)
theorem wd18 {Z : State} {a0 : Array Value} (hw : ∀ d ∈ tables_1, d.before a0 Z = true) : (Jvm.Cond.methodLink "com/example/dirichlet/dirichlet/index/PostingsHasPositionsPinLaw" (12 : Nat) ({ cls := "com/example/dirichlet/dirichlet/index/Postings", name := "hasPositions", desc := "()Z" } : Jvm.MethodName)).before a0 Z = true := hw _ (List.mem_of_getElem? (i := 18) rfl)
theorem wd19 {Z : State} {a0 : Array Value} (hw : ∀ d ∈ tables_1, d.before a0 Z = true) : (Jvm.Cond.declares ({ cls := "com/example/dirichlet/dirichlet/index/Postings", name := "hasPositions", desc := "()Z" } : Jvm.MethodName)).before a0 Z = true := hw _ (List.mem_of_getElem? (i := 19) rfl)
theorem wd20 {Z : State} {a0 : Array Value} (hw : ∀ d ∈ tables_1, d.before a0 Z = true) : (Jvm.Cond.instanceMethod ({ cls := "com/example/dirichlet/dirichlet/index/Postings", name := "hasPositions", desc := "()Z" } : Jvm.MethodName)).before a0 Z = true := hw _ (List.mem_of_getElem? (i := 20) rfl)
theorem wd21 {Z : State} {a0 : Array Value} (hw : ∀ d ∈ tables_1, d.before a0 Z = true) : (Jvm.Cond.selects "com/example/dirichlet/dirichlet/index/Postings" ({ cls := "com/example/dirichlet/dirichlet/index/Postings", name := "hasPositions", desc := "()Z" } : Jvm.MethodName) ({ cls := "com/example/dirichlet/dirichlet/index/Postings", name := "hasPositions", desc := "()Z" } : Jvm.MethodName)).before a0 Z = true := hw _ (List.mem_of_getElem? (i := 21) rfl)
theorem wd22 {Z : State} {a0 : Array Value} (hw : ∀ d ∈ tables_1, d.before a0 Z = true) : (Jvm.Cond.code ({ cls := "com/example/dirichlet/dirichlet/index/Postings", name := "hasPositions", desc := "()Z" } : Jvm.MethodName) prog_23_method_5_code (1 : Nat) (Option.some Jvm.ClassFile.FieldType.boolean)).before a0 Z = true := hw _ (List.mem_of_getElem? (i := 22) rfl)
theorem wd23 {Z : State} {a0 : Array Value} (hw : ∀ d ∈ tables_1, d.before a0 Z = true) : (Jvm.Cond.methodLink "com/example/dirichlet/dirichlet/index/PostingsHasPositionsPinLaw" (16 : Nat) ({ cls := "com/example/dirichlet/dirichlet/index/Postings", name := "positions", desc := "(I)[I" } : Jvm.MethodName)).before a0 Z = true := hw _ (List.mem_of_getElem? (i := 23) rfl)
theorem wd24 {Z : State} {a0 : Array Value} (hw : ∀ d ∈ tables_1, d.before a0 Z = true) : (Jvm.Cond.declares ({ cls := "com/example/dirichlet/dirichlet/index/Postings", name := "positions", desc := "(I)[I" } : Jvm.MethodName)).before a0 Z = true := hw _ (List.mem_of_getElem? (i := 24) rfl)
theorem wd25 {Z : State} {a0 : Array Value} (hw : ∀ d ∈ tables_1, d.before a0 Z = true) : (Jvm.Cond.instanceMethod ({ cls := "com/example/dirichlet/dirichlet/index/Postings", name := "positions", desc := "(I)[I" } : Jvm.MethodName)).before a0 Z = true := hw _ (List.mem_of_getElem? (i := 25) rfl)
theorem wd26 {Z : State} {a0 : Array Value} (hw : ∀ d ∈ tables_1, d.before a0 Z = true) : (Jvm.Cond.selects "com/example/dirichlet/dirichlet/index/Postings" ({ cls := "com/example/dirichlet/dirichlet/index/Postings", name := "positions", desc := "(I)[I" } : Jvm.MethodName) ({ cls := "com/example/dirichlet/dirichlet/index/Postings", name := "positions", desc := "(I)[I" } : Jvm.MethodName)).before a0 Z = true := hw _ (List.mem_of_getElem? (i := 26) rfl)
theorem wd27 {Z : State} {a0 : Array Value} (hw : ∀ d ∈ tables_1, d.before a0 Z = true) : (Jvm.Cond.code ({ cls := "com/example/dirichlet/dirichlet/index/Postings", name := "positions", desc := "(I)[I" } : Jvm.MethodName) prog_23_method_6_code (2 : Nat) (Option.some (Jvm.ClassFile.FieldType.array Jvm.ClassFile.FieldType.int))).before a0 Z = true := hw _ (List.mem_of_getElem? (i := 27) rfl)
theorem wd28 {Z : State} {a0 : Array Value} (hw : ∀ d ∈ tables_1, d.before a0 Z = true) : (Jvm.Cond.methodLink "com/example/dirichlet/dirichlet/index/Postings" (29 : Nat) ({ cls := "java/util/Arrays", name := "copyOfRange", desc := "([III)[I" } : Jvm.MethodName)).before a0 Z = true := hw _ (List.mem_of_getElem? (i := 28) rfl)
theorem wd29 {Z : State} {a0 : Array Value} (hw : ∀ d ∈ tables_1, d.before a0 Z = true) : (Jvm.Cond.static ({ cls := "java/util/Arrays", name := "copyOfRange", desc := "([III)[I" } : Jvm.MethodName)).before a0 Z = true := hw _ (List.mem_of_getElem? (i := 29) rfl)
theorem wd30 {Z : State} {a0 : Array Value} (hw : ∀ d ∈ tables_1, d.before a0 Z = true) : (Jvm.Cond.initialized "java/util/Arrays").before a0 Z = true := hw _ (List.mem_of_getElem? (i := 30) rfl)
theorem wd31 {Z : State} {a0 : Array Value} (hw : ∀ d ∈ tables_1, d.before a0 Z = true) : (Jvm.Cond.code ({ cls := "java/util/Arrays", name := "copyOfRange", desc := "([III)[I" } : Jvm.MethodName) jdk_65_method_136_code (3 : Nat) (Option.some (Jvm.ClassFile.FieldType.array Jvm.ClassFile.FieldType.int))).before a0 Z = true := hw _ (List.mem_of_getElem? (i := 31) rfl)
theorem wd32 {Z : State} {a0 : Array Value} (hw : ∀ d ∈ tables_1, d.before a0 Z = true) : (Jvm.Cond.methodLink "java/util/Arrays" (351 : Nat) ({ cls := "java/util/Arrays", name := "copyOfRangeInt", desc := "([III)[I" } : Jvm.MethodName)).before a0 Z = true := hw _ (List.mem_of_getElem? (i := 32) rfl)
theorem wd33 {Z : State} {a0 : Array Value} (hw : ∀ d ∈ tables_1, d.before a0 Z = true) : (Jvm.Cond.static ({ cls := "java/util/Arrays", name := "copyOfRangeInt", desc := "([III)[I" } : Jvm.MethodName)).before a0 Z = true := hw _ (List.mem_of_getElem? (i := 33) rfl)
theorem wd34 {Z : State} {a0 : Array Value} (hw : ∀ d ∈ tables_1, d.before a0 Z = true) : (Jvm.Cond.code ({ cls := "java/util/Arrays", name := "copyOfRangeInt", desc := "([III)[I" } : Jvm.MethodName) jdk_65_method_137_code (5 : Nat) (Option.some (Jvm.ClassFile.FieldType.array Jvm.ClassFile.FieldType.int))).before a0 Z = true := hw _ (List.mem_of_getElem? (i := 34) rfl)
theorem wd35 {Z : State} {a0 : Array Value} (hw : ∀ d ∈ tables_1, d.before a0 Z = true) : (Jvm.Cond.methodLink "java/util/Arrays" (343 : Nat) ({ cls := "java/util/Arrays", name := "checkLength", desc := "(II)V" } : Jvm.MethodName)).before a0 Z = true := hw _ (List.mem_of_getElem? (i := 35) rfl)
theorem wd36 {Z : State} {a0 : Array Value} (hw : ∀ d ∈ tables_1, d.before a0 Z = true) : (Jvm.Cond.static ({ cls := "java/util/Arrays", name := "checkLength", desc := "(II)V" } : Jvm.MethodName)).before a0 Z = true := hw _ (List.mem_of_getElem? (i := 36) rfl)
theorem wd37 {Z : State} {a0 : Array Value} (hw : ∀ d ∈ tables_1, d.before a0 Z = true) : (Jvm.Cond.code ({ cls := "java/util/Arrays", name := "checkLength", desc := "(II)V" } : Jvm.MethodName) jdk_65_method_131_code (2 : Nat) (Option.none : Option Jvm.ClassFile.FieldType)).before a0 Z = true := hw _ (List.mem_of_getElem? (i := 37) rfl)
theorem wd38 {Z : State} {a0 : Array Value} (hw : ∀ d ∈ tables_1, d.before a0 Z = true) : (Jvm.Cond.methodLink "java/util/Arrays" (304 : Nat) ({ cls := "java/lang/Math", name := "min", desc := "(II)I" } : Jvm.MethodName)).before a0 Z = true := hw _ (List.mem_of_getElem? (i := 38) rfl)
theorem wd39 {Z : State} {a0 : Array Value} (hw : ∀ d ∈ tables_1, d.before a0 Z = true) : (Jvm.Cond.static ({ cls := "java/lang/Math", name := "min", desc := "(II)I" } : Jvm.MethodName)).before a0 Z = true := hw _ (List.mem_of_getElem? (i := 39) rfl)
theorem wd40 {Z : State} {a0 : Array Value} (hw : ∀ d ∈ tables_1, d.before a0 Z = true) : (Jvm.Cond.initialized "java/lang/Math").before a0 Z = true := hw _ (List.mem_of_getElem? (i := 40) rfl)
theorem wd41 {Z : State} {a0 : Array Value} (hw : ∀ d ∈ tables_1, d.before a0 Z = true) : (Jvm.Cond.code ({ cls := "java/lang/Math", name := "min", desc := "(II)I" } : Jvm.MethodName) jdk_29_method_69_code (2 : Nat) (Option.some Jvm.ClassFile.FieldType.int)).before a0 Z = true := hw _ (List.mem_of_getElem? (i := 41) rfl)
theorem wd42 {Z : State} {a0 : Array Value} (hw : ∀ d ∈ tables_1, d.before a0 Z = true) : (Jvm.Cond.methodLink "java/util/Arrays" (150 : Nat) ({ cls := "java/lang/System", name := "arraycopy", desc := "(Ljava/lang/Object;ILjava/lang/Object;II)V" } : Jvm.MethodName)).before a0 Z = true := hw _ (List.mem_of_getElem? (i := 42) rfl)
theorem wd43 {Z : State} {a0 : Array Value} (hw : ∀ d ∈ tables_1, d.before a0 Z = true) : (Jvm.Cond.static ({ cls := "java/lang/System", name := "arraycopy", desc := "(Ljava/lang/Object;ILjava/lang/Object;II)V" } : Jvm.MethodName)).before a0 Z = true := hw _ (List.mem_of_getElem? (i := 43) rfl)
theorem wd44 {Z : State} {a0 : Array Value} (hw : ∀ d ∈ tables_1, d.before a0 Z = true) : (Jvm.Cond.initialized "java/lang/System").before a0 Z = true := hw _ (List.mem_of_getElem? (i := 44) rfl)
theorem wd45 {Z : State} {a0 : Array Value} (hw : ∀ d ∈ tables_1, d.before a0 Z = true) : (Jvm.Cond.native ({ cls := "java/lang/System", name := "arraycopy", desc := "(Ljava/lang/Object;ILjava/lang/Object;II)V" } : Jvm.MethodName)).before a0 Z = true := hw _ (List.mem_of_getElem? (i := 45) rfl)
def fl_C0 : List (String × String) := [("documents", "[I"), ("counts", "[I"), ("positions", "[I"), ("starts", "[I")]
def dv_C0 : List Value := [Value.null, Value.null, Value.null, Value.null]
theorem la_C0 {Z : State} {a0 : Array Value} (hw : ∀ d ∈ tables_1, d.before a0 Z = true) : ∀ (j : Nat) (n d : String), fl_C0[j]? = some (n, d) → Laid Z a0 "com/example/dirichlet/dirichlet/index/Postings" "com/example/dirichlet/dirichlet/index/Postings" n d ∧ ∃ t, parseFieldDescriptor d = some t
  | 0, n, d, h => by have h : some ("documents", "[I") = some (n, d) := h; cases h; exact ⟨Or.inr (wd11 hw), (.array .int), by decide⟩
  | 1, n, d, h => by have h : some ("counts", "[I") = some (n, d) := h; cases h; exact ⟨Or.inr (wd13 hw), (.array .int), by decide⟩
  | 2, n, d, h => by have h : some ("positions", "[I") = some (n, d) := h; cases h; exact ⟨Or.inr (wd15 hw), (.array .int), by decide⟩
  | 3, n, d, h => by have h : some ("starts", "[I") = some (n, d) := h; cases h; exact ⟨Or.inr (wd17 hw), (.array .int), by decide⟩
  | j + 4, n, d, h => by have h : none = some (n, d) := h; cases h
theorem ly_C0 {Z : State} {a0 : Array Value} (hw : ∀ d ∈ tables_1, d.before a0 Z = true) : ∀ (j : Nat) (n d : String) (v : Value), fl_C0[j]? = some (n, d) → dv_C0[j]? = some v → Laid Z a0 "com/example/dirichlet/dirichlet/index/Postings" "com/example/dirichlet/dirichlet/index/Postings" n d ∧ ∃ ty, parseFieldDescriptor d = some ty ∧ defaultValue ty = v
  | 0, n, d, v, h, h' => by have h : some ("documents", "[I") = some (n, d) := h; have h' : some _ = some v := h'; cases h; cases h'; exact ⟨Or.inr (wd11 hw), (.array .int), by decide, rfl⟩
  | 1, n, d, v, h, h' => by have h : some ("counts", "[I") = some (n, d) := h; have h' : some _ = some v := h'; cases h; cases h'; exact ⟨Or.inr (wd13 hw), (.array .int), by decide, rfl⟩
  | 2, n, d, v, h, h' => by have h : some ("positions", "[I") = some (n, d) := h; have h' : some _ = some v := h'; cases h; cases h'; exact ⟨Or.inr (wd15 hw), (.array .int), by decide, rfl⟩
  | 3, n, d, v, h, h' => by have h : some ("starts", "[I") = some (n, d) := h; have h' : some _ = some v := h'; cases h; cases h'; exact ⟨Or.inr (wd17 hw), (.array .int), by decide, rfl⟩
  | j + 4, n, d, v, h, h' => by have h : none = some (n, d) := h; cases h
theorem di_C0 {Z : State} {a0 : Array Value} (hw : ∀ d ∈ tables_1, d.before a0 Z = true) : Dis Z "com/example/dirichlet/dirichlet/index/Postings" fl_C0 := own_dis (la_C0 hw) (by decide +kernel)
theorem d1_0 : decode prog_23_method_1_code 0 = .ok (.aload_n 0, 1) := by decide +kernel
theorem d1_1 : decode prog_23_method_1_code 1 = .ok (.invokespecial 1, 3) := by decide +kernel
theorem d1_4 : decode prog_23_method_1_code 4 = .ok (.aload_n 0, 1) := by decide +kernel
theorem d1_5 : decode prog_23_method_1_code 5 = .ok (.aload_n 1, 1) := by decide +kernel
theorem d1_6 : decode prog_23_method_1_code 6 = .ok (.putfield 7, 3) := by decide +kernel
theorem d1_9 : decode prog_23_method_1_code 9 = .ok (.aload_n 0, 1) := by decide +kernel
theorem d1_10 : decode prog_23_method_1_code 10 = .ok (.aload_n 2, 1) := by decide +kernel
theorem d1_11 : decode prog_23_method_1_code 11 = .ok (.putfield 13, 3) := by decide +kernel
theorem d1_14 : decode prog_23_method_1_code 14 = .ok (.aload_n 0, 1) := by decide +kernel
theorem d1_15 : decode prog_23_method_1_code 15 = .ok (.aload_n 3, 1) := by decide +kernel
theorem d1_16 : decode prog_23_method_1_code 16 = .ok (.putfield 16, 3) := by decide +kernel
theorem d1_19 : decode prog_23_method_1_code 19 = .ok (.aload_n 3, 1) := by decide +kernel
theorem d1_20 : decode prog_23_method_1_code 20 = .ok (.ifnonnull 11, 3) := by decide +kernel
theorem d1_23 : decode prog_23_method_1_code 23 = .ok (.aload_n 0, 1) := by decide +kernel
theorem d1_24 : decode prog_23_method_1_code 24 = .ok (.aconst_null, 1) := by decide +kernel
theorem d1_25 : decode prog_23_method_1_code 25 = .ok (.putfield 19, 3) := by decide +kernel
theorem d1_28 : decode prog_23_method_1_code 28 = .ok (.goto 50, 3) := by decide +kernel
theorem d1_31 : decode prog_23_method_1_code 31 = .ok (.aload_n 0, 1) := by decide +kernel
theorem d1_32 : decode prog_23_method_1_code 32 = .ok (.aload_n 2, 1) := by decide +kernel
theorem d1_33 : decode prog_23_method_1_code 33 = .ok (.arraylength, 1) := by decide +kernel
theorem d1_34 : decode prog_23_method_1_code 34 = .ok (.newarray .int, 2) := by decide +kernel
theorem d1_36 : decode prog_23_method_1_code 36 = .ok (.putfield 19, 3) := by decide +kernel
theorem d1_39 : decode prog_23_method_1_code 39 = .ok (.iconst 1, 1) := by decide +kernel
theorem d1_40 : decode prog_23_method_1_code 40 = .ok (.istore 4, 2) := by decide +kernel
theorem d1_42 : decode prog_23_method_1_code 42 = .ok (.iload 4, 2) := by decide +kernel
theorem d1_44 : decode prog_23_method_1_code 44 = .ok (.aload_n 2, 1) := by decide +kernel
theorem d1_45 : decode prog_23_method_1_code 45 = .ok (.arraylength, 1) := by decide +kernel
theorem d1_46 : decode prog_23_method_1_code 46 = .ok (.if_icmp .ge 32, 3) := by decide +kernel
theorem d1_49 : decode prog_23_method_1_code 49 = .ok (.aload_n 0, 1) := by decide +kernel
theorem d1_50 : decode prog_23_method_1_code 50 = .ok (.getfield 19, 3) := by decide +kernel
theorem d1_53 : decode prog_23_method_1_code 53 = .ok (.iload 4, 2) := by decide +kernel
theorem d1_55 : decode prog_23_method_1_code 55 = .ok (.aload_n 0, 1) := by decide +kernel
theorem d1_56 : decode prog_23_method_1_code 56 = .ok (.getfield 19, 3) := by decide +kernel
theorem d1_59 : decode prog_23_method_1_code 59 = .ok (.iload 4, 2) := by decide +kernel
theorem d1_61 : decode prog_23_method_1_code 61 = .ok (.iconst 1, 1) := by decide +kernel
theorem d1_62 : decode prog_23_method_1_code 62 = .ok (.isub, 1) := by decide +kernel
theorem d1_63 : decode prog_23_method_1_code 63 = .ok (.iaload, 1) := by decide +kernel
theorem d1_64 : decode prog_23_method_1_code 64 = .ok (.aload_n 2, 1) := by decide +kernel
theorem d1_65 : decode prog_23_method_1_code 65 = .ok (.iload 4, 2) := by decide +kernel
theorem d1_67 : decode prog_23_method_1_code 67 = .ok (.iconst 1, 1) := by decide +kernel
theorem d1_68 : decode prog_23_method_1_code 68 = .ok (.isub, 1) := by decide +kernel
theorem d1_69 : decode prog_23_method_1_code 69 = .ok (.iaload, 1) := by decide +kernel
theorem d1_70 : decode prog_23_method_1_code 70 = .ok (.iadd, 1) := by decide +kernel
theorem d1_71 : decode prog_23_method_1_code 71 = .ok (.iastore, 1) := by decide +kernel
theorem d1_72 : decode prog_23_method_1_code 72 = .ok (.iinc 4 1, 3) := by decide +kernel
theorem d1_75 : decode prog_23_method_1_code 75 = .ok (.goto (-33), 3) := by decide +kernel
theorem d1_78 : decode prog_23_method_1_code 78 = .ok (.return_, 1) := by decide +kernel
theorem pn1 : plainFor (⟨"com/example/dirichlet/dirichlet/index/Postings", "<init>", "([I[I[I)V"⟩ : MethodName) = true := plainFor_of_name (by first | (simp [plainName, overriddenIn]; done) | decide +kernel)
theorem pd1 : parseMethodDescriptor (⟨"com/example/dirichlet/dirichlet/index/Postings", "<init>", "([I[I[I)V"⟩ : MethodName).desc = some ⟨[(.array .int), (.array .int), (.array .int)], none⟩ := by decide +kernel
def Q_rm1_0 (Z : State) (n0 : Nat) (k0 : ClassId) (k1 : ClassId) (k2 : ClassId) (u0 : Int32) (u1 : Int32) (u2 : Int32) (u3 : Int32) (o3 : Jvm.Cell) (v : Option Value) (h : Heap) (L : List Loc) : Prop := v = none ∧ Fr n0 L ∧ ∃ c4 : Jvm.Cell, ObjF Z c4 "com/example/dirichlet/dirichlet/index/Postings" fl_C0 [.ref (n0 + 0), .ref (n0 + 1), .null, .null] ∧ HP n0 h [AC k0 [.int (1 : Int32), .int (2 : Int32)], AC k1 [.int (1 : Int32), .int (1 : Int32)], AC k2 [.int u0, .int u1, .int u2, .int u3], c4]
theorem ef_rm1_0 (m : MethodId) (n0 : Nat) (u0 : Int32) (u1 : Int32) (u2 : Int32) (u3 : Int32) : entryFrame m #[.ref (n0 + 3), .ref (n0 + 0), .ref (n0 + 1), .null] 5 = mkF m 0 #[.val (.ref (n0 + 3)), .val (.ref (n0 + 0)), .val (.ref (n0 + 1)), .val (.null), .unset] [] := by first | (simp [entryFrame, mkF, argsToLocals, Value.category]; done) | rfl
set_option maxRecDepth 65536 in
set_option maxHeartbeats 40000000 in
theorem rm1_0 (l : Launch) (Z : State) (a0 : Array Value) (hw : ∀ d ∈ tables_1, d.before a0 Z = true) (ws : List Jvm.Cond) (n0 : Nat) (k0 : ClassId) (hk0 : IsA Z k0 .int) (k1 : ClassId) (hk1 : IsA Z k1 .int) (k2 : ClassId) (hk2 : IsA Z k2 .int) (u0 : Int32) (u1 : Int32) (u2 : Int32) (u3 : Int32) (o3 : Jvm.Cell) (Fo3 : ObjF Z o3 "com/example/dirichlet/dirichlet/index/Postings" fl_C0 [.null, .null, .null, .null]) (h0 : Heap) (P0 : HP n0 h0 [AC k0 [.int (1 : Int32), .int (2 : Int32)], AC k1 [.int (1 : Int32), .int (1 : Int32)], AC k2 [.int u0, .int u1, .int u2, .int u3], o3]) :
    MetFree l (⟨"com/example/dirichlet/dirichlet/index/Postings", "<init>", "([I[I[I)V"⟩ : MethodName) (head1 (Jvm.Cond.code (⟨"com/example/dirichlet/dirichlet/index/Postings", "<init>", "([I[I[I)V"⟩ : MethodName) prog_23_method_1_code 5 none :: ws) ({ frames := 1, cells := 0, slots := 0, locals := 12 } : Room)) (fun a U => a = #[.ref (n0 + 3), .ref (n0 + 0), .ref (n0 + 1), .null] ∧ Z.Warmed39 U.vm ∧ U.heap = h0) (fun _ _ _ _ _ => True) (fun _ U o U' => ∃ v L, o = .returned v ∧ Q_rm1_0 Z n0 k0 k1 k2 u0 u1 u2 u3 o3 v U'.heap L ∧ FrameEnd U o U' L ({ frames := 1, cells := 0, slots := 0, locals := 12 } : Room).cells ({ frames := 1, cells := 0, slots := 0, locals := 12 } : Room).slots) := by
  refine own_body pn1 ?_
  intro p e s m below meth c T0 hx hby hml hret hlk hown hnm hZ X0 e0
  subst e0
  have N0 : Fr n0 [] := Fr.nil n0
  refine own_cast (ef_rm1_0 m n0 u0 u1 u2 u3) ?_
  refine w_aloadN X0 hx (hb hby d1_0) rfl rfl (pc' := 1) rfl ?_
  refine w_initO (W := 0) X0 hx hZ hown (by rw [hml]; rfl) (wd7 hw) (wd8 hw) (wd9 hw) P0 (hb hby d1_1) (by decide) (Nat.le_of_eq rfl) (by decide) (pc' := 4) rfl ?_
  intro T1 X1 P1
  refine w_aloadN X1 hx (hb hby d1_4) rfl rfl (pc' := 5) rfl ?_
  refine w_aloadN X1 hx (hb hby d1_5) rfl rfl (pc' := 6) rfl ?_
  refine w_putf (i := 3) (ty := (.array .int)) X1 hx hZ hown (wd10 hw) N0 P1 rfl Fo3 (di_C0 hw) 0 rfl (Or.inr ⟨(wd11 hw), rfl, hnm⟩) (wd2 hw) (by decide) rfl rfl (hb hby d1_6) (pc' := 9) rfl ?_
  intro T2 L1 c1 N1 X2 P2 F1
  replace P2 : HP n0 T2.heap [AC k0 [.int (1 : Int32), .int (2 : Int32)], AC k1 [.int (1 : Int32), .int (1 : Int32)], AC k2 [.int u0, .int u1, .int u2, .int u3], c1] := P2
  replace F1 : ObjF Z c1 "com/example/dirichlet/dirichlet/index/Postings" fl_C0 [.ref (n0 + 0), .null, .null, .null] := F1
  refine w_aloadN X2 hx (hb hby d1_9) rfl rfl (pc' := 10) rfl ?_
  refine w_aloadN X2 hx (hb hby d1_10) rfl rfl (pc' := 11) rfl ?_
  refine w_putf (i := 3) (ty := (.array .int)) X2 hx hZ hown (wd12 hw) N1 P2 rfl F1 (di_C0 hw) 1 rfl (Or.inr ⟨(wd13 hw), rfl, hnm⟩) (wd2 hw) (by decide) rfl rfl (hb hby d1_11) (pc' := 14) rfl ?_
  intro T3 L2 c2 N2 X3 P3 F2
  replace P3 : HP n0 T3.heap [AC k0 [.int (1 : Int32), .int (2 : Int32)], AC k1 [.int (1 : Int32), .int (1 : Int32)], AC k2 [.int u0, .int u1, .int u2, .int u3], c2] := P3
  replace F2 : ObjF Z c2 "com/example/dirichlet/dirichlet/index/Postings" fl_C0 [.ref (n0 + 0), .ref (n0 + 1), .null, .null] := F2
  refine w_aloadN X3 hx (hb hby d1_14) rfl rfl (pc' := 15) rfl ?_
  refine w_aloadN X3 hx (hb hby d1_15) rfl rfl (pc' := 16) rfl ?_
  refine w_putf (i := 3) (ty := (.array .int)) X3 hx hZ hown (wd14 hw) N2 P3 rfl F2 (di_C0 hw) 2 rfl (Or.inr ⟨(wd15 hw), rfl, hnm⟩) (wd2 hw) (by decide) rfl rfl (hb hby d1_16) (pc' := 19) rfl ?_
  intro T4 L3 c3 N3 X4 P4 F3
  replace P4 : HP n0 T4.heap [AC k0 [.int (1 : Int32), .int (2 : Int32)], AC k1 [.int (1 : Int32), .int (1 : Int32)], AC k2 [.int u0, .int u1, .int u2, .int u3], c3] := P4
  replace F3 : ObjF Z c3 "com/example/dirichlet/dirichlet/index/Postings" fl_C0 [.ref (n0 + 0), .ref (n0 + 1), .null, .null] := F3
  refine w_aloadN X4 hx (hb hby d1_19) rfl rfl (pc' := 20) rfl ?_
  refine w_ifnonnullN X4 hx (hb hby d1_20) (pc' := 23) rfl ?_
  refine w_aloadN X4 hx (hb hby d1_23) rfl rfl (pc' := 24) rfl ?_
  refine w_aconst X4 hx (hb hby d1_24) (pc' := 25) rfl ?_
  refine w_putf (i := 3) (ty := (.array .int)) X4 hx hZ hown (wd16 hw) N3 P4 rfl F3 (di_C0 hw) 3 rfl (Or.inr ⟨(wd17 hw), rfl, hnm⟩) (wd2 hw) (by decide) rfl rfl (hb hby d1_25) (pc' := 28) rfl ?_
  intro T5 L4 c4 N4 X5 P5 F4
  replace P5 : HP n0 T5.heap [AC k0 [.int (1 : Int32), .int (2 : Int32)], AC k1 [.int (1 : Int32), .int (1 : Int32)], AC k2 [.int u0, .int u1, .int u2, .int u3], c4] := P5
  replace F4 : ObjF Z c4 "com/example/dirichlet/dirichlet/index/Postings" fl_C0 [.ref (n0 + 0), .ref (n0 + 1), .null, .null] := F4
  refine w_goto X5 hx (hb hby d1_28) (by decide) (pc' := 78) (by decide) ?_
  exact w_ret_v X5 hx hret hlk (hb hby d1_78) (by decide) (by decide) ⟨rfl, N4, c4, F4, P5⟩
theorem d3_0 : decode prog_23_method_5_code 0 = .ok (.aload_n 0, 1) := by decide +kernel
theorem d3_1 : decode prog_23_method_5_code 1 = .ok (.getfield 16, 3) := by decide +kernel
theorem d3_4 : decode prog_23_method_5_code 4 = .ok (.ifnull 7, 3) := by decide +kernel
theorem d3_7 : decode prog_23_method_5_code 7 = .ok (.iconst 1, 1) := by decide +kernel
theorem d3_8 : decode prog_23_method_5_code 8 = .ok (.goto 4, 3) := by decide +kernel
theorem d3_11 : decode prog_23_method_5_code 11 = .ok (.iconst 0, 1) := by decide +kernel
theorem d3_12 : decode prog_23_method_5_code 12 = .ok (.ireturn, 1) := by decide +kernel
theorem pn3 : plainFor (⟨"com/example/dirichlet/dirichlet/index/Postings", "hasPositions", "()Z"⟩ : MethodName) = true := plainFor_of_name (by first | (simp [plainName, overriddenIn]; done) | decide +kernel)
theorem pd3 : parseMethodDescriptor (⟨"com/example/dirichlet/dirichlet/index/Postings", "hasPositions", "()Z"⟩ : MethodName).desc = some ⟨[], some .boolean⟩ := by decide +kernel
def Q_rm3_1 (Z : State) (n0 : Nat) (k0 : ClassId) (k1 : ClassId) (k2 : ClassId) (u0 : Int32) (u1 : Int32) (u2 : Int32) (u3 : Int32) (o3 : Jvm.Cell) (v : Option Value) (h : Heap) (L : List Loc) : Prop := v = some (.int (0 : Int32)) ∧ Fr n0 L ∧ HP n0 h [AC k0 [.int (1 : Int32), .int (2 : Int32)], AC k1 [.int (1 : Int32), .int (1 : Int32)], AC k2 [.int u0, .int u1, .int u2, .int u3], o3]
theorem ef_rm3_1 (m : MethodId) (n0 : Nat) (u0 : Int32) (u1 : Int32) (u2 : Int32) (u3 : Int32) : entryFrame m #[.ref (n0 + 3)] 1 = mkF m 0 #[.val (.ref (n0 + 3))] [] := by first | (simp [entryFrame, mkF, argsToLocals, Value.category]; done) | rfl
set_option maxRecDepth 65536 in
set_option maxHeartbeats 40000000 in
theorem rm3_1 (l : Launch) (Z : State) (a0 : Array Value) (hw : ∀ d ∈ tables_1, d.before a0 Z = true) (ws : List Jvm.Cond) (n0 : Nat) (k0 : ClassId) (hk0 : IsA Z k0 .int) (k1 : ClassId) (hk1 : IsA Z k1 .int) (k2 : ClassId) (hk2 : IsA Z k2 .int) (u0 : Int32) (u1 : Int32) (u2 : Int32) (u3 : Int32) (o3 : Jvm.Cell) (Fo3 : ObjF Z o3 "com/example/dirichlet/dirichlet/index/Postings" fl_C0 [.ref (n0 + 0), .ref (n0 + 1), .null, .null]) (h0 : Heap) (P0 : HP n0 h0 [AC k0 [.int (1 : Int32), .int (2 : Int32)], AC k1 [.int (1 : Int32), .int (1 : Int32)], AC k2 [.int u0, .int u1, .int u2, .int u3], o3]) :
    MetFree l (⟨"com/example/dirichlet/dirichlet/index/Postings", "hasPositions", "()Z"⟩ : MethodName) (head1 (Jvm.Cond.code (⟨"com/example/dirichlet/dirichlet/index/Postings", "hasPositions", "()Z"⟩ : MethodName) prog_23_method_5_code 1 (some .boolean) :: ws) ({ frames := 0, cells := 0, slots := 0, locals := 0 } : Room)) (fun a U => a = #[.ref (n0 + 3)] ∧ Z.Warmed39 U.vm ∧ U.heap = h0) (fun _ _ _ _ _ => True) (fun _ U o U' => ∃ v L, o = .returned v ∧ Q_rm3_1 Z n0 k0 k1 k2 u0 u1 u2 u3 o3 v U'.heap L ∧ FrameEnd U o U' L ({ frames := 0, cells := 0, slots := 0, locals := 0 } : Room).cells ({ frames := 0, cells := 0, slots := 0, locals := 0 } : Room).slots) := by
  refine own_body pn3 ?_
  intro p e s m below meth c T0 hx hby hml hret hlk hown hnm hZ X0 e0
  subst e0
  have N0 : Fr n0 [] := Fr.nil n0
  refine own_cast (ef_rm3_1 m n0 u0 u1 u2 u3) ?_
  refine w_aloadN X0 hx (hb hby d3_0) rfl rfl (pc' := 1) rfl ?_
  refine w_getf (i := 3) (v := .null) X0 hx hZ hown (wd14 hw) P0 rfl Fo3 2 rfl rfl (hb hby d3_1) (pc' := 4) rfl ?_
  intro T1 X1 P1
  refine w_ifnullY X1 hx (hb hby d3_4) (by decide) (pc' := 11) (by decide) ?_
  refine w_iconst (v := (0 : Int32)) X1 hx (hb hby d3_11) rfl (pc' := 12) rfl ?_
  exact w_ret_n (t := .boolean) X1 hx hret hlk (by simp) (hb hby d3_12) (z' := (0 : Int32)) rfl (by decide) (by decide) ⟨rfl, N0, P1⟩
def Q_rm1_2 (Z : State) (n0 : Nat) (k0 : ClassId) (k1 : ClassId) (k2 : ClassId) (u0 : Int32) (u1 : Int32) (u2 : Int32) (u3 : Int32) (o3 : Jvm.Cell) (v : Option Value) (h : Heap) (L : List Loc) : Prop := v = none ∧ Fr n0 L ∧ ∃ c4 : Jvm.Cell, ObjF Z c4 "com/example/dirichlet/dirichlet/index/Postings" fl_C0 [.ref (n0 + 0), .ref (n0 + 1), .null, .null] ∧ HP n0 h [AC k0 [.int (1 : Int32), .int (2 : Int32)], AC k1 [.int (1 : Int32), .int (2 : Int32)], AC k2 [.int u0, .int u1, .int u2, .int u3], c4]
theorem ef_rm1_2 (m : MethodId) (n0 : Nat) (u0 : Int32) (u1 : Int32) (u2 : Int32) (u3 : Int32) : entryFrame m #[.ref (n0 + 3), .ref (n0 + 0), .ref (n0 + 1), .null] 5 = mkF m 0 #[.val (.ref (n0 + 3)), .val (.ref (n0 + 0)), .val (.ref (n0 + 1)), .val (.null), .unset] [] := by first | (simp [entryFrame, mkF, argsToLocals, Value.category]; done) | rfl
set_option maxRecDepth 65536 in
set_option maxHeartbeats 40000000 in
theorem rm1_2 (l : Launch) (Z : State) (a0 : Array Value) (hw : ∀ d ∈ tables_1, d.before a0 Z = true) (ws : List Jvm.Cond) (n0 : Nat) (k0 : ClassId) (hk0 : IsA Z k0 .int) (k1 : ClassId) (hk1 : IsA Z k1 .int) (k2 : ClassId) (hk2 : IsA Z k2 .int) (u0 : Int32) (u1 : Int32) (u2 : Int32) (u3 : Int32) (o3 : Jvm.Cell) (Fo3 : ObjF Z o3 "com/example/dirichlet/dirichlet/index/Postings" fl_C0 [.null, .null, .null, .null]) (h0 : Heap) (P0 : HP n0 h0 [AC k0 [.int (1 : Int32), .int (2 : Int32)], AC k1 [.int (1 : Int32), .int (2 : Int32)], AC k2 [.int u0, .int u1, .int u2, .int u3], o3]) :
    MetFree l (⟨"com/example/dirichlet/dirichlet/index/Postings", "<init>", "([I[I[I)V"⟩ : MethodName) (head1 (Jvm.Cond.code (⟨"com/example/dirichlet/dirichlet/index/Postings", "<init>", "([I[I[I)V"⟩ : MethodName) prog_23_method_1_code 5 none :: ws) ({ frames := 1, cells := 0, slots := 0, locals := 12 } : Room)) (fun a U => a = #[.ref (n0 + 3), .ref (n0 + 0), .ref (n0 + 1), .null] ∧ Z.Warmed39 U.vm ∧ U.heap = h0) (fun _ _ _ _ _ => True) (fun _ U o U' => ∃ v L, o = .returned v ∧ Q_rm1_2 Z n0 k0 k1 k2 u0 u1 u2 u3 o3 v U'.heap L ∧ FrameEnd U o U' L ({ frames := 1, cells := 0, slots := 0, locals := 12 } : Room).cells ({ frames := 1, cells := 0, slots := 0, locals := 12 } : Room).slots) := by
  refine own_body pn1 ?_
  intro p e s m below meth c T0 hx hby hml hret hlk hown hnm hZ X0 e0
  subst e0
  have N0 : Fr n0 [] := Fr.nil n0
  refine own_cast (ef_rm1_2 m n0 u0 u1 u2 u3) ?_
  refine w_aloadN X0 hx (hb hby d1_0) rfl rfl (pc' := 1) rfl ?_
  refine w_initO (W := 0) X0 hx hZ hown (by rw [hml]; rfl) (wd7 hw) (wd8 hw) (wd9 hw) P0 (hb hby d1_1) (by decide) (Nat.le_of_eq rfl) (by decide) (pc' := 4) rfl ?_
  intro T1 X1 P1
  refine w_aloadN X1 hx (hb hby d1_4) rfl rfl (pc' := 5) rfl ?_
  refine w_aloadN X1 hx (hb hby d1_5) rfl rfl (pc' := 6) rfl ?_
  refine w_putf (i := 3) (ty := (.array .int)) X1 hx hZ hown (wd10 hw) N0 P1 rfl Fo3 (di_C0 hw) 0 rfl (Or.inr ⟨(wd11 hw), rfl, hnm⟩) (wd2 hw) (by decide) rfl rfl (hb hby d1_6) (pc' := 9) rfl ?_
  intro T2 L1 c1 N1 X2 P2 F1
  replace P2 : HP n0 T2.heap [AC k0 [.int (1 : Int32), .int (2 : Int32)], AC k1 [.int (1 : Int32), .int (2 : Int32)], AC k2 [.int u0, .int u1, .int u2, .int u3], c1] := P2
  replace F1 : ObjF Z c1 "com/example/dirichlet/dirichlet/index/Postings" fl_C0 [.ref (n0 + 0), .null, .null, .null] := F1
  refine w_aloadN X2 hx (hb hby d1_9) rfl rfl (pc' := 10) rfl ?_
  refine w_aloadN X2 hx (hb hby d1_10) rfl rfl (pc' := 11) rfl ?_
  refine w_putf (i := 3) (ty := (.array .int)) X2 hx hZ hown (wd12 hw) N1 P2 rfl F1 (di_C0 hw) 1 rfl (Or.inr ⟨(wd13 hw), rfl, hnm⟩) (wd2 hw) (by decide) rfl rfl (hb hby d1_11) (pc' := 14) rfl ?_
  intro T3 L2 c2 N2 X3 P3 F2
  replace P3 : HP n0 T3.heap [AC k0 [.int (1 : Int32), .int (2 : Int32)], AC k1 [.int (1 : Int32), .int (2 : Int32)], AC k2 [.int u0, .int u1, .int u2, .int u3], c2] := P3
  replace F2 : ObjF Z c2 "com/example/dirichlet/dirichlet/index/Postings" fl_C0 [.ref (n0 + 0), .ref (n0 + 1), .null, .null] := F2
  refine w_aloadN X3 hx (hb hby d1_14) rfl rfl (pc' := 15) rfl ?_
  refine w_aloadN X3 hx (hb hby d1_15) rfl rfl (pc' := 16) rfl ?_
  refine w_putf (i := 3) (ty := (.array .int)) X3 hx hZ hown (wd14 hw) N2 P3 rfl F2 (di_C0 hw) 2 rfl (Or.inr ⟨(wd15 hw), rfl, hnm⟩) (wd2 hw) (by decide) rfl rfl (hb hby d1_16) (pc' := 19) rfl ?_
  intro T4 L3 c3 N3 X4 P4 F3
  replace P4 : HP n0 T4.heap [AC k0 [.int (1 : Int32), .int (2 : Int32)], AC k1 [.int (1 : Int32), .int (2 : Int32)], AC k2 [.int u0, .int u1, .int u2, .int u3], c3] := P4
  replace F3 : ObjF Z c3 "com/example/dirichlet/dirichlet/index/Postings" fl_C0 [.ref (n0 + 0), .ref (n0 + 1), .null, .null] := F3
  refine w_aloadN X4 hx (hb hby d1_19) rfl rfl (pc' := 20) rfl ?_
  refine w_ifnonnullN X4 hx (hb hby d1_20) (pc' := 23) rfl ?_
  refine w_aloadN X4 hx (hb hby d1_23) rfl rfl (pc' := 24) rfl ?_
  refine w_aconst X4 hx (hb hby d1_24) (pc' := 25) rfl ?_
  refine w_putf (i := 3) (ty := (.array .int)) X4 hx hZ hown (wd16 hw) N3 P4 rfl F3 (di_C0 hw) 3 rfl (Or.inr ⟨(wd17 hw), rfl, hnm⟩) (wd2 hw) (by decide) rfl rfl (hb hby d1_25) (pc' := 28) rfl ?_
  intro T5 L4 c4 N4 X5 P5 F4
  replace P5 : HP n0 T5.heap [AC k0 [.int (1 : Int32), .int (2 : Int32)], AC k1 [.int (1 : Int32), .int (2 : Int32)], AC k2 [.int u0, .int u1, .int u2, .int u3], c4] := P5
  replace F4 : ObjF Z c4 "com/example/dirichlet/dirichlet/index/Postings" fl_C0 [.ref (n0 + 0), .ref (n0 + 1), .null, .null] := F4
  refine w_goto X5 hx (hb hby d1_28) (by decide) (pc' := 78) (by decide) ?_
  exact w_ret_v X5 hx hret hlk (hb hby d1_78) (by decide) (by decide) ⟨rfl, N4, c4, F4, P5⟩
def Q_rm3_3 (Z : State) (n0 : Nat) (k0 : ClassId) (k1 : ClassId) (k2 : ClassId) (u0 : Int32) (u1 : Int32) (u2 : Int32) (u3 : Int32) (o3 : Jvm.Cell) (v : Option Value) (h : Heap) (L : List Loc) : Prop := v = some (.int (0 : Int32)) ∧ Fr n0 L ∧ HP n0 h [AC k0 [.int (1 : Int32), .int (2 : Int32)], AC k1 [.int (1 : Int32), .int (2 : Int32)], AC k2 [.int u0, .int u1, .int u2, .int u3], o3]
theorem ef_rm3_3 (m : MethodId) (n0 : Nat) (u0 : Int32) (u1 : Int32) (u2 : Int32) (u3 : Int32) : entryFrame m #[.ref (n0 + 3)] 1 = mkF m 0 #[.val (.ref (n0 + 3))] [] := by first | (simp [entryFrame, mkF, argsToLocals, Value.category]; done) | rfl
set_option maxRecDepth 65536 in
set_option maxHeartbeats 40000000 in
theorem rm3_3 (l : Launch) (Z : State) (a0 : Array Value) (hw : ∀ d ∈ tables_1, d.before a0 Z = true) (ws : List Jvm.Cond) (n0 : Nat) (k0 : ClassId) (hk0 : IsA Z k0 .int) (k1 : ClassId) (hk1 : IsA Z k1 .int) (k2 : ClassId) (hk2 : IsA Z k2 .int) (u0 : Int32) (u1 : Int32) (u2 : Int32) (u3 : Int32) (o3 : Jvm.Cell) (Fo3 : ObjF Z o3 "com/example/dirichlet/dirichlet/index/Postings" fl_C0 [.ref (n0 + 0), .ref (n0 + 1), .null, .null]) (h0 : Heap) (P0 : HP n0 h0 [AC k0 [.int (1 : Int32), .int (2 : Int32)], AC k1 [.int (1 : Int32), .int (2 : Int32)], AC k2 [.int u0, .int u1, .int u2, .int u3], o3]) :
    MetFree l (⟨"com/example/dirichlet/dirichlet/index/Postings", "hasPositions", "()Z"⟩ : MethodName) (head1 (Jvm.Cond.code (⟨"com/example/dirichlet/dirichlet/index/Postings", "hasPositions", "()Z"⟩ : MethodName) prog_23_method_5_code 1 (some .boolean) :: ws) ({ frames := 0, cells := 0, slots := 0, locals := 0 } : Room)) (fun a U => a = #[.ref (n0 + 3)] ∧ Z.Warmed39 U.vm ∧ U.heap = h0) (fun _ _ _ _ _ => True) (fun _ U o U' => ∃ v L, o = .returned v ∧ Q_rm3_3 Z n0 k0 k1 k2 u0 u1 u2 u3 o3 v U'.heap L ∧ FrameEnd U o U' L ({ frames := 0, cells := 0, slots := 0, locals := 0 } : Room).cells ({ frames := 0, cells := 0, slots := 0, locals := 0 } : Room).slots) := by
  refine own_body pn3 ?_
  intro p e s m below meth c T0 hx hby hml hret hlk hown hnm hZ X0 e0
  subst e0
  have N0 : Fr n0 [] := Fr.nil n0
  refine own_cast (ef_rm3_3 m n0 u0 u1 u2 u3) ?_
  refine w_aloadN X0 hx (hb hby d3_0) rfl rfl (pc' := 1) rfl ?_
  refine w_getf (i := 3) (v := .null) X0 hx hZ hown (wd14 hw) P0 rfl Fo3 2 rfl rfl (hb hby d3_1) (pc' := 4) rfl ?_
  intro T1 X1 P1
  refine w_ifnullY X1 hx (hb hby d3_4) (by decide) (pc' := 11) (by decide) ?_
  refine w_iconst (v := (0 : Int32)) X1 hx (hb hby d3_11) rfl (pc' := 12) rfl ?_
  exact w_ret_n (t := .boolean) X1 hx hret hlk (by simp) (hb hby d3_12) (z' := (0 : Int32)) rfl (by decide) (by decide) ⟨rfl, N0, P1⟩
def Q_rm1_4 (Z : State) (n0 : Nat) (k0 : ClassId) (k1 : ClassId) (k2 : ClassId) (u0 : Int32) (u1 : Int32) (u2 : Int32) (u3 : Int32) (o3 : Jvm.Cell) (v : Option Value) (h : Heap) (L : List Loc) : Prop := v = none ∧ Fr n0 L ∧ ∃ c4 : Jvm.Cell, ObjF Z c4 "com/example/dirichlet/dirichlet/index/Postings" fl_C0 [.ref (n0 + 0), .ref (n0 + 1), .null, .null] ∧ HP n0 h [AC k0 [.int (1 : Int32), .int (2 : Int32)], AC k1 [.int (2 : Int32), .int (1 : Int32)], AC k2 [.int u0, .int u1, .int u2, .int u3], c4]
theorem ef_rm1_4 (m : MethodId) (n0 : Nat) (u0 : Int32) (u1 : Int32) (u2 : Int32) (u3 : Int32) : entryFrame m #[.ref (n0 + 3), .ref (n0 + 0), .ref (n0 + 1), .null] 5 = mkF m 0 #[.val (.ref (n0 + 3)), .val (.ref (n0 + 0)), .val (.ref (n0 + 1)), .val (.null), .unset] [] := by first | (simp [entryFrame, mkF, argsToLocals, Value.category]; done) | rfl
set_option maxRecDepth 65536 in
set_option maxHeartbeats 40000000 in
theorem rm1_4 (l : Launch) (Z : State) (a0 : Array Value) (hw : ∀ d ∈ tables_1, d.before a0 Z = true) (ws : List Jvm.Cond) (n0 : Nat) (k0 : ClassId) (hk0 : IsA Z k0 .int) (k1 : ClassId) (hk1 : IsA Z k1 .int) (k2 : ClassId) (hk2 : IsA Z k2 .int) (u0 : Int32) (u1 : Int32) (u2 : Int32) (u3 : Int32) (o3 : Jvm.Cell) (Fo3 : ObjF Z o3 "com/example/dirichlet/dirichlet/index/Postings" fl_C0 [.null, .null, .null, .null]) (h0 : Heap) (P0 : HP n0 h0 [AC k0 [.int (1 : Int32), .int (2 : Int32)], AC k1 [.int (2 : Int32), .int (1 : Int32)], AC k2 [.int u0, .int u1, .int u2, .int u3], o3]) :
    MetFree l (⟨"com/example/dirichlet/dirichlet/index/Postings", "<init>", "([I[I[I)V"⟩ : MethodName) (head1 (Jvm.Cond.code (⟨"com/example/dirichlet/dirichlet/index/Postings", "<init>", "([I[I[I)V"⟩ : MethodName) prog_23_method_1_code 5 none :: ws) ({ frames := 1, cells := 0, slots := 0, locals := 12 } : Room)) (fun a U => a = #[.ref (n0 + 3), .ref (n0 + 0), .ref (n0 + 1), .null] ∧ Z.Warmed39 U.vm ∧ U.heap = h0) (fun _ _ _ _ _ => True) (fun _ U o U' => ∃ v L, o = .returned v ∧ Q_rm1_4 Z n0 k0 k1 k2 u0 u1 u2 u3 o3 v U'.heap L ∧ FrameEnd U o U' L ({ frames := 1, cells := 0, slots := 0, locals := 12 } : Room).cells ({ frames := 1, cells := 0, slots := 0, locals := 12 } : Room).slots) := by
  refine own_body pn1 ?_
  intro p e s m below meth c T0 hx hby hml hret hlk hown hnm hZ X0 e0
  subst e0
  have N0 : Fr n0 [] := Fr.nil n0
  refine own_cast (ef_rm1_4 m n0 u0 u1 u2 u3) ?_
  refine w_aloadN X0 hx (hb hby d1_0) rfl rfl (pc' := 1) rfl ?_
  refine w_initO (W := 0) X0 hx hZ hown (by rw [hml]; rfl) (wd7 hw) (wd8 hw) (wd9 hw) P0 (hb hby d1_1) (by decide) (Nat.le_of_eq rfl) (by decide) (pc' := 4) rfl ?_
  intro T1 X1 P1
  refine w_aloadN X1 hx (hb hby d1_4) rfl rfl (pc' := 5) rfl ?_
  refine w_aloadN X1 hx (hb hby d1_5) rfl rfl (pc' := 6) rfl ?_
  refine w_putf (i := 3) (ty := (.array .int)) X1 hx hZ hown (wd10 hw) N0 P1 rfl Fo3 (di_C0 hw) 0 rfl (Or.inr ⟨(wd11 hw), rfl, hnm⟩) (wd2 hw) (by decide) rfl rfl (hb hby d1_6) (pc' := 9) rfl ?_
  intro T2 L1 c1 N1 X2 P2 F1
  replace P2 : HP n0 T2.heap [AC k0 [.int (1 : Int32), .int (2 : Int32)], AC k1 [.int (2 : Int32), .int (1 : Int32)], AC k2 [.int u0, .int u1, .int u2, .int u3], c1] := P2
  replace F1 : ObjF Z c1 "com/example/dirichlet/dirichlet/index/Postings" fl_C0 [.ref (n0 + 0), .null, .null, .null] := F1
  refine w_aloadN X2 hx (hb hby d1_9) rfl rfl (pc' := 10) rfl ?_
  refine w_aloadN X2 hx (hb hby d1_10) rfl rfl (pc' := 11) rfl ?_
  refine w_putf (i := 3) (ty := (.array .int)) X2 hx hZ hown (wd12 hw) N1 P2 rfl F1 (di_C0 hw) 1 rfl (Or.inr ⟨(wd13 hw), rfl, hnm⟩) (wd2 hw) (by decide) rfl rfl (hb hby d1_11) (pc' := 14) rfl ?_
  intro T3 L2 c2 N2 X3 P3 F2
  replace P3 : HP n0 T3.heap [AC k0 [.int (1 : Int32), .int (2 : Int32)], AC k1 [.int (2 : Int32), .int (1 : Int32)], AC k2 [.int u0, .int u1, .int u2, .int u3], c2] := P3
  replace F2 : ObjF Z c2 "com/example/dirichlet/dirichlet/index/Postings" fl_C0 [.ref (n0 + 0), .ref (n0 + 1), .null, .null] := F2
  refine w_aloadN X3 hx (hb hby d1_14) rfl rfl (pc' := 15) rfl ?_
  refine w_aloadN X3 hx (hb hby d1_15) rfl rfl (pc' := 16) rfl ?_
  refine w_putf (i := 3) (ty := (.array .int)) X3 hx hZ hown (wd14 hw) N2 P3 rfl F2 (di_C0 hw) 2 rfl (Or.inr ⟨(wd15 hw), rfl, hnm⟩) (wd2 hw) (by decide) rfl rfl (hb hby d1_16) (pc' := 19) rfl ?_
  intro T4 L3 c3 N3 X4 P4 F3
  replace P4 : HP n0 T4.heap [AC k0 [.int (1 : Int32), .int (2 : Int32)], AC k1 [.int (2 : Int32), .int (1 : Int32)], AC k2 [.int u0, .int u1, .int u2, .int u3], c3] := P4
  replace F3 : ObjF Z c3 "com/example/dirichlet/dirichlet/index/Postings" fl_C0 [.ref (n0 + 0), .ref (n0 + 1), .null, .null] := F3
  refine w_aloadN X4 hx (hb hby d1_19) rfl rfl (pc' := 20) rfl ?_
  refine w_ifnonnullN X4 hx (hb hby d1_20) (pc' := 23) rfl ?_
  refine w_aloadN X4 hx (hb hby d1_23) rfl rfl (pc' := 24) rfl ?_
  refine w_aconst X4 hx (hb hby d1_24) (pc' := 25) rfl ?_
  refine w_putf (i := 3) (ty := (.array .int)) X4 hx hZ hown (wd16 hw) N3 P4 rfl F3 (di_C0 hw) 3 rfl (Or.inr ⟨(wd17 hw), rfl, hnm⟩) (wd2 hw) (by decide) rfl rfl (hb hby d1_25) (pc' := 28) rfl ?_
  intro T5 L4 c4 N4 X5 P5 F4
  replace P5 : HP n0 T5.heap [AC k0 [.int (1 : Int32), .int (2 : Int32)], AC k1 [.int (2 : Int32), .int (1 : Int32)], AC k2 [.int u0, .int u1, .int u2, .int u3], c4] := P5
  replace F4 : ObjF Z c4 "com/example/dirichlet/dirichlet/index/Postings" fl_C0 [.ref (n0 + 0), .ref (n0 + 1), .null, .null] := F4
  refine w_goto X5 hx (hb hby d1_28) (by decide) (pc' := 78) (by decide) ?_
  exact w_ret_v X5 hx hret hlk (hb hby d1_78) (by decide) (by decide) ⟨rfl, N4, c4, F4, P5⟩
def Q_rm3_5 (Z : State) (n0 : Nat) (k0 : ClassId) (k1 : ClassId) (k2 : ClassId) (u0 : Int32) (u1 : Int32) (u2 : Int32) (u3 : Int32) (o3 : Jvm.Cell) (v : Option Value) (h : Heap) (L : List Loc) : Prop := v = some (.int (0 : Int32)) ∧ Fr n0 L ∧ HP n0 h [AC k0 [.int (1 : Int32), .int (2 : Int32)], AC k1 [.int (2 : Int32), .int (1 : Int32)], AC k2 [.int u0, .int u1, .int u2, .int u3], o3]
theorem ef_rm3_5 (m : MethodId) (n0 : Nat) (u0 : Int32) (u1 : Int32) (u2 : Int32) (u3 : Int32) : entryFrame m #[.ref (n0 + 3)] 1 = mkF m 0 #[.val (.ref (n0 + 3))] [] := by first | (simp [entryFrame, mkF, argsToLocals, Value.category]; done) | rfl
set_option maxRecDepth 65536 in
set_option maxHeartbeats 40000000 in
theorem rm3_5 (l : Launch) (Z : State) (a0 : Array Value) (hw : ∀ d ∈ tables_1, d.before a0 Z = true) (ws : List Jvm.Cond) (n0 : Nat) (k0 : ClassId) (hk0 : IsA Z k0 .int) (k1 : ClassId) (hk1 : IsA Z k1 .int) (k2 : ClassId) (hk2 : IsA Z k2 .int) (u0 : Int32) (u1 : Int32) (u2 : Int32) (u3 : Int32) (o3 : Jvm.Cell) (Fo3 : ObjF Z o3 "com/example/dirichlet/dirichlet/index/Postings" fl_C0 [.ref (n0 + 0), .ref (n0 + 1), .null, .null]) (h0 : Heap) (P0 : HP n0 h0 [AC k0 [.int (1 : Int32), .int (2 : Int32)], AC k1 [.int (2 : Int32), .int (1 : Int32)], AC k2 [.int u0, .int u1, .int u2, .int u3], o3]) :
    MetFree l (⟨"com/example/dirichlet/dirichlet/index/Postings", "hasPositions", "()Z"⟩ : MethodName) (head1 (Jvm.Cond.code (⟨"com/example/dirichlet/dirichlet/index/Postings", "hasPositions", "()Z"⟩ : MethodName) prog_23_method_5_code 1 (some .boolean) :: ws) ({ frames := 0, cells := 0, slots := 0, locals := 0 } : Room)) (fun a U => a = #[.ref (n0 + 3)] ∧ Z.Warmed39 U.vm ∧ U.heap = h0) (fun _ _ _ _ _ => True) (fun _ U o U' => ∃ v L, o = .returned v ∧ Q_rm3_5 Z n0 k0 k1 k2 u0 u1 u2 u3 o3 v U'.heap L ∧ FrameEnd U o U' L ({ frames := 0, cells := 0, slots := 0, locals := 0 } : Room).cells ({ frames := 0, cells := 0, slots := 0, locals := 0 } : Room).slots) := by
  refine own_body pn3 ?_
  intro p e s m below meth c T0 hx hby hml hret hlk hown hnm hZ X0 e0
  subst e0
  have N0 : Fr n0 [] := Fr.nil n0
  refine own_cast (ef_rm3_5 m n0 u0 u1 u2 u3) ?_
  refine w_aloadN X0 hx (hb hby d3_0) rfl rfl (pc' := 1) rfl ?_
  refine w_getf (i := 3) (v := .null) X0 hx hZ hown (wd14 hw) P0 rfl Fo3 2 rfl rfl (hb hby d3_1) (pc' := 4) rfl ?_
  intro T1 X1 P1
  refine w_ifnullY X1 hx (hb hby d3_4) (by decide) (pc' := 11) (by decide) ?_
  refine w_iconst (v := (0 : Int32)) X1 hx (hb hby d3_11) rfl (pc' := 12) rfl ?_
  exact w_ret_n (t := .boolean) X1 hx hret hlk (by simp) (hb hby d3_12) (z' := (0 : Int32)) rfl (by decide) (by decide) ⟨rfl, N0, P1⟩
def Q_rm1_6 (Z : State) (n0 : Nat) (k0 : ClassId) (k1 : ClassId) (k2 : ClassId) (u0 : Int32) (u1 : Int32) (u2 : Int32) (u3 : Int32) (o3 : Jvm.Cell) (v : Option Value) (h : Heap) (L : List Loc) : Prop := v = none ∧ Fr n0 L ∧ ∃ c4 : Jvm.Cell, ObjF Z c4 "com/example/dirichlet/dirichlet/index/Postings" fl_C0 [.ref (n0 + 0), .ref (n0 + 1), .null, .null] ∧ HP n0 h [AC k0 [.int (1 : Int32), .int (2 : Int32)], AC k1 [.int (2 : Int32), .int (2 : Int32)], AC k2 [.int u0, .int u1, .int u2, .int u3], c4]
theorem ef_rm1_6 (m : MethodId) (n0 : Nat) (u0 : Int32) (u1 : Int32) (u2 : Int32) (u3 : Int32) : entryFrame m #[.ref (n0 + 3), .ref (n0 + 0), .ref (n0 + 1), .null] 5 = mkF m 0 #[.val (.ref (n0 + 3)), .val (.ref (n0 + 0)), .val (.ref (n0 + 1)), .val (.null), .unset] [] := by first | (simp [entryFrame, mkF, argsToLocals, Value.category]; done) | rfl
set_option maxRecDepth 65536 in
set_option maxHeartbeats 40000000 in
theorem rm1_6 (l : Launch) (Z : State) (a0 : Array Value) (hw : ∀ d ∈ tables_1, d.before a0 Z = true) (ws : List Jvm.Cond) (n0 : Nat) (k0 : ClassId) (hk0 : IsA Z k0 .int) (k1 : ClassId) (hk1 : IsA Z k1 .int) (k2 : ClassId) (hk2 : IsA Z k2 .int) (u0 : Int32) (u1 : Int32) (u2 : Int32) (u3 : Int32) (o3 : Jvm.Cell) (Fo3 : ObjF Z o3 "com/example/dirichlet/dirichlet/index/Postings" fl_C0 [.null, .null, .null, .null]) (h0 : Heap) (P0 : HP n0 h0 [AC k0 [.int (1 : Int32), .int (2 : Int32)], AC k1 [.int (2 : Int32), .int (2 : Int32)], AC k2 [.int u0, .int u1, .int u2, .int u3], o3]) :
    MetFree l (⟨"com/example/dirichlet/dirichlet/index/Postings", "<init>", "([I[I[I)V"⟩ : MethodName) (head1 (Jvm.Cond.code (⟨"com/example/dirichlet/dirichlet/index/Postings", "<init>", "([I[I[I)V"⟩ : MethodName) prog_23_method_1_code 5 none :: ws) ({ frames := 1, cells := 0, slots := 0, locals := 12 } : Room)) (fun a U => a = #[.ref (n0 + 3), .ref (n0 + 0), .ref (n0 + 1), .null] ∧ Z.Warmed39 U.vm ∧ U.heap = h0) (fun _ _ _ _ _ => True) (fun _ U o U' => ∃ v L, o = .returned v ∧ Q_rm1_6 Z n0 k0 k1 k2 u0 u1 u2 u3 o3 v U'.heap L ∧ FrameEnd U o U' L ({ frames := 1, cells := 0, slots := 0, locals := 12 } : Room).cells ({ frames := 1, cells := 0, slots := 0, locals := 12 } : Room).slots) := by
  refine own_body pn1 ?_
  intro p e s m below meth c T0 hx hby hml hret hlk hown hnm hZ X0 e0
  subst e0
  have N0 : Fr n0 [] := Fr.nil n0
  refine own_cast (ef_rm1_6 m n0 u0 u1 u2 u3) ?_
  refine w_aloadN X0 hx (hb hby d1_0) rfl rfl (pc' := 1) rfl ?_
  refine w_initO (W := 0) X0 hx hZ hown (by rw [hml]; rfl) (wd7 hw) (wd8 hw) (wd9 hw) P0 (hb hby d1_1) (by decide) (Nat.le_of_eq rfl) (by decide) (pc' := 4) rfl ?_
  intro T1 X1 P1
  refine w_aloadN X1 hx (hb hby d1_4) rfl rfl (pc' := 5) rfl ?_
  refine w_aloadN X1 hx (hb hby d1_5) rfl rfl (pc' := 6) rfl ?_
  refine w_putf (i := 3) (ty := (.array .int)) X1 hx hZ hown (wd10 hw) N0 P1 rfl Fo3 (di_C0 hw) 0 rfl (Or.inr ⟨(wd11 hw), rfl, hnm⟩) (wd2 hw) (by decide) rfl rfl (hb hby d1_6) (pc' := 9) rfl ?_
  intro T2 L1 c1 N1 X2 P2 F1
  replace P2 : HP n0 T2.heap [AC k0 [.int (1 : Int32), .int (2 : Int32)], AC k1 [.int (2 : Int32), .int (2 : Int32)], AC k2 [.int u0, .int u1, .int u2, .int u3], c1] := P2
  replace F1 : ObjF Z c1 "com/example/dirichlet/dirichlet/index/Postings" fl_C0 [.ref (n0 + 0), .null, .null, .null] := F1
  refine w_aloadN X2 hx (hb hby d1_9) rfl rfl (pc' := 10) rfl ?_
  refine w_aloadN X2 hx (hb hby d1_10) rfl rfl (pc' := 11) rfl ?_
  refine w_putf (i := 3) (ty := (.array .int)) X2 hx hZ hown (wd12 hw) N1 P2 rfl F1 (di_C0 hw) 1 rfl (Or.inr ⟨(wd13 hw), rfl, hnm⟩) (wd2 hw) (by decide) rfl rfl (hb hby d1_11) (pc' := 14) rfl ?_
  intro T3 L2 c2 N2 X3 P3 F2
  replace P3 : HP n0 T3.heap [AC k0 [.int (1 : Int32), .int (2 : Int32)], AC k1 [.int (2 : Int32), .int (2 : Int32)], AC k2 [.int u0, .int u1, .int u2, .int u3], c2] := P3
  replace F2 : ObjF Z c2 "com/example/dirichlet/dirichlet/index/Postings" fl_C0 [.ref (n0 + 0), .ref (n0 + 1), .null, .null] := F2
  refine w_aloadN X3 hx (hb hby d1_14) rfl rfl (pc' := 15) rfl ?_
  refine w_aloadN X3 hx (hb hby d1_15) rfl rfl (pc' := 16) rfl ?_
  refine w_putf (i := 3) (ty := (.array .int)) X3 hx hZ hown (wd14 hw) N2 P3 rfl F2 (di_C0 hw) 2 rfl (Or.inr ⟨(wd15 hw), rfl, hnm⟩) (wd2 hw) (by decide) rfl rfl (hb hby d1_16) (pc' := 19) rfl ?_
  intro T4 L3 c3 N3 X4 P4 F3
  replace P4 : HP n0 T4.heap [AC k0 [.int (1 : Int32), .int (2 : Int32)], AC k1 [.int (2 : Int32), .int (2 : Int32)], AC k2 [.int u0, .int u1, .int u2, .int u3], c3] := P4
  replace F3 : ObjF Z c3 "com/example/dirichlet/dirichlet/index/Postings" fl_C0 [.ref (n0 + 0), .ref (n0 + 1), .null, .null] := F3
  refine w_aloadN X4 hx (hb hby d1_19) rfl rfl (pc' := 20) rfl ?_
  refine w_ifnonnullN X4 hx (hb hby d1_20) (pc' := 23) rfl ?_
  refine w_aloadN X4 hx (hb hby d1_23) rfl rfl (pc' := 24) rfl ?_
  refine w_aconst X4 hx (hb hby d1_24) (pc' := 25) rfl ?_
  refine w_putf (i := 3) (ty := (.array .int)) X4 hx hZ hown (wd16 hw) N3 P4 rfl F3 (di_C0 hw) 3 rfl (Or.inr ⟨(wd17 hw), rfl, hnm⟩) (wd2 hw) (by decide) rfl rfl (hb hby d1_25) (pc' := 28) rfl ?_
  intro T5 L4 c4 N4 X5 P5 F4
  replace P5 : HP n0 T5.heap [AC k0 [.int (1 : Int32), .int (2 : Int32)], AC k1 [.int (2 : Int32), .int (2 : Int32)], AC k2 [.int u0, .int u1, .int u2, .int u3], c4] := P5
  replace F4 : ObjF Z c4 "com/example/dirichlet/dirichlet/index/Postings" fl_C0 [.ref (n0 + 0), .ref (n0 + 1), .null, .null] := F4
  refine w_goto X5 hx (hb hby d1_28) (by decide) (pc' := 78) (by decide) ?_
  exact w_ret_v X5 hx hret hlk (hb hby d1_78) (by decide) (by decide) ⟨rfl, N4, c4, F4, P5⟩
def Q_rm3_7 (Z : State) (n0 : Nat) (k0 : ClassId) (k1 : ClassId) (k2 : ClassId) (u0 : Int32) (u1 : Int32) (u2 : Int32) (u3 : Int32) (o3 : Jvm.Cell) (v : Option Value) (h : Heap) (L : List Loc) : Prop := v = some (.int (0 : Int32)) ∧ Fr n0 L ∧ HP n0 h [AC k0 [.int (1 : Int32), .int (2 : Int32)], AC k1 [.int (2 : Int32), .int (2 : Int32)], AC k2 [.int u0, .int u1, .int u2, .int u3], o3]
theorem ef_rm3_7 (m : MethodId) (n0 : Nat) (u0 : Int32) (u1 : Int32) (u2 : Int32) (u3 : Int32) : entryFrame m #[.ref (n0 + 3)] 1 = mkF m 0 #[.val (.ref (n0 + 3))] [] := by first | (simp [entryFrame, mkF, argsToLocals, Value.category]; done) | rfl
set_option maxRecDepth 65536 in
set_option maxHeartbeats 40000000 in
theorem rm3_7 (l : Launch) (Z : State) (a0 : Array Value) (hw : ∀ d ∈ tables_1, d.before a0 Z = true) (ws : List Jvm.Cond) (n0 : Nat) (k0 : ClassId) (hk0 : IsA Z k0 .int) (k1 : ClassId) (hk1 : IsA Z k1 .int) (k2 : ClassId) (hk2 : IsA Z k2 .int) (u0 : Int32) (u1 : Int32) (u2 : Int32) (u3 : Int32) (o3 : Jvm.Cell) (Fo3 : ObjF Z o3 "com/example/dirichlet/dirichlet/index/Postings" fl_C0 [.ref (n0 + 0), .ref (n0 + 1), .null, .null]) (h0 : Heap) (P0 : HP n0 h0 [AC k0 [.int (1 : Int32), .int (2 : Int32)], AC k1 [.int (2 : Int32), .int (2 : Int32)], AC k2 [.int u0, .int u1, .int u2, .int u3], o3]) :
    MetFree l (⟨"com/example/dirichlet/dirichlet/index/Postings", "hasPositions", "()Z"⟩ : MethodName) (head1 (Jvm.Cond.code (⟨"com/example/dirichlet/dirichlet/index/Postings", "hasPositions", "()Z"⟩ : MethodName) prog_23_method_5_code 1 (some .boolean) :: ws) ({ frames := 0, cells := 0, slots := 0, locals := 0 } : Room)) (fun a U => a = #[.ref (n0 + 3)] ∧ Z.Warmed39 U.vm ∧ U.heap = h0) (fun _ _ _ _ _ => True) (fun _ U o U' => ∃ v L, o = .returned v ∧ Q_rm3_7 Z n0 k0 k1 k2 u0 u1 u2 u3 o3 v U'.heap L ∧ FrameEnd U o U' L ({ frames := 0, cells := 0, slots := 0, locals := 0 } : Room).cells ({ frames := 0, cells := 0, slots := 0, locals := 0 } : Room).slots) := by
  refine own_body pn3 ?_
  intro p e s m below meth c T0 hx hby hml hret hlk hown hnm hZ X0 e0
  subst e0
  have N0 : Fr n0 [] := Fr.nil n0
  refine own_cast (ef_rm3_7 m n0 u0 u1 u2 u3) ?_
  refine w_aloadN X0 hx (hb hby d3_0) rfl rfl (pc' := 1) rfl ?_
  refine w_getf (i := 3) (v := .null) X0 hx hZ hown (wd14 hw) P0 rfl Fo3 2 rfl rfl (hb hby d3_1) (pc' := 4) rfl ?_
  intro T1 X1 P1
  refine w_ifnullY X1 hx (hb hby d3_4) (by decide) (pc' := 11) (by decide) ?_
  refine w_iconst (v := (0 : Int32)) X1 hx (hb hby d3_11) rfl (pc' := 12) rfl ?_
  exact w_ret_n (t := .boolean) X1 hx hret hlk (by simp) (hb hby d3_12) (z' := (0 : Int32)) rfl (by decide) (by decide) ⟨rfl, N0, P1⟩
def Q_rm1_8 (Z : State) (n0 : Nat) (k0 : ClassId) (k1 : ClassId) (k2 : ClassId) (u0 : Int32) (u1 : Int32) (u2 : Int32) (u3 : Int32) (o3 : Jvm.Cell) (v : Option Value) (h : Heap) (L : List Loc) : Prop := v = none ∧ Fr n0 L ∧ ∃ c5 : Jvm.Cell, ObjF Z c5 "com/example/dirichlet/dirichlet/index/Postings" fl_C0 [.ref (n0 + 0), .ref (n0 + 1), .ref (n0 + 2), .ref (n0 + 4)] ∧ ∃ kA4 : ClassId, IsA Z kA4 .int ∧ HP n0 h [AC k0 [.int (1 : Int32), .int (2 : Int32)], AC k1 [.int (1 : Int32), .int (1 : Int32)], AC k2 [.int u0, .int u1, .int u2, .int u3], c5, AC kA4 [.int (0 : Int32), .int (1 : Int32)]]
theorem ef_rm1_8 (m : MethodId) (n0 : Nat) (u0 : Int32) (u1 : Int32) (u2 : Int32) (u3 : Int32) : entryFrame m #[.ref (n0 + 3), .ref (n0 + 0), .ref (n0 + 1), .ref (n0 + 2)] 5 = mkF m 0 #[.val (.ref (n0 + 3)), .val (.ref (n0 + 0)), .val (.ref (n0 + 1)), .val (.ref (n0 + 2)), .unset] [] := by first | (simp [entryFrame, mkF, argsToLocals, Value.category]; done) | rfl
set_option maxRecDepth 65536 in
set_option maxHeartbeats 40000000 in
theorem rm1_8 (l : Launch) (Z : State) (a0 : Array Value) (hw : ∀ d ∈ tables_1, d.before a0 Z = true) (ws : List Jvm.Cond) (n0 : Nat) (k0 : ClassId) (hk0 : IsA Z k0 .int) (k1 : ClassId) (hk1 : IsA Z k1 .int) (k2 : ClassId) (hk2 : IsA Z k2 .int) (u0 : Int32) (u1 : Int32) (u2 : Int32) (u3 : Int32) (o3 : Jvm.Cell) (Fo3 : ObjF Z o3 "com/example/dirichlet/dirichlet/index/Postings" fl_C0 [.null, .null, .null, .null]) (h0 : Heap) (P0 : HP n0 h0 [AC k0 [.int (1 : Int32), .int (2 : Int32)], AC k1 [.int (1 : Int32), .int (1 : Int32)], AC k2 [.int u0, .int u1, .int u2, .int u3], o3]) :
    MetFree l (⟨"com/example/dirichlet/dirichlet/index/Postings", "<init>", "([I[I[I)V"⟩ : MethodName) (head1 (Jvm.Cond.code (⟨"com/example/dirichlet/dirichlet/index/Postings", "<init>", "([I[I[I)V"⟩ : MethodName) prog_23_method_1_code 5 none :: ws) ({ frames := 1, cells := 1, slots := 2, locals := 12 } : Room)) (fun a U => a = #[.ref (n0 + 3), .ref (n0 + 0), .ref (n0 + 1), .ref (n0 + 2)] ∧ Z.Warmed39 U.vm ∧ U.heap = h0) (fun _ _ _ _ _ => True) (fun _ U o U' => ∃ v L, o = .returned v ∧ Q_rm1_8 Z n0 k0 k1 k2 u0 u1 u2 u3 o3 v U'.heap L ∧ FrameEnd U o U' L ({ frames := 1, cells := 1, slots := 2, locals := 12 } : Room).cells ({ frames := 1, cells := 1, slots := 2, locals := 12 } : Room).slots) := by
  refine own_body pn1 ?_
  intro p e s m below meth c T0 hx hby hml hret hlk hown hnm hZ X0 e0
  subst e0
  have N0 : Fr n0 [] := Fr.nil n0
  refine own_cast (ef_rm1_8 m n0 u0 u1 u2 u3) ?_
  refine w_aloadN X0 hx (hb hby d1_0) rfl rfl (pc' := 1) rfl ?_
  refine w_initO (W := 0) X0 hx hZ hown (by rw [hml]; rfl) (wd7 hw) (wd8 hw) (wd9 hw) P0 (hb hby d1_1) (by decide) (Nat.le_of_eq rfl) (by decide) (pc' := 4) rfl ?_
  intro T1 X1 P1
  refine w_aloadN X1 hx (hb hby d1_4) rfl rfl (pc' := 5) rfl ?_
  refine w_aloadN X1 hx (hb hby d1_5) rfl rfl (pc' := 6) rfl ?_
  refine w_putf (i := 3) (ty := (.array .int)) X1 hx hZ hown (wd10 hw) N0 P1 rfl Fo3 (di_C0 hw) 0 rfl (Or.inr ⟨(wd11 hw), rfl, hnm⟩) (wd2 hw) (by decide) rfl rfl (hb hby d1_6) (pc' := 9) rfl ?_
  intro T2 L1 c1 N1 X2 P2 F1
  replace P2 : HP n0 T2.heap [AC k0 [.int (1 : Int32), .int (2 : Int32)], AC k1 [.int (1 : Int32), .int (1 : Int32)], AC k2 [.int u0, .int u1, .int u2, .int u3], c1] := P2
  replace F1 : ObjF Z c1 "com/example/dirichlet/dirichlet/index/Postings" fl_C0 [.ref (n0 + 0), .null, .null, .null] := F1
  refine w_aloadN X2 hx (hb hby d1_9) rfl rfl (pc' := 10) rfl ?_
  refine w_aloadN X2 hx (hb hby d1_10) rfl rfl (pc' := 11) rfl ?_
  refine w_putf (i := 3) (ty := (.array .int)) X2 hx hZ hown (wd12 hw) N1 P2 rfl F1 (di_C0 hw) 1 rfl (Or.inr ⟨(wd13 hw), rfl, hnm⟩) (wd2 hw) (by decide) rfl rfl (hb hby d1_11) (pc' := 14) rfl ?_
  intro T3 L2 c2 N2 X3 P3 F2
  replace P3 : HP n0 T3.heap [AC k0 [.int (1 : Int32), .int (2 : Int32)], AC k1 [.int (1 : Int32), .int (1 : Int32)], AC k2 [.int u0, .int u1, .int u2, .int u3], c2] := P3
  replace F2 : ObjF Z c2 "com/example/dirichlet/dirichlet/index/Postings" fl_C0 [.ref (n0 + 0), .ref (n0 + 1), .null, .null] := F2
  refine w_aloadN X3 hx (hb hby d1_14) rfl rfl (pc' := 15) rfl ?_
  refine w_aloadN X3 hx (hb hby d1_15) rfl rfl (pc' := 16) rfl ?_
  refine w_putf (i := 3) (ty := (.array .int)) X3 hx hZ hown (wd14 hw) N2 P3 rfl F2 (di_C0 hw) 2 rfl (Or.inr ⟨(wd15 hw), rfl, hnm⟩) (wd2 hw) (by decide) rfl rfl (hb hby d1_16) (pc' := 19) rfl ?_
  intro T4 L3 c3 N3 X4 P4 F3
  replace P4 : HP n0 T4.heap [AC k0 [.int (1 : Int32), .int (2 : Int32)], AC k1 [.int (1 : Int32), .int (1 : Int32)], AC k2 [.int u0, .int u1, .int u2, .int u3], c3] := P4
  replace F3 : ObjF Z c3 "com/example/dirichlet/dirichlet/index/Postings" fl_C0 [.ref (n0 + 0), .ref (n0 + 1), .ref (n0 + 2), .null] := F3
  refine w_aloadN X4 hx (hb hby d1_19) rfl rfl (pc' := 20) rfl ?_
  refine w_ifnonnullY X4 hx (hb hby d1_20) (by decide) (pc' := 31) (by decide) ?_
  refine w_aloadN X4 hx (hb hby d1_31) rfl rfl (pc' := 32) rfl ?_
  refine w_aloadN X4 hx (hb hby d1_32) rfl rfl (pc' := 33) rfl ?_
  refine w_arrlen (i := 1) X4 hx hZ P4 rfl hk1 (hb hby d1_33) (z := (2 : Int32)) rfl (pc' := 34) rfl ?_
  refine w_newarr (N := 2) (j := 4) X4 hx hZ P4 (ty := .int) rfl (wd0 hw) (hb hby d1_34) (by decide) (by decide) (by decide) (by decide) rfl (pc' := 36) rfl ?_
  intro T5 kA4 X5 hkA4 P5
  replace P5 : HP n0 T5.heap [AC k0 [.int (1 : Int32), .int (2 : Int32)], AC k1 [.int (1 : Int32), .int (1 : Int32)], AC k2 [.int u0, .int u1, .int u2, .int u3], c3, AC kA4 [.int (0 : Int32), .int (0 : Int32)]] := P5
  refine w_putf (i := 3) (ty := (.array .int)) X5 hx hZ hown (wd16 hw) N3 P5 rfl F3 (di_C0 hw) 3 rfl (Or.inr ⟨(wd17 hw), rfl, hnm⟩) (wd2 hw) (by decide) rfl rfl (hb hby d1_36) (pc' := 39) rfl ?_
  intro T6 L4 c5 N4 X6 P6 F5
  replace P6 : HP n0 T6.heap [AC k0 [.int (1 : Int32), .int (2 : Int32)], AC k1 [.int (1 : Int32), .int (1 : Int32)], AC k2 [.int u0, .int u1, .int u2, .int u3], c5, AC kA4 [.int (0 : Int32), .int (0 : Int32)]] := P6
  replace F5 : ObjF Z c5 "com/example/dirichlet/dirichlet/index/Postings" fl_C0 [.ref (n0 + 0), .ref (n0 + 1), .ref (n0 + 2), .ref (n0 + 4)] := F5
  refine w_iconst (v := (1 : Int32)) X6 hx (hb hby d1_39) rfl (pc' := 40) rfl ?_
  refine w_istore (l' := #[.val (.ref (n0 + 3)), .val (.ref (n0 + 0)), .val (.ref (n0 + 1)), .val (.ref (n0 + 2)), .val (.int (1 : Int32))]) X6 hx (hb hby d1_40) rfl (pc' := 42) rfl ?_
  refine w_iload X6 hx (hb hby d1_42) rfl (pc' := 44) rfl ?_
  refine w_aloadN X6 hx (hb hby d1_44) rfl rfl (pc' := 45) rfl ?_
  refine w_arrlen (i := 1) X6 hx hZ P6 rfl hk1 (hb hby d1_45) (z := (2 : Int32)) rfl (pc' := 46) rfl ?_
  refine w_icmp_ge X6 hx (hb hby d1_46) (by decide) (pcY := 78) (by decide) (pc' := 49) rfl (fun h0 => absurd h0 (by decide)) (fun h0 => ?_)
  refine w_aloadN X6 hx (hb hby d1_49) rfl rfl (pc' := 50) rfl ?_
  refine w_getf (i := 3) (v := .ref (n0 + 4)) X6 hx hZ hown (wd16 hw) P6 rfl F5 3 rfl rfl (hb hby d1_50) (pc' := 53) rfl ?_
  intro T7 X7 P7
  refine w_iload X7 hx (hb hby d1_53) rfl (pc' := 55) rfl ?_
  refine w_aloadN X7 hx (hb hby d1_55) rfl rfl (pc' := 56) rfl ?_
  refine w_getf (i := 3) (v := .ref (n0 + 4)) X7 hx hZ hown (wd16 hw) P7 rfl F5 3 rfl rfl (hb hby d1_56) (pc' := 59) rfl ?_
  intro T8 X8 P8
  refine w_iload X8 hx (hb hby d1_59) rfl (pc' := 61) rfl ?_
  refine w_iconst (v := (1 : Int32)) X8 hx (hb hby d1_61) rfl (pc' := 62) rfl ?_
  refine w_isub X8 hx (hb hby d1_62) (pc' := 63) rfl ?_
  refine w_eqI (z := (0 : Int32)) (by decide) ?_
  refine w_iaload (i := 4) (jn := 0) (v := .int (0 : Int32)) X8 hx hZ P8 rfl hkA4 (hb hby d1_63) (by decide) rfl (pc' := 64) rfl ?_
  refine w_aloadN X8 hx (hb hby d1_64) rfl rfl (pc' := 65) rfl ?_
  refine w_iload X8 hx (hb hby d1_65) rfl (pc' := 67) rfl ?_
  refine w_iconst (v := (1 : Int32)) X8 hx (hb hby d1_67) rfl (pc' := 68) rfl ?_
  refine w_isub X8 hx (hb hby d1_68) (pc' := 69) rfl ?_
  refine w_eqI (z := (0 : Int32)) (by decide) ?_
  refine w_iaload (i := 1) (jn := 0) (v := .int (1 : Int32)) X8 hx hZ P8 rfl hk1 (hb hby d1_69) (by decide) rfl (pc' := 70) rfl ?_
  refine w_iadd X8 hx (hb hby d1_70) (pc' := 71) rfl ?_
  refine w_eqI (z := (1 : Int32)) (by decide) ?_
  refine w_iastore (i := 4) (jn := 1) X8 hx hZ N4 P8 rfl hkA4 (hb hby d1_71) (by decide) (Nat.le_of_ble_eq_true rfl) (pc' := 72) rfl ?_
  intro T9 L5 N5 X9 P9
  replace P9 : HP n0 T9.heap [AC k0 [.int (1 : Int32), .int (2 : Int32)], AC k1 [.int (1 : Int32), .int (1 : Int32)], AC k2 [.int u0, .int u1, .int u2, .int u3], c5, AC kA4 [.int (0 : Int32), .int (1 : Int32)]] := P9
  refine w_iincE (z := (2 : Int32)) (l' := #[.val (.ref (n0 + 3)), .val (.ref (n0 + 0)), .val (.ref (n0 + 1)), .val (.ref (n0 + 2)), .val (.int (2 : Int32))]) X9 hx (hb hby d1_72) rfl (by decide) rfl (pc' := 75) rfl ?_
  refine w_goto X9 hx (hb hby d1_75) (by decide) (pc' := 42) (by decide) ?_
  refine w_iload X9 hx (hb hby d1_42) rfl (pc' := 44) rfl ?_
  refine w_aloadN X9 hx (hb hby d1_44) rfl rfl (pc' := 45) rfl ?_
  refine w_arrlen (i := 1) X9 hx hZ P9 rfl hk1 (hb hby d1_45) (z := (2 : Int32)) rfl (pc' := 46) rfl ?_
  refine w_icmp_ge X9 hx (hb hby d1_46) (by decide) (pcY := 78) (by decide) (pc' := 49) rfl (fun h1 => ?_) (fun h1 => absurd h1 (by decide))
  exact w_ret_v X9 hx hret hlk (hb hby d1_78) (by decide) (by decide) ⟨rfl, N5, c5, F5, kA4, hkA4, P9⟩
def Q_rm3_9 (Z : State) (n0 : Nat) (k0 : ClassId) (k1 : ClassId) (k2 : ClassId) (u0 : Int32) (u1 : Int32) (u2 : Int32) (u3 : Int32) (o3 : Jvm.Cell) (k4 : ClassId) (v : Option Value) (h : Heap) (L : List Loc) : Prop := v = some (.int (1 : Int32)) ∧ Fr n0 L ∧ HP n0 h [AC k0 [.int (1 : Int32), .int (2 : Int32)], AC k1 [.int (1 : Int32), .int (1 : Int32)], AC k2 [.int u0, .int u1, .int u2, .int u3], o3, AC k4 [.int (0 : Int32), .int (1 : Int32)]]
theorem ef_rm3_9 (m : MethodId) (n0 : Nat) (u0 : Int32) (u1 : Int32) (u2 : Int32) (u3 : Int32) : entryFrame m #[.ref (n0 + 3)] 1 = mkF m 0 #[.val (.ref (n0 + 3))] [] := by first | (simp [entryFrame, mkF, argsToLocals, Value.category]; done) | rfl
set_option maxRecDepth 65536 in
set_option maxHeartbeats 40000000 in
theorem rm3_9 (l : Launch) (Z : State) (a0 : Array Value) (hw : ∀ d ∈ tables_1, d.before a0 Z = true) (ws : List Jvm.Cond) (n0 : Nat) (k0 : ClassId) (hk0 : IsA Z k0 .int) (k1 : ClassId) (hk1 : IsA Z k1 .int) (k2 : ClassId) (hk2 : IsA Z k2 .int) (u0 : Int32) (u1 : Int32) (u2 : Int32) (u3 : Int32) (o3 : Jvm.Cell) (Fo3 : ObjF Z o3 "com/example/dirichlet/dirichlet/index/Postings" fl_C0 [.ref (n0 + 0), .ref (n0 + 1), .ref (n0 + 2), .ref (n0 + 4)]) (k4 : ClassId) (hk4 : IsA Z k4 .int) (h0 : Heap) (P0 : HP n0 h0 [AC k0 [.int (1 : Int32), .int (2 : Int32)], AC k1 [.int (1 : Int32), .int (1 : Int32)], AC k2 [.int u0, .int u1, .int u2, .int u3], o3, AC k4 [.int (0 : Int32), .int (1 : Int32)]]) :
    MetFree l (⟨"com/example/dirichlet/dirichlet/index/Postings", "hasPositions", "()Z"⟩ : MethodName) (head1 (Jvm.Cond.code (⟨"com/example/dirichlet/dirichlet/index/Postings", "hasPositions", "()Z"⟩ : MethodName) prog_23_method_5_code 1 (some .boolean) :: ws) ({ frames := 0, cells := 0, slots := 0, locals := 0 } : Room)) (fun a U => a = #[.ref (n0 + 3)] ∧ Z.Warmed39 U.vm ∧ U.heap = h0) (fun _ _ _ _ _ => True) (fun _ U o U' => ∃ v L, o = .returned v ∧ Q_rm3_9 Z n0 k0 k1 k2 u0 u1 u2 u3 o3 k4 v U'.heap L ∧ FrameEnd U o U' L ({ frames := 0, cells := 0, slots := 0, locals := 0 } : Room).cells ({ frames := 0, cells := 0, slots := 0, locals := 0 } : Room).slots) := by
  refine own_body pn3 ?_
  intro p e s m below meth c T0 hx hby hml hret hlk hown hnm hZ X0 e0
  subst e0
  have N0 : Fr n0 [] := Fr.nil n0
  refine own_cast (ef_rm3_9 m n0 u0 u1 u2 u3) ?_
  refine w_aloadN X0 hx (hb hby d3_0) rfl rfl (pc' := 1) rfl ?_
  refine w_getf (i := 3) (v := .ref (n0 + 2)) X0 hx hZ hown (wd14 hw) P0 rfl Fo3 2 rfl rfl (hb hby d3_1) (pc' := 4) rfl ?_
  intro T1 X1 P1
  refine w_ifnullN X1 hx (hb hby d3_4) (pc' := 7) rfl ?_
  refine w_iconst (v := (1 : Int32)) X1 hx (hb hby d3_7) rfl (pc' := 8) rfl ?_
  refine w_goto X1 hx (hb hby d3_8) (by decide) (pc' := 12) (by decide) ?_
  exact w_ret_n (t := .boolean) X1 hx hret hlk (by simp) (hb hby d3_12) (z' := (1 : Int32)) rfl (by decide) (by decide) ⟨rfl, N0, P1⟩
theorem d7_0 : decode jdk_65_method_131_code 0 = .ok (.iload_n 1, 1) := by decide +kernel
theorem d7_1 : decode jdk_65_method_131_code 1 = .ok (.iload_n 0, 1) := by decide +kernel
theorem d7_2 : decode jdk_65_method_131_code 2 = .ok (.if_icmp .ge 35, 3) := by decide +kernel
theorem d7_5 : decode jdk_65_method_131_code 5 = .ok (.new 43, 3) := by decide +kernel
theorem d7_8 : decode jdk_65_method_131_code 8 = .ok (.dup, 1) := by decide +kernel
theorem d7_9 : decode jdk_65_method_131_code 9 = .ok (.new 45, 3) := by decide +kernel
theorem d7_12 : decode jdk_65_method_131_code 12 = .ok (.dup, 1) := by decide +kernel
theorem d7_13 : decode jdk_65_method_131_code 13 = .ok (.invokespecial 47, 3) := by decide +kernel
theorem d7_16 : decode jdk_65_method_131_code 16 = .ok (.iload_n 0, 1) := by decide +kernel
theorem d7_17 : decode jdk_65_method_131_code 17 = .ok (.invokevirtual 54, 3) := by decide +kernel
theorem d7_20 : decode jdk_65_method_131_code 20 = .ok (.ldc_w 337, 3) := by decide +kernel
theorem d7_23 : decode jdk_65_method_131_code 23 = .ok (.invokevirtual 50, 3) := by decide +kernel
theorem d7_26 : decode jdk_65_method_131_code 26 = .ok (.iload_n 1, 1) := by decide +kernel
theorem d7_27 : decode jdk_65_method_131_code 27 = .ok (.invokevirtual 54, 3) := by decide +kernel
theorem d7_30 : decode jdk_65_method_131_code 30 = .ok (.invokevirtual 61, 3) := by decide +kernel
theorem d7_33 : decode jdk_65_method_131_code 33 = .ok (.invokespecial 65, 3) := by decide +kernel
theorem d7_36 : decode jdk_65_method_131_code 36 = .ok (.athrow, 1) := by decide +kernel
theorem d7_37 : decode jdk_65_method_131_code 37 = .ok (.return_, 1) := by decide +kernel
theorem pn7 : plainFor (⟨"java/util/Arrays", "checkLength", "(II)V"⟩ : MethodName) = true := plainFor_of_name (by first | (simp [plainName, overriddenIn]; done) | decide +kernel)
theorem pd7 : parseMethodDescriptor (⟨"java/util/Arrays", "checkLength", "(II)V"⟩ : MethodName).desc = some ⟨[.int, .int], none⟩ := by decide +kernel
def Q_rm7_13 (Z : State) (n0 : Nat) (k0 : ClassId) (k1 : ClassId) (k2 : ClassId) (u0 : Int32) (u1 : Int32) (u2 : Int32) (u3 : Int32) (o3 : Jvm.Cell) (k4 : ClassId) (v : Option Value) (h : Heap) (L : List Loc) : Prop := v = none ∧ Fr n0 L ∧ HP n0 h [AC k0 [.int (1 : Int32), .int (2 : Int32)], AC k1 [.int (1 : Int32), .int (1 : Int32)], AC k2 [.int u0, .int u1, .int u2, .int u3], o3, AC k4 [.int (0 : Int32), .int (1 : Int32)]]
theorem ef_rm7_13 (m : MethodId) (n0 : Nat) (u0 : Int32) (u1 : Int32) (u2 : Int32) (u3 : Int32) : entryFrame m #[.int (1 : Int32), .int (2 : Int32)] 2 = mkF m 0 #[.val (.int (1 : Int32)), .val (.int (2 : Int32))] [] := by first | (simp [entryFrame, mkF, argsToLocals, Value.category]; done) | rfl
set_option maxRecDepth 65536 in
set_option maxHeartbeats 40000000 in
theorem rm7_13 (l : Launch) (Z : State) (a0 : Array Value) (hw : ∀ d ∈ tables_1, d.before a0 Z = true) (ws : List Jvm.Cond) (n0 : Nat) (k0 : ClassId) (hk0 : IsA Z k0 .int) (k1 : ClassId) (hk1 : IsA Z k1 .int) (k2 : ClassId) (hk2 : IsA Z k2 .int) (u0 : Int32) (u1 : Int32) (u2 : Int32) (u3 : Int32) (o3 : Jvm.Cell) (Fo3 : ObjF Z o3 "com/example/dirichlet/dirichlet/index/Postings" fl_C0 [.ref (n0 + 0), .ref (n0 + 1), .ref (n0 + 2), .ref (n0 + 4)]) (k4 : ClassId) (hk4 : IsA Z k4 .int) (h0 : Heap) (P0 : HP n0 h0 [AC k0 [.int (1 : Int32), .int (2 : Int32)], AC k1 [.int (1 : Int32), .int (1 : Int32)], AC k2 [.int u0, .int u1, .int u2, .int u3], o3, AC k4 [.int (0 : Int32), .int (1 : Int32)]]) :
    MetFree l (⟨"java/util/Arrays", "checkLength", "(II)V"⟩ : MethodName) (head1 (Jvm.Cond.code (⟨"java/util/Arrays", "checkLength", "(II)V"⟩ : MethodName) jdk_65_method_131_code 2 none :: ws) ({ frames := 0, cells := 0, slots := 0, locals := 0 } : Room)) (fun a U => a = #[.int (1 : Int32), .int (2 : Int32)] ∧ Z.Warmed39 U.vm ∧ U.heap = h0) (fun _ _ _ _ _ => True) (fun _ U o U' => ∃ v L, o = .returned v ∧ Q_rm7_13 Z n0 k0 k1 k2 u0 u1 u2 u3 o3 k4 v U'.heap L ∧ FrameEnd U o U' L ({ frames := 0, cells := 0, slots := 0, locals := 0 } : Room).cells ({ frames := 0, cells := 0, slots := 0, locals := 0 } : Room).slots) := by
  refine own_body pn7 ?_
  intro p e s m below meth c T0 hx hby hml hret hlk hown hnm hZ X0 e0
  subst e0
  have N0 : Fr n0 [] := Fr.nil n0
  refine own_cast (ef_rm7_13 m n0 u0 u1 u2 u3) ?_
  refine w_iloadN X0 hx (hb hby d7_0) rfl (pc' := 1) rfl ?_
  refine w_iloadN X0 hx (hb hby d7_1) rfl (pc' := 2) rfl ?_
  refine w_icmp_ge X0 hx (hb hby d7_2) (by decide) (pcY := 37) (by decide) (pc' := 5) rfl (fun h0 => ?_) (fun h0 => absurd h0 (by decide))
  exact w_ret_v X0 hx hret hlk (hb hby d7_37) (by decide) (by decide) ⟨rfl, N0, P0⟩
theorem d8_0 : decode jdk_29_method_69_code 0 = .ok (.iload_n 0, 1) := by decide +kernel
theorem d8_1 : decode jdk_29_method_69_code 1 = .ok (.iload_n 1, 1) := by decide +kernel
theorem d8_2 : decode jdk_29_method_69_code 2 = .ok (.if_icmp .gt 7, 3) := by decide +kernel
theorem d8_5 : decode jdk_29_method_69_code 5 = .ok (.iload_n 0, 1) := by decide +kernel
theorem d8_6 : decode jdk_29_method_69_code 6 = .ok (.goto 4, 3) := by decide +kernel
theorem d8_9 : decode jdk_29_method_69_code 9 = .ok (.iload_n 1, 1) := by decide +kernel
theorem d8_10 : decode jdk_29_method_69_code 10 = .ok (.ireturn, 1) := by decide +kernel
theorem pn8 : plainFor (⟨"java/lang/Math", "min", "(II)I"⟩ : MethodName) = true := Jvm.Free.JP.mathPlain rfl (by decide +kernel)
theorem pd8 : parseMethodDescriptor (⟨"java/lang/Math", "min", "(II)I"⟩ : MethodName).desc = some ⟨[.int, .int], some .int⟩ := by decide +kernel
def Q_rm8_14 (Z : State) (n0 : Nat) (k0 : ClassId) (k1 : ClassId) (k2 : ClassId) (u0 : Int32) (u1 : Int32) (u2 : Int32) (u3 : Int32) (o3 : Jvm.Cell) (k4 : ClassId) (k5 : ClassId) (v : Option Value) (h : Heap) (L : List Loc) : Prop := v = some (.int (1 : Int32)) ∧ Fr n0 L ∧ HP n0 h [AC k0 [.int (1 : Int32), .int (2 : Int32)], AC k1 [.int (1 : Int32), .int (1 : Int32)], AC k2 [.int u0, .int u1, .int u2, .int u3], o3, AC k4 [.int (0 : Int32), .int (1 : Int32)], AC k5 [.int (0 : Int32)]]
theorem ef_rm8_14 (m : MethodId) (n0 : Nat) (u0 : Int32) (u1 : Int32) (u2 : Int32) (u3 : Int32) : entryFrame m #[.int (3 : Int32), .int (1 : Int32)] 2 = mkF m 0 #[.val (.int (3 : Int32)), .val (.int (1 : Int32))] [] := by first | (simp [entryFrame, mkF, argsToLocals, Value.category]; done) | rfl
set_option maxRecDepth 65536 in
set_option maxHeartbeats 40000000 in
theorem rm8_14 (l : Launch) (Z : State) (a0 : Array Value) (hw : ∀ d ∈ tables_1, d.before a0 Z = true) (ws : List Jvm.Cond) (n0 : Nat) (k0 : ClassId) (hk0 : IsA Z k0 .int) (k1 : ClassId) (hk1 : IsA Z k1 .int) (k2 : ClassId) (hk2 : IsA Z k2 .int) (u0 : Int32) (u1 : Int32) (u2 : Int32) (u3 : Int32) (o3 : Jvm.Cell) (Fo3 : ObjF Z o3 "com/example/dirichlet/dirichlet/index/Postings" fl_C0 [.ref (n0 + 0), .ref (n0 + 1), .ref (n0 + 2), .ref (n0 + 4)]) (k4 : ClassId) (hk4 : IsA Z k4 .int) (k5 : ClassId) (hk5 : IsA Z k5 .int) (h0 : Heap) (P0 : HP n0 h0 [AC k0 [.int (1 : Int32), .int (2 : Int32)], AC k1 [.int (1 : Int32), .int (1 : Int32)], AC k2 [.int u0, .int u1, .int u2, .int u3], o3, AC k4 [.int (0 : Int32), .int (1 : Int32)], AC k5 [.int (0 : Int32)]]) :
    MetFree l (⟨"java/lang/Math", "min", "(II)I"⟩ : MethodName) (head1 (Jvm.Cond.code (⟨"java/lang/Math", "min", "(II)I"⟩ : MethodName) jdk_29_method_69_code 2 (some .int) :: ws) ({ frames := 0, cells := 0, slots := 0, locals := 0 } : Room)) (fun a U => a = #[.int (3 : Int32), .int (1 : Int32)] ∧ Z.Warmed39 U.vm ∧ U.heap = h0) (fun _ _ _ _ _ => True) (fun _ U o U' => ∃ v L, o = .returned v ∧ Q_rm8_14 Z n0 k0 k1 k2 u0 u1 u2 u3 o3 k4 k5 v U'.heap L ∧ FrameEnd U o U' L ({ frames := 0, cells := 0, slots := 0, locals := 0 } : Room).cells ({ frames := 0, cells := 0, slots := 0, locals := 0 } : Room).slots) := by
  refine own_body pn8 ?_
  intro p e s m below meth c T0 hx hby hml hret hlk hown hnm hZ X0 e0
  subst e0
  have N0 : Fr n0 [] := Fr.nil n0
  refine own_cast (ef_rm8_14 m n0 u0 u1 u2 u3) ?_
  refine w_iloadN X0 hx (hb hby d8_0) rfl (pc' := 1) rfl ?_
  refine w_iloadN X0 hx (hb hby d8_1) rfl (pc' := 2) rfl ?_
  refine w_icmp_gt X0 hx (hb hby d8_2) (by decide) (pcY := 9) (by decide) (pc' := 5) rfl (fun h0 => ?_) (fun h0 => absurd h0 (by decide))
  refine w_iloadN X0 hx (hb hby d8_9) rfl (pc' := 10) rfl ?_
  exact w_ret_i X0 hx hret hlk (hb hby d8_10) (by decide) (by decide) ⟨rfl, N0, P0⟩
theorem d6_0 : decode jdk_65_method_137_code 0 = .ok (.iload_n 1, 1) := by decide +kernel
theorem d6_1 : decode jdk_65_method_137_code 1 = .ok (.iload_n 2, 1) := by decide +kernel
theorem d6_2 : decode jdk_65_method_137_code 2 = .ok (.invokestatic 343, 3) := by decide +kernel
theorem d6_5 : decode jdk_65_method_137_code 5 = .ok (.iload_n 2, 1) := by decide +kernel
theorem d6_6 : decode jdk_65_method_137_code 6 = .ok (.iload_n 1, 1) := by decide +kernel
theorem d6_7 : decode jdk_65_method_137_code 7 = .ok (.isub, 1) := by decide +kernel
theorem d6_8 : decode jdk_65_method_137_code 8 = .ok (.istore_n 3, 1) := by decide +kernel
theorem d6_9 : decode jdk_65_method_137_code 9 = .ok (.iload_n 3, 1) := by decide +kernel
theorem d6_10 : decode jdk_65_method_137_code 10 = .ok (.newarray .int, 2) := by decide +kernel
theorem d6_12 : decode jdk_65_method_137_code 12 = .ok (.astore 4, 2) := by decide +kernel
theorem d6_14 : decode jdk_65_method_137_code 14 = .ok (.aload_n 0, 1) := by decide +kernel
theorem d6_15 : decode jdk_65_method_137_code 15 = .ok (.iload_n 1, 1) := by decide +kernel
theorem d6_16 : decode jdk_65_method_137_code 16 = .ok (.aload 4, 2) := by decide +kernel
theorem d6_18 : decode jdk_65_method_137_code 18 = .ok (.iconst 0, 1) := by decide +kernel
theorem d6_19 : decode jdk_65_method_137_code 19 = .ok (.aload_n 0, 1) := by decide +kernel
theorem d6_20 : decode jdk_65_method_137_code 20 = .ok (.arraylength, 1) := by decide +kernel
theorem d6_21 : decode jdk_65_method_137_code 21 = .ok (.iload_n 1, 1) := by decide +kernel
theorem d6_22 : decode jdk_65_method_137_code 22 = .ok (.isub, 1) := by decide +kernel
theorem d6_23 : decode jdk_65_method_137_code 23 = .ok (.iload_n 3, 1) := by decide +kernel
theorem d6_24 : decode jdk_65_method_137_code 24 = .ok (.invokestatic 304, 3) := by decide +kernel
theorem d6_27 : decode jdk_65_method_137_code 27 = .ok (.invokestatic 150, 3) := by decide +kernel
theorem d6_30 : decode jdk_65_method_137_code 30 = .ok (.aload 4, 2) := by decide +kernel
theorem d6_32 : decode jdk_65_method_137_code 32 = .ok (.areturn, 1) := by decide +kernel
theorem pn6 : plainFor (⟨"java/util/Arrays", "copyOfRangeInt", "([III)[I"⟩ : MethodName) = true := plainFor_of_name (by first | (simp [plainName, overriddenIn]; done) | decide +kernel)
theorem pd6 : parseMethodDescriptor (⟨"java/util/Arrays", "copyOfRangeInt", "([III)[I"⟩ : MethodName).desc = some ⟨[(.array .int), .int, .int], some (.array .int)⟩ := by decide +kernel
def Q_rm6_12 (Z : State) (n0 : Nat) (k0 : ClassId) (k1 : ClassId) (k2 : ClassId) (u0 : Int32) (u1 : Int32) (u2 : Int32) (u3 : Int32) (o3 : Jvm.Cell) (k4 : ClassId) (v : Option Value) (h : Heap) (L : List Loc) : Prop := v = some (.ref (n0 + 5)) ∧ Fr n0 L ∧ ∃ kA1 : ClassId, IsA Z kA1 .int ∧ HP n0 h [AC k0 [.int (1 : Int32), .int (2 : Int32)], AC k1 [.int (1 : Int32), .int (1 : Int32)], AC k2 [.int u0, .int u1, .int u2, .int u3], o3, AC k4 [.int (0 : Int32), .int (1 : Int32)], AC kA1 [.int u1]]
theorem ef_rm6_12 (m : MethodId) (n0 : Nat) (u0 : Int32) (u1 : Int32) (u2 : Int32) (u3 : Int32) : entryFrame m #[.ref (n0 + 2), .int (1 : Int32), .int (2 : Int32)] 5 = mkF m 0 #[.val (.ref (n0 + 2)), .val (.int (1 : Int32)), .val (.int (2 : Int32)), .unset, .unset] [] := by first | (simp [entryFrame, mkF, argsToLocals, Value.category]; done) | rfl
set_option maxRecDepth 65536 in
set_option maxHeartbeats 40000000 in
theorem rm6_12 (l : Launch) (Z : State) (a0 : Array Value) (hw : ∀ d ∈ tables_1, d.before a0 Z = true) (ws : List Jvm.Cond) (n0 : Nat) (k0 : ClassId) (hk0 : IsA Z k0 .int) (k1 : ClassId) (hk1 : IsA Z k1 .int) (k2 : ClassId) (hk2 : IsA Z k2 .int) (u0 : Int32) (u1 : Int32) (u2 : Int32) (u3 : Int32) (o3 : Jvm.Cell) (Fo3 : ObjF Z o3 "com/example/dirichlet/dirichlet/index/Postings" fl_C0 [.ref (n0 + 0), .ref (n0 + 1), .ref (n0 + 2), .ref (n0 + 4)]) (k4 : ClassId) (hk4 : IsA Z k4 .int) (h0 : Heap) (P0 : HP n0 h0 [AC k0 [.int (1 : Int32), .int (2 : Int32)], AC k1 [.int (1 : Int32), .int (1 : Int32)], AC k2 [.int u0, .int u1, .int u2, .int u3], o3, AC k4 [.int (0 : Int32), .int (1 : Int32)]]) :
    MetFree l (⟨"java/util/Arrays", "copyOfRangeInt", "([III)[I"⟩ : MethodName) (head1 (Jvm.Cond.code (⟨"java/util/Arrays", "copyOfRangeInt", "([III)[I"⟩ : MethodName) jdk_65_method_137_code 5 (some (.array .int)) :: ws) ({ frames := 1, cells := 1, slots := 1, locals := 18 } : Room)) (fun a U => a = #[.ref (n0 + 2), .int (1 : Int32), .int (2 : Int32)] ∧ Z.Warmed39 U.vm ∧ U.heap = h0) (fun _ _ _ _ _ => True) (fun _ U o U' => ∃ v L, o = .returned v ∧ Q_rm6_12 Z n0 k0 k1 k2 u0 u1 u2 u3 o3 k4 v U'.heap L ∧ FrameEnd U o U' L ({ frames := 1, cells := 1, slots := 1, locals := 18 } : Room).cells ({ frames := 1, cells := 1, slots := 1, locals := 18 } : Room).slots) := by
  refine own_body pn6 ?_
  intro p e s m below meth c T0 hx hby hml hret hlk hown hnm hZ X0 e0
  subst e0
  have N0 : Fr n0 [] := Fr.nil n0
  refine own_cast (ef_rm6_12 m n0 u0 u1 u2 u3) ?_
  refine w_iloadN X0 hx (hb hby d6_0) rfl (pc' := 1) rfl ?_
  refine w_iloadN X0 hx (hb hby d6_1) rfl (pc' := 2) rfl ?_
  refine own_call (W := 0) X0 hx hZ rfl hown hml.symm (wd35 hw) (wd36 hw) (wd30 hw) (wd37 hw) (rm7_13 l Z a0 hw [] n0 k0 hk0 k1 hk1 k2 hk2 u0 u1 u2 u3 o3 Fo3 k4 hk4 _ P0) (by decide) (by decide) (by decide) (by decide) (by decide) (argsL := [.int (1 : Int32), .int (2 : Int32)]) (rest := []) pd7 rfl rfl rfl (Nat.le_of_eq rfl) (hb hby d6_2) (pc' := 5) rfl ?_
  intro _ T1 L1 X1 hq
  obtain ⟨rfl, N1, P1⟩ := hq
  replace N1 := Fr.app N0 N1
  replace P1 : HP n0 T1.heap [AC k0 [.int (1 : Int32), .int (2 : Int32)], AC k1 [.int (1 : Int32), .int (1 : Int32)], AC k2 [.int u0, .int u1, .int u2, .int u3], o3, AC k4 [.int (0 : Int32), .int (1 : Int32)]] := P1
  refine w_iloadN X1 hx (hb hby d6_5) rfl (pc' := 6) rfl ?_
  refine w_iloadN X1 hx (hb hby d6_6) rfl (pc' := 7) rfl ?_
  refine w_isub X1 hx (hb hby d6_7) (pc' := 8) rfl ?_
  refine w_eqI (z := (1 : Int32)) (by decide) ?_
  refine w_istoreN (l' := #[.val (.ref (n0 + 2)), .val (.int (1 : Int32)), .val (.int (2 : Int32)), .val (.int (1 : Int32)), .unset]) X1 hx (hb hby d6_8) rfl (pc' := 9) rfl ?_
  refine w_iloadN X1 hx (hb hby d6_9) rfl (pc' := 10) rfl ?_
  refine w_newarr (N := 1) (j := 5) X1 hx hZ P1 (ty := .int) rfl (wd0 hw) (hb hby d6_10) (by decide) (by decide) (by decide) (by decide) rfl (pc' := 12) rfl ?_
  intro T2 kA1 X2 hkA1 P2
  replace P2 : HP n0 T2.heap [AC k0 [.int (1 : Int32), .int (2 : Int32)], AC k1 [.int (1 : Int32), .int (1 : Int32)], AC k2 [.int u0, .int u1, .int u2, .int u3], o3, AC k4 [.int (0 : Int32), .int (1 : Int32)], AC kA1 [.int (0 : Int32)]] := P2
  refine w_astore (l' := #[.val (.ref (n0 + 2)), .val (.int (1 : Int32)), .val (.int (2 : Int32)), .val (.int (1 : Int32)), .val (.ref (n0 + 5))]) X2 hx (hb hby d6_12) rfl rfl (pc' := 14) rfl ?_
  refine w_aloadN X2 hx (hb hby d6_14) rfl rfl (pc' := 15) rfl ?_
  refine w_iloadN X2 hx (hb hby d6_15) rfl (pc' := 16) rfl ?_
  refine w_aload X2 hx (hb hby d6_16) rfl rfl (pc' := 18) rfl ?_
  refine w_iconst (v := (0 : Int32)) X2 hx (hb hby d6_18) rfl (pc' := 19) rfl ?_
  refine w_aloadN X2 hx (hb hby d6_19) rfl rfl (pc' := 20) rfl ?_
  refine w_arrlen (i := 2) X2 hx hZ P2 rfl hk2 (hb hby d6_20) (z := (4 : Int32)) rfl (pc' := 21) rfl ?_
  refine w_iloadN X2 hx (hb hby d6_21) rfl (pc' := 22) rfl ?_
  refine w_isub X2 hx (hb hby d6_22) (pc' := 23) rfl ?_
  refine w_eqI (z := (3 : Int32)) (by decide) ?_
  refine w_iloadN X2 hx (hb hby d6_23) rfl (pc' := 24) rfl ?_
  refine own_call (W := 4) X2 hx hZ rfl hown hml.symm (wd38 hw) (wd39 hw) (wd40 hw) (wd41 hw) (rm8_14 l Z a0 hw [] n0 k0 hk0 k1 hk1 k2 hk2 u0 u1 u2 u3 o3 Fo3 k4 hk4 kA1 hkA1 _ P2) (by decide) (by decide) (by decide) (by decide) (by decide) (argsL := [.int (3 : Int32), .int (1 : Int32)]) (rest := [.int (0 : Int32), .ref (n0 + 5), .int (1 : Int32), .ref (n0 + 2)]) pd8 rfl rfl rfl (Nat.le_of_eq rfl) (hb hby d6_24) (pc' := 27) rfl ?_
  intro _ T3 L2 X3 hq
  obtain ⟨rfl, N2, P3⟩ := hq
  replace N2 := Fr.app N1 N2
  replace P3 : HP n0 T3.heap [AC k0 [.int (1 : Int32), .int (2 : Int32)], AC k1 [.int (1 : Int32), .int (1 : Int32)], AC k2 [.int u0, .int u1, .int u2, .int u3], o3, AC k4 [.int (0 : Int32), .int (1 : Int32)], AC kA1 [.int (0 : Int32)]] := P3
  refine w_acopy (W := 0) (i := 2) (j := 5) (sn := 1) (dn := 0) (n := 1) (vd' := [.int u1]) X3 hx hZ hown (by rw [hml]; rfl) (wd42 hw) (wd45 hw) (wd43 hw) (wd44 hw) N2 P3 rfl rfl hk2 hkA1 rfl (by simp [fits]) (by decide) (by decide) (by decide) (Nat.le_of_ble_eq_true rfl) (Nat.le_of_ble_eq_true rfl) (hb hby d6_27) (by decide) (Nat.le_of_eq rfl) (by decide) rfl (pc' := 30) rfl ?_
  intro T4 L3 N3 X4 P4
  replace P4 : HP n0 T4.heap [AC k0 [.int (1 : Int32), .int (2 : Int32)], AC k1 [.int (1 : Int32), .int (1 : Int32)], AC k2 [.int u0, .int u1, .int u2, .int u3], o3, AC k4 [.int (0 : Int32), .int (1 : Int32)], AC kA1 [.int u1]] := P4
  refine w_aload X4 hx (hb hby d6_30) rfl rfl (pc' := 32) rfl ?_
  exact w_ret_a X4 hx rfl hret rfl hlk (hb hby d6_32) (by decide) (by decide) ⟨rfl, N3, kA1, hkA1, P4⟩
theorem d5_0 : decode jdk_65_method_136_code 0 = .ok (.iload_n 1, 1) := by decide +kernel
theorem d5_1 : decode jdk_65_method_136_code 1 = .ok (.ifCond .ne 9, 3) := by decide +kernel
theorem d5_4 : decode jdk_65_method_136_code 4 = .ok (.iload_n 2, 1) := by decide +kernel
theorem d5_5 : decode jdk_65_method_136_code 5 = .ok (.aload_n 0, 1) := by decide +kernel
theorem d5_6 : decode jdk_65_method_136_code 6 = .ok (.arraylength, 1) := by decide +kernel
theorem d5_7 : decode jdk_65_method_136_code 7 = .ok (.if_icmp .eq 10, 3) := by decide +kernel
theorem d5_10 : decode jdk_65_method_136_code 10 = .ok (.aload_n 0, 1) := by decide +kernel
theorem d5_11 : decode jdk_65_method_136_code 11 = .ok (.iload_n 1, 1) := by decide +kernel
theorem d5_12 : decode jdk_65_method_136_code 12 = .ok (.iload_n 2, 1) := by decide +kernel
theorem d5_13 : decode jdk_65_method_136_code 13 = .ok (.invokestatic 351, 3) := by decide +kernel
theorem d5_16 : decode jdk_65_method_136_code 16 = .ok (.areturn, 1) := by decide +kernel
theorem d5_17 : decode jdk_65_method_136_code 17 = .ok (.aload_n 0, 1) := by decide +kernel
theorem d5_18 : decode jdk_65_method_136_code 18 = .ok (.invokevirtual 316, 3) := by decide +kernel
theorem d5_21 : decode jdk_65_method_136_code 21 = .ok (.checkcast 317, 3) := by decide +kernel
theorem d5_24 : decode jdk_65_method_136_code 24 = .ok (.areturn, 1) := by decide +kernel
theorem pn5 : plainFor (⟨"java/util/Arrays", "copyOfRange", "([III)[I"⟩ : MethodName) = true := plainFor_of_name (by first | (simp [plainName, overriddenIn]; done) | decide +kernel)
theorem pd5 : parseMethodDescriptor (⟨"java/util/Arrays", "copyOfRange", "([III)[I"⟩ : MethodName).desc = some ⟨[(.array .int), .int, .int], some (.array .int)⟩ := by decide +kernel
def Q_rm5_11 (Z : State) (n0 : Nat) (k0 : ClassId) (k1 : ClassId) (k2 : ClassId) (u0 : Int32) (u1 : Int32) (u2 : Int32) (u3 : Int32) (o3 : Jvm.Cell) (k4 : ClassId) (v : Option Value) (h : Heap) (L : List Loc) : Prop := v = some (.ref (n0 + 5)) ∧ Fr n0 L ∧ ∃ kA1 : ClassId, IsA Z kA1 .int ∧ HP n0 h [AC k0 [.int (1 : Int32), .int (2 : Int32)], AC k1 [.int (1 : Int32), .int (1 : Int32)], AC k2 [.int u0, .int u1, .int u2, .int u3], o3, AC k4 [.int (0 : Int32), .int (1 : Int32)], AC kA1 [.int u1]]
theorem ef_rm5_11 (m : MethodId) (n0 : Nat) (u0 : Int32) (u1 : Int32) (u2 : Int32) (u3 : Int32) : entryFrame m #[.ref (n0 + 2), .int (1 : Int32), .int (2 : Int32)] 3 = mkF m 0 #[.val (.ref (n0 + 2)), .val (.int (1 : Int32)), .val (.int (2 : Int32))] [] := by first | (simp [entryFrame, mkF, argsToLocals, Value.category]; done) | rfl
set_option maxRecDepth 65536 in
set_option maxHeartbeats 40000000 in
theorem rm5_11 (l : Launch) (Z : State) (a0 : Array Value) (hw : ∀ d ∈ tables_1, d.before a0 Z = true) (ws : List Jvm.Cond) (n0 : Nat) (k0 : ClassId) (hk0 : IsA Z k0 .int) (k1 : ClassId) (hk1 : IsA Z k1 .int) (k2 : ClassId) (hk2 : IsA Z k2 .int) (u0 : Int32) (u1 : Int32) (u2 : Int32) (u3 : Int32) (o3 : Jvm.Cell) (Fo3 : ObjF Z o3 "com/example/dirichlet/dirichlet/index/Postings" fl_C0 [.ref (n0 + 0), .ref (n0 + 1), .ref (n0 + 2), .ref (n0 + 4)]) (k4 : ClassId) (hk4 : IsA Z k4 .int) (h0 : Heap) (P0 : HP n0 h0 [AC k0 [.int (1 : Int32), .int (2 : Int32)], AC k1 [.int (1 : Int32), .int (1 : Int32)], AC k2 [.int u0, .int u1, .int u2, .int u3], o3, AC k4 [.int (0 : Int32), .int (1 : Int32)]]) :
    MetFree l (⟨"java/util/Arrays", "copyOfRange", "([III)[I"⟩ : MethodName) (head1 (Jvm.Cond.code (⟨"java/util/Arrays", "copyOfRange", "([III)[I"⟩ : MethodName) jdk_65_method_136_code 3 (some (.array .int)) :: ws) ({ frames := 2, cells := 1, slots := 1, locals := 34 } : Room)) (fun a U => a = #[.ref (n0 + 2), .int (1 : Int32), .int (2 : Int32)] ∧ Z.Warmed39 U.vm ∧ U.heap = h0) (fun _ _ _ _ _ => True) (fun _ U o U' => ∃ v L, o = .returned v ∧ Q_rm5_11 Z n0 k0 k1 k2 u0 u1 u2 u3 o3 k4 v U'.heap L ∧ FrameEnd U o U' L ({ frames := 2, cells := 1, slots := 1, locals := 34 } : Room).cells ({ frames := 2, cells := 1, slots := 1, locals := 34 } : Room).slots) := by
  refine own_body pn5 ?_
  intro p e s m below meth c T0 hx hby hml hret hlk hown hnm hZ X0 e0
  subst e0
  have N0 : Fr n0 [] := Fr.nil n0
  refine own_cast (ef_rm5_11 m n0 u0 u1 u2 u3) ?_
  refine w_iloadN X0 hx (hb hby d5_0) rfl (pc' := 1) rfl ?_
  refine w_if_ne X0 hx (hb hby d5_1) (by decide) (pcY := 10) (by decide) (pc' := 4) rfl (fun h0 => ?_) (fun h0 => absurd h0 (by decide))
  refine w_aloadN X0 hx (hb hby d5_10) rfl rfl (pc' := 11) rfl ?_
  refine w_iloadN X0 hx (hb hby d5_11) rfl (pc' := 12) rfl ?_
  refine w_iloadN X0 hx (hb hby d5_12) rfl (pc' := 13) rfl ?_
  refine own_call (W := 0) X0 hx hZ rfl hown hml.symm (wd32 hw) (wd33 hw) (wd30 hw) (wd34 hw) (rm6_12 l Z a0 hw [] n0 k0 hk0 k1 hk1 k2 hk2 u0 u1 u2 u3 o3 Fo3 k4 hk4 _ P0) (by decide) (by decide) (by decide) (by decide) (by decide) (argsL := [.ref (n0 + 2), .int (1 : Int32), .int (2 : Int32)]) (rest := []) pd6 rfl rfl rfl (Nat.le_of_eq rfl) (hb hby d5_13) (pc' := 16) rfl ?_
  intro _ T1 L1 X1 hq
  obtain ⟨rfl, N1, kA1, hkA1, P1⟩ := hq
  replace N1 := Fr.app N0 N1
  replace P1 : HP n0 T1.heap [AC k0 [.int (1 : Int32), .int (2 : Int32)], AC k1 [.int (1 : Int32), .int (1 : Int32)], AC k2 [.int u0, .int u1, .int u2, .int u3], o3, AC k4 [.int (0 : Int32), .int (1 : Int32)], AC kA1 [.int u1]] := P1
  exact w_ret_a X1 hx rfl hret rfl hlk (hb hby d5_16) (by decide) (by decide) ⟨rfl, N1, kA1, hkA1, P1⟩
theorem d4_0 : decode prog_23_method_6_code 0 = .ok (.aload_n 0, 1) := by decide +kernel
theorem d4_1 : decode prog_23_method_6_code 1 = .ok (.getfield 16, 3) := by decide +kernel
theorem d4_4 : decode prog_23_method_6_code 4 = .ok (.ifnonnull 13, 3) := by decide +kernel
theorem d4_7 : decode prog_23_method_6_code 7 = .ok (.new 22, 3) := by decide +kernel
theorem d4_10 : decode prog_23_method_6_code 10 = .ok (.dup, 1) := by decide +kernel
theorem d4_11 : decode prog_23_method_6_code 11 = .ok (.ldc 24, 2) := by decide +kernel
theorem d4_13 : decode prog_23_method_6_code 13 = .ok (.invokespecial 26, 3) := by decide +kernel
theorem d4_16 : decode prog_23_method_6_code 16 = .ok (.athrow, 1) := by decide +kernel
theorem d4_17 : decode prog_23_method_6_code 17 = .ok (.aload_n 0, 1) := by decide +kernel
theorem d4_18 : decode prog_23_method_6_code 18 = .ok (.getfield 16, 3) := by decide +kernel
theorem d4_21 : decode prog_23_method_6_code 21 = .ok (.aload_n 0, 1) := by decide +kernel
theorem d4_22 : decode prog_23_method_6_code 22 = .ok (.getfield 19, 3) := by decide +kernel
theorem d4_25 : decode prog_23_method_6_code 25 = .ok (.iload_n 1, 1) := by decide +kernel
theorem d4_26 : decode prog_23_method_6_code 26 = .ok (.iaload, 1) := by decide +kernel
theorem d4_27 : decode prog_23_method_6_code 27 = .ok (.aload_n 0, 1) := by decide +kernel
theorem d4_28 : decode prog_23_method_6_code 28 = .ok (.getfield 19, 3) := by decide +kernel
theorem d4_31 : decode prog_23_method_6_code 31 = .ok (.iload_n 1, 1) := by decide +kernel
theorem d4_32 : decode prog_23_method_6_code 32 = .ok (.iaload, 1) := by decide +kernel
theorem d4_33 : decode prog_23_method_6_code 33 = .ok (.aload_n 0, 1) := by decide +kernel
theorem d4_34 : decode prog_23_method_6_code 34 = .ok (.getfield 13, 3) := by decide +kernel
theorem d4_37 : decode prog_23_method_6_code 37 = .ok (.iload_n 1, 1) := by decide +kernel
theorem d4_38 : decode prog_23_method_6_code 38 = .ok (.iaload, 1) := by decide +kernel
theorem d4_39 : decode prog_23_method_6_code 39 = .ok (.iadd, 1) := by decide +kernel
theorem d4_40 : decode prog_23_method_6_code 40 = .ok (.invokestatic 29, 3) := by decide +kernel
theorem d4_43 : decode prog_23_method_6_code 43 = .ok (.areturn, 1) := by decide +kernel
theorem pn4 : plainFor (⟨"com/example/dirichlet/dirichlet/index/Postings", "positions", "(I)[I"⟩ : MethodName) = true := plainFor_of_name (by first | (simp [plainName, overriddenIn]; done) | decide +kernel)
theorem pd4 : parseMethodDescriptor (⟨"com/example/dirichlet/dirichlet/index/Postings", "positions", "(I)[I"⟩ : MethodName).desc = some ⟨[.int], some (.array .int)⟩ := by decide +kernel
def Q_rm4_10 (Z : State) (n0 : Nat) (k0 : ClassId) (k1 : ClassId) (k2 : ClassId) (u0 : Int32) (u1 : Int32) (u2 : Int32) (u3 : Int32) (o3 : Jvm.Cell) (k4 : ClassId) (v : Option Value) (h : Heap) (L : List Loc) : Prop := v = some (.ref (n0 + 5)) ∧ Fr n0 L ∧ ∃ kA1 : ClassId, IsA Z kA1 .int ∧ HP n0 h [AC k0 [.int (1 : Int32), .int (2 : Int32)], AC k1 [.int (1 : Int32), .int (1 : Int32)], AC k2 [.int u0, .int u1, .int u2, .int u3], o3, AC k4 [.int (0 : Int32), .int (1 : Int32)], AC kA1 [.int u1]]
theorem ef_rm4_10 (m : MethodId) (n0 : Nat) (u0 : Int32) (u1 : Int32) (u2 : Int32) (u3 : Int32) : entryFrame m #[.ref (n0 + 3), .int (1 : Int32)] 2 = mkF m 0 #[.val (.ref (n0 + 3)), .val (.int (1 : Int32))] [] := by first | (simp [entryFrame, mkF, argsToLocals, Value.category]; done) | rfl
set_option maxRecDepth 65536 in
set_option maxHeartbeats 40000000 in
theorem rm4_10 (l : Launch) (Z : State) (a0 : Array Value) (hw : ∀ d ∈ tables_1, d.before a0 Z = true) (ws : List Jvm.Cond) (n0 : Nat) (k0 : ClassId) (hk0 : IsA Z k0 .int) (k1 : ClassId) (hk1 : IsA Z k1 .int) (k2 : ClassId) (hk2 : IsA Z k2 .int) (u0 : Int32) (u1 : Int32) (u2 : Int32) (u3 : Int32) (o3 : Jvm.Cell) (Fo3 : ObjF Z o3 "com/example/dirichlet/dirichlet/index/Postings" fl_C0 [.ref (n0 + 0), .ref (n0 + 1), .ref (n0 + 2), .ref (n0 + 4)]) (k4 : ClassId) (hk4 : IsA Z k4 .int) (h0 : Heap) (P0 : HP n0 h0 [AC k0 [.int (1 : Int32), .int (2 : Int32)], AC k1 [.int (1 : Int32), .int (1 : Int32)], AC k2 [.int u0, .int u1, .int u2, .int u3], o3, AC k4 [.int (0 : Int32), .int (1 : Int32)]]) :
    MetFree l (⟨"com/example/dirichlet/dirichlet/index/Postings", "positions", "(I)[I"⟩ : MethodName) (head1 (Jvm.Cond.code (⟨"com/example/dirichlet/dirichlet/index/Postings", "positions", "(I)[I"⟩ : MethodName) prog_23_method_6_code 2 (some (.array .int)) :: ws) ({ frames := 3, cells := 1, slots := 1, locals := 48 } : Room)) (fun a U => a = #[.ref (n0 + 3), .int (1 : Int32)] ∧ Z.Warmed39 U.vm ∧ U.heap = h0) (fun _ _ _ _ _ => True) (fun _ U o U' => ∃ v L, o = .returned v ∧ Q_rm4_10 Z n0 k0 k1 k2 u0 u1 u2 u3 o3 k4 v U'.heap L ∧ FrameEnd U o U' L ({ frames := 3, cells := 1, slots := 1, locals := 48 } : Room).cells ({ frames := 3, cells := 1, slots := 1, locals := 48 } : Room).slots) := by
  refine own_body pn4 ?_
  intro p e s m below meth c T0 hx hby hml hret hlk hown hnm hZ X0 e0
  subst e0
  have N0 : Fr n0 [] := Fr.nil n0
  refine own_cast (ef_rm4_10 m n0 u0 u1 u2 u3) ?_
  refine w_aloadN X0 hx (hb hby d4_0) rfl rfl (pc' := 1) rfl ?_
  refine w_getf (i := 3) (v := .ref (n0 + 2)) X0 hx hZ hown (wd14 hw) P0 rfl Fo3 2 rfl rfl (hb hby d4_1) (pc' := 4) rfl ?_
  intro T1 X1 P1
  refine w_ifnonnullY X1 hx (hb hby d4_4) (by decide) (pc' := 17) (by decide) ?_
  refine w_aloadN X1 hx (hb hby d4_17) rfl rfl (pc' := 18) rfl ?_
  refine w_getf (i := 3) (v := .ref (n0 + 2)) X1 hx hZ hown (wd14 hw) P1 rfl Fo3 2 rfl rfl (hb hby d4_18) (pc' := 21) rfl ?_
  intro T2 X2 P2
  refine w_aloadN X2 hx (hb hby d4_21) rfl rfl (pc' := 22) rfl ?_
  refine w_getf (i := 3) (v := .ref (n0 + 4)) X2 hx hZ hown (wd16 hw) P2 rfl Fo3 3 rfl rfl (hb hby d4_22) (pc' := 25) rfl ?_
  intro T3 X3 P3
  refine w_iloadN X3 hx (hb hby d4_25) rfl (pc' := 26) rfl ?_
  refine w_iaload (i := 4) (jn := 1) (v := .int (1 : Int32)) X3 hx hZ P3 rfl hk4 (hb hby d4_26) (by decide) rfl (pc' := 27) rfl ?_
  refine w_aloadN X3 hx (hb hby d4_27) rfl rfl (pc' := 28) rfl ?_
  refine w_getf (i := 3) (v := .ref (n0 + 4)) X3 hx hZ hown (wd16 hw) P3 rfl Fo3 3 rfl rfl (hb hby d4_28) (pc' := 31) rfl ?_
  intro T4 X4 P4
  refine w_iloadN X4 hx (hb hby d4_31) rfl (pc' := 32) rfl ?_
  refine w_iaload (i := 4) (jn := 1) (v := .int (1 : Int32)) X4 hx hZ P4 rfl hk4 (hb hby d4_32) (by decide) rfl (pc' := 33) rfl ?_
  refine w_aloadN X4 hx (hb hby d4_33) rfl rfl (pc' := 34) rfl ?_
  refine w_getf (i := 3) (v := .ref (n0 + 1)) X4 hx hZ hown (wd12 hw) P4 rfl Fo3 1 rfl rfl (hb hby d4_34) (pc' := 37) rfl ?_
  intro T5 X5 P5
  refine w_iloadN X5 hx (hb hby d4_37) rfl (pc' := 38) rfl ?_
  refine w_iaload (i := 1) (jn := 1) (v := .int (1 : Int32)) X5 hx hZ P5 rfl hk1 (hb hby d4_38) (by decide) rfl (pc' := 39) rfl ?_
  refine w_iadd X5 hx (hb hby d4_39) (pc' := 40) rfl ?_
  refine w_eqI (z := (2 : Int32)) (by decide) ?_
  refine own_call (W := 0) X5 hx hZ rfl hown hml.symm (wd28 hw) (wd29 hw) (wd30 hw) (wd31 hw) (rm5_11 l Z a0 hw [] n0 k0 hk0 k1 hk1 k2 hk2 u0 u1 u2 u3 o3 Fo3 k4 hk4 _ P5) (by decide) (by decide) (by decide) (by decide) (by decide) (argsL := [.ref (n0 + 2), .int (1 : Int32), .int (2 : Int32)]) (rest := []) pd5 rfl rfl rfl (Nat.le_of_eq rfl) (hb hby d4_40) (pc' := 43) rfl ?_
  intro _ T6 L1 X6 hq
  obtain ⟨rfl, N1, kA1, hkA1, P6⟩ := hq
  replace N1 := Fr.app N0 N1
  replace P6 : HP n0 T6.heap [AC k0 [.int (1 : Int32), .int (2 : Int32)], AC k1 [.int (1 : Int32), .int (1 : Int32)], AC k2 [.int u0, .int u1, .int u2, .int u3], o3, AC k4 [.int (0 : Int32), .int (1 : Int32)], AC kA1 [.int u1]] := P6
  exact w_ret_a X6 hx rfl hret rfl hlk (hb hby d4_43) (by decide) (by decide) ⟨rfl, N1, kA1, hkA1, P6⟩
def Q_rm1_15 (Z : State) (n0 : Nat) (k0 : ClassId) (k1 : ClassId) (k2 : ClassId) (u0 : Int32) (u1 : Int32) (u2 : Int32) (u3 : Int32) (o3 : Jvm.Cell) (v : Option Value) (h : Heap) (L : List Loc) : Prop := v = none ∧ Fr n0 L ∧ ∃ c5 : Jvm.Cell, ObjF Z c5 "com/example/dirichlet/dirichlet/index/Postings" fl_C0 [.ref (n0 + 0), .ref (n0 + 1), .ref (n0 + 2), .ref (n0 + 4)] ∧ ∃ kA4 : ClassId, IsA Z kA4 .int ∧ HP n0 h [AC k0 [.int (1 : Int32), .int (2 : Int32)], AC k1 [.int (1 : Int32), .int (2 : Int32)], AC k2 [.int u0, .int u1, .int u2, .int u3], c5, AC kA4 [.int (0 : Int32), .int (1 : Int32)]]
theorem ef_rm1_15 (m : MethodId) (n0 : Nat) (u0 : Int32) (u1 : Int32) (u2 : Int32) (u3 : Int32) : entryFrame m #[.ref (n0 + 3), .ref (n0 + 0), .ref (n0 + 1), .ref (n0 + 2)] 5 = mkF m 0 #[.val (.ref (n0 + 3)), .val (.ref (n0 + 0)), .val (.ref (n0 + 1)), .val (.ref (n0 + 2)), .unset] [] := by first | (simp [entryFrame, mkF, argsToLocals, Value.category]; done) | rfl
set_option maxRecDepth 65536 in
set_option maxHeartbeats 40000000 in
theorem rm1_15 (l : Launch) (Z : State) (a0 : Array Value) (hw : ∀ d ∈ tables_1, d.before a0 Z = true) (ws : List Jvm.Cond) (n0 : Nat) (k0 : ClassId) (hk0 : IsA Z k0 .int) (k1 : ClassId) (hk1 : IsA Z k1 .int) (k2 : ClassId) (hk2 : IsA Z k2 .int) (u0 : Int32) (u1 : Int32) (u2 : Int32) (u3 : Int32) (o3 : Jvm.Cell) (Fo3 : ObjF Z o3 "com/example/dirichlet/dirichlet/index/Postings" fl_C0 [.null, .null, .null, .null]) (h0 : Heap) (P0 : HP n0 h0 [AC k0 [.int (1 : Int32), .int (2 : Int32)], AC k1 [.int (1 : Int32), .int (2 : Int32)], AC k2 [.int u0, .int u1, .int u2, .int u3], o3]) :
    MetFree l (⟨"com/example/dirichlet/dirichlet/index/Postings", "<init>", "([I[I[I)V"⟩ : MethodName) (head1 (Jvm.Cond.code (⟨"com/example/dirichlet/dirichlet/index/Postings", "<init>", "([I[I[I)V"⟩ : MethodName) prog_23_method_1_code 5 none :: ws) ({ frames := 1, cells := 1, slots := 2, locals := 12 } : Room)) (fun a U => a = #[.ref (n0 + 3), .ref (n0 + 0), .ref (n0 + 1), .ref (n0 + 2)] ∧ Z.Warmed39 U.vm ∧ U.heap = h0) (fun _ _ _ _ _ => True) (fun _ U o U' => ∃ v L, o = .returned v ∧ Q_rm1_15 Z n0 k0 k1 k2 u0 u1 u2 u3 o3 v U'.heap L ∧ FrameEnd U o U' L ({ frames := 1, cells := 1, slots := 2, locals := 12 } : Room).cells ({ frames := 1, cells := 1, slots := 2, locals := 12 } : Room).slots) := by
  refine own_body pn1 ?_
  intro p e s m below meth c T0 hx hby hml hret hlk hown hnm hZ X0 e0
  subst e0
  have N0 : Fr n0 [] := Fr.nil n0
  refine own_cast (ef_rm1_15 m n0 u0 u1 u2 u3) ?_
  refine w_aloadN X0 hx (hb hby d1_0) rfl rfl (pc' := 1) rfl ?_
  refine w_initO (W := 0) X0 hx hZ hown (by rw [hml]; rfl) (wd7 hw) (wd8 hw) (wd9 hw) P0 (hb hby d1_1) (by decide) (Nat.le_of_eq rfl) (by decide) (pc' := 4) rfl ?_
  intro T1 X1 P1
  refine w_aloadN X1 hx (hb hby d1_4) rfl rfl (pc' := 5) rfl ?_
  refine w_aloadN X1 hx (hb hby d1_5) rfl rfl (pc' := 6) rfl ?_
  refine w_putf (i := 3) (ty := (.array .int)) X1 hx hZ hown (wd10 hw) N0 P1 rfl Fo3 (di_C0 hw) 0 rfl (Or.inr ⟨(wd11 hw), rfl, hnm⟩) (wd2 hw) (by decide) rfl rfl (hb hby d1_6) (pc' := 9) rfl ?_
  intro T2 L1 c1 N1 X2 P2 F1
  replace P2 : HP n0 T2.heap [AC k0 [.int (1 : Int32), .int (2 : Int32)], AC k1 [.int (1 : Int32), .int (2 : Int32)], AC k2 [.int u0, .int u1, .int u2, .int u3], c1] := P2
  replace F1 : ObjF Z c1 "com/example/dirichlet/dirichlet/index/Postings" fl_C0 [.ref (n0 + 0), .null, .null, .null] := F1
  refine w_aloadN X2 hx (hb hby d1_9) rfl rfl (pc' := 10) rfl ?_
  refine w_aloadN X2 hx (hb hby d1_10) rfl rfl (pc' := 11) rfl ?_
  refine w_putf (i := 3) (ty := (.array .int)) X2 hx hZ hown (wd12 hw) N1 P2 rfl F1 (di_C0 hw) 1 rfl (Or.inr ⟨(wd13 hw), rfl, hnm⟩) (wd2 hw) (by decide) rfl rfl (hb hby d1_11) (pc' := 14) rfl ?_
  intro T3 L2 c2 N2 X3 P3 F2
  replace P3 : HP n0 T3.heap [AC k0 [.int (1 : Int32), .int (2 : Int32)], AC k1 [.int (1 : Int32), .int (2 : Int32)], AC k2 [.int u0, .int u1, .int u2, .int u3], c2] := P3
  replace F2 : ObjF Z c2 "com/example/dirichlet/dirichlet/index/Postings" fl_C0 [.ref (n0 + 0), .ref (n0 + 1), .null, .null] := F2
  refine w_aloadN X3 hx (hb hby d1_14) rfl rfl (pc' := 15) rfl ?_
  refine w_aloadN X3 hx (hb hby d1_15) rfl rfl (pc' := 16) rfl ?_
  refine w_putf (i := 3) (ty := (.array .int)) X3 hx hZ hown (wd14 hw) N2 P3 rfl F2 (di_C0 hw) 2 rfl (Or.inr ⟨(wd15 hw), rfl, hnm⟩) (wd2 hw) (by decide) rfl rfl (hb hby d1_16) (pc' := 19) rfl ?_
  intro T4 L3 c3 N3 X4 P4 F3
  replace P4 : HP n0 T4.heap [AC k0 [.int (1 : Int32), .int (2 : Int32)], AC k1 [.int (1 : Int32), .int (2 : Int32)], AC k2 [.int u0, .int u1, .int u2, .int u3], c3] := P4
  replace F3 : ObjF Z c3 "com/example/dirichlet/dirichlet/index/Postings" fl_C0 [.ref (n0 + 0), .ref (n0 + 1), .ref (n0 + 2), .null] := F3
  refine w_aloadN X4 hx (hb hby d1_19) rfl rfl (pc' := 20) rfl ?_
  refine w_ifnonnullY X4 hx (hb hby d1_20) (by decide) (pc' := 31) (by decide) ?_
  refine w_aloadN X4 hx (hb hby d1_31) rfl rfl (pc' := 32) rfl ?_
  refine w_aloadN X4 hx (hb hby d1_32) rfl rfl (pc' := 33) rfl ?_
  refine w_arrlen (i := 1) X4 hx hZ P4 rfl hk1 (hb hby d1_33) (z := (2 : Int32)) rfl (pc' := 34) rfl ?_
  refine w_newarr (N := 2) (j := 4) X4 hx hZ P4 (ty := .int) rfl (wd0 hw) (hb hby d1_34) (by decide) (by decide) (by decide) (by decide) rfl (pc' := 36) rfl ?_
  intro T5 kA4 X5 hkA4 P5
  replace P5 : HP n0 T5.heap [AC k0 [.int (1 : Int32), .int (2 : Int32)], AC k1 [.int (1 : Int32), .int (2 : Int32)], AC k2 [.int u0, .int u1, .int u2, .int u3], c3, AC kA4 [.int (0 : Int32), .int (0 : Int32)]] := P5
  refine w_putf (i := 3) (ty := (.array .int)) X5 hx hZ hown (wd16 hw) N3 P5 rfl F3 (di_C0 hw) 3 rfl (Or.inr ⟨(wd17 hw), rfl, hnm⟩) (wd2 hw) (by decide) rfl rfl (hb hby d1_36) (pc' := 39) rfl ?_
  intro T6 L4 c5 N4 X6 P6 F5
  replace P6 : HP n0 T6.heap [AC k0 [.int (1 : Int32), .int (2 : Int32)], AC k1 [.int (1 : Int32), .int (2 : Int32)], AC k2 [.int u0, .int u1, .int u2, .int u3], c5, AC kA4 [.int (0 : Int32), .int (0 : Int32)]] := P6
  replace F5 : ObjF Z c5 "com/example/dirichlet/dirichlet/index/Postings" fl_C0 [.ref (n0 + 0), .ref (n0 + 1), .ref (n0 + 2), .ref (n0 + 4)] := F5
  refine w_iconst (v := (1 : Int32)) X6 hx (hb hby d1_39) rfl (pc' := 40) rfl ?_
  refine w_istore (l' := #[.val (.ref (n0 + 3)), .val (.ref (n0 + 0)), .val (.ref (n0 + 1)), .val (.ref (n0 + 2)), .val (.int (1 : Int32))]) X6 hx (hb hby d1_40) rfl (pc' := 42) rfl ?_
  refine w_iload X6 hx (hb hby d1_42) rfl (pc' := 44) rfl ?_
  refine w_aloadN X6 hx (hb hby d1_44) rfl rfl (pc' := 45) rfl ?_
  refine w_arrlen (i := 1) X6 hx hZ P6 rfl hk1 (hb hby d1_45) (z := (2 : Int32)) rfl (pc' := 46) rfl ?_
  refine w_icmp_ge X6 hx (hb hby d1_46) (by decide) (pcY := 78) (by decide) (pc' := 49) rfl (fun h0 => absurd h0 (by decide)) (fun h0 => ?_)
  refine w_aloadN X6 hx (hb hby d1_49) rfl rfl (pc' := 50) rfl ?_
  refine w_getf (i := 3) (v := .ref (n0 + 4)) X6 hx hZ hown (wd16 hw) P6 rfl F5 3 rfl rfl (hb hby d1_50) (pc' := 53) rfl ?_
  intro T7 X7 P7
  refine w_iload X7 hx (hb hby d1_53) rfl (pc' := 55) rfl ?_
  refine w_aloadN X7 hx (hb hby d1_55) rfl rfl (pc' := 56) rfl ?_
  refine w_getf (i := 3) (v := .ref (n0 + 4)) X7 hx hZ hown (wd16 hw) P7 rfl F5 3 rfl rfl (hb hby d1_56) (pc' := 59) rfl ?_
  intro T8 X8 P8
  refine w_iload X8 hx (hb hby d1_59) rfl (pc' := 61) rfl ?_
  refine w_iconst (v := (1 : Int32)) X8 hx (hb hby d1_61) rfl (pc' := 62) rfl ?_
  refine w_isub X8 hx (hb hby d1_62) (pc' := 63) rfl ?_
  refine w_eqI (z := (0 : Int32)) (by decide) ?_
  refine w_iaload (i := 4) (jn := 0) (v := .int (0 : Int32)) X8 hx hZ P8 rfl hkA4 (hb hby d1_63) (by decide) rfl (pc' := 64) rfl ?_
  refine w_aloadN X8 hx (hb hby d1_64) rfl rfl (pc' := 65) rfl ?_
  refine w_iload X8 hx (hb hby d1_65) rfl (pc' := 67) rfl ?_
  refine w_iconst (v := (1 : Int32)) X8 hx (hb hby d1_67) rfl (pc' := 68) rfl ?_
  refine w_isub X8 hx (hb hby d1_68) (pc' := 69) rfl ?_
  refine w_eqI (z := (0 : Int32)) (by decide) ?_
  refine w_iaload (i := 1) (jn := 0) (v := .int (1 : Int32)) X8 hx hZ P8 rfl hk1 (hb hby d1_69) (by decide) rfl (pc' := 70) rfl ?_
  refine w_iadd X8 hx (hb hby d1_70) (pc' := 71) rfl ?_
  refine w_eqI (z := (1 : Int32)) (by decide) ?_
  refine w_iastore (i := 4) (jn := 1) X8 hx hZ N4 P8 rfl hkA4 (hb hby d1_71) (by decide) (Nat.le_of_ble_eq_true rfl) (pc' := 72) rfl ?_
  intro T9 L5 N5 X9 P9
  replace P9 : HP n0 T9.heap [AC k0 [.int (1 : Int32), .int (2 : Int32)], AC k1 [.int (1 : Int32), .int (2 : Int32)], AC k2 [.int u0, .int u1, .int u2, .int u3], c5, AC kA4 [.int (0 : Int32), .int (1 : Int32)]] := P9
  refine w_iincE (z := (2 : Int32)) (l' := #[.val (.ref (n0 + 3)), .val (.ref (n0 + 0)), .val (.ref (n0 + 1)), .val (.ref (n0 + 2)), .val (.int (2 : Int32))]) X9 hx (hb hby d1_72) rfl (by decide) rfl (pc' := 75) rfl ?_
  refine w_goto X9 hx (hb hby d1_75) (by decide) (pc' := 42) (by decide) ?_
  refine w_iload X9 hx (hb hby d1_42) rfl (pc' := 44) rfl ?_
  refine w_aloadN X9 hx (hb hby d1_44) rfl rfl (pc' := 45) rfl ?_
  refine w_arrlen (i := 1) X9 hx hZ P9 rfl hk1 (hb hby d1_45) (z := (2 : Int32)) rfl (pc' := 46) rfl ?_
  refine w_icmp_ge X9 hx (hb hby d1_46) (by decide) (pcY := 78) (by decide) (pc' := 49) rfl (fun h1 => ?_) (fun h1 => absurd h1 (by decide))
  exact w_ret_v X9 hx hret hlk (hb hby d1_78) (by decide) (by decide) ⟨rfl, N5, c5, F5, kA4, hkA4, P9⟩
def Q_rm3_16 (Z : State) (n0 : Nat) (k0 : ClassId) (k1 : ClassId) (k2 : ClassId) (u0 : Int32) (u1 : Int32) (u2 : Int32) (u3 : Int32) (o3 : Jvm.Cell) (k4 : ClassId) (v : Option Value) (h : Heap) (L : List Loc) : Prop := v = some (.int (1 : Int32)) ∧ Fr n0 L ∧ HP n0 h [AC k0 [.int (1 : Int32), .int (2 : Int32)], AC k1 [.int (1 : Int32), .int (2 : Int32)], AC k2 [.int u0, .int u1, .int u2, .int u3], o3, AC k4 [.int (0 : Int32), .int (1 : Int32)]]
theorem ef_rm3_16 (m : MethodId) (n0 : Nat) (u0 : Int32) (u1 : Int32) (u2 : Int32) (u3 : Int32) : entryFrame m #[.ref (n0 + 3)] 1 = mkF m 0 #[.val (.ref (n0 + 3))] [] := by first | (simp [entryFrame, mkF, argsToLocals, Value.category]; done) | rfl
set_option maxRecDepth 65536 in
set_option maxHeartbeats 40000000 in
theorem rm3_16 (l : Launch) (Z : State) (a0 : Array Value) (hw : ∀ d ∈ tables_1, d.before a0 Z = true) (ws : List Jvm.Cond) (n0 : Nat) (k0 : ClassId) (hk0 : IsA Z k0 .int) (k1 : ClassId) (hk1 : IsA Z k1 .int) (k2 : ClassId) (hk2 : IsA Z k2 .int) (u0 : Int32) (u1 : Int32) (u2 : Int32) (u3 : Int32) (o3 : Jvm.Cell) (Fo3 : ObjF Z o3 "com/example/dirichlet/dirichlet/index/Postings" fl_C0 [.ref (n0 + 0), .ref (n0 + 1), .ref (n0 + 2), .ref (n0 + 4)]) (k4 : ClassId) (hk4 : IsA Z k4 .int) (h0 : Heap) (P0 : HP n0 h0 [AC k0 [.int (1 : Int32), .int (2 : Int32)], AC k1 [.int (1 : Int32), .int (2 : Int32)], AC k2 [.int u0, .int u1, .int u2, .int u3], o3, AC k4 [.int (0 : Int32), .int (1 : Int32)]]) :
    MetFree l (⟨"com/example/dirichlet/dirichlet/index/Postings", "hasPositions", "()Z"⟩ : MethodName) (head1 (Jvm.Cond.code (⟨"com/example/dirichlet/dirichlet/index/Postings", "hasPositions", "()Z"⟩ : MethodName) prog_23_method_5_code 1 (some .boolean) :: ws) ({ frames := 0, cells := 0, slots := 0, locals := 0 } : Room)) (fun a U => a = #[.ref (n0 + 3)] ∧ Z.Warmed39 U.vm ∧ U.heap = h0) (fun _ _ _ _ _ => True) (fun _ U o U' => ∃ v L, o = .returned v ∧ Q_rm3_16 Z n0 k0 k1 k2 u0 u1 u2 u3 o3 k4 v U'.heap L ∧ FrameEnd U o U' L ({ frames := 0, cells := 0, slots := 0, locals := 0 } : Room).cells ({ frames := 0, cells := 0, slots := 0, locals := 0 } : Room).slots) := by
  refine own_body pn3 ?_
  intro p e s m below meth c T0 hx hby hml hret hlk hown hnm hZ X0 e0
  subst e0
  have N0 : Fr n0 [] := Fr.nil n0
  refine own_cast (ef_rm3_16 m n0 u0 u1 u2 u3) ?_
  refine w_aloadN X0 hx (hb hby d3_0) rfl rfl (pc' := 1) rfl ?_
  refine w_getf (i := 3) (v := .ref (n0 + 2)) X0 hx hZ hown (wd14 hw) P0 rfl Fo3 2 rfl rfl (hb hby d3_1) (pc' := 4) rfl ?_
  intro T1 X1 P1
  refine w_ifnullN X1 hx (hb hby d3_4) (pc' := 7) rfl ?_
  refine w_iconst (v := (1 : Int32)) X1 hx (hb hby d3_7) rfl (pc' := 8) rfl ?_
  refine w_goto X1 hx (hb hby d3_8) (by decide) (pc' := 12) (by decide) ?_
  exact w_ret_n (t := .boolean) X1 hx hret hlk (by simp) (hb hby d3_12) (z' := (1 : Int32)) rfl (by decide) (by decide) ⟨rfl, N0, P1⟩
def Q_rm7_20 (Z : State) (n0 : Nat) (k0 : ClassId) (k1 : ClassId) (k2 : ClassId) (u0 : Int32) (u1 : Int32) (u2 : Int32) (u3 : Int32) (o3 : Jvm.Cell) (k4 : ClassId) (v : Option Value) (h : Heap) (L : List Loc) : Prop := v = none ∧ Fr n0 L ∧ HP n0 h [AC k0 [.int (1 : Int32), .int (2 : Int32)], AC k1 [.int (1 : Int32), .int (2 : Int32)], AC k2 [.int u0, .int u1, .int u2, .int u3], o3, AC k4 [.int (0 : Int32), .int (1 : Int32)]]
theorem ef_rm7_20 (m : MethodId) (n0 : Nat) (u0 : Int32) (u1 : Int32) (u2 : Int32) (u3 : Int32) : entryFrame m #[.int (1 : Int32), .int (3 : Int32)] 2 = mkF m 0 #[.val (.int (1 : Int32)), .val (.int (3 : Int32))] [] := by first | (simp [entryFrame, mkF, argsToLocals, Value.category]; done) | rfl
set_option maxRecDepth 65536 in
set_option maxHeartbeats 40000000 in
theorem rm7_20 (l : Launch) (Z : State) (a0 : Array Value) (hw : ∀ d ∈ tables_1, d.before a0 Z = true) (ws : List Jvm.Cond) (n0 : Nat) (k0 : ClassId) (hk0 : IsA Z k0 .int) (k1 : ClassId) (hk1 : IsA Z k1 .int) (k2 : ClassId) (hk2 : IsA Z k2 .int) (u0 : Int32) (u1 : Int32) (u2 : Int32) (u3 : Int32) (o3 : Jvm.Cell) (Fo3 : ObjF Z o3 "com/example/dirichlet/dirichlet/index/Postings" fl_C0 [.ref (n0 + 0), .ref (n0 + 1), .ref (n0 + 2), .ref (n0 + 4)]) (k4 : ClassId) (hk4 : IsA Z k4 .int) (h0 : Heap) (P0 : HP n0 h0 [AC k0 [.int (1 : Int32), .int (2 : Int32)], AC k1 [.int (1 : Int32), .int (2 : Int32)], AC k2 [.int u0, .int u1, .int u2, .int u3], o3, AC k4 [.int (0 : Int32), .int (1 : Int32)]]) :
    MetFree l (⟨"java/util/Arrays", "checkLength", "(II)V"⟩ : MethodName) (head1 (Jvm.Cond.code (⟨"java/util/Arrays", "checkLength", "(II)V"⟩ : MethodName) jdk_65_method_131_code 2 none :: ws) ({ frames := 0, cells := 0, slots := 0, locals := 0 } : Room)) (fun a U => a = #[.int (1 : Int32), .int (3 : Int32)] ∧ Z.Warmed39 U.vm ∧ U.heap = h0) (fun _ _ _ _ _ => True) (fun _ U o U' => ∃ v L, o = .returned v ∧ Q_rm7_20 Z n0 k0 k1 k2 u0 u1 u2 u3 o3 k4 v U'.heap L ∧ FrameEnd U o U' L ({ frames := 0, cells := 0, slots := 0, locals := 0 } : Room).cells ({ frames := 0, cells := 0, slots := 0, locals := 0 } : Room).slots) := by
  refine own_body pn7 ?_
  intro p e s m below meth c T0 hx hby hml hret hlk hown hnm hZ X0 e0
  subst e0
  have N0 : Fr n0 [] := Fr.nil n0
  refine own_cast (ef_rm7_20 m n0 u0 u1 u2 u3) ?_
  refine w_iloadN X0 hx (hb hby d7_0) rfl (pc' := 1) rfl ?_
  refine w_iloadN X0 hx (hb hby d7_1) rfl (pc' := 2) rfl ?_
  refine w_icmp_ge X0 hx (hb hby d7_2) (by decide) (pcY := 37) (by decide) (pc' := 5) rfl (fun h0 => ?_) (fun h0 => absurd h0 (by decide))
  exact w_ret_v X0 hx hret hlk (hb hby d7_37) (by decide) (by decide) ⟨rfl, N0, P0⟩
def Q_rm8_21 (Z : State) (n0 : Nat) (k0 : ClassId) (k1 : ClassId) (k2 : ClassId) (u0 : Int32) (u1 : Int32) (u2 : Int32) (u3 : Int32) (o3 : Jvm.Cell) (k4 : ClassId) (k5 : ClassId) (v : Option Value) (h : Heap) (L : List Loc) : Prop := v = some (.int (2 : Int32)) ∧ Fr n0 L ∧ HP n0 h [AC k0 [.int (1 : Int32), .int (2 : Int32)], AC k1 [.int (1 : Int32), .int (2 : Int32)], AC k2 [.int u0, .int u1, .int u2, .int u3], o3, AC k4 [.int (0 : Int32), .int (1 : Int32)], AC k5 [.int (0 : Int32), .int (0 : Int32)]]
theorem ef_rm8_21 (m : MethodId) (n0 : Nat) (u0 : Int32) (u1 : Int32) (u2 : Int32) (u3 : Int32) : entryFrame m #[.int (3 : Int32), .int (2 : Int32)] 2 = mkF m 0 #[.val (.int (3 : Int32)), .val (.int (2 : Int32))] [] := by first | (simp [entryFrame, mkF, argsToLocals, Value.category]; done) | rfl
set_option maxRecDepth 65536 in
set_option maxHeartbeats 40000000 in
theorem rm8_21 (l : Launch) (Z : State) (a0 : Array Value) (hw : ∀ d ∈ tables_1, d.before a0 Z = true) (ws : List Jvm.Cond) (n0 : Nat) (k0 : ClassId) (hk0 : IsA Z k0 .int) (k1 : ClassId) (hk1 : IsA Z k1 .int) (k2 : ClassId) (hk2 : IsA Z k2 .int) (u0 : Int32) (u1 : Int32) (u2 : Int32) (u3 : Int32) (o3 : Jvm.Cell) (Fo3 : ObjF Z o3 "com/example/dirichlet/dirichlet/index/Postings" fl_C0 [.ref (n0 + 0), .ref (n0 + 1), .ref (n0 + 2), .ref (n0 + 4)]) (k4 : ClassId) (hk4 : IsA Z k4 .int) (k5 : ClassId) (hk5 : IsA Z k5 .int) (h0 : Heap) (P0 : HP n0 h0 [AC k0 [.int (1 : Int32), .int (2 : Int32)], AC k1 [.int (1 : Int32), .int (2 : Int32)], AC k2 [.int u0, .int u1, .int u2, .int u3], o3, AC k4 [.int (0 : Int32), .int (1 : Int32)], AC k5 [.int (0 : Int32), .int (0 : Int32)]]) :
    MetFree l (⟨"java/lang/Math", "min", "(II)I"⟩ : MethodName) (head1 (Jvm.Cond.code (⟨"java/lang/Math", "min", "(II)I"⟩ : MethodName) jdk_29_method_69_code 2 (some .int) :: ws) ({ frames := 0, cells := 0, slots := 0, locals := 0 } : Room)) (fun a U => a = #[.int (3 : Int32), .int (2 : Int32)] ∧ Z.Warmed39 U.vm ∧ U.heap = h0) (fun _ _ _ _ _ => True) (fun _ U o U' => ∃ v L, o = .returned v ∧ Q_rm8_21 Z n0 k0 k1 k2 u0 u1 u2 u3 o3 k4 k5 v U'.heap L ∧ FrameEnd U o U' L ({ frames := 0, cells := 0, slots := 0, locals := 0 } : Room).cells ({ frames := 0, cells := 0, slots := 0, locals := 0 } : Room).slots) := by
  refine own_body pn8 ?_
  intro p e s m below meth c T0 hx hby hml hret hlk hown hnm hZ X0 e0
  subst e0
  have N0 : Fr n0 [] := Fr.nil n0
  refine own_cast (ef_rm8_21 m n0 u0 u1 u2 u3) ?_
  refine w_iloadN X0 hx (hb hby d8_0) rfl (pc' := 1) rfl ?_
  refine w_iloadN X0 hx (hb hby d8_1) rfl (pc' := 2) rfl ?_
  refine w_icmp_gt X0 hx (hb hby d8_2) (by decide) (pcY := 9) (by decide) (pc' := 5) rfl (fun h0 => ?_) (fun h0 => absurd h0 (by decide))
  refine w_iloadN X0 hx (hb hby d8_9) rfl (pc' := 10) rfl ?_
  exact w_ret_i X0 hx hret hlk (hb hby d8_10) (by decide) (by decide) ⟨rfl, N0, P0⟩
def Q_rm6_19 (Z : State) (n0 : Nat) (k0 : ClassId) (k1 : ClassId) (k2 : ClassId) (u0 : Int32) (u1 : Int32) (u2 : Int32) (u3 : Int32) (o3 : Jvm.Cell) (k4 : ClassId) (v : Option Value) (h : Heap) (L : List Loc) : Prop := v = some (.ref (n0 + 5)) ∧ Fr n0 L ∧ ∃ kA1 : ClassId, IsA Z kA1 .int ∧ HP n0 h [AC k0 [.int (1 : Int32), .int (2 : Int32)], AC k1 [.int (1 : Int32), .int (2 : Int32)], AC k2 [.int u0, .int u1, .int u2, .int u3], o3, AC k4 [.int (0 : Int32), .int (1 : Int32)], AC kA1 [.int u1, .int u2]]
theorem ef_rm6_19 (m : MethodId) (n0 : Nat) (u0 : Int32) (u1 : Int32) (u2 : Int32) (u3 : Int32) : entryFrame m #[.ref (n0 + 2), .int (1 : Int32), .int (3 : Int32)] 5 = mkF m 0 #[.val (.ref (n0 + 2)), .val (.int (1 : Int32)), .val (.int (3 : Int32)), .unset, .unset] [] := by first | (simp [entryFrame, mkF, argsToLocals, Value.category]; done) | rfl
set_option maxRecDepth 65536 in
set_option maxHeartbeats 40000000 in
theorem rm6_19 (l : Launch) (Z : State) (a0 : Array Value) (hw : ∀ d ∈ tables_1, d.before a0 Z = true) (ws : List Jvm.Cond) (n0 : Nat) (k0 : ClassId) (hk0 : IsA Z k0 .int) (k1 : ClassId) (hk1 : IsA Z k1 .int) (k2 : ClassId) (hk2 : IsA Z k2 .int) (u0 : Int32) (u1 : Int32) (u2 : Int32) (u3 : Int32) (o3 : Jvm.Cell) (Fo3 : ObjF Z o3 "com/example/dirichlet/dirichlet/index/Postings" fl_C0 [.ref (n0 + 0), .ref (n0 + 1), .ref (n0 + 2), .ref (n0 + 4)]) (k4 : ClassId) (hk4 : IsA Z k4 .int) (h0 : Heap) (P0 : HP n0 h0 [AC k0 [.int (1 : Int32), .int (2 : Int32)], AC k1 [.int (1 : Int32), .int (2 : Int32)], AC k2 [.int u0, .int u1, .int u2, .int u3], o3, AC k4 [.int (0 : Int32), .int (1 : Int32)]]) :
    MetFree l (⟨"java/util/Arrays", "copyOfRangeInt", "([III)[I"⟩ : MethodName) (head1 (Jvm.Cond.code (⟨"java/util/Arrays", "copyOfRangeInt", "([III)[I"⟩ : MethodName) jdk_65_method_137_code 5 (some (.array .int)) :: ws) ({ frames := 1, cells := 1, slots := 2, locals := 18 } : Room)) (fun a U => a = #[.ref (n0 + 2), .int (1 : Int32), .int (3 : Int32)] ∧ Z.Warmed39 U.vm ∧ U.heap = h0) (fun _ _ _ _ _ => True) (fun _ U o U' => ∃ v L, o = .returned v ∧ Q_rm6_19 Z n0 k0 k1 k2 u0 u1 u2 u3 o3 k4 v U'.heap L ∧ FrameEnd U o U' L ({ frames := 1, cells := 1, slots := 2, locals := 18 } : Room).cells ({ frames := 1, cells := 1, slots := 2, locals := 18 } : Room).slots) := by
  refine own_body pn6 ?_
  intro p e s m below meth c T0 hx hby hml hret hlk hown hnm hZ X0 e0
  subst e0
  have N0 : Fr n0 [] := Fr.nil n0
  refine own_cast (ef_rm6_19 m n0 u0 u1 u2 u3) ?_
  refine w_iloadN X0 hx (hb hby d6_0) rfl (pc' := 1) rfl ?_
  refine w_iloadN X0 hx (hb hby d6_1) rfl (pc' := 2) rfl ?_
  refine own_call (W := 0) X0 hx hZ rfl hown hml.symm (wd35 hw) (wd36 hw) (wd30 hw) (wd37 hw) (rm7_20 l Z a0 hw [] n0 k0 hk0 k1 hk1 k2 hk2 u0 u1 u2 u3 o3 Fo3 k4 hk4 _ P0) (by decide) (by decide) (by decide) (by decide) (by decide) (argsL := [.int (1 : Int32), .int (3 : Int32)]) (rest := []) pd7 rfl rfl rfl (Nat.le_of_eq rfl) (hb hby d6_2) (pc' := 5) rfl ?_
  intro _ T1 L1 X1 hq
  obtain ⟨rfl, N1, P1⟩ := hq
  replace N1 := Fr.app N0 N1
  replace P1 : HP n0 T1.heap [AC k0 [.int (1 : Int32), .int (2 : Int32)], AC k1 [.int (1 : Int32), .int (2 : Int32)], AC k2 [.int u0, .int u1, .int u2, .int u3], o3, AC k4 [.int (0 : Int32), .int (1 : Int32)]] := P1
  refine w_iloadN X1 hx (hb hby d6_5) rfl (pc' := 6) rfl ?_
  refine w_iloadN X1 hx (hb hby d6_6) rfl (pc' := 7) rfl ?_
  refine w_isub X1 hx (hb hby d6_7) (pc' := 8) rfl ?_
  refine w_eqI (z := (2 : Int32)) (by decide) ?_
  refine w_istoreN (l' := #[.val (.ref (n0 + 2)), .val (.int (1 : Int32)), .val (.int (3 : Int32)), .val (.int (2 : Int32)), .unset]) X1 hx (hb hby d6_8) rfl (pc' := 9) rfl ?_
  refine w_iloadN X1 hx (hb hby d6_9) rfl (pc' := 10) rfl ?_
  refine w_newarr (N := 2) (j := 5) X1 hx hZ P1 (ty := .int) rfl (wd0 hw) (hb hby d6_10) (by decide) (by decide) (by decide) (by decide) rfl (pc' := 12) rfl ?_
  intro T2 kA1 X2 hkA1 P2
  replace P2 : HP n0 T2.heap [AC k0 [.int (1 : Int32), .int (2 : Int32)], AC k1 [.int (1 : Int32), .int (2 : Int32)], AC k2 [.int u0, .int u1, .int u2, .int u3], o3, AC k4 [.int (0 : Int32), .int (1 : Int32)], AC kA1 [.int (0 : Int32), .int (0 : Int32)]] := P2
  refine w_astore (l' := #[.val (.ref (n0 + 2)), .val (.int (1 : Int32)), .val (.int (3 : Int32)), .val (.int (2 : Int32)), .val (.ref (n0 + 5))]) X2 hx (hb hby d6_12) rfl rfl (pc' := 14) rfl ?_
  refine w_aloadN X2 hx (hb hby d6_14) rfl rfl (pc' := 15) rfl ?_
  refine w_iloadN X2 hx (hb hby d6_15) rfl (pc' := 16) rfl ?_
  refine w_aload X2 hx (hb hby d6_16) rfl rfl (pc' := 18) rfl ?_
  refine w_iconst (v := (0 : Int32)) X2 hx (hb hby d6_18) rfl (pc' := 19) rfl ?_
  refine w_aloadN X2 hx (hb hby d6_19) rfl rfl (pc' := 20) rfl ?_
  refine w_arrlen (i := 2) X2 hx hZ P2 rfl hk2 (hb hby d6_20) (z := (4 : Int32)) rfl (pc' := 21) rfl ?_
  refine w_iloadN X2 hx (hb hby d6_21) rfl (pc' := 22) rfl ?_
  refine w_isub X2 hx (hb hby d6_22) (pc' := 23) rfl ?_
  refine w_eqI (z := (3 : Int32)) (by decide) ?_
  refine w_iloadN X2 hx (hb hby d6_23) rfl (pc' := 24) rfl ?_
  refine own_call (W := 4) X2 hx hZ rfl hown hml.symm (wd38 hw) (wd39 hw) (wd40 hw) (wd41 hw) (rm8_21 l Z a0 hw [] n0 k0 hk0 k1 hk1 k2 hk2 u0 u1 u2 u3 o3 Fo3 k4 hk4 kA1 hkA1 _ P2) (by decide) (by decide) (by decide) (by decide) (by decide) (argsL := [.int (3 : Int32), .int (2 : Int32)]) (rest := [.int (0 : Int32), .ref (n0 + 5), .int (1 : Int32), .ref (n0 + 2)]) pd8 rfl rfl rfl (Nat.le_of_eq rfl) (hb hby d6_24) (pc' := 27) rfl ?_
  intro _ T3 L2 X3 hq
  obtain ⟨rfl, N2, P3⟩ := hq
  replace N2 := Fr.app N1 N2
  replace P3 : HP n0 T3.heap [AC k0 [.int (1 : Int32), .int (2 : Int32)], AC k1 [.int (1 : Int32), .int (2 : Int32)], AC k2 [.int u0, .int u1, .int u2, .int u3], o3, AC k4 [.int (0 : Int32), .int (1 : Int32)], AC kA1 [.int (0 : Int32), .int (0 : Int32)]] := P3
  refine w_acopy (W := 0) (i := 2) (j := 5) (sn := 1) (dn := 0) (n := 2) (vd' := [.int u1, .int u2]) X3 hx hZ hown (by rw [hml]; rfl) (wd42 hw) (wd45 hw) (wd43 hw) (wd44 hw) N2 P3 rfl rfl hk2 hkA1 rfl (by simp [fits]) (by decide) (by decide) (by decide) (Nat.le_of_ble_eq_true rfl) (Nat.le_of_ble_eq_true rfl) (hb hby d6_27) (by decide) (Nat.le_of_eq rfl) (by decide) rfl (pc' := 30) rfl ?_
  intro T4 L3 N3 X4 P4
  replace P4 : HP n0 T4.heap [AC k0 [.int (1 : Int32), .int (2 : Int32)], AC k1 [.int (1 : Int32), .int (2 : Int32)], AC k2 [.int u0, .int u1, .int u2, .int u3], o3, AC k4 [.int (0 : Int32), .int (1 : Int32)], AC kA1 [.int u1, .int u2]] := P4
  refine w_aload X4 hx (hb hby d6_30) rfl rfl (pc' := 32) rfl ?_
  exact w_ret_a X4 hx rfl hret rfl hlk (hb hby d6_32) (by decide) (by decide) ⟨rfl, N3, kA1, hkA1, P4⟩
def Q_rm5_18 (Z : State) (n0 : Nat) (k0 : ClassId) (k1 : ClassId) (k2 : ClassId) (u0 : Int32) (u1 : Int32) (u2 : Int32) (u3 : Int32) (o3 : Jvm.Cell) (k4 : ClassId) (v : Option Value) (h : Heap) (L : List Loc) : Prop := v = some (.ref (n0 + 5)) ∧ Fr n0 L ∧ ∃ kA1 : ClassId, IsA Z kA1 .int ∧ HP n0 h [AC k0 [.int (1 : Int32), .int (2 : Int32)], AC k1 [.int (1 : Int32), .int (2 : Int32)], AC k2 [.int u0, .int u1, .int u2, .int u3], o3, AC k4 [.int (0 : Int32), .int (1 : Int32)], AC kA1 [.int u1, .int u2]]
theorem ef_rm5_18 (m : MethodId) (n0 : Nat) (u0 : Int32) (u1 : Int32) (u2 : Int32) (u3 : Int32) : entryFrame m #[.ref (n0 + 2), .int (1 : Int32), .int (3 : Int32)] 3 = mkF m 0 #[.val (.ref (n0 + 2)), .val (.int (1 : Int32)), .val (.int (3 : Int32))] [] := by first | (simp [entryFrame, mkF, argsToLocals, Value.category]; done) | rfl
set_option maxRecDepth 65536 in
set_option maxHeartbeats 40000000 in
theorem rm5_18 (l : Launch) (Z : State) (a0 : Array Value) (hw : ∀ d ∈ tables_1, d.before a0 Z = true) (ws : List Jvm.Cond) (n0 : Nat) (k0 : ClassId) (hk0 : IsA Z k0 .int) (k1 : ClassId) (hk1 : IsA Z k1 .int) (k2 : ClassId) (hk2 : IsA Z k2 .int) (u0 : Int32) (u1 : Int32) (u2 : Int32) (u3 : Int32) (o3 : Jvm.Cell) (Fo3 : ObjF Z o3 "com/example/dirichlet/dirichlet/index/Postings" fl_C0 [.ref (n0 + 0), .ref (n0 + 1), .ref (n0 + 2), .ref (n0 + 4)]) (k4 : ClassId) (hk4 : IsA Z k4 .int) (h0 : Heap) (P0 : HP n0 h0 [AC k0 [.int (1 : Int32), .int (2 : Int32)], AC k1 [.int (1 : Int32), .int (2 : Int32)], AC k2 [.int u0, .int u1, .int u2, .int u3], o3, AC k4 [.int (0 : Int32), .int (1 : Int32)]]) :
    MetFree l (⟨"java/util/Arrays", "copyOfRange", "([III)[I"⟩ : MethodName) (head1 (Jvm.Cond.code (⟨"java/util/Arrays", "copyOfRange", "([III)[I"⟩ : MethodName) jdk_65_method_136_code 3 (some (.array .int)) :: ws) ({ frames := 2, cells := 1, slots := 2, locals := 34 } : Room)) (fun a U => a = #[.ref (n0 + 2), .int (1 : Int32), .int (3 : Int32)] ∧ Z.Warmed39 U.vm ∧ U.heap = h0) (fun _ _ _ _ _ => True) (fun _ U o U' => ∃ v L, o = .returned v ∧ Q_rm5_18 Z n0 k0 k1 k2 u0 u1 u2 u3 o3 k4 v U'.heap L ∧ FrameEnd U o U' L ({ frames := 2, cells := 1, slots := 2, locals := 34 } : Room).cells ({ frames := 2, cells := 1, slots := 2, locals := 34 } : Room).slots) := by
  refine own_body pn5 ?_
  intro p e s m below meth c T0 hx hby hml hret hlk hown hnm hZ X0 e0
  subst e0
  have N0 : Fr n0 [] := Fr.nil n0
  refine own_cast (ef_rm5_18 m n0 u0 u1 u2 u3) ?_
  refine w_iloadN X0 hx (hb hby d5_0) rfl (pc' := 1) rfl ?_
  refine w_if_ne X0 hx (hb hby d5_1) (by decide) (pcY := 10) (by decide) (pc' := 4) rfl (fun h0 => ?_) (fun h0 => absurd h0 (by decide))
  refine w_aloadN X0 hx (hb hby d5_10) rfl rfl (pc' := 11) rfl ?_
  refine w_iloadN X0 hx (hb hby d5_11) rfl (pc' := 12) rfl ?_
  refine w_iloadN X0 hx (hb hby d5_12) rfl (pc' := 13) rfl ?_
  refine own_call (W := 0) X0 hx hZ rfl hown hml.symm (wd32 hw) (wd33 hw) (wd30 hw) (wd34 hw) (rm6_19 l Z a0 hw [] n0 k0 hk0 k1 hk1 k2 hk2 u0 u1 u2 u3 o3 Fo3 k4 hk4 _ P0) (by decide) (by decide) (by decide) (by decide) (by decide) (argsL := [.ref (n0 + 2), .int (1 : Int32), .int (3 : Int32)]) (rest := []) pd6 rfl rfl rfl (Nat.le_of_eq rfl) (hb hby d5_13) (pc' := 16) rfl ?_
  intro _ T1 L1 X1 hq
  obtain ⟨rfl, N1, kA1, hkA1, P1⟩ := hq
  replace N1 := Fr.app N0 N1
  replace P1 : HP n0 T1.heap [AC k0 [.int (1 : Int32), .int (2 : Int32)], AC k1 [.int (1 : Int32), .int (2 : Int32)], AC k2 [.int u0, .int u1, .int u2, .int u3], o3, AC k4 [.int (0 : Int32), .int (1 : Int32)], AC kA1 [.int u1, .int u2]] := P1
  exact w_ret_a X1 hx rfl hret rfl hlk (hb hby d5_16) (by decide) (by decide) ⟨rfl, N1, kA1, hkA1, P1⟩
def Q_rm4_17 (Z : State) (n0 : Nat) (k0 : ClassId) (k1 : ClassId) (k2 : ClassId) (u0 : Int32) (u1 : Int32) (u2 : Int32) (u3 : Int32) (o3 : Jvm.Cell) (k4 : ClassId) (v : Option Value) (h : Heap) (L : List Loc) : Prop := v = some (.ref (n0 + 5)) ∧ Fr n0 L ∧ ∃ kA1 : ClassId, IsA Z kA1 .int ∧ HP n0 h [AC k0 [.int (1 : Int32), .int (2 : Int32)], AC k1 [.int (1 : Int32), .int (2 : Int32)], AC k2 [.int u0, .int u1, .int u2, .int u3], o3, AC k4 [.int (0 : Int32), .int (1 : Int32)], AC kA1 [.int u1, .int u2]]
theorem ef_rm4_17 (m : MethodId) (n0 : Nat) (u0 : Int32) (u1 : Int32) (u2 : Int32) (u3 : Int32) : entryFrame m #[.ref (n0 + 3), .int (1 : Int32)] 2 = mkF m 0 #[.val (.ref (n0 + 3)), .val (.int (1 : Int32))] [] := by first | (simp [entryFrame, mkF, argsToLocals, Value.category]; done) | rfl
set_option maxRecDepth 65536 in
set_option maxHeartbeats 40000000 in
theorem rm4_17 (l : Launch) (Z : State) (a0 : Array Value) (hw : ∀ d ∈ tables_1, d.before a0 Z = true) (ws : List Jvm.Cond) (n0 : Nat) (k0 : ClassId) (hk0 : IsA Z k0 .int) (k1 : ClassId) (hk1 : IsA Z k1 .int) (k2 : ClassId) (hk2 : IsA Z k2 .int) (u0 : Int32) (u1 : Int32) (u2 : Int32) (u3 : Int32) (o3 : Jvm.Cell) (Fo3 : ObjF Z o3 "com/example/dirichlet/dirichlet/index/Postings" fl_C0 [.ref (n0 + 0), .ref (n0 + 1), .ref (n0 + 2), .ref (n0 + 4)]) (k4 : ClassId) (hk4 : IsA Z k4 .int) (h0 : Heap) (P0 : HP n0 h0 [AC k0 [.int (1 : Int32), .int (2 : Int32)], AC k1 [.int (1 : Int32), .int (2 : Int32)], AC k2 [.int u0, .int u1, .int u2, .int u3], o3, AC k4 [.int (0 : Int32), .int (1 : Int32)]]) :
    MetFree l (⟨"com/example/dirichlet/dirichlet/index/Postings", "positions", "(I)[I"⟩ : MethodName) (head1 (Jvm.Cond.code (⟨"com/example/dirichlet/dirichlet/index/Postings", "positions", "(I)[I"⟩ : MethodName) prog_23_method_6_code 2 (some (.array .int)) :: ws) ({ frames := 3, cells := 1, slots := 2, locals := 48 } : Room)) (fun a U => a = #[.ref (n0 + 3), .int (1 : Int32)] ∧ Z.Warmed39 U.vm ∧ U.heap = h0) (fun _ _ _ _ _ => True) (fun _ U o U' => ∃ v L, o = .returned v ∧ Q_rm4_17 Z n0 k0 k1 k2 u0 u1 u2 u3 o3 k4 v U'.heap L ∧ FrameEnd U o U' L ({ frames := 3, cells := 1, slots := 2, locals := 48 } : Room).cells ({ frames := 3, cells := 1, slots := 2, locals := 48 } : Room).slots) := by
  refine own_body pn4 ?_
  intro p e s m below meth c T0 hx hby hml hret hlk hown hnm hZ X0 e0
  subst e0
  have N0 : Fr n0 [] := Fr.nil n0
  refine own_cast (ef_rm4_17 m n0 u0 u1 u2 u3) ?_
  refine w_aloadN X0 hx (hb hby d4_0) rfl rfl (pc' := 1) rfl ?_
  refine w_getf (i := 3) (v := .ref (n0 + 2)) X0 hx hZ hown (wd14 hw) P0 rfl Fo3 2 rfl rfl (hb hby d4_1) (pc' := 4) rfl ?_
  intro T1 X1 P1
  refine w_ifnonnullY X1 hx (hb hby d4_4) (by decide) (pc' := 17) (by decide) ?_
  refine w_aloadN X1 hx (hb hby d4_17) rfl rfl (pc' := 18) rfl ?_
  refine w_getf (i := 3) (v := .ref (n0 + 2)) X1 hx hZ hown (wd14 hw) P1 rfl Fo3 2 rfl rfl (hb hby d4_18) (pc' := 21) rfl ?_
  intro T2 X2 P2
  refine w_aloadN X2 hx (hb hby d4_21) rfl rfl (pc' := 22) rfl ?_
  refine w_getf (i := 3) (v := .ref (n0 + 4)) X2 hx hZ hown (wd16 hw) P2 rfl Fo3 3 rfl rfl (hb hby d4_22) (pc' := 25) rfl ?_
  intro T3 X3 P3
  refine w_iloadN X3 hx (hb hby d4_25) rfl (pc' := 26) rfl ?_
  refine w_iaload (i := 4) (jn := 1) (v := .int (1 : Int32)) X3 hx hZ P3 rfl hk4 (hb hby d4_26) (by decide) rfl (pc' := 27) rfl ?_
  refine w_aloadN X3 hx (hb hby d4_27) rfl rfl (pc' := 28) rfl ?_
  refine w_getf (i := 3) (v := .ref (n0 + 4)) X3 hx hZ hown (wd16 hw) P3 rfl Fo3 3 rfl rfl (hb hby d4_28) (pc' := 31) rfl ?_
  intro T4 X4 P4
  refine w_iloadN X4 hx (hb hby d4_31) rfl (pc' := 32) rfl ?_
  refine w_iaload (i := 4) (jn := 1) (v := .int (1 : Int32)) X4 hx hZ P4 rfl hk4 (hb hby d4_32) (by decide) rfl (pc' := 33) rfl ?_
  refine w_aloadN X4 hx (hb hby d4_33) rfl rfl (pc' := 34) rfl ?_
  refine w_getf (i := 3) (v := .ref (n0 + 1)) X4 hx hZ hown (wd12 hw) P4 rfl Fo3 1 rfl rfl (hb hby d4_34) (pc' := 37) rfl ?_
  intro T5 X5 P5
  refine w_iloadN X5 hx (hb hby d4_37) rfl (pc' := 38) rfl ?_
  refine w_iaload (i := 1) (jn := 1) (v := .int (2 : Int32)) X5 hx hZ P5 rfl hk1 (hb hby d4_38) (by decide) rfl (pc' := 39) rfl ?_
  refine w_iadd X5 hx (hb hby d4_39) (pc' := 40) rfl ?_
  refine w_eqI (z := (3 : Int32)) (by decide) ?_
  refine own_call (W := 0) X5 hx hZ rfl hown hml.symm (wd28 hw) (wd29 hw) (wd30 hw) (wd31 hw) (rm5_18 l Z a0 hw [] n0 k0 hk0 k1 hk1 k2 hk2 u0 u1 u2 u3 o3 Fo3 k4 hk4 _ P5) (by decide) (by decide) (by decide) (by decide) (by decide) (argsL := [.ref (n0 + 2), .int (1 : Int32), .int (3 : Int32)]) (rest := []) pd5 rfl rfl rfl (Nat.le_of_eq rfl) (hb hby d4_40) (pc' := 43) rfl ?_
  intro _ T6 L1 X6 hq
  obtain ⟨rfl, N1, kA1, hkA1, P6⟩ := hq
  replace N1 := Fr.app N0 N1
  replace P6 : HP n0 T6.heap [AC k0 [.int (1 : Int32), .int (2 : Int32)], AC k1 [.int (1 : Int32), .int (2 : Int32)], AC k2 [.int u0, .int u1, .int u2, .int u3], o3, AC k4 [.int (0 : Int32), .int (1 : Int32)], AC kA1 [.int u1, .int u2]] := P6
  exact w_ret_a X6 hx rfl hret rfl hlk (hb hby d4_43) (by decide) (by decide) ⟨rfl, N1, kA1, hkA1, P6⟩
def Q_rm1_22 (Z : State) (n0 : Nat) (k0 : ClassId) (k1 : ClassId) (k2 : ClassId) (u0 : Int32) (u1 : Int32) (u2 : Int32) (u3 : Int32) (o3 : Jvm.Cell) (v : Option Value) (h : Heap) (L : List Loc) : Prop := v = none ∧ Fr n0 L ∧ ∃ c5 : Jvm.Cell, ObjF Z c5 "com/example/dirichlet/dirichlet/index/Postings" fl_C0 [.ref (n0 + 0), .ref (n0 + 1), .ref (n0 + 2), .ref (n0 + 4)] ∧ ∃ kA4 : ClassId, IsA Z kA4 .int ∧ HP n0 h [AC k0 [.int (1 : Int32), .int (2 : Int32)], AC k1 [.int (2 : Int32), .int (1 : Int32)], AC k2 [.int u0, .int u1, .int u2, .int u3], c5, AC kA4 [.int (0 : Int32), .int (2 : Int32)]]
theorem ef_rm1_22 (m : MethodId) (n0 : Nat) (u0 : Int32) (u1 : Int32) (u2 : Int32) (u3 : Int32) : entryFrame m #[.ref (n0 + 3), .ref (n0 + 0), .ref (n0 + 1), .ref (n0 + 2)] 5 = mkF m 0 #[.val (.ref (n0 + 3)), .val (.ref (n0 + 0)), .val (.ref (n0 + 1)), .val (.ref (n0 + 2)), .unset] [] := by first | (simp [entryFrame, mkF, argsToLocals, Value.category]; done) | rfl
set_option maxRecDepth 65536 in
set_option maxHeartbeats 40000000 in
theorem rm1_22 (l : Launch) (Z : State) (a0 : Array Value) (hw : ∀ d ∈ tables_1, d.before a0 Z = true) (ws : List Jvm.Cond) (n0 : Nat) (k0 : ClassId) (hk0 : IsA Z k0 .int) (k1 : ClassId) (hk1 : IsA Z k1 .int) (k2 : ClassId) (hk2 : IsA Z k2 .int) (u0 : Int32) (u1 : Int32) (u2 : Int32) (u3 : Int32) (o3 : Jvm.Cell) (Fo3 : ObjF Z o3 "com/example/dirichlet/dirichlet/index/Postings" fl_C0 [.null, .null, .null, .null]) (h0 : Heap) (P0 : HP n0 h0 [AC k0 [.int (1 : Int32), .int (2 : Int32)], AC k1 [.int (2 : Int32), .int (1 : Int32)], AC k2 [.int u0, .int u1, .int u2, .int u3], o3]) :
    MetFree l (⟨"com/example/dirichlet/dirichlet/index/Postings", "<init>", "([I[I[I)V"⟩ : MethodName) (head1 (Jvm.Cond.code (⟨"com/example/dirichlet/dirichlet/index/Postings", "<init>", "([I[I[I)V"⟩ : MethodName) prog_23_method_1_code 5 none :: ws) ({ frames := 1, cells := 1, slots := 2, locals := 12 } : Room)) (fun a U => a = #[.ref (n0 + 3), .ref (n0 + 0), .ref (n0 + 1), .ref (n0 + 2)] ∧ Z.Warmed39 U.vm ∧ U.heap = h0) (fun _ _ _ _ _ => True) (fun _ U o U' => ∃ v L, o = .returned v ∧ Q_rm1_22 Z n0 k0 k1 k2 u0 u1 u2 u3 o3 v U'.heap L ∧ FrameEnd U o U' L ({ frames := 1, cells := 1, slots := 2, locals := 12 } : Room).cells ({ frames := 1, cells := 1, slots := 2, locals := 12 } : Room).slots) := by
  refine own_body pn1 ?_
  intro p e s m below meth c T0 hx hby hml hret hlk hown hnm hZ X0 e0
  subst e0
  have N0 : Fr n0 [] := Fr.nil n0
  refine own_cast (ef_rm1_22 m n0 u0 u1 u2 u3) ?_
  refine w_aloadN X0 hx (hb hby d1_0) rfl rfl (pc' := 1) rfl ?_
  refine w_initO (W := 0) X0 hx hZ hown (by rw [hml]; rfl) (wd7 hw) (wd8 hw) (wd9 hw) P0 (hb hby d1_1) (by decide) (Nat.le_of_eq rfl) (by decide) (pc' := 4) rfl ?_
  intro T1 X1 P1
  refine w_aloadN X1 hx (hb hby d1_4) rfl rfl (pc' := 5) rfl ?_
  refine w_aloadN X1 hx (hb hby d1_5) rfl rfl (pc' := 6) rfl ?_
  refine w_putf (i := 3) (ty := (.array .int)) X1 hx hZ hown (wd10 hw) N0 P1 rfl Fo3 (di_C0 hw) 0 rfl (Or.inr ⟨(wd11 hw), rfl, hnm⟩) (wd2 hw) (by decide) rfl rfl (hb hby d1_6) (pc' := 9) rfl ?_
  intro T2 L1 c1 N1 X2 P2 F1
  replace P2 : HP n0 T2.heap [AC k0 [.int (1 : Int32), .int (2 : Int32)], AC k1 [.int (2 : Int32), .int (1 : Int32)], AC k2 [.int u0, .int u1, .int u2, .int u3], c1] := P2
  replace F1 : ObjF Z c1 "com/example/dirichlet/dirichlet/index/Postings" fl_C0 [.ref (n0 + 0), .null, .null, .null] := F1
  refine w_aloadN X2 hx (hb hby d1_9) rfl rfl (pc' := 10) rfl ?_
  refine w_aloadN X2 hx (hb hby d1_10) rfl rfl (pc' := 11) rfl ?_
  refine w_putf (i := 3) (ty := (.array .int)) X2 hx hZ hown (wd12 hw) N1 P2 rfl F1 (di_C0 hw) 1 rfl (Or.inr ⟨(wd13 hw), rfl, hnm⟩) (wd2 hw) (by decide) rfl rfl (hb hby d1_11) (pc' := 14) rfl ?_
  intro T3 L2 c2 N2 X3 P3 F2
  replace P3 : HP n0 T3.heap [AC k0 [.int (1 : Int32), .int (2 : Int32)], AC k1 [.int (2 : Int32), .int (1 : Int32)], AC k2 [.int u0, .int u1, .int u2, .int u3], c2] := P3
  replace F2 : ObjF Z c2 "com/example/dirichlet/dirichlet/index/Postings" fl_C0 [.ref (n0 + 0), .ref (n0 + 1), .null, .null] := F2
  refine w_aloadN X3 hx (hb hby d1_14) rfl rfl (pc' := 15) rfl ?_
  refine w_aloadN X3 hx (hb hby d1_15) rfl rfl (pc' := 16) rfl ?_
  refine w_putf (i := 3) (ty := (.array .int)) X3 hx hZ hown (wd14 hw) N2 P3 rfl F2 (di_C0 hw) 2 rfl (Or.inr ⟨(wd15 hw), rfl, hnm⟩) (wd2 hw) (by decide) rfl rfl (hb hby d1_16) (pc' := 19) rfl ?_
  intro T4 L3 c3 N3 X4 P4 F3
  replace P4 : HP n0 T4.heap [AC k0 [.int (1 : Int32), .int (2 : Int32)], AC k1 [.int (2 : Int32), .int (1 : Int32)], AC k2 [.int u0, .int u1, .int u2, .int u3], c3] := P4
  replace F3 : ObjF Z c3 "com/example/dirichlet/dirichlet/index/Postings" fl_C0 [.ref (n0 + 0), .ref (n0 + 1), .ref (n0 + 2), .null] := F3
  refine w_aloadN X4 hx (hb hby d1_19) rfl rfl (pc' := 20) rfl ?_
  refine w_ifnonnullY X4 hx (hb hby d1_20) (by decide) (pc' := 31) (by decide) ?_
  refine w_aloadN X4 hx (hb hby d1_31) rfl rfl (pc' := 32) rfl ?_
  refine w_aloadN X4 hx (hb hby d1_32) rfl rfl (pc' := 33) rfl ?_
  refine w_arrlen (i := 1) X4 hx hZ P4 rfl hk1 (hb hby d1_33) (z := (2 : Int32)) rfl (pc' := 34) rfl ?_
  refine w_newarr (N := 2) (j := 4) X4 hx hZ P4 (ty := .int) rfl (wd0 hw) (hb hby d1_34) (by decide) (by decide) (by decide) (by decide) rfl (pc' := 36) rfl ?_
  intro T5 kA4 X5 hkA4 P5
  replace P5 : HP n0 T5.heap [AC k0 [.int (1 : Int32), .int (2 : Int32)], AC k1 [.int (2 : Int32), .int (1 : Int32)], AC k2 [.int u0, .int u1, .int u2, .int u3], c3, AC kA4 [.int (0 : Int32), .int (0 : Int32)]] := P5
  refine w_putf (i := 3) (ty := (.array .int)) X5 hx hZ hown (wd16 hw) N3 P5 rfl F3 (di_C0 hw) 3 rfl (Or.inr ⟨(wd17 hw), rfl, hnm⟩) (wd2 hw) (by decide) rfl rfl (hb hby d1_36) (pc' := 39) rfl ?_
  intro T6 L4 c5 N4 X6 P6 F5
  replace P6 : HP n0 T6.heap [AC k0 [.int (1 : Int32), .int (2 : Int32)], AC k1 [.int (2 : Int32), .int (1 : Int32)], AC k2 [.int u0, .int u1, .int u2, .int u3], c5, AC kA4 [.int (0 : Int32), .int (0 : Int32)]] := P6
  replace F5 : ObjF Z c5 "com/example/dirichlet/dirichlet/index/Postings" fl_C0 [.ref (n0 + 0), .ref (n0 + 1), .ref (n0 + 2), .ref (n0 + 4)] := F5
  refine w_iconst (v := (1 : Int32)) X6 hx (hb hby d1_39) rfl (pc' := 40) rfl ?_
  refine w_istore (l' := #[.val (.ref (n0 + 3)), .val (.ref (n0 + 0)), .val (.ref (n0 + 1)), .val (.ref (n0 + 2)), .val (.int (1 : Int32))]) X6 hx (hb hby d1_40) rfl (pc' := 42) rfl ?_
  refine w_iload X6 hx (hb hby d1_42) rfl (pc' := 44) rfl ?_
  refine w_aloadN X6 hx (hb hby d1_44) rfl rfl (pc' := 45) rfl ?_
  refine w_arrlen (i := 1) X6 hx hZ P6 rfl hk1 (hb hby d1_45) (z := (2 : Int32)) rfl (pc' := 46) rfl ?_
  refine w_icmp_ge X6 hx (hb hby d1_46) (by decide) (pcY := 78) (by decide) (pc' := 49) rfl (fun h0 => absurd h0 (by decide)) (fun h0 => ?_)
  refine w_aloadN X6 hx (hb hby d1_49) rfl rfl (pc' := 50) rfl ?_
  refine w_getf (i := 3) (v := .ref (n0 + 4)) X6 hx hZ hown (wd16 hw) P6 rfl F5 3 rfl rfl (hb hby d1_50) (pc' := 53) rfl ?_
  intro T7 X7 P7
  refine w_iload X7 hx (hb hby d1_53) rfl (pc' := 55) rfl ?_
  refine w_aloadN X7 hx (hb hby d1_55) rfl rfl (pc' := 56) rfl ?_
  refine w_getf (i := 3) (v := .ref (n0 + 4)) X7 hx hZ hown (wd16 hw) P7 rfl F5 3 rfl rfl (hb hby d1_56) (pc' := 59) rfl ?_
  intro T8 X8 P8
  refine w_iload X8 hx (hb hby d1_59) rfl (pc' := 61) rfl ?_
  refine w_iconst (v := (1 : Int32)) X8 hx (hb hby d1_61) rfl (pc' := 62) rfl ?_
  refine w_isub X8 hx (hb hby d1_62) (pc' := 63) rfl ?_
  refine w_eqI (z := (0 : Int32)) (by decide) ?_
  refine w_iaload (i := 4) (jn := 0) (v := .int (0 : Int32)) X8 hx hZ P8 rfl hkA4 (hb hby d1_63) (by decide) rfl (pc' := 64) rfl ?_
  refine w_aloadN X8 hx (hb hby d1_64) rfl rfl (pc' := 65) rfl ?_
  refine w_iload X8 hx (hb hby d1_65) rfl (pc' := 67) rfl ?_
  refine w_iconst (v := (1 : Int32)) X8 hx (hb hby d1_67) rfl (pc' := 68) rfl ?_
  refine w_isub X8 hx (hb hby d1_68) (pc' := 69) rfl ?_
  refine w_eqI (z := (0 : Int32)) (by decide) ?_
  refine w_iaload (i := 1) (jn := 0) (v := .int (2 : Int32)) X8 hx hZ P8 rfl hk1 (hb hby d1_69) (by decide) rfl (pc' := 70) rfl ?_
  refine w_iadd X8 hx (hb hby d1_70) (pc' := 71) rfl ?_
  refine w_eqI (z := (2 : Int32)) (by decide) ?_
  refine w_iastore (i := 4) (jn := 1) X8 hx hZ N4 P8 rfl hkA4 (hb hby d1_71) (by decide) (Nat.le_of_ble_eq_true rfl) (pc' := 72) rfl ?_
  intro T9 L5 N5 X9 P9
  replace P9 : HP n0 T9.heap [AC k0 [.int (1 : Int32), .int (2 : Int32)], AC k1 [.int (2 : Int32), .int (1 : Int32)], AC k2 [.int u0, .int u1, .int u2, .int u3], c5, AC kA4 [.int (0 : Int32), .int (2 : Int32)]] := P9
  refine w_iincE (z := (2 : Int32)) (l' := #[.val (.ref (n0 + 3)), .val (.ref (n0 + 0)), .val (.ref (n0 + 1)), .val (.ref (n0 + 2)), .val (.int (2 : Int32))]) X9 hx (hb hby d1_72) rfl (by decide) rfl (pc' := 75) rfl ?_
  refine w_goto X9 hx (hb hby d1_75) (by decide) (pc' := 42) (by decide) ?_
  refine w_iload X9 hx (hb hby d1_42) rfl (pc' := 44) rfl ?_
  refine w_aloadN X9 hx (hb hby d1_44) rfl rfl (pc' := 45) rfl ?_
  refine w_arrlen (i := 1) X9 hx hZ P9 rfl hk1 (hb hby d1_45) (z := (2 : Int32)) rfl (pc' := 46) rfl ?_
  refine w_icmp_ge X9 hx (hb hby d1_46) (by decide) (pcY := 78) (by decide) (pc' := 49) rfl (fun h1 => ?_) (fun h1 => absurd h1 (by decide))
  exact w_ret_v X9 hx hret hlk (hb hby d1_78) (by decide) (by decide) ⟨rfl, N5, c5, F5, kA4, hkA4, P9⟩
def Q_rm3_23 (Z : State) (n0 : Nat) (k0 : ClassId) (k1 : ClassId) (k2 : ClassId) (u0 : Int32) (u1 : Int32) (u2 : Int32) (u3 : Int32) (o3 : Jvm.Cell) (k4 : ClassId) (v : Option Value) (h : Heap) (L : List Loc) : Prop := v = some (.int (1 : Int32)) ∧ Fr n0 L ∧ HP n0 h [AC k0 [.int (1 : Int32), .int (2 : Int32)], AC k1 [.int (2 : Int32), .int (1 : Int32)], AC k2 [.int u0, .int u1, .int u2, .int u3], o3, AC k4 [.int (0 : Int32), .int (2 : Int32)]]
theorem ef_rm3_23 (m : MethodId) (n0 : Nat) (u0 : Int32) (u1 : Int32) (u2 : Int32) (u3 : Int32) : entryFrame m #[.ref (n0 + 3)] 1 = mkF m 0 #[.val (.ref (n0 + 3))] [] := by first | (simp [entryFrame, mkF, argsToLocals, Value.category]; done) | rfl
set_option maxRecDepth 65536 in
set_option maxHeartbeats 40000000 in
theorem rm3_23 (l : Launch) (Z : State) (a0 : Array Value) (hw : ∀ d ∈ tables_1, d.before a0 Z = true) (ws : List Jvm.Cond) (n0 : Nat) (k0 : ClassId) (hk0 : IsA Z k0 .int) (k1 : ClassId) (hk1 : IsA Z k1 .int) (k2 : ClassId) (hk2 : IsA Z k2 .int) (u0 : Int32) (u1 : Int32) (u2 : Int32) (u3 : Int32) (o3 : Jvm.Cell) (Fo3 : ObjF Z o3 "com/example/dirichlet/dirichlet/index/Postings" fl_C0 [.ref (n0 + 0), .ref (n0 + 1), .ref (n0 + 2), .ref (n0 + 4)]) (k4 : ClassId) (hk4 : IsA Z k4 .int) (h0 : Heap) (P0 : HP n0 h0 [AC k0 [.int (1 : Int32), .int (2 : Int32)], AC k1 [.int (2 : Int32), .int (1 : Int32)], AC k2 [.int u0, .int u1, .int u2, .int u3], o3, AC k4 [.int (0 : Int32), .int (2 : Int32)]]) :
    MetFree l (⟨"com/example/dirichlet/dirichlet/index/Postings", "hasPositions", "()Z"⟩ : MethodName) (head1 (Jvm.Cond.code (⟨"com/example/dirichlet/dirichlet/index/Postings", "hasPositions", "()Z"⟩ : MethodName) prog_23_method_5_code 1 (some .boolean) :: ws) ({ frames := 0, cells := 0, slots := 0, locals := 0 } : Room)) (fun a U => a = #[.ref (n0 + 3)] ∧ Z.Warmed39 U.vm ∧ U.heap = h0) (fun _ _ _ _ _ => True) (fun _ U o U' => ∃ v L, o = .returned v ∧ Q_rm3_23 Z n0 k0 k1 k2 u0 u1 u2 u3 o3 k4 v U'.heap L ∧ FrameEnd U o U' L ({ frames := 0, cells := 0, slots := 0, locals := 0 } : Room).cells ({ frames := 0, cells := 0, slots := 0, locals := 0 } : Room).slots) := by
  refine own_body pn3 ?_
  intro p e s m below meth c T0 hx hby hml hret hlk hown hnm hZ X0 e0
  subst e0
  have N0 : Fr n0 [] := Fr.nil n0
  refine own_cast (ef_rm3_23 m n0 u0 u1 u2 u3) ?_
  refine w_aloadN X0 hx (hb hby d3_0) rfl rfl (pc' := 1) rfl ?_
  refine w_getf (i := 3) (v := .ref (n0 + 2)) X0 hx hZ hown (wd14 hw) P0 rfl Fo3 2 rfl rfl (hb hby d3_1) (pc' := 4) rfl ?_
  intro T1 X1 P1
  refine w_ifnullN X1 hx (hb hby d3_4) (pc' := 7) rfl ?_
  refine w_iconst (v := (1 : Int32)) X1 hx (hb hby d3_7) rfl (pc' := 8) rfl ?_
  refine w_goto X1 hx (hb hby d3_8) (by decide) (pc' := 12) (by decide) ?_
  exact w_ret_n (t := .boolean) X1 hx hret hlk (by simp) (hb hby d3_12) (z' := (1 : Int32)) rfl (by decide) (by decide) ⟨rfl, N0, P1⟩
def Q_rm7_27 (Z : State) (n0 : Nat) (k0 : ClassId) (k1 : ClassId) (k2 : ClassId) (u0 : Int32) (u1 : Int32) (u2 : Int32) (u3 : Int32) (o3 : Jvm.Cell) (k4 : ClassId) (v : Option Value) (h : Heap) (L : List Loc) : Prop := v = none ∧ Fr n0 L ∧ HP n0 h [AC k0 [.int (1 : Int32), .int (2 : Int32)], AC k1 [.int (2 : Int32), .int (1 : Int32)], AC k2 [.int u0, .int u1, .int u2, .int u3], o3, AC k4 [.int (0 : Int32), .int (2 : Int32)]]
theorem ef_rm7_27 (m : MethodId) (n0 : Nat) (u0 : Int32) (u1 : Int32) (u2 : Int32) (u3 : Int32) : entryFrame m #[.int (2 : Int32), .int (3 : Int32)] 2 = mkF m 0 #[.val (.int (2 : Int32)), .val (.int (3 : Int32))] [] := by first | (simp [entryFrame, mkF, argsToLocals, Value.category]; done) | rfl
set_option maxRecDepth 65536 in
set_option maxHeartbeats 40000000 in
theorem rm7_27 (l : Launch) (Z : State) (a0 : Array Value) (hw : ∀ d ∈ tables_1, d.before a0 Z = true) (ws : List Jvm.Cond) (n0 : Nat) (k0 : ClassId) (hk0 : IsA Z k0 .int) (k1 : ClassId) (hk1 : IsA Z k1 .int) (k2 : ClassId) (hk2 : IsA Z k2 .int) (u0 : Int32) (u1 : Int32) (u2 : Int32) (u3 : Int32) (o3 : Jvm.Cell) (Fo3 : ObjF Z o3 "com/example/dirichlet/dirichlet/index/Postings" fl_C0 [.ref (n0 + 0), .ref (n0 + 1), .ref (n0 + 2), .ref (n0 + 4)]) (k4 : ClassId) (hk4 : IsA Z k4 .int) (h0 : Heap) (P0 : HP n0 h0 [AC k0 [.int (1 : Int32), .int (2 : Int32)], AC k1 [.int (2 : Int32), .int (1 : Int32)], AC k2 [.int u0, .int u1, .int u2, .int u3], o3, AC k4 [.int (0 : Int32), .int (2 : Int32)]]) :
    MetFree l (⟨"java/util/Arrays", "checkLength", "(II)V"⟩ : MethodName) (head1 (Jvm.Cond.code (⟨"java/util/Arrays", "checkLength", "(II)V"⟩ : MethodName) jdk_65_method_131_code 2 none :: ws) ({ frames := 0, cells := 0, slots := 0, locals := 0 } : Room)) (fun a U => a = #[.int (2 : Int32), .int (3 : Int32)] ∧ Z.Warmed39 U.vm ∧ U.heap = h0) (fun _ _ _ _ _ => True) (fun _ U o U' => ∃ v L, o = .returned v ∧ Q_rm7_27 Z n0 k0 k1 k2 u0 u1 u2 u3 o3 k4 v U'.heap L ∧ FrameEnd U o U' L ({ frames := 0, cells := 0, slots := 0, locals := 0 } : Room).cells ({ frames := 0, cells := 0, slots := 0, locals := 0 } : Room).slots) := by
  refine own_body pn7 ?_
  intro p e s m below meth c T0 hx hby hml hret hlk hown hnm hZ X0 e0
  subst e0
  have N0 : Fr n0 [] := Fr.nil n0
  refine own_cast (ef_rm7_27 m n0 u0 u1 u2 u3) ?_
  refine w_iloadN X0 hx (hb hby d7_0) rfl (pc' := 1) rfl ?_
  refine w_iloadN X0 hx (hb hby d7_1) rfl (pc' := 2) rfl ?_
  refine w_icmp_ge X0 hx (hb hby d7_2) (by decide) (pcY := 37) (by decide) (pc' := 5) rfl (fun h0 => ?_) (fun h0 => absurd h0 (by decide))
  exact w_ret_v X0 hx hret hlk (hb hby d7_37) (by decide) (by decide) ⟨rfl, N0, P0⟩
def Q_rm8_28 (Z : State) (n0 : Nat) (k0 : ClassId) (k1 : ClassId) (k2 : ClassId) (u0 : Int32) (u1 : Int32) (u2 : Int32) (u3 : Int32) (o3 : Jvm.Cell) (k4 : ClassId) (k5 : ClassId) (v : Option Value) (h : Heap) (L : List Loc) : Prop := v = some (.int (1 : Int32)) ∧ Fr n0 L ∧ HP n0 h [AC k0 [.int (1 : Int32), .int (2 : Int32)], AC k1 [.int (2 : Int32), .int (1 : Int32)], AC k2 [.int u0, .int u1, .int u2, .int u3], o3, AC k4 [.int (0 : Int32), .int (2 : Int32)], AC k5 [.int (0 : Int32)]]
theorem ef_rm8_28 (m : MethodId) (n0 : Nat) (u0 : Int32) (u1 : Int32) (u2 : Int32) (u3 : Int32) : entryFrame m #[.int (2 : Int32), .int (1 : Int32)] 2 = mkF m 0 #[.val (.int (2 : Int32)), .val (.int (1 : Int32))] [] := by first | (simp [entryFrame, mkF, argsToLocals, Value.category]; done) | rfl
set_option maxRecDepth 65536 in
set_option maxHeartbeats 40000000 in
theorem rm8_28 (l : Launch) (Z : State) (a0 : Array Value) (hw : ∀ d ∈ tables_1, d.before a0 Z = true) (ws : List Jvm.Cond) (n0 : Nat) (k0 : ClassId) (hk0 : IsA Z k0 .int) (k1 : ClassId) (hk1 : IsA Z k1 .int) (k2 : ClassId) (hk2 : IsA Z k2 .int) (u0 : Int32) (u1 : Int32) (u2 : Int32) (u3 : Int32) (o3 : Jvm.Cell) (Fo3 : ObjF Z o3 "com/example/dirichlet/dirichlet/index/Postings" fl_C0 [.ref (n0 + 0), .ref (n0 + 1), .ref (n0 + 2), .ref (n0 + 4)]) (k4 : ClassId) (hk4 : IsA Z k4 .int) (k5 : ClassId) (hk5 : IsA Z k5 .int) (h0 : Heap) (P0 : HP n0 h0 [AC k0 [.int (1 : Int32), .int (2 : Int32)], AC k1 [.int (2 : Int32), .int (1 : Int32)], AC k2 [.int u0, .int u1, .int u2, .int u3], o3, AC k4 [.int (0 : Int32), .int (2 : Int32)], AC k5 [.int (0 : Int32)]]) :
    MetFree l (⟨"java/lang/Math", "min", "(II)I"⟩ : MethodName) (head1 (Jvm.Cond.code (⟨"java/lang/Math", "min", "(II)I"⟩ : MethodName) jdk_29_method_69_code 2 (some .int) :: ws) ({ frames := 0, cells := 0, slots := 0, locals := 0 } : Room)) (fun a U => a = #[.int (2 : Int32), .int (1 : Int32)] ∧ Z.Warmed39 U.vm ∧ U.heap = h0) (fun _ _ _ _ _ => True) (fun _ U o U' => ∃ v L, o = .returned v ∧ Q_rm8_28 Z n0 k0 k1 k2 u0 u1 u2 u3 o3 k4 k5 v U'.heap L ∧ FrameEnd U o U' L ({ frames := 0, cells := 0, slots := 0, locals := 0 } : Room).cells ({ frames := 0, cells := 0, slots := 0, locals := 0 } : Room).slots) := by
  refine own_body pn8 ?_
  intro p e s m below meth c T0 hx hby hml hret hlk hown hnm hZ X0 e0
  subst e0
  have N0 : Fr n0 [] := Fr.nil n0
  refine own_cast (ef_rm8_28 m n0 u0 u1 u2 u3) ?_
  refine w_iloadN X0 hx (hb hby d8_0) rfl (pc' := 1) rfl ?_
  refine w_iloadN X0 hx (hb hby d8_1) rfl (pc' := 2) rfl ?_
  refine w_icmp_gt X0 hx (hb hby d8_2) (by decide) (pcY := 9) (by decide) (pc' := 5) rfl (fun h0 => ?_) (fun h0 => absurd h0 (by decide))
  refine w_iloadN X0 hx (hb hby d8_9) rfl (pc' := 10) rfl ?_
  exact w_ret_i X0 hx hret hlk (hb hby d8_10) (by decide) (by decide) ⟨rfl, N0, P0⟩
def Q_rm6_26 (Z : State) (n0 : Nat) (k0 : ClassId) (k1 : ClassId) (k2 : ClassId) (u0 : Int32) (u1 : Int32) (u2 : Int32) (u3 : Int32) (o3 : Jvm.Cell) (k4 : ClassId) (v : Option Value) (h : Heap) (L : List Loc) : Prop := v = some (.ref (n0 + 5)) ∧ Fr n0 L ∧ ∃ kA1 : ClassId, IsA Z kA1 .int ∧ HP n0 h [AC k0 [.int (1 : Int32), .int (2 : Int32)], AC k1 [.int (2 : Int32), .int (1 : Int32)], AC k2 [.int u0, .int u1, .int u2, .int u3], o3, AC k4 [.int (0 : Int32), .int (2 : Int32)], AC kA1 [.int u2]]
theorem ef_rm6_26 (m : MethodId) (n0 : Nat) (u0 : Int32) (u1 : Int32) (u2 : Int32) (u3 : Int32) : entryFrame m #[.ref (n0 + 2), .int (2 : Int32), .int (3 : Int32)] 5 = mkF m 0 #[.val (.ref (n0 + 2)), .val (.int (2 : Int32)), .val (.int (3 : Int32)), .unset, .unset] [] := by first | (simp [entryFrame, mkF, argsToLocals, Value.category]; done) | rfl
set_option maxRecDepth 65536 in
set_option maxHeartbeats 40000000 in
theorem rm6_26 (l : Launch) (Z : State) (a0 : Array Value) (hw : ∀ d ∈ tables_1, d.before a0 Z = true) (ws : List Jvm.Cond) (n0 : Nat) (k0 : ClassId) (hk0 : IsA Z k0 .int) (k1 : ClassId) (hk1 : IsA Z k1 .int) (k2 : ClassId) (hk2 : IsA Z k2 .int) (u0 : Int32) (u1 : Int32) (u2 : Int32) (u3 : Int32) (o3 : Jvm.Cell) (Fo3 : ObjF Z o3 "com/example/dirichlet/dirichlet/index/Postings" fl_C0 [.ref (n0 + 0), .ref (n0 + 1), .ref (n0 + 2), .ref (n0 + 4)]) (k4 : ClassId) (hk4 : IsA Z k4 .int) (h0 : Heap) (P0 : HP n0 h0 [AC k0 [.int (1 : Int32), .int (2 : Int32)], AC k1 [.int (2 : Int32), .int (1 : Int32)], AC k2 [.int u0, .int u1, .int u2, .int u3], o3, AC k4 [.int (0 : Int32), .int (2 : Int32)]]) :
    MetFree l (⟨"java/util/Arrays", "copyOfRangeInt", "([III)[I"⟩ : MethodName) (head1 (Jvm.Cond.code (⟨"java/util/Arrays", "copyOfRangeInt", "([III)[I"⟩ : MethodName) jdk_65_method_137_code 5 (some (.array .int)) :: ws) ({ frames := 1, cells := 1, slots := 1, locals := 18 } : Room)) (fun a U => a = #[.ref (n0 + 2), .int (2 : Int32), .int (3 : Int32)] ∧ Z.Warmed39 U.vm ∧ U.heap = h0) (fun _ _ _ _ _ => True) (fun _ U o U' => ∃ v L, o = .returned v ∧ Q_rm6_26 Z n0 k0 k1 k2 u0 u1 u2 u3 o3 k4 v U'.heap L ∧ FrameEnd U o U' L ({ frames := 1, cells := 1, slots := 1, locals := 18 } : Room).cells ({ frames := 1, cells := 1, slots := 1, locals := 18 } : Room).slots) := by
  refine own_body pn6 ?_
  intro p e s m below meth c T0 hx hby hml hret hlk hown hnm hZ X0 e0
  subst e0
  have N0 : Fr n0 [] := Fr.nil n0
  refine own_cast (ef_rm6_26 m n0 u0 u1 u2 u3) ?_
  refine w_iloadN X0 hx (hb hby d6_0) rfl (pc' := 1) rfl ?_
  refine w_iloadN X0 hx (hb hby d6_1) rfl (pc' := 2) rfl ?_
  refine own_call (W := 0) X0 hx hZ rfl hown hml.symm (wd35 hw) (wd36 hw) (wd30 hw) (wd37 hw) (rm7_27 l Z a0 hw [] n0 k0 hk0 k1 hk1 k2 hk2 u0 u1 u2 u3 o3 Fo3 k4 hk4 _ P0) (by decide) (by decide) (by decide) (by decide) (by decide) (argsL := [.int (2 : Int32), .int (3 : Int32)]) (rest := []) pd7 rfl rfl rfl (Nat.le_of_eq rfl) (hb hby d6_2) (pc' := 5) rfl ?_
  intro _ T1 L1 X1 hq
  obtain ⟨rfl, N1, P1⟩ := hq
  replace N1 := Fr.app N0 N1
  replace P1 : HP n0 T1.heap [AC k0 [.int (1 : Int32), .int (2 : Int32)], AC k1 [.int (2 : Int32), .int (1 : Int32)], AC k2 [.int u0, .int u1, .int u2, .int u3], o3, AC k4 [.int (0 : Int32), .int (2 : Int32)]] := P1
  refine w_iloadN X1 hx (hb hby d6_5) rfl (pc' := 6) rfl ?_
  refine w_iloadN X1 hx (hb hby d6_6) rfl (pc' := 7) rfl ?_
  refine w_isub X1 hx (hb hby d6_7) (pc' := 8) rfl ?_
  refine w_eqI (z := (1 : Int32)) (by decide) ?_
  refine w_istoreN (l' := #[.val (.ref (n0 + 2)), .val (.int (2 : Int32)), .val (.int (3 : Int32)), .val (.int (1 : Int32)), .unset]) X1 hx (hb hby d6_8) rfl (pc' := 9) rfl ?_
  refine w_iloadN X1 hx (hb hby d6_9) rfl (pc' := 10) rfl ?_
  refine w_newarr (N := 1) (j := 5) X1 hx hZ P1 (ty := .int) rfl (wd0 hw) (hb hby d6_10) (by decide) (by decide) (by decide) (by decide) rfl (pc' := 12) rfl ?_
  intro T2 kA1 X2 hkA1 P2
  replace P2 : HP n0 T2.heap [AC k0 [.int (1 : Int32), .int (2 : Int32)], AC k1 [.int (2 : Int32), .int (1 : Int32)], AC k2 [.int u0, .int u1, .int u2, .int u3], o3, AC k4 [.int (0 : Int32), .int (2 : Int32)], AC kA1 [.int (0 : Int32)]] := P2
  refine w_astore (l' := #[.val (.ref (n0 + 2)), .val (.int (2 : Int32)), .val (.int (3 : Int32)), .val (.int (1 : Int32)), .val (.ref (n0 + 5))]) X2 hx (hb hby d6_12) rfl rfl (pc' := 14) rfl ?_
  refine w_aloadN X2 hx (hb hby d6_14) rfl rfl (pc' := 15) rfl ?_
  refine w_iloadN X2 hx (hb hby d6_15) rfl (pc' := 16) rfl ?_
  refine w_aload X2 hx (hb hby d6_16) rfl rfl (pc' := 18) rfl ?_
  refine w_iconst (v := (0 : Int32)) X2 hx (hb hby d6_18) rfl (pc' := 19) rfl ?_
  refine w_aloadN X2 hx (hb hby d6_19) rfl rfl (pc' := 20) rfl ?_
  refine w_arrlen (i := 2) X2 hx hZ P2 rfl hk2 (hb hby d6_20) (z := (4 : Int32)) rfl (pc' := 21) rfl ?_
  refine w_iloadN X2 hx (hb hby d6_21) rfl (pc' := 22) rfl ?_
  refine w_isub X2 hx (hb hby d6_22) (pc' := 23) rfl ?_
  refine w_eqI (z := (2 : Int32)) (by decide) ?_
  refine w_iloadN X2 hx (hb hby d6_23) rfl (pc' := 24) rfl ?_
  refine own_call (W := 4) X2 hx hZ rfl hown hml.symm (wd38 hw) (wd39 hw) (wd40 hw) (wd41 hw) (rm8_28 l Z a0 hw [] n0 k0 hk0 k1 hk1 k2 hk2 u0 u1 u2 u3 o3 Fo3 k4 hk4 kA1 hkA1 _ P2) (by decide) (by decide) (by decide) (by decide) (by decide) (argsL := [.int (2 : Int32), .int (1 : Int32)]) (rest := [.int (0 : Int32), .ref (n0 + 5), .int (2 : Int32), .ref (n0 + 2)]) pd8 rfl rfl rfl (Nat.le_of_eq rfl) (hb hby d6_24) (pc' := 27) rfl ?_
  intro _ T3 L2 X3 hq
  obtain ⟨rfl, N2, P3⟩ := hq
  replace N2 := Fr.app N1 N2
  replace P3 : HP n0 T3.heap [AC k0 [.int (1 : Int32), .int (2 : Int32)], AC k1 [.int (2 : Int32), .int (1 : Int32)], AC k2 [.int u0, .int u1, .int u2, .int u3], o3, AC k4 [.int (0 : Int32), .int (2 : Int32)], AC kA1 [.int (0 : Int32)]] := P3
  refine w_acopy (W := 0) (i := 2) (j := 5) (sn := 2) (dn := 0) (n := 1) (vd' := [.int u2]) X3 hx hZ hown (by rw [hml]; rfl) (wd42 hw) (wd45 hw) (wd43 hw) (wd44 hw) N2 P3 rfl rfl hk2 hkA1 rfl (by simp [fits]) (by decide) (by decide) (by decide) (Nat.le_of_ble_eq_true rfl) (Nat.le_of_ble_eq_true rfl) (hb hby d6_27) (by decide) (Nat.le_of_eq rfl) (by decide) rfl (pc' := 30) rfl ?_
  intro T4 L3 N3 X4 P4
  replace P4 : HP n0 T4.heap [AC k0 [.int (1 : Int32), .int (2 : Int32)], AC k1 [.int (2 : Int32), .int (1 : Int32)], AC k2 [.int u0, .int u1, .int u2, .int u3], o3, AC k4 [.int (0 : Int32), .int (2 : Int32)], AC kA1 [.int u2]] := P4
  refine w_aload X4 hx (hb hby d6_30) rfl rfl (pc' := 32) rfl ?_
  exact w_ret_a X4 hx rfl hret rfl hlk (hb hby d6_32) (by decide) (by decide) ⟨rfl, N3, kA1, hkA1, P4⟩
def Q_rm5_25 (Z : State) (n0 : Nat) (k0 : ClassId) (k1 : ClassId) (k2 : ClassId) (u0 : Int32) (u1 : Int32) (u2 : Int32) (u3 : Int32) (o3 : Jvm.Cell) (k4 : ClassId) (v : Option Value) (h : Heap) (L : List Loc) : Prop := v = some (.ref (n0 + 5)) ∧ Fr n0 L ∧ ∃ kA1 : ClassId, IsA Z kA1 .int ∧ HP n0 h [AC k0 [.int (1 : Int32), .int (2 : Int32)], AC k1 [.int (2 : Int32), .int (1 : Int32)], AC k2 [.int u0, .int u1, .int u2, .int u3], o3, AC k4 [.int (0 : Int32), .int (2 : Int32)], AC kA1 [.int u2]]
theorem ef_rm5_25 (m : MethodId) (n0 : Nat) (u0 : Int32) (u1 : Int32) (u2 : Int32) (u3 : Int32) : entryFrame m #[.ref (n0 + 2), .int (2 : Int32), .int (3 : Int32)] 3 = mkF m 0 #[.val (.ref (n0 + 2)), .val (.int (2 : Int32)), .val (.int (3 : Int32))] [] := by first | (simp [entryFrame, mkF, argsToLocals, Value.category]; done) | rfl
set_option maxRecDepth 65536 in
set_option maxHeartbeats 40000000 in
theorem rm5_25 (l : Launch) (Z : State) (a0 : Array Value) (hw : ∀ d ∈ tables_1, d.before a0 Z = true) (ws : List Jvm.Cond) (n0 : Nat) (k0 : ClassId) (hk0 : IsA Z k0 .int) (k1 : ClassId) (hk1 : IsA Z k1 .int) (k2 : ClassId) (hk2 : IsA Z k2 .int) (u0 : Int32) (u1 : Int32) (u2 : Int32) (u3 : Int32) (o3 : Jvm.Cell) (Fo3 : ObjF Z o3 "com/example/dirichlet/dirichlet/index/Postings" fl_C0 [.ref (n0 + 0), .ref (n0 + 1), .ref (n0 + 2), .ref (n0 + 4)]) (k4 : ClassId) (hk4 : IsA Z k4 .int) (h0 : Heap) (P0 : HP n0 h0 [AC k0 [.int (1 : Int32), .int (2 : Int32)], AC k1 [.int (2 : Int32), .int (1 : Int32)], AC k2 [.int u0, .int u1, .int u2, .int u3], o3, AC k4 [.int (0 : Int32), .int (2 : Int32)]]) :
    MetFree l (⟨"java/util/Arrays", "copyOfRange", "([III)[I"⟩ : MethodName) (head1 (Jvm.Cond.code (⟨"java/util/Arrays", "copyOfRange", "([III)[I"⟩ : MethodName) jdk_65_method_136_code 3 (some (.array .int)) :: ws) ({ frames := 2, cells := 1, slots := 1, locals := 34 } : Room)) (fun a U => a = #[.ref (n0 + 2), .int (2 : Int32), .int (3 : Int32)] ∧ Z.Warmed39 U.vm ∧ U.heap = h0) (fun _ _ _ _ _ => True) (fun _ U o U' => ∃ v L, o = .returned v ∧ Q_rm5_25 Z n0 k0 k1 k2 u0 u1 u2 u3 o3 k4 v U'.heap L ∧ FrameEnd U o U' L ({ frames := 2, cells := 1, slots := 1, locals := 34 } : Room).cells ({ frames := 2, cells := 1, slots := 1, locals := 34 } : Room).slots) := by
  refine own_body pn5 ?_
  intro p e s m below meth c T0 hx hby hml hret hlk hown hnm hZ X0 e0
  subst e0
  have N0 : Fr n0 [] := Fr.nil n0
  refine own_cast (ef_rm5_25 m n0 u0 u1 u2 u3) ?_
  refine w_iloadN X0 hx (hb hby d5_0) rfl (pc' := 1) rfl ?_
  refine w_if_ne X0 hx (hb hby d5_1) (by decide) (pcY := 10) (by decide) (pc' := 4) rfl (fun h0 => ?_) (fun h0 => absurd h0 (by decide))
  refine w_aloadN X0 hx (hb hby d5_10) rfl rfl (pc' := 11) rfl ?_
  refine w_iloadN X0 hx (hb hby d5_11) rfl (pc' := 12) rfl ?_
  refine w_iloadN X0 hx (hb hby d5_12) rfl (pc' := 13) rfl ?_
  refine own_call (W := 0) X0 hx hZ rfl hown hml.symm (wd32 hw) (wd33 hw) (wd30 hw) (wd34 hw) (rm6_26 l Z a0 hw [] n0 k0 hk0 k1 hk1 k2 hk2 u0 u1 u2 u3 o3 Fo3 k4 hk4 _ P0) (by decide) (by decide) (by decide) (by decide) (by decide) (argsL := [.ref (n0 + 2), .int (2 : Int32), .int (3 : Int32)]) (rest := []) pd6 rfl rfl rfl (Nat.le_of_eq rfl) (hb hby d5_13) (pc' := 16) rfl ?_
  intro _ T1 L1 X1 hq
  obtain ⟨rfl, N1, kA1, hkA1, P1⟩ := hq
  replace N1 := Fr.app N0 N1
  replace P1 : HP n0 T1.heap [AC k0 [.int (1 : Int32), .int (2 : Int32)], AC k1 [.int (2 : Int32), .int (1 : Int32)], AC k2 [.int u0, .int u1, .int u2, .int u3], o3, AC k4 [.int (0 : Int32), .int (2 : Int32)], AC kA1 [.int u2]] := P1
  exact w_ret_a X1 hx rfl hret rfl hlk (hb hby d5_16) (by decide) (by decide) ⟨rfl, N1, kA1, hkA1, P1⟩
def Q_rm4_24 (Z : State) (n0 : Nat) (k0 : ClassId) (k1 : ClassId) (k2 : ClassId) (u0 : Int32) (u1 : Int32) (u2 : Int32) (u3 : Int32) (o3 : Jvm.Cell) (k4 : ClassId) (v : Option Value) (h : Heap) (L : List Loc) : Prop := v = some (.ref (n0 + 5)) ∧ Fr n0 L ∧ ∃ kA1 : ClassId, IsA Z kA1 .int ∧ HP n0 h [AC k0 [.int (1 : Int32), .int (2 : Int32)], AC k1 [.int (2 : Int32), .int (1 : Int32)], AC k2 [.int u0, .int u1, .int u2, .int u3], o3, AC k4 [.int (0 : Int32), .int (2 : Int32)], AC kA1 [.int u2]]
theorem ef_rm4_24 (m : MethodId) (n0 : Nat) (u0 : Int32) (u1 : Int32) (u2 : Int32) (u3 : Int32) : entryFrame m #[.ref (n0 + 3), .int (1 : Int32)] 2 = mkF m 0 #[.val (.ref (n0 + 3)), .val (.int (1 : Int32))] [] := by first | (simp [entryFrame, mkF, argsToLocals, Value.category]; done) | rfl
set_option maxRecDepth 65536 in
set_option maxHeartbeats 40000000 in
theorem rm4_24 (l : Launch) (Z : State) (a0 : Array Value) (hw : ∀ d ∈ tables_1, d.before a0 Z = true) (ws : List Jvm.Cond) (n0 : Nat) (k0 : ClassId) (hk0 : IsA Z k0 .int) (k1 : ClassId) (hk1 : IsA Z k1 .int) (k2 : ClassId) (hk2 : IsA Z k2 .int) (u0 : Int32) (u1 : Int32) (u2 : Int32) (u3 : Int32) (o3 : Jvm.Cell) (Fo3 : ObjF Z o3 "com/example/dirichlet/dirichlet/index/Postings" fl_C0 [.ref (n0 + 0), .ref (n0 + 1), .ref (n0 + 2), .ref (n0 + 4)]) (k4 : ClassId) (hk4 : IsA Z k4 .int) (h0 : Heap) (P0 : HP n0 h0 [AC k0 [.int (1 : Int32), .int (2 : Int32)], AC k1 [.int (2 : Int32), .int (1 : Int32)], AC k2 [.int u0, .int u1, .int u2, .int u3], o3, AC k4 [.int (0 : Int32), .int (2 : Int32)]]) :
    MetFree l (⟨"com/example/dirichlet/dirichlet/index/Postings", "positions", "(I)[I"⟩ : MethodName) (head1 (Jvm.Cond.code (⟨"com/example/dirichlet/dirichlet/index/Postings", "positions", "(I)[I"⟩ : MethodName) prog_23_method_6_code 2 (some (.array .int)) :: ws) ({ frames := 3, cells := 1, slots := 1, locals := 48 } : Room)) (fun a U => a = #[.ref (n0 + 3), .int (1 : Int32)] ∧ Z.Warmed39 U.vm ∧ U.heap = h0) (fun _ _ _ _ _ => True) (fun _ U o U' => ∃ v L, o = .returned v ∧ Q_rm4_24 Z n0 k0 k1 k2 u0 u1 u2 u3 o3 k4 v U'.heap L ∧ FrameEnd U o U' L ({ frames := 3, cells := 1, slots := 1, locals := 48 } : Room).cells ({ frames := 3, cells := 1, slots := 1, locals := 48 } : Room).slots) := by
  refine own_body pn4 ?_
  intro p e s m below meth c T0 hx hby hml hret hlk hown hnm hZ X0 e0
  subst e0
  have N0 : Fr n0 [] := Fr.nil n0
  refine own_cast (ef_rm4_24 m n0 u0 u1 u2 u3) ?_
  refine w_aloadN X0 hx (hb hby d4_0) rfl rfl (pc' := 1) rfl ?_
  refine w_getf (i := 3) (v := .ref (n0 + 2)) X0 hx hZ hown (wd14 hw) P0 rfl Fo3 2 rfl rfl (hb hby d4_1) (pc' := 4) rfl ?_
  intro T1 X1 P1
  refine w_ifnonnullY X1 hx (hb hby d4_4) (by decide) (pc' := 17) (by decide) ?_
  refine w_aloadN X1 hx (hb hby d4_17) rfl rfl (pc' := 18) rfl ?_
  refine w_getf (i := 3) (v := .ref (n0 + 2)) X1 hx hZ hown (wd14 hw) P1 rfl Fo3 2 rfl rfl (hb hby d4_18) (pc' := 21) rfl ?_
  intro T2 X2 P2
  refine w_aloadN X2 hx (hb hby d4_21) rfl rfl (pc' := 22) rfl ?_
  refine w_getf (i := 3) (v := .ref (n0 + 4)) X2 hx hZ hown (wd16 hw) P2 rfl Fo3 3 rfl rfl (hb hby d4_22) (pc' := 25) rfl ?_
  intro T3 X3 P3
  refine w_iloadN X3 hx (hb hby d4_25) rfl (pc' := 26) rfl ?_
  refine w_iaload (i := 4) (jn := 1) (v := .int (2 : Int32)) X3 hx hZ P3 rfl hk4 (hb hby d4_26) (by decide) rfl (pc' := 27) rfl ?_
  refine w_aloadN X3 hx (hb hby d4_27) rfl rfl (pc' := 28) rfl ?_
  refine w_getf (i := 3) (v := .ref (n0 + 4)) X3 hx hZ hown (wd16 hw) P3 rfl Fo3 3 rfl rfl (hb hby d4_28) (pc' := 31) rfl ?_
  intro T4 X4 P4
  refine w_iloadN X4 hx (hb hby d4_31) rfl (pc' := 32) rfl ?_
  refine w_iaload (i := 4) (jn := 1) (v := .int (2 : Int32)) X4 hx hZ P4 rfl hk4 (hb hby d4_32) (by decide) rfl (pc' := 33) rfl ?_
  refine w_aloadN X4 hx (hb hby d4_33) rfl rfl (pc' := 34) rfl ?_
  refine w_getf (i := 3) (v := .ref (n0 + 1)) X4 hx hZ hown (wd12 hw) P4 rfl Fo3 1 rfl rfl (hb hby d4_34) (pc' := 37) rfl ?_
  intro T5 X5 P5
  refine w_iloadN X5 hx (hb hby d4_37) rfl (pc' := 38) rfl ?_
  refine w_iaload (i := 1) (jn := 1) (v := .int (1 : Int32)) X5 hx hZ P5 rfl hk1 (hb hby d4_38) (by decide) rfl (pc' := 39) rfl ?_
  refine w_iadd X5 hx (hb hby d4_39) (pc' := 40) rfl ?_
  refine w_eqI (z := (3 : Int32)) (by decide) ?_
  refine own_call (W := 0) X5 hx hZ rfl hown hml.symm (wd28 hw) (wd29 hw) (wd30 hw) (wd31 hw) (rm5_25 l Z a0 hw [] n0 k0 hk0 k1 hk1 k2 hk2 u0 u1 u2 u3 o3 Fo3 k4 hk4 _ P5) (by decide) (by decide) (by decide) (by decide) (by decide) (argsL := [.ref (n0 + 2), .int (2 : Int32), .int (3 : Int32)]) (rest := []) pd5 rfl rfl rfl (Nat.le_of_eq rfl) (hb hby d4_40) (pc' := 43) rfl ?_
  intro _ T6 L1 X6 hq
  obtain ⟨rfl, N1, kA1, hkA1, P6⟩ := hq
  replace N1 := Fr.app N0 N1
  replace P6 : HP n0 T6.heap [AC k0 [.int (1 : Int32), .int (2 : Int32)], AC k1 [.int (2 : Int32), .int (1 : Int32)], AC k2 [.int u0, .int u1, .int u2, .int u3], o3, AC k4 [.int (0 : Int32), .int (2 : Int32)], AC kA1 [.int u2]] := P6
  exact w_ret_a X6 hx rfl hret rfl hlk (hb hby d4_43) (by decide) (by decide) ⟨rfl, N1, kA1, hkA1, P6⟩
def Q_rm1_29 (Z : State) (n0 : Nat) (k0 : ClassId) (k1 : ClassId) (k2 : ClassId) (u0 : Int32) (u1 : Int32) (u2 : Int32) (u3 : Int32) (o3 : Jvm.Cell) (v : Option Value) (h : Heap) (L : List Loc) : Prop := v = none ∧ Fr n0 L ∧ ∃ c5 : Jvm.Cell, ObjF Z c5 "com/example/dirichlet/dirichlet/index/Postings" fl_C0 [.ref (n0 + 0), .ref (n0 + 1), .ref (n0 + 2), .ref (n0 + 4)] ∧ ∃ kA4 : ClassId, IsA Z kA4 .int ∧ HP n0 h [AC k0 [.int (1 : Int32), .int (2 : Int32)], AC k1 [.int (2 : Int32), .int (2 : Int32)], AC k2 [.int u0, .int u1, .int u2, .int u3], c5, AC kA4 [.int (0 : Int32), .int (2 : Int32)]]
theorem ef_rm1_29 (m : MethodId) (n0 : Nat) (u0 : Int32) (u1 : Int32) (u2 : Int32) (u3 : Int32) : entryFrame m #[.ref (n0 + 3), .ref (n0 + 0), .ref (n0 + 1), .ref (n0 + 2)] 5 = mkF m 0 #[.val (.ref (n0 + 3)), .val (.ref (n0 + 0)), .val (.ref (n0 + 1)), .val (.ref (n0 + 2)), .unset] [] := by first | (simp [entryFrame, mkF, argsToLocals, Value.category]; done) | rfl
set_option maxRecDepth 65536 in
set_option maxHeartbeats 40000000 in
theorem rm1_29 (l : Launch) (Z : State) (a0 : Array Value) (hw : ∀ d ∈ tables_1, d.before a0 Z = true) (ws : List Jvm.Cond) (n0 : Nat) (k0 : ClassId) (hk0 : IsA Z k0 .int) (k1 : ClassId) (hk1 : IsA Z k1 .int) (k2 : ClassId) (hk2 : IsA Z k2 .int) (u0 : Int32) (u1 : Int32) (u2 : Int32) (u3 : Int32) (o3 : Jvm.Cell) (Fo3 : ObjF Z o3 "com/example/dirichlet/dirichlet/index/Postings" fl_C0 [.null, .null, .null, .null]) (h0 : Heap) (P0 : HP n0 h0 [AC k0 [.int (1 : Int32), .int (2 : Int32)], AC k1 [.int (2 : Int32), .int (2 : Int32)], AC k2 [.int u0, .int u1, .int u2, .int u3], o3]) :
    MetFree l (⟨"com/example/dirichlet/dirichlet/index/Postings", "<init>", "([I[I[I)V"⟩ : MethodName) (head1 (Jvm.Cond.code (⟨"com/example/dirichlet/dirichlet/index/Postings", "<init>", "([I[I[I)V"⟩ : MethodName) prog_23_method_1_code 5 none :: ws) ({ frames := 1, cells := 1, slots := 2, locals := 12 } : Room)) (fun a U => a = #[.ref (n0 + 3), .ref (n0 + 0), .ref (n0 + 1), .ref (n0 + 2)] ∧ Z.Warmed39 U.vm ∧ U.heap = h0) (fun _ _ _ _ _ => True) (fun _ U o U' => ∃ v L, o = .returned v ∧ Q_rm1_29 Z n0 k0 k1 k2 u0 u1 u2 u3 o3 v U'.heap L ∧ FrameEnd U o U' L ({ frames := 1, cells := 1, slots := 2, locals := 12 } : Room).cells ({ frames := 1, cells := 1, slots := 2, locals := 12 } : Room).slots) := by
  refine own_body pn1 ?_
  intro p e s m below meth c T0 hx hby hml hret hlk hown hnm hZ X0 e0
  subst e0
  have N0 : Fr n0 [] := Fr.nil n0
  refine own_cast (ef_rm1_29 m n0 u0 u1 u2 u3) ?_
  refine w_aloadN X0 hx (hb hby d1_0) rfl rfl (pc' := 1) rfl ?_
  refine w_initO (W := 0) X0 hx hZ hown (by rw [hml]; rfl) (wd7 hw) (wd8 hw) (wd9 hw) P0 (hb hby d1_1) (by decide) (Nat.le_of_eq rfl) (by decide) (pc' := 4) rfl ?_
  intro T1 X1 P1
  refine w_aloadN X1 hx (hb hby d1_4) rfl rfl (pc' := 5) rfl ?_
  refine w_aloadN X1 hx (hb hby d1_5) rfl rfl (pc' := 6) rfl ?_
  refine w_putf (i := 3) (ty := (.array .int)) X1 hx hZ hown (wd10 hw) N0 P1 rfl Fo3 (di_C0 hw) 0 rfl (Or.inr ⟨(wd11 hw), rfl, hnm⟩) (wd2 hw) (by decide) rfl rfl (hb hby d1_6) (pc' := 9) rfl ?_
  intro T2 L1 c1 N1 X2 P2 F1
  replace P2 : HP n0 T2.heap [AC k0 [.int (1 : Int32), .int (2 : Int32)], AC k1 [.int (2 : Int32), .int (2 : Int32)], AC k2 [.int u0, .int u1, .int u2, .int u3], c1] := P2
  replace F1 : ObjF Z c1 "com/example/dirichlet/dirichlet/index/Postings" fl_C0 [.ref (n0 + 0), .null, .null, .null] := F1
  refine w_aloadN X2 hx (hb hby d1_9) rfl rfl (pc' := 10) rfl ?_
  refine w_aloadN X2 hx (hb hby d1_10) rfl rfl (pc' := 11) rfl ?_
  refine w_putf (i := 3) (ty := (.array .int)) X2 hx hZ hown (wd12 hw) N1 P2 rfl F1 (di_C0 hw) 1 rfl (Or.inr ⟨(wd13 hw), rfl, hnm⟩) (wd2 hw) (by decide) rfl rfl (hb hby d1_11) (pc' := 14) rfl ?_
  intro T3 L2 c2 N2 X3 P3 F2
  replace P3 : HP n0 T3.heap [AC k0 [.int (1 : Int32), .int (2 : Int32)], AC k1 [.int (2 : Int32), .int (2 : Int32)], AC k2 [.int u0, .int u1, .int u2, .int u3], c2] := P3
  replace F2 : ObjF Z c2 "com/example/dirichlet/dirichlet/index/Postings" fl_C0 [.ref (n0 + 0), .ref (n0 + 1), .null, .null] := F2
  refine w_aloadN X3 hx (hb hby d1_14) rfl rfl (pc' := 15) rfl ?_
  refine w_aloadN X3 hx (hb hby d1_15) rfl rfl (pc' := 16) rfl ?_
  refine w_putf (i := 3) (ty := (.array .int)) X3 hx hZ hown (wd14 hw) N2 P3 rfl F2 (di_C0 hw) 2 rfl (Or.inr ⟨(wd15 hw), rfl, hnm⟩) (wd2 hw) (by decide) rfl rfl (hb hby d1_16) (pc' := 19) rfl ?_
  intro T4 L3 c3 N3 X4 P4 F3
  replace P4 : HP n0 T4.heap [AC k0 [.int (1 : Int32), .int (2 : Int32)], AC k1 [.int (2 : Int32), .int (2 : Int32)], AC k2 [.int u0, .int u1, .int u2, .int u3], c3] := P4
  replace F3 : ObjF Z c3 "com/example/dirichlet/dirichlet/index/Postings" fl_C0 [.ref (n0 + 0), .ref (n0 + 1), .ref (n0 + 2), .null] := F3
  refine w_aloadN X4 hx (hb hby d1_19) rfl rfl (pc' := 20) rfl ?_
  refine w_ifnonnullY X4 hx (hb hby d1_20) (by decide) (pc' := 31) (by decide) ?_
  refine w_aloadN X4 hx (hb hby d1_31) rfl rfl (pc' := 32) rfl ?_
  refine w_aloadN X4 hx (hb hby d1_32) rfl rfl (pc' := 33) rfl ?_
  refine w_arrlen (i := 1) X4 hx hZ P4 rfl hk1 (hb hby d1_33) (z := (2 : Int32)) rfl (pc' := 34) rfl ?_
  refine w_newarr (N := 2) (j := 4) X4 hx hZ P4 (ty := .int) rfl (wd0 hw) (hb hby d1_34) (by decide) (by decide) (by decide) (by decide) rfl (pc' := 36) rfl ?_
  intro T5 kA4 X5 hkA4 P5
  replace P5 : HP n0 T5.heap [AC k0 [.int (1 : Int32), .int (2 : Int32)], AC k1 [.int (2 : Int32), .int (2 : Int32)], AC k2 [.int u0, .int u1, .int u2, .int u3], c3, AC kA4 [.int (0 : Int32), .int (0 : Int32)]] := P5
  refine w_putf (i := 3) (ty := (.array .int)) X5 hx hZ hown (wd16 hw) N3 P5 rfl F3 (di_C0 hw) 3 rfl (Or.inr ⟨(wd17 hw), rfl, hnm⟩) (wd2 hw) (by decide) rfl rfl (hb hby d1_36) (pc' := 39) rfl ?_
  intro T6 L4 c5 N4 X6 P6 F5
  replace P6 : HP n0 T6.heap [AC k0 [.int (1 : Int32), .int (2 : Int32)], AC k1 [.int (2 : Int32), .int (2 : Int32)], AC k2 [.int u0, .int u1, .int u2, .int u3], c5, AC kA4 [.int (0 : Int32), .int (0 : Int32)]] := P6
  replace F5 : ObjF Z c5 "com/example/dirichlet/dirichlet/index/Postings" fl_C0 [.ref (n0 + 0), .ref (n0 + 1), .ref (n0 + 2), .ref (n0 + 4)] := F5
  refine w_iconst (v := (1 : Int32)) X6 hx (hb hby d1_39) rfl (pc' := 40) rfl ?_
  refine w_istore (l' := #[.val (.ref (n0 + 3)), .val (.ref (n0 + 0)), .val (.ref (n0 + 1)), .val (.ref (n0 + 2)), .val (.int (1 : Int32))]) X6 hx (hb hby d1_40) rfl (pc' := 42) rfl ?_
  refine w_iload X6 hx (hb hby d1_42) rfl (pc' := 44) rfl ?_
  refine w_aloadN X6 hx (hb hby d1_44) rfl rfl (pc' := 45) rfl ?_
  refine w_arrlen (i := 1) X6 hx hZ P6 rfl hk1 (hb hby d1_45) (z := (2 : Int32)) rfl (pc' := 46) rfl ?_
  refine w_icmp_ge X6 hx (hb hby d1_46) (by decide) (pcY := 78) (by decide) (pc' := 49) rfl (fun h0 => absurd h0 (by decide)) (fun h0 => ?_)
  refine w_aloadN X6 hx (hb hby d1_49) rfl rfl (pc' := 50) rfl ?_
  refine w_getf (i := 3) (v := .ref (n0 + 4)) X6 hx hZ hown (wd16 hw) P6 rfl F5 3 rfl rfl (hb hby d1_50) (pc' := 53) rfl ?_
  intro T7 X7 P7
  refine w_iload X7 hx (hb hby d1_53) rfl (pc' := 55) rfl ?_
  refine w_aloadN X7 hx (hb hby d1_55) rfl rfl (pc' := 56) rfl ?_
  refine w_getf (i := 3) (v := .ref (n0 + 4)) X7 hx hZ hown (wd16 hw) P7 rfl F5 3 rfl rfl (hb hby d1_56) (pc' := 59) rfl ?_
  intro T8 X8 P8
  refine w_iload X8 hx (hb hby d1_59) rfl (pc' := 61) rfl ?_
  refine w_iconst (v := (1 : Int32)) X8 hx (hb hby d1_61) rfl (pc' := 62) rfl ?_
  refine w_isub X8 hx (hb hby d1_62) (pc' := 63) rfl ?_
  refine w_eqI (z := (0 : Int32)) (by decide) ?_
  refine w_iaload (i := 4) (jn := 0) (v := .int (0 : Int32)) X8 hx hZ P8 rfl hkA4 (hb hby d1_63) (by decide) rfl (pc' := 64) rfl ?_
  refine w_aloadN X8 hx (hb hby d1_64) rfl rfl (pc' := 65) rfl ?_
  refine w_iload X8 hx (hb hby d1_65) rfl (pc' := 67) rfl ?_
  refine w_iconst (v := (1 : Int32)) X8 hx (hb hby d1_67) rfl (pc' := 68) rfl ?_
  refine w_isub X8 hx (hb hby d1_68) (pc' := 69) rfl ?_
  refine w_eqI (z := (0 : Int32)) (by decide) ?_
  refine w_iaload (i := 1) (jn := 0) (v := .int (2 : Int32)) X8 hx hZ P8 rfl hk1 (hb hby d1_69) (by decide) rfl (pc' := 70) rfl ?_
  refine w_iadd X8 hx (hb hby d1_70) (pc' := 71) rfl ?_
  refine w_eqI (z := (2 : Int32)) (by decide) ?_
  refine w_iastore (i := 4) (jn := 1) X8 hx hZ N4 P8 rfl hkA4 (hb hby d1_71) (by decide) (Nat.le_of_ble_eq_true rfl) (pc' := 72) rfl ?_
  intro T9 L5 N5 X9 P9
  replace P9 : HP n0 T9.heap [AC k0 [.int (1 : Int32), .int (2 : Int32)], AC k1 [.int (2 : Int32), .int (2 : Int32)], AC k2 [.int u0, .int u1, .int u2, .int u3], c5, AC kA4 [.int (0 : Int32), .int (2 : Int32)]] := P9
  refine w_iincE (z := (2 : Int32)) (l' := #[.val (.ref (n0 + 3)), .val (.ref (n0 + 0)), .val (.ref (n0 + 1)), .val (.ref (n0 + 2)), .val (.int (2 : Int32))]) X9 hx (hb hby d1_72) rfl (by decide) rfl (pc' := 75) rfl ?_
  refine w_goto X9 hx (hb hby d1_75) (by decide) (pc' := 42) (by decide) ?_
  refine w_iload X9 hx (hb hby d1_42) rfl (pc' := 44) rfl ?_
  refine w_aloadN X9 hx (hb hby d1_44) rfl rfl (pc' := 45) rfl ?_
  refine w_arrlen (i := 1) X9 hx hZ P9 rfl hk1 (hb hby d1_45) (z := (2 : Int32)) rfl (pc' := 46) rfl ?_
  refine w_icmp_ge X9 hx (hb hby d1_46) (by decide) (pcY := 78) (by decide) (pc' := 49) rfl (fun h1 => ?_) (fun h1 => absurd h1 (by decide))
  exact w_ret_v X9 hx hret hlk (hb hby d1_78) (by decide) (by decide) ⟨rfl, N5, c5, F5, kA4, hkA4, P9⟩
def Q_rm3_30 (Z : State) (n0 : Nat) (k0 : ClassId) (k1 : ClassId) (k2 : ClassId) (u0 : Int32) (u1 : Int32) (u2 : Int32) (u3 : Int32) (o3 : Jvm.Cell) (k4 : ClassId) (v : Option Value) (h : Heap) (L : List Loc) : Prop := v = some (.int (1 : Int32)) ∧ Fr n0 L ∧ HP n0 h [AC k0 [.int (1 : Int32), .int (2 : Int32)], AC k1 [.int (2 : Int32), .int (2 : Int32)], AC k2 [.int u0, .int u1, .int u2, .int u3], o3, AC k4 [.int (0 : Int32), .int (2 : Int32)]]
theorem ef_rm3_30 (m : MethodId) (n0 : Nat) (u0 : Int32) (u1 : Int32) (u2 : Int32) (u3 : Int32) : entryFrame m #[.ref (n0 + 3)] 1 = mkF m 0 #[.val (.ref (n0 + 3))] [] := by first | (simp [entryFrame, mkF, argsToLocals, Value.category]; done) | rfl
set_option maxRecDepth 65536 in
set_option maxHeartbeats 40000000 in
theorem rm3_30 (l : Launch) (Z : State) (a0 : Array Value) (hw : ∀ d ∈ tables_1, d.before a0 Z = true) (ws : List Jvm.Cond) (n0 : Nat) (k0 : ClassId) (hk0 : IsA Z k0 .int) (k1 : ClassId) (hk1 : IsA Z k1 .int) (k2 : ClassId) (hk2 : IsA Z k2 .int) (u0 : Int32) (u1 : Int32) (u2 : Int32) (u3 : Int32) (o3 : Jvm.Cell) (Fo3 : ObjF Z o3 "com/example/dirichlet/dirichlet/index/Postings" fl_C0 [.ref (n0 + 0), .ref (n0 + 1), .ref (n0 + 2), .ref (n0 + 4)]) (k4 : ClassId) (hk4 : IsA Z k4 .int) (h0 : Heap) (P0 : HP n0 h0 [AC k0 [.int (1 : Int32), .int (2 : Int32)], AC k1 [.int (2 : Int32), .int (2 : Int32)], AC k2 [.int u0, .int u1, .int u2, .int u3], o3, AC k4 [.int (0 : Int32), .int (2 : Int32)]]) :
    MetFree l (⟨"com/example/dirichlet/dirichlet/index/Postings", "hasPositions", "()Z"⟩ : MethodName) (head1 (Jvm.Cond.code (⟨"com/example/dirichlet/dirichlet/index/Postings", "hasPositions", "()Z"⟩ : MethodName) prog_23_method_5_code 1 (some .boolean) :: ws) ({ frames := 0, cells := 0, slots := 0, locals := 0 } : Room)) (fun a U => a = #[.ref (n0 + 3)] ∧ Z.Warmed39 U.vm ∧ U.heap = h0) (fun _ _ _ _ _ => True) (fun _ U o U' => ∃ v L, o = .returned v ∧ Q_rm3_30 Z n0 k0 k1 k2 u0 u1 u2 u3 o3 k4 v U'.heap L ∧ FrameEnd U o U' L ({ frames := 0, cells := 0, slots := 0, locals := 0 } : Room).cells ({ frames := 0, cells := 0, slots := 0, locals := 0 } : Room).slots) := by
  refine own_body pn3 ?_
  intro p e s m below meth c T0 hx hby hml hret hlk hown hnm hZ X0 e0
  subst e0
  have N0 : Fr n0 [] := Fr.nil n0
  refine own_cast (ef_rm3_30 m n0 u0 u1 u2 u3) ?_
  refine w_aloadN X0 hx (hb hby d3_0) rfl rfl (pc' := 1) rfl ?_
  refine w_getf (i := 3) (v := .ref (n0 + 2)) X0 hx hZ hown (wd14 hw) P0 rfl Fo3 2 rfl rfl (hb hby d3_1) (pc' := 4) rfl ?_
  intro T1 X1 P1
  refine w_ifnullN X1 hx (hb hby d3_4) (pc' := 7) rfl ?_
  refine w_iconst (v := (1 : Int32)) X1 hx (hb hby d3_7) rfl (pc' := 8) rfl ?_
  refine w_goto X1 hx (hb hby d3_8) (by decide) (pc' := 12) (by decide) ?_
  exact w_ret_n (t := .boolean) X1 hx hret hlk (by simp) (hb hby d3_12) (z' := (1 : Int32)) rfl (by decide) (by decide) ⟨rfl, N0, P1⟩
def Q_rm7_34 (Z : State) (n0 : Nat) (k0 : ClassId) (k1 : ClassId) (k2 : ClassId) (u0 : Int32) (u1 : Int32) (u2 : Int32) (u3 : Int32) (o3 : Jvm.Cell) (k4 : ClassId) (v : Option Value) (h : Heap) (L : List Loc) : Prop := v = none ∧ Fr n0 L ∧ HP n0 h [AC k0 [.int (1 : Int32), .int (2 : Int32)], AC k1 [.int (2 : Int32), .int (2 : Int32)], AC k2 [.int u0, .int u1, .int u2, .int u3], o3, AC k4 [.int (0 : Int32), .int (2 : Int32)]]
theorem ef_rm7_34 (m : MethodId) (n0 : Nat) (u0 : Int32) (u1 : Int32) (u2 : Int32) (u3 : Int32) : entryFrame m #[.int (2 : Int32), .int (4 : Int32)] 2 = mkF m 0 #[.val (.int (2 : Int32)), .val (.int (4 : Int32))] [] := by first | (simp [entryFrame, mkF, argsToLocals, Value.category]; done) | rfl
set_option maxRecDepth 65536 in
set_option maxHeartbeats 40000000 in
theorem rm7_34 (l : Launch) (Z : State) (a0 : Array Value) (hw : ∀ d ∈ tables_1, d.before a0 Z = true) (ws : List Jvm.Cond) (n0 : Nat) (k0 : ClassId) (hk0 : IsA Z k0 .int) (k1 : ClassId) (hk1 : IsA Z k1 .int) (k2 : ClassId) (hk2 : IsA Z k2 .int) (u0 : Int32) (u1 : Int32) (u2 : Int32) (u3 : Int32) (o3 : Jvm.Cell) (Fo3 : ObjF Z o3 "com/example/dirichlet/dirichlet/index/Postings" fl_C0 [.ref (n0 + 0), .ref (n0 + 1), .ref (n0 + 2), .ref (n0 + 4)]) (k4 : ClassId) (hk4 : IsA Z k4 .int) (h0 : Heap) (P0 : HP n0 h0 [AC k0 [.int (1 : Int32), .int (2 : Int32)], AC k1 [.int (2 : Int32), .int (2 : Int32)], AC k2 [.int u0, .int u1, .int u2, .int u3], o3, AC k4 [.int (0 : Int32), .int (2 : Int32)]]) :
    MetFree l (⟨"java/util/Arrays", "checkLength", "(II)V"⟩ : MethodName) (head1 (Jvm.Cond.code (⟨"java/util/Arrays", "checkLength", "(II)V"⟩ : MethodName) jdk_65_method_131_code 2 none :: ws) ({ frames := 0, cells := 0, slots := 0, locals := 0 } : Room)) (fun a U => a = #[.int (2 : Int32), .int (4 : Int32)] ∧ Z.Warmed39 U.vm ∧ U.heap = h0) (fun _ _ _ _ _ => True) (fun _ U o U' => ∃ v L, o = .returned v ∧ Q_rm7_34 Z n0 k0 k1 k2 u0 u1 u2 u3 o3 k4 v U'.heap L ∧ FrameEnd U o U' L ({ frames := 0, cells := 0, slots := 0, locals := 0 } : Room).cells ({ frames := 0, cells := 0, slots := 0, locals := 0 } : Room).slots) := by
  refine own_body pn7 ?_
  intro p e s m below meth c T0 hx hby hml hret hlk hown hnm hZ X0 e0
  subst e0
  have N0 : Fr n0 [] := Fr.nil n0
  refine own_cast (ef_rm7_34 m n0 u0 u1 u2 u3) ?_
  refine w_iloadN X0 hx (hb hby d7_0) rfl (pc' := 1) rfl ?_
  refine w_iloadN X0 hx (hb hby d7_1) rfl (pc' := 2) rfl ?_
  refine w_icmp_ge X0 hx (hb hby d7_2) (by decide) (pcY := 37) (by decide) (pc' := 5) rfl (fun h0 => ?_) (fun h0 => absurd h0 (by decide))
  exact w_ret_v X0 hx hret hlk (hb hby d7_37) (by decide) (by decide) ⟨rfl, N0, P0⟩
def Q_rm8_35 (Z : State) (n0 : Nat) (k0 : ClassId) (k1 : ClassId) (k2 : ClassId) (u0 : Int32) (u1 : Int32) (u2 : Int32) (u3 : Int32) (o3 : Jvm.Cell) (k4 : ClassId) (k5 : ClassId) (v : Option Value) (h : Heap) (L : List Loc) : Prop := v = some (.int (2 : Int32)) ∧ Fr n0 L ∧ HP n0 h [AC k0 [.int (1 : Int32), .int (2 : Int32)], AC k1 [.int (2 : Int32), .int (2 : Int32)], AC k2 [.int u0, .int u1, .int u2, .int u3], o3, AC k4 [.int (0 : Int32), .int (2 : Int32)], AC k5 [.int (0 : Int32), .int (0 : Int32)]]
theorem ef_rm8_35 (m : MethodId) (n0 : Nat) (u0 : Int32) (u1 : Int32) (u2 : Int32) (u3 : Int32) : entryFrame m #[.int (2 : Int32), .int (2 : Int32)] 2 = mkF m 0 #[.val (.int (2 : Int32)), .val (.int (2 : Int32))] [] := by first | (simp [entryFrame, mkF, argsToLocals, Value.category]; done) | rfl
set_option maxRecDepth 65536 in
set_option maxHeartbeats 40000000 in
theorem rm8_35 (l : Launch) (Z : State) (a0 : Array Value) (hw : ∀ d ∈ tables_1, d.before a0 Z = true) (ws : List Jvm.Cond) (n0 : Nat) (k0 : ClassId) (hk0 : IsA Z k0 .int) (k1 : ClassId) (hk1 : IsA Z k1 .int) (k2 : ClassId) (hk2 : IsA Z k2 .int) (u0 : Int32) (u1 : Int32) (u2 : Int32) (u3 : Int32) (o3 : Jvm.Cell) (Fo3 : ObjF Z o3 "com/example/dirichlet/dirichlet/index/Postings" fl_C0 [.ref (n0 + 0), .ref (n0 + 1), .ref (n0 + 2), .ref (n0 + 4)]) (k4 : ClassId) (hk4 : IsA Z k4 .int) (k5 : ClassId) (hk5 : IsA Z k5 .int) (h0 : Heap) (P0 : HP n0 h0 [AC k0 [.int (1 : Int32), .int (2 : Int32)], AC k1 [.int (2 : Int32), .int (2 : Int32)], AC k2 [.int u0, .int u1, .int u2, .int u3], o3, AC k4 [.int (0 : Int32), .int (2 : Int32)], AC k5 [.int (0 : Int32), .int (0 : Int32)]]) :
    MetFree l (⟨"java/lang/Math", "min", "(II)I"⟩ : MethodName) (head1 (Jvm.Cond.code (⟨"java/lang/Math", "min", "(II)I"⟩ : MethodName) jdk_29_method_69_code 2 (some .int) :: ws) ({ frames := 0, cells := 0, slots := 0, locals := 0 } : Room)) (fun a U => a = #[.int (2 : Int32), .int (2 : Int32)] ∧ Z.Warmed39 U.vm ∧ U.heap = h0) (fun _ _ _ _ _ => True) (fun _ U o U' => ∃ v L, o = .returned v ∧ Q_rm8_35 Z n0 k0 k1 k2 u0 u1 u2 u3 o3 k4 k5 v U'.heap L ∧ FrameEnd U o U' L ({ frames := 0, cells := 0, slots := 0, locals := 0 } : Room).cells ({ frames := 0, cells := 0, slots := 0, locals := 0 } : Room).slots) := by
  refine own_body pn8 ?_
  intro p e s m below meth c T0 hx hby hml hret hlk hown hnm hZ X0 e0
  subst e0
  have N0 : Fr n0 [] := Fr.nil n0
  refine own_cast (ef_rm8_35 m n0 u0 u1 u2 u3) ?_
  refine w_iloadN X0 hx (hb hby d8_0) rfl (pc' := 1) rfl ?_
  refine w_iloadN X0 hx (hb hby d8_1) rfl (pc' := 2) rfl ?_
  refine w_icmp_gt X0 hx (hb hby d8_2) (by decide) (pcY := 9) (by decide) (pc' := 5) rfl (fun h0 => absurd h0 (by decide)) (fun h0 => ?_)
  refine w_iloadN X0 hx (hb hby d8_5) rfl (pc' := 6) rfl ?_
  refine w_goto X0 hx (hb hby d8_6) (by decide) (pc' := 10) (by decide) ?_
  exact w_ret_i X0 hx hret hlk (hb hby d8_10) (by decide) (by decide) ⟨rfl, N0, P0⟩
def Q_rm6_33 (Z : State) (n0 : Nat) (k0 : ClassId) (k1 : ClassId) (k2 : ClassId) (u0 : Int32) (u1 : Int32) (u2 : Int32) (u3 : Int32) (o3 : Jvm.Cell) (k4 : ClassId) (v : Option Value) (h : Heap) (L : List Loc) : Prop := v = some (.ref (n0 + 5)) ∧ Fr n0 L ∧ ∃ kA1 : ClassId, IsA Z kA1 .int ∧ HP n0 h [AC k0 [.int (1 : Int32), .int (2 : Int32)], AC k1 [.int (2 : Int32), .int (2 : Int32)], AC k2 [.int u0, .int u1, .int u2, .int u3], o3, AC k4 [.int (0 : Int32), .int (2 : Int32)], AC kA1 [.int u2, .int u3]]
theorem ef_rm6_33 (m : MethodId) (n0 : Nat) (u0 : Int32) (u1 : Int32) (u2 : Int32) (u3 : Int32) : entryFrame m #[.ref (n0 + 2), .int (2 : Int32), .int (4 : Int32)] 5 = mkF m 0 #[.val (.ref (n0 + 2)), .val (.int (2 : Int32)), .val (.int (4 : Int32)), .unset, .unset] [] := by first | (simp [entryFrame, mkF, argsToLocals, Value.category]; done) | rfl
set_option maxRecDepth 65536 in
set_option maxHeartbeats 40000000 in
theorem rm6_33 (l : Launch) (Z : State) (a0 : Array Value) (hw : ∀ d ∈ tables_1, d.before a0 Z = true) (ws : List Jvm.Cond) (n0 : Nat) (k0 : ClassId) (hk0 : IsA Z k0 .int) (k1 : ClassId) (hk1 : IsA Z k1 .int) (k2 : ClassId) (hk2 : IsA Z k2 .int) (u0 : Int32) (u1 : Int32) (u2 : Int32) (u3 : Int32) (o3 : Jvm.Cell) (Fo3 : ObjF Z o3 "com/example/dirichlet/dirichlet/index/Postings" fl_C0 [.ref (n0 + 0), .ref (n0 + 1), .ref (n0 + 2), .ref (n0 + 4)]) (k4 : ClassId) (hk4 : IsA Z k4 .int) (h0 : Heap) (P0 : HP n0 h0 [AC k0 [.int (1 : Int32), .int (2 : Int32)], AC k1 [.int (2 : Int32), .int (2 : Int32)], AC k2 [.int u0, .int u1, .int u2, .int u3], o3, AC k4 [.int (0 : Int32), .int (2 : Int32)]]) :
    MetFree l (⟨"java/util/Arrays", "copyOfRangeInt", "([III)[I"⟩ : MethodName) (head1 (Jvm.Cond.code (⟨"java/util/Arrays", "copyOfRangeInt", "([III)[I"⟩ : MethodName) jdk_65_method_137_code 5 (some (.array .int)) :: ws) ({ frames := 1, cells := 1, slots := 2, locals := 18 } : Room)) (fun a U => a = #[.ref (n0 + 2), .int (2 : Int32), .int (4 : Int32)] ∧ Z.Warmed39 U.vm ∧ U.heap = h0) (fun _ _ _ _ _ => True) (fun _ U o U' => ∃ v L, o = .returned v ∧ Q_rm6_33 Z n0 k0 k1 k2 u0 u1 u2 u3 o3 k4 v U'.heap L ∧ FrameEnd U o U' L ({ frames := 1, cells := 1, slots := 2, locals := 18 } : Room).cells ({ frames := 1, cells := 1, slots := 2, locals := 18 } : Room).slots) := by
  refine own_body pn6 ?_
  intro p e s m below meth c T0 hx hby hml hret hlk hown hnm hZ X0 e0
  subst e0
  have N0 : Fr n0 [] := Fr.nil n0
  refine own_cast (ef_rm6_33 m n0 u0 u1 u2 u3) ?_
  refine w_iloadN X0 hx (hb hby d6_0) rfl (pc' := 1) rfl ?_
  refine w_iloadN X0 hx (hb hby d6_1) rfl (pc' := 2) rfl ?_
  refine own_call (W := 0) X0 hx hZ rfl hown hml.symm (wd35 hw) (wd36 hw) (wd30 hw) (wd37 hw) (rm7_34 l Z a0 hw [] n0 k0 hk0 k1 hk1 k2 hk2 u0 u1 u2 u3 o3 Fo3 k4 hk4 _ P0) (by decide) (by decide) (by decide) (by decide) (by decide) (argsL := [.int (2 : Int32), .int (4 : Int32)]) (rest := []) pd7 rfl rfl rfl (Nat.le_of_eq rfl) (hb hby d6_2) (pc' := 5) rfl ?_
  intro _ T1 L1 X1 hq
  obtain ⟨rfl, N1, P1⟩ := hq
  replace N1 := Fr.app N0 N1
  replace P1 : HP n0 T1.heap [AC k0 [.int (1 : Int32), .int (2 : Int32)], AC k1 [.int (2 : Int32), .int (2 : Int32)], AC k2 [.int u0, .int u1, .int u2, .int u3], o3, AC k4 [.int (0 : Int32), .int (2 : Int32)]] := P1
  refine w_iloadN X1 hx (hb hby d6_5) rfl (pc' := 6) rfl ?_
  refine w_iloadN X1 hx (hb hby d6_6) rfl (pc' := 7) rfl ?_
  refine w_isub X1 hx (hb hby d6_7) (pc' := 8) rfl ?_
  refine w_eqI (z := (2 : Int32)) (by decide) ?_
  refine w_istoreN (l' := #[.val (.ref (n0 + 2)), .val (.int (2 : Int32)), .val (.int (4 : Int32)), .val (.int (2 : Int32)), .unset]) X1 hx (hb hby d6_8) rfl (pc' := 9) rfl ?_
  refine w_iloadN X1 hx (hb hby d6_9) rfl (pc' := 10) rfl ?_
  refine w_newarr (N := 2) (j := 5) X1 hx hZ P1 (ty := .int) rfl (wd0 hw) (hb hby d6_10) (by decide) (by decide) (by decide) (by decide) rfl (pc' := 12) rfl ?_
  intro T2 kA1 X2 hkA1 P2
  replace P2 : HP n0 T2.heap [AC k0 [.int (1 : Int32), .int (2 : Int32)], AC k1 [.int (2 : Int32), .int (2 : Int32)], AC k2 [.int u0, .int u1, .int u2, .int u3], o3, AC k4 [.int (0 : Int32), .int (2 : Int32)], AC kA1 [.int (0 : Int32), .int (0 : Int32)]] := P2
  refine w_astore (l' := #[.val (.ref (n0 + 2)), .val (.int (2 : Int32)), .val (.int (4 : Int32)), .val (.int (2 : Int32)), .val (.ref (n0 + 5))]) X2 hx (hb hby d6_12) rfl rfl (pc' := 14) rfl ?_
  refine w_aloadN X2 hx (hb hby d6_14) rfl rfl (pc' := 15) rfl ?_
  refine w_iloadN X2 hx (hb hby d6_15) rfl (pc' := 16) rfl ?_
  refine w_aload X2 hx (hb hby d6_16) rfl rfl (pc' := 18) rfl ?_
  refine w_iconst (v := (0 : Int32)) X2 hx (hb hby d6_18) rfl (pc' := 19) rfl ?_
  refine w_aloadN X2 hx (hb hby d6_19) rfl rfl (pc' := 20) rfl ?_
  refine w_arrlen (i := 2) X2 hx hZ P2 rfl hk2 (hb hby d6_20) (z := (4 : Int32)) rfl (pc' := 21) rfl ?_
  refine w_iloadN X2 hx (hb hby d6_21) rfl (pc' := 22) rfl ?_
  refine w_isub X2 hx (hb hby d6_22) (pc' := 23) rfl ?_
  refine w_eqI (z := (2 : Int32)) (by decide) ?_
  refine w_iloadN X2 hx (hb hby d6_23) rfl (pc' := 24) rfl ?_
  refine own_call (W := 4) X2 hx hZ rfl hown hml.symm (wd38 hw) (wd39 hw) (wd40 hw) (wd41 hw) (rm8_35 l Z a0 hw [] n0 k0 hk0 k1 hk1 k2 hk2 u0 u1 u2 u3 o3 Fo3 k4 hk4 kA1 hkA1 _ P2) (by decide) (by decide) (by decide) (by decide) (by decide) (argsL := [.int (2 : Int32), .int (2 : Int32)]) (rest := [.int (0 : Int32), .ref (n0 + 5), .int (2 : Int32), .ref (n0 + 2)]) pd8 rfl rfl rfl (Nat.le_of_eq rfl) (hb hby d6_24) (pc' := 27) rfl ?_
  intro _ T3 L2 X3 hq
  obtain ⟨rfl, N2, P3⟩ := hq
  replace N2 := Fr.app N1 N2
  replace P3 : HP n0 T3.heap [AC k0 [.int (1 : Int32), .int (2 : Int32)], AC k1 [.int (2 : Int32), .int (2 : Int32)], AC k2 [.int u0, .int u1, .int u2, .int u3], o3, AC k4 [.int (0 : Int32), .int (2 : Int32)], AC kA1 [.int (0 : Int32), .int (0 : Int32)]] := P3
  refine w_acopy (W := 0) (i := 2) (j := 5) (sn := 2) (dn := 0) (n := 2) (vd' := [.int u2, .int u3]) X3 hx hZ hown (by rw [hml]; rfl) (wd42 hw) (wd45 hw) (wd43 hw) (wd44 hw) N2 P3 rfl rfl hk2 hkA1 rfl (by simp [fits]) (by decide) (by decide) (by decide) (Nat.le_of_ble_eq_true rfl) (Nat.le_of_ble_eq_true rfl) (hb hby d6_27) (by decide) (Nat.le_of_eq rfl) (by decide) rfl (pc' := 30) rfl ?_
  intro T4 L3 N3 X4 P4
  replace P4 : HP n0 T4.heap [AC k0 [.int (1 : Int32), .int (2 : Int32)], AC k1 [.int (2 : Int32), .int (2 : Int32)], AC k2 [.int u0, .int u1, .int u2, .int u3], o3, AC k4 [.int (0 : Int32), .int (2 : Int32)], AC kA1 [.int u2, .int u3]] := P4
  refine w_aload X4 hx (hb hby d6_30) rfl rfl (pc' := 32) rfl ?_
  exact w_ret_a X4 hx rfl hret rfl hlk (hb hby d6_32) (by decide) (by decide) ⟨rfl, N3, kA1, hkA1, P4⟩
def Q_rm5_32 (Z : State) (n0 : Nat) (k0 : ClassId) (k1 : ClassId) (k2 : ClassId) (u0 : Int32) (u1 : Int32) (u2 : Int32) (u3 : Int32) (o3 : Jvm.Cell) (k4 : ClassId) (v : Option Value) (h : Heap) (L : List Loc) : Prop := v = some (.ref (n0 + 5)) ∧ Fr n0 L ∧ ∃ kA1 : ClassId, IsA Z kA1 .int ∧ HP n0 h [AC k0 [.int (1 : Int32), .int (2 : Int32)], AC k1 [.int (2 : Int32), .int (2 : Int32)], AC k2 [.int u0, .int u1, .int u2, .int u3], o3, AC k4 [.int (0 : Int32), .int (2 : Int32)], AC kA1 [.int u2, .int u3]]
theorem ef_rm5_32 (m : MethodId) (n0 : Nat) (u0 : Int32) (u1 : Int32) (u2 : Int32) (u3 : Int32) : entryFrame m #[.ref (n0 + 2), .int (2 : Int32), .int (4 : Int32)] 3 = mkF m 0 #[.val (.ref (n0 + 2)), .val (.int (2 : Int32)), .val (.int (4 : Int32))] [] := by first | (simp [entryFrame, mkF, argsToLocals, Value.category]; done) | rfl
set_option maxRecDepth 65536 in
set_option maxHeartbeats 40000000 in
theorem rm5_32 (l : Launch) (Z : State) (a0 : Array Value) (hw : ∀ d ∈ tables_1, d.before a0 Z = true) (ws : List Jvm.Cond) (n0 : Nat) (k0 : ClassId) (hk0 : IsA Z k0 .int) (k1 : ClassId) (hk1 : IsA Z k1 .int) (k2 : ClassId) (hk2 : IsA Z k2 .int) (u0 : Int32) (u1 : Int32) (u2 : Int32) (u3 : Int32) (o3 : Jvm.Cell) (Fo3 : ObjF Z o3 "com/example/dirichlet/dirichlet/index/Postings" fl_C0 [.ref (n0 + 0), .ref (n0 + 1), .ref (n0 + 2), .ref (n0 + 4)]) (k4 : ClassId) (hk4 : IsA Z k4 .int) (h0 : Heap) (P0 : HP n0 h0 [AC k0 [.int (1 : Int32), .int (2 : Int32)], AC k1 [.int (2 : Int32), .int (2 : Int32)], AC k2 [.int u0, .int u1, .int u2, .int u3], o3, AC k4 [.int (0 : Int32), .int (2 : Int32)]]) :
    MetFree l (⟨"java/util/Arrays", "copyOfRange", "([III)[I"⟩ : MethodName) (head1 (Jvm.Cond.code (⟨"java/util/Arrays", "copyOfRange", "([III)[I"⟩ : MethodName) jdk_65_method_136_code 3 (some (.array .int)) :: ws) ({ frames := 2, cells := 1, slots := 2, locals := 34 } : Room)) (fun a U => a = #[.ref (n0 + 2), .int (2 : Int32), .int (4 : Int32)] ∧ Z.Warmed39 U.vm ∧ U.heap = h0) (fun _ _ _ _ _ => True) (fun _ U o U' => ∃ v L, o = .returned v ∧ Q_rm5_32 Z n0 k0 k1 k2 u0 u1 u2 u3 o3 k4 v U'.heap L ∧ FrameEnd U o U' L ({ frames := 2, cells := 1, slots := 2, locals := 34 } : Room).cells ({ frames := 2, cells := 1, slots := 2, locals := 34 } : Room).slots) := by
  refine own_body pn5 ?_
  intro p e s m below meth c T0 hx hby hml hret hlk hown hnm hZ X0 e0
  subst e0
  have N0 : Fr n0 [] := Fr.nil n0
  refine own_cast (ef_rm5_32 m n0 u0 u1 u2 u3) ?_
  refine w_iloadN X0 hx (hb hby d5_0) rfl (pc' := 1) rfl ?_
  refine w_if_ne X0 hx (hb hby d5_1) (by decide) (pcY := 10) (by decide) (pc' := 4) rfl (fun h0 => ?_) (fun h0 => absurd h0 (by decide))
  refine w_aloadN X0 hx (hb hby d5_10) rfl rfl (pc' := 11) rfl ?_
  refine w_iloadN X0 hx (hb hby d5_11) rfl (pc' := 12) rfl ?_
  refine w_iloadN X0 hx (hb hby d5_12) rfl (pc' := 13) rfl ?_
  refine own_call (W := 0) X0 hx hZ rfl hown hml.symm (wd32 hw) (wd33 hw) (wd30 hw) (wd34 hw) (rm6_33 l Z a0 hw [] n0 k0 hk0 k1 hk1 k2 hk2 u0 u1 u2 u3 o3 Fo3 k4 hk4 _ P0) (by decide) (by decide) (by decide) (by decide) (by decide) (argsL := [.ref (n0 + 2), .int (2 : Int32), .int (4 : Int32)]) (rest := []) pd6 rfl rfl rfl (Nat.le_of_eq rfl) (hb hby d5_13) (pc' := 16) rfl ?_
  intro _ T1 L1 X1 hq
  obtain ⟨rfl, N1, kA1, hkA1, P1⟩ := hq
  replace N1 := Fr.app N0 N1
  replace P1 : HP n0 T1.heap [AC k0 [.int (1 : Int32), .int (2 : Int32)], AC k1 [.int (2 : Int32), .int (2 : Int32)], AC k2 [.int u0, .int u1, .int u2, .int u3], o3, AC k4 [.int (0 : Int32), .int (2 : Int32)], AC kA1 [.int u2, .int u3]] := P1
  exact w_ret_a X1 hx rfl hret rfl hlk (hb hby d5_16) (by decide) (by decide) ⟨rfl, N1, kA1, hkA1, P1⟩
def Q_rm4_31 (Z : State) (n0 : Nat) (k0 : ClassId) (k1 : ClassId) (k2 : ClassId) (u0 : Int32) (u1 : Int32) (u2 : Int32) (u3 : Int32) (o3 : Jvm.Cell) (k4 : ClassId) (v : Option Value) (h : Heap) (L : List Loc) : Prop := v = some (.ref (n0 + 5)) ∧ Fr n0 L ∧ ∃ kA1 : ClassId, IsA Z kA1 .int ∧ HP n0 h [AC k0 [.int (1 : Int32), .int (2 : Int32)], AC k1 [.int (2 : Int32), .int (2 : Int32)], AC k2 [.int u0, .int u1, .int u2, .int u3], o3, AC k4 [.int (0 : Int32), .int (2 : Int32)], AC kA1 [.int u2, .int u3]]
theorem ef_rm4_31 (m : MethodId) (n0 : Nat) (u0 : Int32) (u1 : Int32) (u2 : Int32) (u3 : Int32) : entryFrame m #[.ref (n0 + 3), .int (1 : Int32)] 2 = mkF m 0 #[.val (.ref (n0 + 3)), .val (.int (1 : Int32))] [] := by first | (simp [entryFrame, mkF, argsToLocals, Value.category]; done) | rfl
set_option maxRecDepth 65536 in
set_option maxHeartbeats 40000000 in
theorem rm4_31 (l : Launch) (Z : State) (a0 : Array Value) (hw : ∀ d ∈ tables_1, d.before a0 Z = true) (ws : List Jvm.Cond) (n0 : Nat) (k0 : ClassId) (hk0 : IsA Z k0 .int) (k1 : ClassId) (hk1 : IsA Z k1 .int) (k2 : ClassId) (hk2 : IsA Z k2 .int) (u0 : Int32) (u1 : Int32) (u2 : Int32) (u3 : Int32) (o3 : Jvm.Cell) (Fo3 : ObjF Z o3 "com/example/dirichlet/dirichlet/index/Postings" fl_C0 [.ref (n0 + 0), .ref (n0 + 1), .ref (n0 + 2), .ref (n0 + 4)]) (k4 : ClassId) (hk4 : IsA Z k4 .int) (h0 : Heap) (P0 : HP n0 h0 [AC k0 [.int (1 : Int32), .int (2 : Int32)], AC k1 [.int (2 : Int32), .int (2 : Int32)], AC k2 [.int u0, .int u1, .int u2, .int u3], o3, AC k4 [.int (0 : Int32), .int (2 : Int32)]]) :
    MetFree l (⟨"com/example/dirichlet/dirichlet/index/Postings", "positions", "(I)[I"⟩ : MethodName) (head1 (Jvm.Cond.code (⟨"com/example/dirichlet/dirichlet/index/Postings", "positions", "(I)[I"⟩ : MethodName) prog_23_method_6_code 2 (some (.array .int)) :: ws) ({ frames := 3, cells := 1, slots := 2, locals := 48 } : Room)) (fun a U => a = #[.ref (n0 + 3), .int (1 : Int32)] ∧ Z.Warmed39 U.vm ∧ U.heap = h0) (fun _ _ _ _ _ => True) (fun _ U o U' => ∃ v L, o = .returned v ∧ Q_rm4_31 Z n0 k0 k1 k2 u0 u1 u2 u3 o3 k4 v U'.heap L ∧ FrameEnd U o U' L ({ frames := 3, cells := 1, slots := 2, locals := 48 } : Room).cells ({ frames := 3, cells := 1, slots := 2, locals := 48 } : Room).slots) := by
  refine own_body pn4 ?_
  intro p e s m below meth c T0 hx hby hml hret hlk hown hnm hZ X0 e0
  subst e0
  have N0 : Fr n0 [] := Fr.nil n0
  refine own_cast (ef_rm4_31 m n0 u0 u1 u2 u3) ?_
  refine w_aloadN X0 hx (hb hby d4_0) rfl rfl (pc' := 1) rfl ?_
  refine w_getf (i := 3) (v := .ref (n0 + 2)) X0 hx hZ hown (wd14 hw) P0 rfl Fo3 2 rfl rfl (hb hby d4_1) (pc' := 4) rfl ?_
  intro T1 X1 P1
  refine w_ifnonnullY X1 hx (hb hby d4_4) (by decide) (pc' := 17) (by decide) ?_
  refine w_aloadN X1 hx (hb hby d4_17) rfl rfl (pc' := 18) rfl ?_
  refine w_getf (i := 3) (v := .ref (n0 + 2)) X1 hx hZ hown (wd14 hw) P1 rfl Fo3 2 rfl rfl (hb hby d4_18) (pc' := 21) rfl ?_
  intro T2 X2 P2
  refine w_aloadN X2 hx (hb hby d4_21) rfl rfl (pc' := 22) rfl ?_
  refine w_getf (i := 3) (v := .ref (n0 + 4)) X2 hx hZ hown (wd16 hw) P2 rfl Fo3 3 rfl rfl (hb hby d4_22) (pc' := 25) rfl ?_
  intro T3 X3 P3
  refine w_iloadN X3 hx (hb hby d4_25) rfl (pc' := 26) rfl ?_
  refine w_iaload (i := 4) (jn := 1) (v := .int (2 : Int32)) X3 hx hZ P3 rfl hk4 (hb hby d4_26) (by decide) rfl (pc' := 27) rfl ?_
  refine w_aloadN X3 hx (hb hby d4_27) rfl rfl (pc' := 28) rfl ?_
  refine w_getf (i := 3) (v := .ref (n0 + 4)) X3 hx hZ hown (wd16 hw) P3 rfl Fo3 3 rfl rfl (hb hby d4_28) (pc' := 31) rfl ?_
  intro T4 X4 P4
  refine w_iloadN X4 hx (hb hby d4_31) rfl (pc' := 32) rfl ?_
  refine w_iaload (i := 4) (jn := 1) (v := .int (2 : Int32)) X4 hx hZ P4 rfl hk4 (hb hby d4_32) (by decide) rfl (pc' := 33) rfl ?_
  refine w_aloadN X4 hx (hb hby d4_33) rfl rfl (pc' := 34) rfl ?_
  refine w_getf (i := 3) (v := .ref (n0 + 1)) X4 hx hZ hown (wd12 hw) P4 rfl Fo3 1 rfl rfl (hb hby d4_34) (pc' := 37) rfl ?_
  intro T5 X5 P5
  refine w_iloadN X5 hx (hb hby d4_37) rfl (pc' := 38) rfl ?_
  refine w_iaload (i := 1) (jn := 1) (v := .int (2 : Int32)) X5 hx hZ P5 rfl hk1 (hb hby d4_38) (by decide) rfl (pc' := 39) rfl ?_
  refine w_iadd X5 hx (hb hby d4_39) (pc' := 40) rfl ?_
  refine w_eqI (z := (4 : Int32)) (by decide) ?_
  refine own_call (W := 0) X5 hx hZ rfl hown hml.symm (wd28 hw) (wd29 hw) (wd30 hw) (wd31 hw) (rm5_32 l Z a0 hw [] n0 k0 hk0 k1 hk1 k2 hk2 u0 u1 u2 u3 o3 Fo3 k4 hk4 _ P5) (by decide) (by decide) (by decide) (by decide) (by decide) (argsL := [.ref (n0 + 2), .int (2 : Int32), .int (4 : Int32)]) (rest := []) pd5 rfl rfl rfl (Nat.le_of_eq rfl) (hb hby d4_40) (pc' := 43) rfl ?_
  intro _ T6 L1 X6 hq
  obtain ⟨rfl, N1, kA1, hkA1, P6⟩ := hq
  replace N1 := Fr.app N0 N1
  replace P6 : HP n0 T6.heap [AC k0 [.int (1 : Int32), .int (2 : Int32)], AC k1 [.int (2 : Int32), .int (2 : Int32)], AC k2 [.int u0, .int u1, .int u2, .int u3], o3, AC k4 [.int (0 : Int32), .int (2 : Int32)], AC kA1 [.int u2, .int u3]] := P6
  exact w_ret_a X6 hx rfl hret rfl hlk (hb hby d4_43) (by decide) (by decide) ⟨rfl, N1, kA1, hkA1, P6⟩
theorem pn0 : plainFor (⟨"com/example/dirichlet/dirichlet/index/PostingsHasPositionsPinLaw", "law", "(IIIIII)Z"⟩ : MethodName) = true := plainFor_of_name (by first | (simp [plainName, overriddenIn]; done) | decide +kernel)
theorem pd0 : parseMethodDescriptor (⟨"com/example/dirichlet/dirichlet/index/PostingsHasPositionsPinLaw", "law", "(IIIIII)Z"⟩ : MethodName).desc = some ⟨[.int, .int, .int, .int, .int, .int], some .boolean⟩ := by decide +kernel
theorem ef0 (m : MethodId) (x0 : Int32) (x1 : Int32) (x2 : Int32) (x3 : Int32) (x4 : Int32) (x5 : Int32) : entryFrame m #[Value.int x0, Value.int x1, Value.int x2, Value.int x3, Value.int x4, Value.int x5] maxLocals = mkF m 0 #[.val (.int x0), .val (.int x1), .val (.int x2), .val (.int x3), .val (.int x4), .val (.int x5), .unset, .unset, .unset, .unset, .unset, .unset, .unset, .unset, .unset] [] := by first | (simp [entryFrame, mkF, argsToLocals, Value.category, maxLocals]; done) | rfl
def LawQ (n0 : Nat) (v : Option Value) (h : Heap) (L : List Loc) : Prop := v = some (.int 1) ∧ Fr n0 L
set_option maxRecDepth 65536 in
set_option maxHeartbeats 40000000 in
theorem rm0 (l : Launch) (Z : State) (a0 : Array Value) (hw : ∀ d ∈ tables_1, d.before a0 Z = true) (ws : List Jvm.Cond) (x0 : Int32) (x1 : Int32) (x2 : Int32) (x3 : Int32) (x4 : Int32) (x5 : Int32) (h0 : Heap) (n0 : Nat) (Z0 : h0.size = n0) :
    MetFree l x (head1 (Jvm.Cond.code x code maxLocals ret :: ws) room_1) (fun a U => a = #[Value.int x0, Value.int x1, Value.int x2, Value.int x3, Value.int x4, Value.int x5] ∧ Z.Warmed39 U.vm ∧ U.heap = h0) (fun _ _ _ _ _ => True) (fun _ U o U' => ∃ v L, o = .returned v ∧ LawQ n0 v U'.heap L ∧ FrameEnd U o U' L room_1.cells room_1.slots) := by
  refine own_body pn0 ?_
  intro p e s m below meth c T0 hx hby hml hret hlk hown hnm hZ X0 e0
  subst e0 Z0
  have P0 := HP.nil T0.heap
  generalize T0.heap.size = n0 at P0 ⊢
  have N0 : Fr n0 [] := Fr.nil n0
  refine own_cast (ef0 m x0 x1 x2 x3 x4 x5) ?_
  refine w_iloadN X0 hx (hb hby at_0) rfl (pc' := 1) rfl ?_
  refine w_iconst (v := (1 : Int32)) X0 hx (hb hby at_1) rfl (pc' := 2) rfl ?_
  refine w_iand X0 hx (hb hby at_2) (pc' := 3) rfl ?_
  refine w_if_eq X0 hx (hb hby at_3) (by decide) (pcY := 10) (by decide) (pc' := 6) rfl (fun h0 => ?_) (fun h0 => ?_)
  · refine w_iconst (v := (0 : Int32)) X0 hx (hb hby at_10) rfl (pc' := 11) rfl ?_
    refine w_istore (l' := #[.val (.int x0), .val (.int x1), .val (.int x2), .val (.int x3), .val (.int x4), .val (.int x5), .val (.int (0 : Int32)), .unset, .unset, .unset, .unset, .unset, .unset, .unset, .unset]) X0 hx (hb hby at_11) rfl (pc' := 13) rfl ?_
    refine w_iconst (v := (1 : Int32)) X0 hx (hb hby at_13) rfl (pc' := 14) rfl ?_
    refine w_iloadN X0 hx (hb hby at_14) rfl (pc' := 15) rfl ?_
    refine w_iconst (v := (1 : Int32)) X0 hx (hb hby at_15) rfl (pc' := 16) rfl ?_
    refine w_iand X0 hx (hb hby at_16) (pc' := 17) rfl ?_
    rcases (own_c2 (own_andk x1 1 1 (by decide))) with g1 | g2
    · refine w_eqI (z := (0 : Int32)) g1 ?_
      refine w_iadd X0 hx (hb hby at_17) (pc' := 18) rfl ?_
      refine w_eqI (z := (1 : Int32)) (by decide) ?_
      refine w_istore (l' := #[.val (.int x0), .val (.int x1), .val (.int x2), .val (.int x3), .val (.int x4), .val (.int x5), .val (.int (0 : Int32)), .val (.int (1 : Int32)), .unset, .unset, .unset, .unset, .unset, .unset, .unset]) X0 hx (hb hby at_18) rfl (pc' := 20) rfl ?_
      refine w_iconst (v := (1 : Int32)) X0 hx (hb hby at_20) rfl (pc' := 21) rfl ?_
      refine w_iloadN X0 hx (hb hby at_21) rfl (pc' := 22) rfl ?_
      refine w_iconst (v := (1 : Int32)) X0 hx (hb hby at_22) rfl (pc' := 23) rfl ?_
      refine w_iand X0 hx (hb hby at_23) (pc' := 24) rfl ?_
      rcases (own_c2 (own_andk x2 1 1 (by decide))) with g3 | g4
      · refine w_eqI (z := (0 : Int32)) g3 ?_
        refine w_iadd X0 hx (hb hby at_24) (pc' := 25) rfl ?_
        refine w_eqI (z := (1 : Int32)) (by decide) ?_
        refine w_istore (l' := #[.val (.int x0), .val (.int x1), .val (.int x2), .val (.int x3), .val (.int x4), .val (.int x5), .val (.int (0 : Int32)), .val (.int (1 : Int32)), .val (.int (1 : Int32)), .unset, .unset, .unset, .unset, .unset, .unset]) X0 hx (hb hby at_25) rfl (pc' := 27) rfl ?_
        refine w_iconst (v := (2 : Int32)) X0 hx (hb hby at_27) rfl (pc' := 28) rfl ?_
        refine w_newarr (N := 2) (j := 0) X0 hx hZ P0 (ty := .int) rfl (wd0 hw) (hb hby at_28) (by decide) (by decide) (by decide) (by decide) rfl (pc' := 30) rfl ?_
        intro T1 kA1 X1 hkA1 P1
        replace P1 : HP n0 T1.heap [AC kA1 [.int (0 : Int32), .int (0 : Int32)]] := P1
        refine w_dup X1 hx (hb hby at_30) rfl (pc' := 31) rfl ?_
        refine w_iconst (v := (0 : Int32)) X1 hx (hb hby at_31) rfl (pc' := 32) rfl ?_
        refine w_iconst (v := (1 : Int32)) X1 hx (hb hby at_32) rfl (pc' := 33) rfl ?_
        refine w_iastore (i := 0) (jn := 0) X1 hx hZ N0 P1 rfl hkA1 (hb hby at_33) (by decide) (Nat.le_of_ble_eq_true rfl) (pc' := 34) rfl ?_
        intro T2 L1 N1 X2 P2
        replace P2 : HP n0 T2.heap [AC kA1 [.int (1 : Int32), .int (0 : Int32)]] := P2
        refine w_dup X2 hx (hb hby at_34) rfl (pc' := 35) rfl ?_
        refine w_iconst (v := (1 : Int32)) X2 hx (hb hby at_35) rfl (pc' := 36) rfl ?_
        refine w_iconst (v := (2 : Int32)) X2 hx (hb hby at_36) rfl (pc' := 37) rfl ?_
        refine w_iastore (i := 0) (jn := 1) X2 hx hZ N1 P2 rfl hkA1 (hb hby at_37) (by decide) (Nat.le_of_ble_eq_true rfl) (pc' := 38) rfl ?_
        intro T3 L2 N2 X3 P3
        replace P3 : HP n0 T3.heap [AC kA1 [.int (1 : Int32), .int (2 : Int32)]] := P3
        refine w_astore (l' := #[.val (.int x0), .val (.int x1), .val (.int x2), .val (.int x3), .val (.int x4), .val (.int x5), .val (.int (0 : Int32)), .val (.int (1 : Int32)), .val (.int (1 : Int32)), .val (.ref (n0 + 0)), .unset, .unset, .unset, .unset, .unset]) X3 hx (hb hby at_38) rfl rfl (pc' := 40) rfl ?_
        refine w_iconst (v := (2 : Int32)) X3 hx (hb hby at_40) rfl (pc' := 41) rfl ?_
        refine w_newarr (N := 2) (j := 1) X3 hx hZ P3 (ty := .int) rfl (wd0 hw) (hb hby at_41) (by decide) (by decide) (by decide) (by decide) rfl (pc' := 43) rfl ?_
        intro T4 kA2 X4 hkA2 P4
        replace P4 : HP n0 T4.heap [AC kA1 [.int (1 : Int32), .int (2 : Int32)], AC kA2 [.int (0 : Int32), .int (0 : Int32)]] := P4
        refine w_dup X4 hx (hb hby at_43) rfl (pc' := 44) rfl ?_
        refine w_iconst (v := (0 : Int32)) X4 hx (hb hby at_44) rfl (pc' := 45) rfl ?_
        refine w_iload X4 hx (hb hby at_45) rfl (pc' := 47) rfl ?_
        refine w_iastore (i := 1) (jn := 0) X4 hx hZ N2 P4 rfl hkA2 (hb hby at_47) (by decide) (Nat.le_of_ble_eq_true rfl) (pc' := 48) rfl ?_
        intro T5 L3 N3 X5 P5
        replace P5 : HP n0 T5.heap [AC kA1 [.int (1 : Int32), .int (2 : Int32)], AC kA2 [.int (1 : Int32), .int (0 : Int32)]] := P5
        refine w_dup X5 hx (hb hby at_48) rfl (pc' := 49) rfl ?_
        refine w_iconst (v := (1 : Int32)) X5 hx (hb hby at_49) rfl (pc' := 50) rfl ?_
        refine w_iload X5 hx (hb hby at_50) rfl (pc' := 52) rfl ?_
        refine w_iastore (i := 1) (jn := 1) X5 hx hZ N3 P5 rfl hkA2 (hb hby at_52) (by decide) (Nat.le_of_ble_eq_true rfl) (pc' := 53) rfl ?_
        intro T6 L4 N4 X6 P6
        replace P6 : HP n0 T6.heap [AC kA1 [.int (1 : Int32), .int (2 : Int32)], AC kA2 [.int (1 : Int32), .int (1 : Int32)]] := P6
        refine w_astore (l' := #[.val (.int x0), .val (.int x1), .val (.int x2), .val (.int x3), .val (.int x4), .val (.int x5), .val (.int (0 : Int32)), .val (.int (1 : Int32)), .val (.int (1 : Int32)), .val (.ref (n0 + 0)), .val (.ref (n0 + 1)), .unset, .unset, .unset, .unset]) X6 hx (hb hby at_53) rfl rfl (pc' := 55) rfl ?_
        refine w_iconst (v := (4 : Int32)) X6 hx (hb hby at_55) rfl (pc' := 56) rfl ?_
        refine w_newarr (N := 4) (j := 2) X6 hx hZ P6 (ty := .int) rfl (wd0 hw) (hb hby at_56) (by decide) (by decide) (by decide) (by decide) rfl (pc' := 58) rfl ?_
        intro T7 kA3 X7 hkA3 P7
        replace P7 : HP n0 T7.heap [AC kA1 [.int (1 : Int32), .int (2 : Int32)], AC kA2 [.int (1 : Int32), .int (1 : Int32)], AC kA3 [.int (0 : Int32), .int (0 : Int32), .int (0 : Int32), .int (0 : Int32)]] := P7
        refine w_dup X7 hx (hb hby at_58) rfl (pc' := 59) rfl ?_
        refine w_iconst (v := (0 : Int32)) X7 hx (hb hby at_59) rfl (pc' := 60) rfl ?_
        refine w_iloadN X7 hx (hb hby at_60) rfl (pc' := 61) rfl ?_
        refine w_iastore (i := 2) (jn := 0) X7 hx hZ N4 P7 rfl hkA3 (hb hby at_61) (by decide) (Nat.le_of_ble_eq_true rfl) (pc' := 62) rfl ?_
        intro T8 L5 N5 X8 P8
        replace P8 : HP n0 T8.heap [AC kA1 [.int (1 : Int32), .int (2 : Int32)], AC kA2 [.int (1 : Int32), .int (1 : Int32)], AC kA3 [.int x3, .int (0 : Int32), .int (0 : Int32), .int (0 : Int32)]] := P8
        refine w_dup X8 hx (hb hby at_62) rfl (pc' := 63) rfl ?_
        refine w_iconst (v := (1 : Int32)) X8 hx (hb hby at_63) rfl (pc' := 64) rfl ?_
        refine w_iload X8 hx (hb hby at_64) rfl (pc' := 66) rfl ?_
        refine w_iastore (i := 2) (jn := 1) X8 hx hZ N5 P8 rfl hkA3 (hb hby at_66) (by decide) (Nat.le_of_ble_eq_true rfl) (pc' := 67) rfl ?_
        intro T9 L6 N6 X9 P9
        replace P9 : HP n0 T9.heap [AC kA1 [.int (1 : Int32), .int (2 : Int32)], AC kA2 [.int (1 : Int32), .int (1 : Int32)], AC kA3 [.int x3, .int x4, .int (0 : Int32), .int (0 : Int32)]] := P9
        refine w_dup X9 hx (hb hby at_67) rfl (pc' := 68) rfl ?_
        refine w_iconst (v := (2 : Int32)) X9 hx (hb hby at_68) rfl (pc' := 69) rfl ?_
        refine w_iload X9 hx (hb hby at_69) rfl (pc' := 71) rfl ?_
        refine w_iastore (i := 2) (jn := 2) X9 hx hZ N6 P9 rfl hkA3 (hb hby at_71) (by decide) (Nat.le_of_ble_eq_true rfl) (pc' := 72) rfl ?_
        intro T10 L7 N7 X10 P10
        replace P10 : HP n0 T10.heap [AC kA1 [.int (1 : Int32), .int (2 : Int32)], AC kA2 [.int (1 : Int32), .int (1 : Int32)], AC kA3 [.int x3, .int x4, .int x5, .int (0 : Int32)]] := P10
        refine w_dup X10 hx (hb hby at_72) rfl (pc' := 73) rfl ?_
        refine w_iconst (v := (3 : Int32)) X10 hx (hb hby at_73) rfl (pc' := 74) rfl ?_
        refine w_iloadN X10 hx (hb hby at_74) rfl (pc' := 75) rfl ?_
        refine w_iastore (i := 2) (jn := 3) X10 hx hZ N7 P10 rfl hkA3 (hb hby at_75) (by decide) (Nat.le_of_ble_eq_true rfl) (pc' := 76) rfl ?_
        intro T11 L8 N8 X11 P11
        replace P11 : HP n0 T11.heap [AC kA1 [.int (1 : Int32), .int (2 : Int32)], AC kA2 [.int (1 : Int32), .int (1 : Int32)], AC kA3 [.int x3, .int x4, .int x5, .int x0]] := P11
        refine w_astore (l' := #[.val (.int x0), .val (.int x1), .val (.int x2), .val (.int x3), .val (.int x4), .val (.int x5), .val (.int (0 : Int32)), .val (.int (1 : Int32)), .val (.int (1 : Int32)), .val (.ref (n0 + 0)), .val (.ref (n0 + 1)), .val (.ref (n0 + 2)), .unset, .unset, .unset]) X11 hx (hb hby at_76) rfl rfl (pc' := 78) rfl ?_
        refine w_new (j := 3) X11 hx hZ hown (wd1 hw) (wd2 hw) (wd3 hw) P11 fl_C0 dv_C0 rfl (ly_C0 hw) (hb hby at_78) (by decide) (by decide) rfl (pc' := 81) rfl ?_
        intro T12 c4 X12 P12 F4
        replace P12 : HP n0 T12.heap [AC kA1 [.int (1 : Int32), .int (2 : Int32)], AC kA2 [.int (1 : Int32), .int (1 : Int32)], AC kA3 [.int x3, .int x4, .int x5, .int x0], c4] := P12
        refine w_dup X12 hx (hb hby at_81) rfl (pc' := 82) rfl ?_
        refine w_aload X12 hx (hb hby at_82) rfl rfl (pc' := 84) rfl ?_
        refine w_aload X12 hx (hb hby at_84) rfl rfl (pc' := 86) rfl ?_
        refine w_iload X12 hx (hb hby at_86) rfl (pc' := 88) rfl ?_
        refine w_if_eq X12 hx (hb hby at_88) (by decide) (pcY := 96) (by decide) (pc' := 91) rfl (fun h5 => ?_) (fun h5 => absurd h5 (by decide))
        refine w_aconst X12 hx (hb hby at_96) (pc' := 97) rfl ?_
        refine own_callI (W := 1) X12 hx hZ rfl rfl hown hml.symm (wd4 hw) (wd5 hw) (wd3 hw) (wd6 hw) (rm1_0 l Z a0 hw [] n0 kA1 hkA1 kA2 hkA2 kA3 hkA3 x3 x4 x5 x0 c4 F4 _ P12) (by decide) (by decide) (by decide) (by decide) (by decide) (a := (n0 + 3)) (argsL := [.ref (n0 + 0), .ref (n0 + 1), .null]) (rest := [.ref (n0 + 3)]) pd1 rfl rfl rfl (Nat.le_of_eq rfl) (hb hby at_97) (pc' := 100) rfl ?_
        intro _ T13 L9 X13 hq
        obtain ⟨rfl, N9, c5, F5, P13⟩ := hq
        replace N9 := Fr.app N8 N9
        replace P13 : HP n0 T13.heap [AC kA1 [.int (1 : Int32), .int (2 : Int32)], AC kA2 [.int (1 : Int32), .int (1 : Int32)], AC kA3 [.int x3, .int x4, .int x5, .int x0], c5] := P13
        refine w_astore (l' := #[.val (.int x0), .val (.int x1), .val (.int x2), .val (.int x3), .val (.int x4), .val (.int x5), .val (.int (0 : Int32)), .val (.int (1 : Int32)), .val (.int (1 : Int32)), .val (.ref (n0 + 0)), .val (.ref (n0 + 1)), .val (.ref (n0 + 2)), .val (.ref (n0 + 3)), .unset, .unset]) X13 hx (hb hby at_100) rfl rfl (pc' := 102) rfl ?_
        refine w_aload X13 hx (hb hby at_102) rfl rfl (pc' := 104) rfl ?_
        refine own_callV (W := 0) X13 hx hZ rfl hown hml.symm (wd18 hw) (wd19 hw) (wd21 hw) (wd20 hw) (wd3 hw) (wd22 hw) (rm3_1 l Z a0 hw [] n0 kA1 hkA1 kA2 hkA2 kA3 hkA3 x3 x4 x5 x0 c5 F5 _ P13) (a := (n0 + 3)) (P13.exa (i := 3) rfl F5.1) (by decide) (by decide) (by decide) (by decide) (by decide) (argsL := []) (rest := []) pd3 rfl rfl rfl (Nat.le_of_eq rfl) (hb hby at_104) (pc' := 107) rfl ?_
        intro _ T14 L10 X14 hq
        obtain ⟨rfl, N10, P14⟩ := hq
        replace N10 := Fr.app N9 N10
        replace P14 : HP n0 T14.heap [AC kA1 [.int (1 : Int32), .int (2 : Int32)], AC kA2 [.int (1 : Int32), .int (1 : Int32)], AC kA3 [.int x3, .int x4, .int x5, .int x0], c5] := P14
        refine w_istore (l' := #[.val (.int x0), .val (.int x1), .val (.int x2), .val (.int x3), .val (.int x4), .val (.int x5), .val (.int (0 : Int32)), .val (.int (1 : Int32)), .val (.int (1 : Int32)), .val (.ref (n0 + 0)), .val (.ref (n0 + 1)), .val (.ref (n0 + 2)), .val (.ref (n0 + 3)), .val (.int (0 : Int32)), .unset]) X14 hx (hb hby at_107) rfl (pc' := 109) rfl ?_
        refine w_iload X14 hx (hb hby at_109) rfl (pc' := 111) rfl ?_
        refine w_iload X14 hx (hb hby at_111) rfl (pc' := 113) rfl ?_
        refine w_icmp_eq X14 hx (hb hby at_113) (by decide) (pcY := 118) (by decide) (pc' := 116) rfl (fun h6 => ?_) (fun h6 => absurd h6 (by decide))
        refine w_iload X14 hx (hb hby at_118) rfl (pc' := 120) rfl ?_
        refine w_if_ne X14 hx (hb hby at_120) (by decide) (pcY := 125) (by decide) (pc' := 123) rfl (fun h7 => absurd h7 (by decide)) (fun h7 => ?_)
        refine w_iconst (v := (1 : Int32)) X14 hx (hb hby at_123) rfl (pc' := 124) rfl ?_
        exact w_ret_n (t := .boolean) X14 hx hret hlk (by simp) (hb hby at_124) (z' := (1 : Int32)) rfl (by decide) (by decide) ⟨rfl, N10⟩
      · refine w_eqI (z := (1 : Int32)) g4 ?_
        refine w_iadd X0 hx (hb hby at_24) (pc' := 25) rfl ?_
        refine w_eqI (z := (2 : Int32)) (by decide) ?_
        refine w_istore (l' := #[.val (.int x0), .val (.int x1), .val (.int x2), .val (.int x3), .val (.int x4), .val (.int x5), .val (.int (0 : Int32)), .val (.int (1 : Int32)), .val (.int (2 : Int32)), .unset, .unset, .unset, .unset, .unset, .unset]) X0 hx (hb hby at_25) rfl (pc' := 27) rfl ?_
        refine w_iconst (v := (2 : Int32)) X0 hx (hb hby at_27) rfl (pc' := 28) rfl ?_
        refine w_newarr (N := 2) (j := 0) X0 hx hZ P0 (ty := .int) rfl (wd0 hw) (hb hby at_28) (by decide) (by decide) (by decide) (by decide) rfl (pc' := 30) rfl ?_
        intro T15 kA6 X15 hkA6 P15
        replace P15 : HP n0 T15.heap [AC kA6 [.int (0 : Int32), .int (0 : Int32)]] := P15
        refine w_dup X15 hx (hb hby at_30) rfl (pc' := 31) rfl ?_
        refine w_iconst (v := (0 : Int32)) X15 hx (hb hby at_31) rfl (pc' := 32) rfl ?_
        refine w_iconst (v := (1 : Int32)) X15 hx (hb hby at_32) rfl (pc' := 33) rfl ?_
        refine w_iastore (i := 0) (jn := 0) X15 hx hZ N0 P15 rfl hkA6 (hb hby at_33) (by decide) (Nat.le_of_ble_eq_true rfl) (pc' := 34) rfl ?_
        intro T16 L11 N11 X16 P16
        replace P16 : HP n0 T16.heap [AC kA6 [.int (1 : Int32), .int (0 : Int32)]] := P16
        refine w_dup X16 hx (hb hby at_34) rfl (pc' := 35) rfl ?_
        refine w_iconst (v := (1 : Int32)) X16 hx (hb hby at_35) rfl (pc' := 36) rfl ?_
        refine w_iconst (v := (2 : Int32)) X16 hx (hb hby at_36) rfl (pc' := 37) rfl ?_
        refine w_iastore (i := 0) (jn := 1) X16 hx hZ N11 P16 rfl hkA6 (hb hby at_37) (by decide) (Nat.le_of_ble_eq_true rfl) (pc' := 38) rfl ?_
        intro T17 L12 N12 X17 P17
        replace P17 : HP n0 T17.heap [AC kA6 [.int (1 : Int32), .int (2 : Int32)]] := P17
        refine w_astore (l' := #[.val (.int x0), .val (.int x1), .val (.int x2), .val (.int x3), .val (.int x4), .val (.int x5), .val (.int (0 : Int32)), .val (.int (1 : Int32)), .val (.int (2 : Int32)), .val (.ref (n0 + 0)), .unset, .unset, .unset, .unset, .unset]) X17 hx (hb hby at_38) rfl rfl (pc' := 40) rfl ?_
        refine w_iconst (v := (2 : Int32)) X17 hx (hb hby at_40) rfl (pc' := 41) rfl ?_
        refine w_newarr (N := 2) (j := 1) X17 hx hZ P17 (ty := .int) rfl (wd0 hw) (hb hby at_41) (by decide) (by decide) (by decide) (by decide) rfl (pc' := 43) rfl ?_
        intro T18 kA7 X18 hkA7 P18
        replace P18 : HP n0 T18.heap [AC kA6 [.int (1 : Int32), .int (2 : Int32)], AC kA7 [.int (0 : Int32), .int (0 : Int32)]] := P18
        refine w_dup X18 hx (hb hby at_43) rfl (pc' := 44) rfl ?_
        refine w_iconst (v := (0 : Int32)) X18 hx (hb hby at_44) rfl (pc' := 45) rfl ?_
        refine w_iload X18 hx (hb hby at_45) rfl (pc' := 47) rfl ?_
        refine w_iastore (i := 1) (jn := 0) X18 hx hZ N12 P18 rfl hkA7 (hb hby at_47) (by decide) (Nat.le_of_ble_eq_true rfl) (pc' := 48) rfl ?_
        intro T19 L13 N13 X19 P19
        replace P19 : HP n0 T19.heap [AC kA6 [.int (1 : Int32), .int (2 : Int32)], AC kA7 [.int (1 : Int32), .int (0 : Int32)]] := P19
        refine w_dup X19 hx (hb hby at_48) rfl (pc' := 49) rfl ?_
        refine w_iconst (v := (1 : Int32)) X19 hx (hb hby at_49) rfl (pc' := 50) rfl ?_
        refine w_iload X19 hx (hb hby at_50) rfl (pc' := 52) rfl ?_
        refine w_iastore (i := 1) (jn := 1) X19 hx hZ N13 P19 rfl hkA7 (hb hby at_52) (by decide) (Nat.le_of_ble_eq_true rfl) (pc' := 53) rfl ?_
        intro T20 L14 N14 X20 P20
        replace P20 : HP n0 T20.heap [AC kA6 [.int (1 : Int32), .int (2 : Int32)], AC kA7 [.int (1 : Int32), .int (2 : Int32)]] := P20
        refine w_astore (l' := #[.val (.int x0), .val (.int x1), .val (.int x2), .val (.int x3), .val (.int x4), .val (.int x5), .val (.int (0 : Int32)), .val (.int (1 : Int32)), .val (.int (2 : Int32)), .val (.ref (n0 + 0)), .val (.ref (n0 + 1)), .unset, .unset, .unset, .unset]) X20 hx (hb hby at_53) rfl rfl (pc' := 55) rfl ?_
        refine w_iconst (v := (4 : Int32)) X20 hx (hb hby at_55) rfl (pc' := 56) rfl ?_
        refine w_newarr (N := 4) (j := 2) X20 hx hZ P20 (ty := .int) rfl (wd0 hw) (hb hby at_56) (by decide) (by decide) (by decide) (by decide) rfl (pc' := 58) rfl ?_
        intro T21 kA8 X21 hkA8 P21
        replace P21 : HP n0 T21.heap [AC kA6 [.int (1 : Int32), .int (2 : Int32)], AC kA7 [.int (1 : Int32), .int (2 : Int32)], AC kA8 [.int (0 : Int32), .int (0 : Int32), .int (0 : Int32), .int (0 : Int32)]] := P21
        refine w_dup X21 hx (hb hby at_58) rfl (pc' := 59) rfl ?_
        refine w_iconst (v := (0 : Int32)) X21 hx (hb hby at_59) rfl (pc' := 60) rfl ?_
        refine w_iloadN X21 hx (hb hby at_60) rfl (pc' := 61) rfl ?_
        refine w_iastore (i := 2) (jn := 0) X21 hx hZ N14 P21 rfl hkA8 (hb hby at_61) (by decide) (Nat.le_of_ble_eq_true rfl) (pc' := 62) rfl ?_
        intro T22 L15 N15 X22 P22
        replace P22 : HP n0 T22.heap [AC kA6 [.int (1 : Int32), .int (2 : Int32)], AC kA7 [.int (1 : Int32), .int (2 : Int32)], AC kA8 [.int x3, .int (0 : Int32), .int (0 : Int32), .int (0 : Int32)]] := P22
        refine w_dup X22 hx (hb hby at_62) rfl (pc' := 63) rfl ?_
        refine w_iconst (v := (1 : Int32)) X22 hx (hb hby at_63) rfl (pc' := 64) rfl ?_
        refine w_iload X22 hx (hb hby at_64) rfl (pc' := 66) rfl ?_
        refine w_iastore (i := 2) (jn := 1) X22 hx hZ N15 P22 rfl hkA8 (hb hby at_66) (by decide) (Nat.le_of_ble_eq_true rfl) (pc' := 67) rfl ?_
        intro T23 L16 N16 X23 P23
        replace P23 : HP n0 T23.heap [AC kA6 [.int (1 : Int32), .int (2 : Int32)], AC kA7 [.int (1 : Int32), .int (2 : Int32)], AC kA8 [.int x3, .int x4, .int (0 : Int32), .int (0 : Int32)]] := P23
        refine w_dup X23 hx (hb hby at_67) rfl (pc' := 68) rfl ?_
        refine w_iconst (v := (2 : Int32)) X23 hx (hb hby at_68) rfl (pc' := 69) rfl ?_
        refine w_iload X23 hx (hb hby at_69) rfl (pc' := 71) rfl ?_
        refine w_iastore (i := 2) (jn := 2) X23 hx hZ N16 P23 rfl hkA8 (hb hby at_71) (by decide) (Nat.le_of_ble_eq_true rfl) (pc' := 72) rfl ?_
        intro T24 L17 N17 X24 P24
        replace P24 : HP n0 T24.heap [AC kA6 [.int (1 : Int32), .int (2 : Int32)], AC kA7 [.int (1 : Int32), .int (2 : Int32)], AC kA8 [.int x3, .int x4, .int x5, .int (0 : Int32)]] := P24
        refine w_dup X24 hx (hb hby at_72) rfl (pc' := 73) rfl ?_
        refine w_iconst (v := (3 : Int32)) X24 hx (hb hby at_73) rfl (pc' := 74) rfl ?_
        refine w_iloadN X24 hx (hb hby at_74) rfl (pc' := 75) rfl ?_
        refine w_iastore (i := 2) (jn := 3) X24 hx hZ N17 P24 rfl hkA8 (hb hby at_75) (by decide) (Nat.le_of_ble_eq_true rfl) (pc' := 76) rfl ?_
        intro T25 L18 N18 X25 P25
        replace P25 : HP n0 T25.heap [AC kA6 [.int (1 : Int32), .int (2 : Int32)], AC kA7 [.int (1 : Int32), .int (2 : Int32)], AC kA8 [.int x3, .int x4, .int x5, .int x0]] := P25
        refine w_astore (l' := #[.val (.int x0), .val (.int x1), .val (.int x2), .val (.int x3), .val (.int x4), .val (.int x5), .val (.int (0 : Int32)), .val (.int (1 : Int32)), .val (.int (2 : Int32)), .val (.ref (n0 + 0)), .val (.ref (n0 + 1)), .val (.ref (n0 + 2)), .unset, .unset, .unset]) X25 hx (hb hby at_76) rfl rfl (pc' := 78) rfl ?_
        refine w_new (j := 3) X25 hx hZ hown (wd1 hw) (wd2 hw) (wd3 hw) P25 fl_C0 dv_C0 rfl (ly_C0 hw) (hb hby at_78) (by decide) (by decide) rfl (pc' := 81) rfl ?_
        intro T26 c9 X26 P26 F9
        replace P26 : HP n0 T26.heap [AC kA6 [.int (1 : Int32), .int (2 : Int32)], AC kA7 [.int (1 : Int32), .int (2 : Int32)], AC kA8 [.int x3, .int x4, .int x5, .int x0], c9] := P26
        refine w_dup X26 hx (hb hby at_81) rfl (pc' := 82) rfl ?_
        refine w_aload X26 hx (hb hby at_82) rfl rfl (pc' := 84) rfl ?_
        refine w_aload X26 hx (hb hby at_84) rfl rfl (pc' := 86) rfl ?_
        refine w_iload X26 hx (hb hby at_86) rfl (pc' := 88) rfl ?_
        refine w_if_eq X26 hx (hb hby at_88) (by decide) (pcY := 96) (by decide) (pc' := 91) rfl (fun h8 => ?_) (fun h8 => absurd h8 (by decide))
        refine w_aconst X26 hx (hb hby at_96) (pc' := 97) rfl ?_
        refine own_callI (W := 1) X26 hx hZ rfl rfl hown hml.symm (wd4 hw) (wd5 hw) (wd3 hw) (wd6 hw) (rm1_2 l Z a0 hw [] n0 kA6 hkA6 kA7 hkA7 kA8 hkA8 x3 x4 x5 x0 c9 F9 _ P26) (by decide) (by decide) (by decide) (by decide) (by decide) (a := (n0 + 3)) (argsL := [.ref (n0 + 0), .ref (n0 + 1), .null]) (rest := [.ref (n0 + 3)]) pd1 rfl rfl rfl (Nat.le_of_eq rfl) (hb hby at_97) (pc' := 100) rfl ?_
        intro _ T27 L19 X27 hq
        obtain ⟨rfl, N19, c10, F10, P27⟩ := hq
        replace N19 := Fr.app N18 N19
        replace P27 : HP n0 T27.heap [AC kA6 [.int (1 : Int32), .int (2 : Int32)], AC kA7 [.int (1 : Int32), .int (2 : Int32)], AC kA8 [.int x3, .int x4, .int x5, .int x0], c10] := P27
        refine w_astore (l' := #[.val (.int x0), .val (.int x1), .val (.int x2), .val (.int x3), .val (.int x4), .val (.int x5), .val (.int (0 : Int32)), .val (.int (1 : Int32)), .val (.int (2 : Int32)), .val (.ref (n0 + 0)), .val (.ref (n0 + 1)), .val (.ref (n0 + 2)), .val (.ref (n0 + 3)), .unset, .unset]) X27 hx (hb hby at_100) rfl rfl (pc' := 102) rfl ?_
        refine w_aload X27 hx (hb hby at_102) rfl rfl (pc' := 104) rfl ?_
        refine own_callV (W := 0) X27 hx hZ rfl hown hml.symm (wd18 hw) (wd19 hw) (wd21 hw) (wd20 hw) (wd3 hw) (wd22 hw) (rm3_3 l Z a0 hw [] n0 kA6 hkA6 kA7 hkA7 kA8 hkA8 x3 x4 x5 x0 c10 F10 _ P27) (a := (n0 + 3)) (P27.exa (i := 3) rfl F10.1) (by decide) (by decide) (by decide) (by decide) (by decide) (argsL := []) (rest := []) pd3 rfl rfl rfl (Nat.le_of_eq rfl) (hb hby at_104) (pc' := 107) rfl ?_
        intro _ T28 L20 X28 hq
        obtain ⟨rfl, N20, P28⟩ := hq
        replace N20 := Fr.app N19 N20
        replace P28 : HP n0 T28.heap [AC kA6 [.int (1 : Int32), .int (2 : Int32)], AC kA7 [.int (1 : Int32), .int (2 : Int32)], AC kA8 [.int x3, .int x4, .int x5, .int x0], c10] := P28
        refine w_istore (l' := #[.val (.int x0), .val (.int x1), .val (.int x2), .val (.int x3), .val (.int x4), .val (.int x5), .val (.int (0 : Int32)), .val (.int (1 : Int32)), .val (.int (2 : Int32)), .val (.ref (n0 + 0)), .val (.ref (n0 + 1)), .val (.ref (n0 + 2)), .val (.ref (n0 + 3)), .val (.int (0 : Int32)), .unset]) X28 hx (hb hby at_107) rfl (pc' := 109) rfl ?_
        refine w_iload X28 hx (hb hby at_109) rfl (pc' := 111) rfl ?_
        refine w_iload X28 hx (hb hby at_111) rfl (pc' := 113) rfl ?_
        refine w_icmp_eq X28 hx (hb hby at_113) (by decide) (pcY := 118) (by decide) (pc' := 116) rfl (fun h9 => ?_) (fun h9 => absurd h9 (by decide))
        refine w_iload X28 hx (hb hby at_118) rfl (pc' := 120) rfl ?_
        refine w_if_ne X28 hx (hb hby at_120) (by decide) (pcY := 125) (by decide) (pc' := 123) rfl (fun h10 => absurd h10 (by decide)) (fun h10 => ?_)
        refine w_iconst (v := (1 : Int32)) X28 hx (hb hby at_123) rfl (pc' := 124) rfl ?_
        exact w_ret_n (t := .boolean) X28 hx hret hlk (by simp) (hb hby at_124) (z' := (1 : Int32)) rfl (by decide) (by decide) ⟨rfl, N20⟩
    · refine w_eqI (z := (1 : Int32)) g2 ?_
      refine w_iadd X0 hx (hb hby at_17) (pc' := 18) rfl ?_
      refine w_eqI (z := (2 : Int32)) (by decide) ?_
      refine w_istore (l' := #[.val (.int x0), .val (.int x1), .val (.int x2), .val (.int x3), .val (.int x4), .val (.int x5), .val (.int (0 : Int32)), .val (.int (2 : Int32)), .unset, .unset, .unset, .unset, .unset, .unset, .unset]) X0 hx (hb hby at_18) rfl (pc' := 20) rfl ?_
      refine w_iconst (v := (1 : Int32)) X0 hx (hb hby at_20) rfl (pc' := 21) rfl ?_
      refine w_iloadN X0 hx (hb hby at_21) rfl (pc' := 22) rfl ?_
      refine w_iconst (v := (1 : Int32)) X0 hx (hb hby at_22) rfl (pc' := 23) rfl ?_
      refine w_iand X0 hx (hb hby at_23) (pc' := 24) rfl ?_
      rcases (own_c2 (own_andk x2 1 1 (by decide))) with g11 | g12
      · refine w_eqI (z := (0 : Int32)) g11 ?_
        refine w_iadd X0 hx (hb hby at_24) (pc' := 25) rfl ?_
        refine w_eqI (z := (1 : Int32)) (by decide) ?_
        refine w_istore (l' := #[.val (.int x0), .val (.int x1), .val (.int x2), .val (.int x3), .val (.int x4), .val (.int x5), .val (.int (0 : Int32)), .val (.int (2 : Int32)), .val (.int (1 : Int32)), .unset, .unset, .unset, .unset, .unset, .unset]) X0 hx (hb hby at_25) rfl (pc' := 27) rfl ?_
        refine w_iconst (v := (2 : Int32)) X0 hx (hb hby at_27) rfl (pc' := 28) rfl ?_
        refine w_newarr (N := 2) (j := 0) X0 hx hZ P0 (ty := .int) rfl (wd0 hw) (hb hby at_28) (by decide) (by decide) (by decide) (by decide) rfl (pc' := 30) rfl ?_
        intro T29 kA11 X29 hkA11 P29
        replace P29 : HP n0 T29.heap [AC kA11 [.int (0 : Int32), .int (0 : Int32)]] := P29
        refine w_dup X29 hx (hb hby at_30) rfl (pc' := 31) rfl ?_
        refine w_iconst (v := (0 : Int32)) X29 hx (hb hby at_31) rfl (pc' := 32) rfl ?_
        refine w_iconst (v := (1 : Int32)) X29 hx (hb hby at_32) rfl (pc' := 33) rfl ?_
        refine w_iastore (i := 0) (jn := 0) X29 hx hZ N0 P29 rfl hkA11 (hb hby at_33) (by decide) (Nat.le_of_ble_eq_true rfl) (pc' := 34) rfl ?_
        intro T30 L21 N21 X30 P30
        replace P30 : HP n0 T30.heap [AC kA11 [.int (1 : Int32), .int (0 : Int32)]] := P30
        refine w_dup X30 hx (hb hby at_34) rfl (pc' := 35) rfl ?_
        refine w_iconst (v := (1 : Int32)) X30 hx (hb hby at_35) rfl (pc' := 36) rfl ?_
        refine w_iconst (v := (2 : Int32)) X30 hx (hb hby at_36) rfl (pc' := 37) rfl ?_
        refine w_iastore (i := 0) (jn := 1) X30 hx hZ N21 P30 rfl hkA11 (hb hby at_37) (by decide) (Nat.le_of_ble_eq_true rfl) (pc' := 38) rfl ?_
        intro T31 L22 N22 X31 P31
        replace P31 : HP n0 T31.heap [AC kA11 [.int (1 : Int32), .int (2 : Int32)]] := P31
        refine w_astore (l' := #[.val (.int x0), .val (.int x1), .val (.int x2), .val (.int x3), .val (.int x4), .val (.int x5), .val (.int (0 : Int32)), .val (.int (2 : Int32)), .val (.int (1 : Int32)), .val (.ref (n0 + 0)), .unset, .unset, .unset, .unset, .unset]) X31 hx (hb hby at_38) rfl rfl (pc' := 40) rfl ?_
        refine w_iconst (v := (2 : Int32)) X31 hx (hb hby at_40) rfl (pc' := 41) rfl ?_
        refine w_newarr (N := 2) (j := 1) X31 hx hZ P31 (ty := .int) rfl (wd0 hw) (hb hby at_41) (by decide) (by decide) (by decide) (by decide) rfl (pc' := 43) rfl ?_
        intro T32 kA12 X32 hkA12 P32
        replace P32 : HP n0 T32.heap [AC kA11 [.int (1 : Int32), .int (2 : Int32)], AC kA12 [.int (0 : Int32), .int (0 : Int32)]] := P32
        refine w_dup X32 hx (hb hby at_43) rfl (pc' := 44) rfl ?_
        refine w_iconst (v := (0 : Int32)) X32 hx (hb hby at_44) rfl (pc' := 45) rfl ?_
        refine w_iload X32 hx (hb hby at_45) rfl (pc' := 47) rfl ?_
        refine w_iastore (i := 1) (jn := 0) X32 hx hZ N22 P32 rfl hkA12 (hb hby at_47) (by decide) (Nat.le_of_ble_eq_true rfl) (pc' := 48) rfl ?_
        intro T33 L23 N23 X33 P33
        replace P33 : HP n0 T33.heap [AC kA11 [.int (1 : Int32), .int (2 : Int32)], AC kA12 [.int (2 : Int32), .int (0 : Int32)]] := P33
        refine w_dup X33 hx (hb hby at_48) rfl (pc' := 49) rfl ?_
        refine w_iconst (v := (1 : Int32)) X33 hx (hb hby at_49) rfl (pc' := 50) rfl ?_
        refine w_iload X33 hx (hb hby at_50) rfl (pc' := 52) rfl ?_
        refine w_iastore (i := 1) (jn := 1) X33 hx hZ N23 P33 rfl hkA12 (hb hby at_52) (by decide) (Nat.le_of_ble_eq_true rfl) (pc' := 53) rfl ?_
        intro T34 L24 N24 X34 P34
        replace P34 : HP n0 T34.heap [AC kA11 [.int (1 : Int32), .int (2 : Int32)], AC kA12 [.int (2 : Int32), .int (1 : Int32)]] := P34
        refine w_astore (l' := #[.val (.int x0), .val (.int x1), .val (.int x2), .val (.int x3), .val (.int x4), .val (.int x5), .val (.int (0 : Int32)), .val (.int (2 : Int32)), .val (.int (1 : Int32)), .val (.ref (n0 + 0)), .val (.ref (n0 + 1)), .unset, .unset, .unset, .unset]) X34 hx (hb hby at_53) rfl rfl (pc' := 55) rfl ?_
        refine w_iconst (v := (4 : Int32)) X34 hx (hb hby at_55) rfl (pc' := 56) rfl ?_
        refine w_newarr (N := 4) (j := 2) X34 hx hZ P34 (ty := .int) rfl (wd0 hw) (hb hby at_56) (by decide) (by decide) (by decide) (by decide) rfl (pc' := 58) rfl ?_
        intro T35 kA13 X35 hkA13 P35
        replace P35 : HP n0 T35.heap [AC kA11 [.int (1 : Int32), .int (2 : Int32)], AC kA12 [.int (2 : Int32), .int (1 : Int32)], AC kA13 [.int (0 : Int32), .int (0 : Int32), .int (0 : Int32), .int (0 : Int32)]] := P35
        refine w_dup X35 hx (hb hby at_58) rfl (pc' := 59) rfl ?_
        refine w_iconst (v := (0 : Int32)) X35 hx (hb hby at_59) rfl (pc' := 60) rfl ?_
        refine w_iloadN X35 hx (hb hby at_60) rfl (pc' := 61) rfl ?_
        refine w_iastore (i := 2) (jn := 0) X35 hx hZ N24 P35 rfl hkA13 (hb hby at_61) (by decide) (Nat.le_of_ble_eq_true rfl) (pc' := 62) rfl ?_
        intro T36 L25 N25 X36 P36
        replace P36 : HP n0 T36.heap [AC kA11 [.int (1 : Int32), .int (2 : Int32)], AC kA12 [.int (2 : Int32), .int (1 : Int32)], AC kA13 [.int x3, .int (0 : Int32), .int (0 : Int32), .int (0 : Int32)]] := P36
        refine w_dup X36 hx (hb hby at_62) rfl (pc' := 63) rfl ?_
        refine w_iconst (v := (1 : Int32)) X36 hx (hb hby at_63) rfl (pc' := 64) rfl ?_
        refine w_iload X36 hx (hb hby at_64) rfl (pc' := 66) rfl ?_
        refine w_iastore (i := 2) (jn := 1) X36 hx hZ N25 P36 rfl hkA13 (hb hby at_66) (by decide) (Nat.le_of_ble_eq_true rfl) (pc' := 67) rfl ?_
        intro T37 L26 N26 X37 P37
        replace P37 : HP n0 T37.heap [AC kA11 [.int (1 : Int32), .int (2 : Int32)], AC kA12 [.int (2 : Int32), .int (1 : Int32)], AC kA13 [.int x3, .int x4, .int (0 : Int32), .int (0 : Int32)]] := P37
        refine w_dup X37 hx (hb hby at_67) rfl (pc' := 68) rfl ?_
        refine w_iconst (v := (2 : Int32)) X37 hx (hb hby at_68) rfl (pc' := 69) rfl ?_
        refine w_iload X37 hx (hb hby at_69) rfl (pc' := 71) rfl ?_
        refine w_iastore (i := 2) (jn := 2) X37 hx hZ N26 P37 rfl hkA13 (hb hby at_71) (by decide) (Nat.le_of_ble_eq_true rfl) (pc' := 72) rfl ?_
        intro T38 L27 N27 X38 P38
        replace P38 : HP n0 T38.heap [AC kA11 [.int (1 : Int32), .int (2 : Int32)], AC kA12 [.int (2 : Int32), .int (1 : Int32)], AC kA13 [.int x3, .int x4, .int x5, .int (0 : Int32)]] := P38
        refine w_dup X38 hx (hb hby at_72) rfl (pc' := 73) rfl ?_
        refine w_iconst (v := (3 : Int32)) X38 hx (hb hby at_73) rfl (pc' := 74) rfl ?_
        refine w_iloadN X38 hx (hb hby at_74) rfl (pc' := 75) rfl ?_
        refine w_iastore (i := 2) (jn := 3) X38 hx hZ N27 P38 rfl hkA13 (hb hby at_75) (by decide) (Nat.le_of_ble_eq_true rfl) (pc' := 76) rfl ?_
        intro T39 L28 N28 X39 P39
        replace P39 : HP n0 T39.heap [AC kA11 [.int (1 : Int32), .int (2 : Int32)], AC kA12 [.int (2 : Int32), .int (1 : Int32)], AC kA13 [.int x3, .int x4, .int x5, .int x0]] := P39
        refine w_astore (l' := #[.val (.int x0), .val (.int x1), .val (.int x2), .val (.int x3), .val (.int x4), .val (.int x5), .val (.int (0 : Int32)), .val (.int (2 : Int32)), .val (.int (1 : Int32)), .val (.ref (n0 + 0)), .val (.ref (n0 + 1)), .val (.ref (n0 + 2)), .unset, .unset, .unset]) X39 hx (hb hby at_76) rfl rfl (pc' := 78) rfl ?_
        refine w_new (j := 3) X39 hx hZ hown (wd1 hw) (wd2 hw) (wd3 hw) P39 fl_C0 dv_C0 rfl (ly_C0 hw) (hb hby at_78) (by decide) (by decide) rfl (pc' := 81) rfl ?_
        intro T40 c14 X40 P40 F14
        replace P40 : HP n0 T40.heap [AC kA11 [.int (1 : Int32), .int (2 : Int32)], AC kA12 [.int (2 : Int32), .int (1 : Int32)], AC kA13 [.int x3, .int x4, .int x5, .int x0], c14] := P40
        refine w_dup X40 hx (hb hby at_81) rfl (pc' := 82) rfl ?_
        refine w_aload X40 hx (hb hby at_82) rfl rfl (pc' := 84) rfl ?_
        refine w_aload X40 hx (hb hby at_84) rfl rfl (pc' := 86) rfl ?_
        refine w_iload X40 hx (hb hby at_86) rfl (pc' := 88) rfl ?_
        refine w_if_eq X40 hx (hb hby at_88) (by decide) (pcY := 96) (by decide) (pc' := 91) rfl (fun h13 => ?_) (fun h13 => absurd h13 (by decide))
        refine w_aconst X40 hx (hb hby at_96) (pc' := 97) rfl ?_
        refine own_callI (W := 1) X40 hx hZ rfl rfl hown hml.symm (wd4 hw) (wd5 hw) (wd3 hw) (wd6 hw) (rm1_4 l Z a0 hw [] n0 kA11 hkA11 kA12 hkA12 kA13 hkA13 x3 x4 x5 x0 c14 F14 _ P40) (by decide) (by decide) (by decide) (by decide) (by decide) (a := (n0 + 3)) (argsL := [.ref (n0 + 0), .ref (n0 + 1), .null]) (rest := [.ref (n0 + 3)]) pd1 rfl rfl rfl (Nat.le_of_eq rfl) (hb hby at_97) (pc' := 100) rfl ?_
        intro _ T41 L29 X41 hq
        obtain ⟨rfl, N29, c15, F15, P41⟩ := hq
        replace N29 := Fr.app N28 N29
        replace P41 : HP n0 T41.heap [AC kA11 [.int (1 : Int32), .int (2 : Int32)], AC kA12 [.int (2 : Int32), .int (1 : Int32)], AC kA13 [.int x3, .int x4, .int x5, .int x0], c15] := P41
        refine w_astore (l' := #[.val (.int x0), .val (.int x1), .val (.int x2), .val (.int x3), .val (.int x4), .val (.int x5), .val (.int (0 : Int32)), .val (.int (2 : Int32)), .val (.int (1 : Int32)), .val (.ref (n0 + 0)), .val (.ref (n0 + 1)), .val (.ref (n0 + 2)), .val (.ref (n0 + 3)), .unset, .unset]) X41 hx (hb hby at_100) rfl rfl (pc' := 102) rfl ?_
        refine w_aload X41 hx (hb hby at_102) rfl rfl (pc' := 104) rfl ?_
        refine own_callV (W := 0) X41 hx hZ rfl hown hml.symm (wd18 hw) (wd19 hw) (wd21 hw) (wd20 hw) (wd3 hw) (wd22 hw) (rm3_5 l Z a0 hw [] n0 kA11 hkA11 kA12 hkA12 kA13 hkA13 x3 x4 x5 x0 c15 F15 _ P41) (a := (n0 + 3)) (P41.exa (i := 3) rfl F15.1) (by decide) (by decide) (by decide) (by decide) (by decide) (argsL := []) (rest := []) pd3 rfl rfl rfl (Nat.le_of_eq rfl) (hb hby at_104) (pc' := 107) rfl ?_
        intro _ T42 L30 X42 hq
        obtain ⟨rfl, N30, P42⟩ := hq
        replace N30 := Fr.app N29 N30
        replace P42 : HP n0 T42.heap [AC kA11 [.int (1 : Int32), .int (2 : Int32)], AC kA12 [.int (2 : Int32), .int (1 : Int32)], AC kA13 [.int x3, .int x4, .int x5, .int x0], c15] := P42
        refine w_istore (l' := #[.val (.int x0), .val (.int x1), .val (.int x2), .val (.int x3), .val (.int x4), .val (.int x5), .val (.int (0 : Int32)), .val (.int (2 : Int32)), .val (.int (1 : Int32)), .val (.ref (n0 + 0)), .val (.ref (n0 + 1)), .val (.ref (n0 + 2)), .val (.ref (n0 + 3)), .val (.int (0 : Int32)), .unset]) X42 hx (hb hby at_107) rfl (pc' := 109) rfl ?_
        refine w_iload X42 hx (hb hby at_109) rfl (pc' := 111) rfl ?_
        refine w_iload X42 hx (hb hby at_111) rfl (pc' := 113) rfl ?_
        refine w_icmp_eq X42 hx (hb hby at_113) (by decide) (pcY := 118) (by decide) (pc' := 116) rfl (fun h14 => ?_) (fun h14 => absurd h14 (by decide))
        refine w_iload X42 hx (hb hby at_118) rfl (pc' := 120) rfl ?_
        refine w_if_ne X42 hx (hb hby at_120) (by decide) (pcY := 125) (by decide) (pc' := 123) rfl (fun h15 => absurd h15 (by decide)) (fun h15 => ?_)
        refine w_iconst (v := (1 : Int32)) X42 hx (hb hby at_123) rfl (pc' := 124) rfl ?_
        exact w_ret_n (t := .boolean) X42 hx hret hlk (by simp) (hb hby at_124) (z' := (1 : Int32)) rfl (by decide) (by decide) ⟨rfl, N30⟩
      · refine w_eqI (z := (1 : Int32)) g12 ?_
        refine w_iadd X0 hx (hb hby at_24) (pc' := 25) rfl ?_
        refine w_eqI (z := (2 : Int32)) (by decide) ?_
        refine w_istore (l' := #[.val (.int x0), .val (.int x1), .val (.int x2), .val (.int x3), .val (.int x4), .val (.int x5), .val (.int (0 : Int32)), .val (.int (2 : Int32)), .val (.int (2 : Int32)), .unset, .unset, .unset, .unset, .unset, .unset]) X0 hx (hb hby at_25) rfl (pc' := 27) rfl ?_
        refine w_iconst (v := (2 : Int32)) X0 hx (hb hby at_27) rfl (pc' := 28) rfl ?_
        refine w_newarr (N := 2) (j := 0) X0 hx hZ P0 (ty := .int) rfl (wd0 hw) (hb hby at_28) (by decide) (by decide) (by decide) (by decide) rfl (pc' := 30) rfl ?_
        intro T43 kA16 X43 hkA16 P43
        replace P43 : HP n0 T43.heap [AC kA16 [.int (0 : Int32), .int (0 : Int32)]] := P43
        refine w_dup X43 hx (hb hby at_30) rfl (pc' := 31) rfl ?_
        refine w_iconst (v := (0 : Int32)) X43 hx (hb hby at_31) rfl (pc' := 32) rfl ?_
        refine w_iconst (v := (1 : Int32)) X43 hx (hb hby at_32) rfl (pc' := 33) rfl ?_
        refine w_iastore (i := 0) (jn := 0) X43 hx hZ N0 P43 rfl hkA16 (hb hby at_33) (by decide) (Nat.le_of_ble_eq_true rfl) (pc' := 34) rfl ?_
        intro T44 L31 N31 X44 P44
        replace P44 : HP n0 T44.heap [AC kA16 [.int (1 : Int32), .int (0 : Int32)]] := P44
        refine w_dup X44 hx (hb hby at_34) rfl (pc' := 35) rfl ?_
        refine w_iconst (v := (1 : Int32)) X44 hx (hb hby at_35) rfl (pc' := 36) rfl ?_
        refine w_iconst (v := (2 : Int32)) X44 hx (hb hby at_36) rfl (pc' := 37) rfl ?_
        refine w_iastore (i := 0) (jn := 1) X44 hx hZ N31 P44 rfl hkA16 (hb hby at_37) (by decide) (Nat.le_of_ble_eq_true rfl) (pc' := 38) rfl ?_
        intro T45 L32 N32 X45 P45
        replace P45 : HP n0 T45.heap [AC kA16 [.int (1 : Int32), .int (2 : Int32)]] := P45
        refine w_astore (l' := #[.val (.int x0), .val (.int x1), .val (.int x2), .val (.int x3), .val (.int x4), .val (.int x5), .val (.int (0 : Int32)), .val (.int (2 : Int32)), .val (.int (2 : Int32)), .val (.ref (n0 + 0)), .unset, .unset, .unset, .unset, .unset]) X45 hx (hb hby at_38) rfl rfl (pc' := 40) rfl ?_
        refine w_iconst (v := (2 : Int32)) X45 hx (hb hby at_40) rfl (pc' := 41) rfl ?_
        refine w_newarr (N := 2) (j := 1) X45 hx hZ P45 (ty := .int) rfl (wd0 hw) (hb hby at_41) (by decide) (by decide) (by decide) (by decide) rfl (pc' := 43) rfl ?_
        intro T46 kA17 X46 hkA17 P46
        replace P46 : HP n0 T46.heap [AC kA16 [.int (1 : Int32), .int (2 : Int32)], AC kA17 [.int (0 : Int32), .int (0 : Int32)]] := P46
        refine w_dup X46 hx (hb hby at_43) rfl (pc' := 44) rfl ?_
        refine w_iconst (v := (0 : Int32)) X46 hx (hb hby at_44) rfl (pc' := 45) rfl ?_
        refine w_iload X46 hx (hb hby at_45) rfl (pc' := 47) rfl ?_
        refine w_iastore (i := 1) (jn := 0) X46 hx hZ N32 P46 rfl hkA17 (hb hby at_47) (by decide) (Nat.le_of_ble_eq_true rfl) (pc' := 48) rfl ?_
        intro T47 L33 N33 X47 P47
        replace P47 : HP n0 T47.heap [AC kA16 [.int (1 : Int32), .int (2 : Int32)], AC kA17 [.int (2 : Int32), .int (0 : Int32)]] := P47
        refine w_dup X47 hx (hb hby at_48) rfl (pc' := 49) rfl ?_
        refine w_iconst (v := (1 : Int32)) X47 hx (hb hby at_49) rfl (pc' := 50) rfl ?_
        refine w_iload X47 hx (hb hby at_50) rfl (pc' := 52) rfl ?_
        refine w_iastore (i := 1) (jn := 1) X47 hx hZ N33 P47 rfl hkA17 (hb hby at_52) (by decide) (Nat.le_of_ble_eq_true rfl) (pc' := 53) rfl ?_
        intro T48 L34 N34 X48 P48
        replace P48 : HP n0 T48.heap [AC kA16 [.int (1 : Int32), .int (2 : Int32)], AC kA17 [.int (2 : Int32), .int (2 : Int32)]] := P48
        refine w_astore (l' := #[.val (.int x0), .val (.int x1), .val (.int x2), .val (.int x3), .val (.int x4), .val (.int x5), .val (.int (0 : Int32)), .val (.int (2 : Int32)), .val (.int (2 : Int32)), .val (.ref (n0 + 0)), .val (.ref (n0 + 1)), .unset, .unset, .unset, .unset]) X48 hx (hb hby at_53) rfl rfl (pc' := 55) rfl ?_
        refine w_iconst (v := (4 : Int32)) X48 hx (hb hby at_55) rfl (pc' := 56) rfl ?_
        refine w_newarr (N := 4) (j := 2) X48 hx hZ P48 (ty := .int) rfl (wd0 hw) (hb hby at_56) (by decide) (by decide) (by decide) (by decide) rfl (pc' := 58) rfl ?_
        intro T49 kA18 X49 hkA18 P49
        replace P49 : HP n0 T49.heap [AC kA16 [.int (1 : Int32), .int (2 : Int32)], AC kA17 [.int (2 : Int32), .int (2 : Int32)], AC kA18 [.int (0 : Int32), .int (0 : Int32), .int (0 : Int32), .int (0 : Int32)]] := P49
        refine w_dup X49 hx (hb hby at_58) rfl (pc' := 59) rfl ?_
        refine w_iconst (v := (0 : Int32)) X49 hx (hb hby at_59) rfl (pc' := 60) rfl ?_
        refine w_iloadN X49 hx (hb hby at_60) rfl (pc' := 61) rfl ?_
        refine w_iastore (i := 2) (jn := 0) X49 hx hZ N34 P49 rfl hkA18 (hb hby at_61) (by decide) (Nat.le_of_ble_eq_true rfl) (pc' := 62) rfl ?_
        intro T50 L35 N35 X50 P50
        replace P50 : HP n0 T50.heap [AC kA16 [.int (1 : Int32), .int (2 : Int32)], AC kA17 [.int (2 : Int32), .int (2 : Int32)], AC kA18 [.int x3, .int (0 : Int32), .int (0 : Int32), .int (0 : Int32)]] := P50
        refine w_dup X50 hx (hb hby at_62) rfl (pc' := 63) rfl ?_
        refine w_iconst (v := (1 : Int32)) X50 hx (hb hby at_63) rfl (pc' := 64) rfl ?_
        refine w_iload X50 hx (hb hby at_64) rfl (pc' := 66) rfl ?_
        refine w_iastore (i := 2) (jn := 1) X50 hx hZ N35 P50 rfl hkA18 (hb hby at_66) (by decide) (Nat.le_of_ble_eq_true rfl) (pc' := 67) rfl ?_
        intro T51 L36 N36 X51 P51
        replace P51 : HP n0 T51.heap [AC kA16 [.int (1 : Int32), .int (2 : Int32)], AC kA17 [.int (2 : Int32), .int (2 : Int32)], AC kA18 [.int x3, .int x4, .int (0 : Int32), .int (0 : Int32)]] := P51
        refine w_dup X51 hx (hb hby at_67) rfl (pc' := 68) rfl ?_
        refine w_iconst (v := (2 : Int32)) X51 hx (hb hby at_68) rfl (pc' := 69) rfl ?_
        refine w_iload X51 hx (hb hby at_69) rfl (pc' := 71) rfl ?_
        refine w_iastore (i := 2) (jn := 2) X51 hx hZ N36 P51 rfl hkA18 (hb hby at_71) (by decide) (Nat.le_of_ble_eq_true rfl) (pc' := 72) rfl ?_
        intro T52 L37 N37 X52 P52
        replace P52 : HP n0 T52.heap [AC kA16 [.int (1 : Int32), .int (2 : Int32)], AC kA17 [.int (2 : Int32), .int (2 : Int32)], AC kA18 [.int x3, .int x4, .int x5, .int (0 : Int32)]] := P52
        refine w_dup X52 hx (hb hby at_72) rfl (pc' := 73) rfl ?_
        refine w_iconst (v := (3 : Int32)) X52 hx (hb hby at_73) rfl (pc' := 74) rfl ?_
        refine w_iloadN X52 hx (hb hby at_74) rfl (pc' := 75) rfl ?_
        refine w_iastore (i := 2) (jn := 3) X52 hx hZ N37 P52 rfl hkA18 (hb hby at_75) (by decide) (Nat.le_of_ble_eq_true rfl) (pc' := 76) rfl ?_
        intro T53 L38 N38 X53 P53
        replace P53 : HP n0 T53.heap [AC kA16 [.int (1 : Int32), .int (2 : Int32)], AC kA17 [.int (2 : Int32), .int (2 : Int32)], AC kA18 [.int x3, .int x4, .int x5, .int x0]] := P53
        refine w_astore (l' := #[.val (.int x0), .val (.int x1), .val (.int x2), .val (.int x3), .val (.int x4), .val (.int x5), .val (.int (0 : Int32)), .val (.int (2 : Int32)), .val (.int (2 : Int32)), .val (.ref (n0 + 0)), .val (.ref (n0 + 1)), .val (.ref (n0 + 2)), .unset, .unset, .unset]) X53 hx (hb hby at_76) rfl rfl (pc' := 78) rfl ?_
        refine w_new (j := 3) X53 hx hZ hown (wd1 hw) (wd2 hw) (wd3 hw) P53 fl_C0 dv_C0 rfl (ly_C0 hw) (hb hby at_78) (by decide) (by decide) rfl (pc' := 81) rfl ?_
        intro T54 c19 X54 P54 F19
        replace P54 : HP n0 T54.heap [AC kA16 [.int (1 : Int32), .int (2 : Int32)], AC kA17 [.int (2 : Int32), .int (2 : Int32)], AC kA18 [.int x3, .int x4, .int x5, .int x0], c19] := P54
        refine w_dup X54 hx (hb hby at_81) rfl (pc' := 82) rfl ?_
        refine w_aload X54 hx (hb hby at_82) rfl rfl (pc' := 84) rfl ?_
        refine w_aload X54 hx (hb hby at_84) rfl rfl (pc' := 86) rfl ?_
        refine w_iload X54 hx (hb hby at_86) rfl (pc' := 88) rfl ?_
        refine w_if_eq X54 hx (hb hby at_88) (by decide) (pcY := 96) (by decide) (pc' := 91) rfl (fun h16 => ?_) (fun h16 => absurd h16 (by decide))
        refine w_aconst X54 hx (hb hby at_96) (pc' := 97) rfl ?_
        refine own_callI (W := 1) X54 hx hZ rfl rfl hown hml.symm (wd4 hw) (wd5 hw) (wd3 hw) (wd6 hw) (rm1_6 l Z a0 hw [] n0 kA16 hkA16 kA17 hkA17 kA18 hkA18 x3 x4 x5 x0 c19 F19 _ P54) (by decide) (by decide) (by decide) (by decide) (by decide) (a := (n0 + 3)) (argsL := [.ref (n0 + 0), .ref (n0 + 1), .null]) (rest := [.ref (n0 + 3)]) pd1 rfl rfl rfl (Nat.le_of_eq rfl) (hb hby at_97) (pc' := 100) rfl ?_
        intro _ T55 L39 X55 hq
        obtain ⟨rfl, N39, c20, F20, P55⟩ := hq
        replace N39 := Fr.app N38 N39
        replace P55 : HP n0 T55.heap [AC kA16 [.int (1 : Int32), .int (2 : Int32)], AC kA17 [.int (2 : Int32), .int (2 : Int32)], AC kA18 [.int x3, .int x4, .int x5, .int x0], c20] := P55
        refine w_astore (l' := #[.val (.int x0), .val (.int x1), .val (.int x2), .val (.int x3), .val (.int x4), .val (.int x5), .val (.int (0 : Int32)), .val (.int (2 : Int32)), .val (.int (2 : Int32)), .val (.ref (n0 + 0)), .val (.ref (n0 + 1)), .val (.ref (n0 + 2)), .val (.ref (n0 + 3)), .unset, .unset]) X55 hx (hb hby at_100) rfl rfl (pc' := 102) rfl ?_
        refine w_aload X55 hx (hb hby at_102) rfl rfl (pc' := 104) rfl ?_
        refine own_callV (W := 0) X55 hx hZ rfl hown hml.symm (wd18 hw) (wd19 hw) (wd21 hw) (wd20 hw) (wd3 hw) (wd22 hw) (rm3_7 l Z a0 hw [] n0 kA16 hkA16 kA17 hkA17 kA18 hkA18 x3 x4 x5 x0 c20 F20 _ P55) (a := (n0 + 3)) (P55.exa (i := 3) rfl F20.1) (by decide) (by decide) (by decide) (by decide) (by decide) (argsL := []) (rest := []) pd3 rfl rfl rfl (Nat.le_of_eq rfl) (hb hby at_104) (pc' := 107) rfl ?_
        intro _ T56 L40 X56 hq
        obtain ⟨rfl, N40, P56⟩ := hq
        replace N40 := Fr.app N39 N40
        replace P56 : HP n0 T56.heap [AC kA16 [.int (1 : Int32), .int (2 : Int32)], AC kA17 [.int (2 : Int32), .int (2 : Int32)], AC kA18 [.int x3, .int x4, .int x5, .int x0], c20] := P56
        refine w_istore (l' := #[.val (.int x0), .val (.int x1), .val (.int x2), .val (.int x3), .val (.int x4), .val (.int x5), .val (.int (0 : Int32)), .val (.int (2 : Int32)), .val (.int (2 : Int32)), .val (.ref (n0 + 0)), .val (.ref (n0 + 1)), .val (.ref (n0 + 2)), .val (.ref (n0 + 3)), .val (.int (0 : Int32)), .unset]) X56 hx (hb hby at_107) rfl (pc' := 109) rfl ?_
        refine w_iload X56 hx (hb hby at_109) rfl (pc' := 111) rfl ?_
        refine w_iload X56 hx (hb hby at_111) rfl (pc' := 113) rfl ?_
        refine w_icmp_eq X56 hx (hb hby at_113) (by decide) (pcY := 118) (by decide) (pc' := 116) rfl (fun h17 => ?_) (fun h17 => absurd h17 (by decide))
        refine w_iload X56 hx (hb hby at_118) rfl (pc' := 120) rfl ?_
        refine w_if_ne X56 hx (hb hby at_120) (by decide) (pcY := 125) (by decide) (pc' := 123) rfl (fun h18 => absurd h18 (by decide)) (fun h18 => ?_)
        refine w_iconst (v := (1 : Int32)) X56 hx (hb hby at_123) rfl (pc' := 124) rfl ?_
        exact w_ret_n (t := .boolean) X56 hx hret hlk (by simp) (hb hby at_124) (z' := (1 : Int32)) rfl (by decide) (by decide) ⟨rfl, N40⟩
  · refine w_iconst (v := (1 : Int32)) X0 hx (hb hby at_6) rfl (pc' := 7) rfl ?_
    refine w_goto X0 hx (hb hby at_7) (by decide) (pc' := 11) (by decide) ?_
    refine w_istore (l' := #[.val (.int x0), .val (.int x1), .val (.int x2), .val (.int x3), .val (.int x4), .val (.int x5), .val (.int (1 : Int32)), .unset, .unset, .unset, .unset, .unset, .unset, .unset, .unset]) X0 hx (hb hby at_11) rfl (pc' := 13) rfl ?_
    refine w_iconst (v := (1 : Int32)) X0 hx (hb hby at_13) rfl (pc' := 14) rfl ?_
    refine w_iloadN X0 hx (hb hby at_14) rfl (pc' := 15) rfl ?_
    refine w_iconst (v := (1 : Int32)) X0 hx (hb hby at_15) rfl (pc' := 16) rfl ?_
    refine w_iand X0 hx (hb hby at_16) (pc' := 17) rfl ?_
    rcases (own_c2 (own_andk x1 1 1 (by decide))) with g19 | g20
    · refine w_eqI (z := (0 : Int32)) g19 ?_
      refine w_iadd X0 hx (hb hby at_17) (pc' := 18) rfl ?_
      refine w_eqI (z := (1 : Int32)) (by decide) ?_
      refine w_istore (l' := #[.val (.int x0), .val (.int x1), .val (.int x2), .val (.int x3), .val (.int x4), .val (.int x5), .val (.int (1 : Int32)), .val (.int (1 : Int32)), .unset, .unset, .unset, .unset, .unset, .unset, .unset]) X0 hx (hb hby at_18) rfl (pc' := 20) rfl ?_
      refine w_iconst (v := (1 : Int32)) X0 hx (hb hby at_20) rfl (pc' := 21) rfl ?_
      refine w_iloadN X0 hx (hb hby at_21) rfl (pc' := 22) rfl ?_
      refine w_iconst (v := (1 : Int32)) X0 hx (hb hby at_22) rfl (pc' := 23) rfl ?_
      refine w_iand X0 hx (hb hby at_23) (pc' := 24) rfl ?_
      rcases (own_c2 (own_andk x2 1 1 (by decide))) with g21 | g22
      · refine w_eqI (z := (0 : Int32)) g21 ?_
        refine w_iadd X0 hx (hb hby at_24) (pc' := 25) rfl ?_
        refine w_eqI (z := (1 : Int32)) (by decide) ?_
        refine w_istore (l' := #[.val (.int x0), .val (.int x1), .val (.int x2), .val (.int x3), .val (.int x4), .val (.int x5), .val (.int (1 : Int32)), .val (.int (1 : Int32)), .val (.int (1 : Int32)), .unset, .unset, .unset, .unset, .unset, .unset]) X0 hx (hb hby at_25) rfl (pc' := 27) rfl ?_
        refine w_iconst (v := (2 : Int32)) X0 hx (hb hby at_27) rfl (pc' := 28) rfl ?_
        refine w_newarr (N := 2) (j := 0) X0 hx hZ P0 (ty := .int) rfl (wd0 hw) (hb hby at_28) (by decide) (by decide) (by decide) (by decide) rfl (pc' := 30) rfl ?_
        intro T57 kA21 X57 hkA21 P57
        replace P57 : HP n0 T57.heap [AC kA21 [.int (0 : Int32), .int (0 : Int32)]] := P57
        refine w_dup X57 hx (hb hby at_30) rfl (pc' := 31) rfl ?_
        refine w_iconst (v := (0 : Int32)) X57 hx (hb hby at_31) rfl (pc' := 32) rfl ?_
        refine w_iconst (v := (1 : Int32)) X57 hx (hb hby at_32) rfl (pc' := 33) rfl ?_
        refine w_iastore (i := 0) (jn := 0) X57 hx hZ N0 P57 rfl hkA21 (hb hby at_33) (by decide) (Nat.le_of_ble_eq_true rfl) (pc' := 34) rfl ?_
        intro T58 L41 N41 X58 P58
        replace P58 : HP n0 T58.heap [AC kA21 [.int (1 : Int32), .int (0 : Int32)]] := P58
        refine w_dup X58 hx (hb hby at_34) rfl (pc' := 35) rfl ?_
        refine w_iconst (v := (1 : Int32)) X58 hx (hb hby at_35) rfl (pc' := 36) rfl ?_
        refine w_iconst (v := (2 : Int32)) X58 hx (hb hby at_36) rfl (pc' := 37) rfl ?_
        refine w_iastore (i := 0) (jn := 1) X58 hx hZ N41 P58 rfl hkA21 (hb hby at_37) (by decide) (Nat.le_of_ble_eq_true rfl) (pc' := 38) rfl ?_
        intro T59 L42 N42 X59 P59
        replace P59 : HP n0 T59.heap [AC kA21 [.int (1 : Int32), .int (2 : Int32)]] := P59
        refine w_astore (l' := #[.val (.int x0), .val (.int x1), .val (.int x2), .val (.int x3), .val (.int x4), .val (.int x5), .val (.int (1 : Int32)), .val (.int (1 : Int32)), .val (.int (1 : Int32)), .val (.ref (n0 + 0)), .unset, .unset, .unset, .unset, .unset]) X59 hx (hb hby at_38) rfl rfl (pc' := 40) rfl ?_
        refine w_iconst (v := (2 : Int32)) X59 hx (hb hby at_40) rfl (pc' := 41) rfl ?_
        refine w_newarr (N := 2) (j := 1) X59 hx hZ P59 (ty := .int) rfl (wd0 hw) (hb hby at_41) (by decide) (by decide) (by decide) (by decide) rfl (pc' := 43) rfl ?_
        intro T60 kA22 X60 hkA22 P60
        replace P60 : HP n0 T60.heap [AC kA21 [.int (1 : Int32), .int (2 : Int32)], AC kA22 [.int (0 : Int32), .int (0 : Int32)]] := P60
        refine w_dup X60 hx (hb hby at_43) rfl (pc' := 44) rfl ?_
        refine w_iconst (v := (0 : Int32)) X60 hx (hb hby at_44) rfl (pc' := 45) rfl ?_
        refine w_iload X60 hx (hb hby at_45) rfl (pc' := 47) rfl ?_
        refine w_iastore (i := 1) (jn := 0) X60 hx hZ N42 P60 rfl hkA22 (hb hby at_47) (by decide) (Nat.le_of_ble_eq_true rfl) (pc' := 48) rfl ?_
        intro T61 L43 N43 X61 P61
        replace P61 : HP n0 T61.heap [AC kA21 [.int (1 : Int32), .int (2 : Int32)], AC kA22 [.int (1 : Int32), .int (0 : Int32)]] := P61
        refine w_dup X61 hx (hb hby at_48) rfl (pc' := 49) rfl ?_
        refine w_iconst (v := (1 : Int32)) X61 hx (hb hby at_49) rfl (pc' := 50) rfl ?_
        refine w_iload X61 hx (hb hby at_50) rfl (pc' := 52) rfl ?_
        refine w_iastore (i := 1) (jn := 1) X61 hx hZ N43 P61 rfl hkA22 (hb hby at_52) (by decide) (Nat.le_of_ble_eq_true rfl) (pc' := 53) rfl ?_
        intro T62 L44 N44 X62 P62
        replace P62 : HP n0 T62.heap [AC kA21 [.int (1 : Int32), .int (2 : Int32)], AC kA22 [.int (1 : Int32), .int (1 : Int32)]] := P62
        refine w_astore (l' := #[.val (.int x0), .val (.int x1), .val (.int x2), .val (.int x3), .val (.int x4), .val (.int x5), .val (.int (1 : Int32)), .val (.int (1 : Int32)), .val (.int (1 : Int32)), .val (.ref (n0 + 0)), .val (.ref (n0 + 1)), .unset, .unset, .unset, .unset]) X62 hx (hb hby at_53) rfl rfl (pc' := 55) rfl ?_
        refine w_iconst (v := (4 : Int32)) X62 hx (hb hby at_55) rfl (pc' := 56) rfl ?_
        refine w_newarr (N := 4) (j := 2) X62 hx hZ P62 (ty := .int) rfl (wd0 hw) (hb hby at_56) (by decide) (by decide) (by decide) (by decide) rfl (pc' := 58) rfl ?_
        intro T63 kA23 X63 hkA23 P63
        replace P63 : HP n0 T63.heap [AC kA21 [.int (1 : Int32), .int (2 : Int32)], AC kA22 [.int (1 : Int32), .int (1 : Int32)], AC kA23 [.int (0 : Int32), .int (0 : Int32), .int (0 : Int32), .int (0 : Int32)]] := P63
        refine w_dup X63 hx (hb hby at_58) rfl (pc' := 59) rfl ?_
        refine w_iconst (v := (0 : Int32)) X63 hx (hb hby at_59) rfl (pc' := 60) rfl ?_
        refine w_iloadN X63 hx (hb hby at_60) rfl (pc' := 61) rfl ?_
        refine w_iastore (i := 2) (jn := 0) X63 hx hZ N44 P63 rfl hkA23 (hb hby at_61) (by decide) (Nat.le_of_ble_eq_true rfl) (pc' := 62) rfl ?_
        intro T64 L45 N45 X64 P64
        replace P64 : HP n0 T64.heap [AC kA21 [.int (1 : Int32), .int (2 : Int32)], AC kA22 [.int (1 : Int32), .int (1 : Int32)], AC kA23 [.int x3, .int (0 : Int32), .int (0 : Int32), .int (0 : Int32)]] := P64
        refine w_dup X64 hx (hb hby at_62) rfl (pc' := 63) rfl ?_
        refine w_iconst (v := (1 : Int32)) X64 hx (hb hby at_63) rfl (pc' := 64) rfl ?_
        refine w_iload X64 hx (hb hby at_64) rfl (pc' := 66) rfl ?_
        refine w_iastore (i := 2) (jn := 1) X64 hx hZ N45 P64 rfl hkA23 (hb hby at_66) (by decide) (Nat.le_of_ble_eq_true rfl) (pc' := 67) rfl ?_
        intro T65 L46 N46 X65 P65
        replace P65 : HP n0 T65.heap [AC kA21 [.int (1 : Int32), .int (2 : Int32)], AC kA22 [.int (1 : Int32), .int (1 : Int32)], AC kA23 [.int x3, .int x4, .int (0 : Int32), .int (0 : Int32)]] := P65
        refine w_dup X65 hx (hb hby at_67) rfl (pc' := 68) rfl ?_
        refine w_iconst (v := (2 : Int32)) X65 hx (hb hby at_68) rfl (pc' := 69) rfl ?_
        refine w_iload X65 hx (hb hby at_69) rfl (pc' := 71) rfl ?_
        refine w_iastore (i := 2) (jn := 2) X65 hx hZ N46 P65 rfl hkA23 (hb hby at_71) (by decide) (Nat.le_of_ble_eq_true rfl) (pc' := 72) rfl ?_
        intro T66 L47 N47 X66 P66
        replace P66 : HP n0 T66.heap [AC kA21 [.int (1 : Int32), .int (2 : Int32)], AC kA22 [.int (1 : Int32), .int (1 : Int32)], AC kA23 [.int x3, .int x4, .int x5, .int (0 : Int32)]] := P66
        refine w_dup X66 hx (hb hby at_72) rfl (pc' := 73) rfl ?_
        refine w_iconst (v := (3 : Int32)) X66 hx (hb hby at_73) rfl (pc' := 74) rfl ?_
        refine w_iloadN X66 hx (hb hby at_74) rfl (pc' := 75) rfl ?_
        refine w_iastore (i := 2) (jn := 3) X66 hx hZ N47 P66 rfl hkA23 (hb hby at_75) (by decide) (Nat.le_of_ble_eq_true rfl) (pc' := 76) rfl ?_
        intro T67 L48 N48 X67 P67
        replace P67 : HP n0 T67.heap [AC kA21 [.int (1 : Int32), .int (2 : Int32)], AC kA22 [.int (1 : Int32), .int (1 : Int32)], AC kA23 [.int x3, .int x4, .int x5, .int x0]] := P67
        refine w_astore (l' := #[.val (.int x0), .val (.int x1), .val (.int x2), .val (.int x3), .val (.int x4), .val (.int x5), .val (.int (1 : Int32)), .val (.int (1 : Int32)), .val (.int (1 : Int32)), .val (.ref (n0 + 0)), .val (.ref (n0 + 1)), .val (.ref (n0 + 2)), .unset, .unset, .unset]) X67 hx (hb hby at_76) rfl rfl (pc' := 78) rfl ?_
        refine w_new (j := 3) X67 hx hZ hown (wd1 hw) (wd2 hw) (wd3 hw) P67 fl_C0 dv_C0 rfl (ly_C0 hw) (hb hby at_78) (by decide) (by decide) rfl (pc' := 81) rfl ?_
        intro T68 c24 X68 P68 F24
        replace P68 : HP n0 T68.heap [AC kA21 [.int (1 : Int32), .int (2 : Int32)], AC kA22 [.int (1 : Int32), .int (1 : Int32)], AC kA23 [.int x3, .int x4, .int x5, .int x0], c24] := P68
        refine w_dup X68 hx (hb hby at_81) rfl (pc' := 82) rfl ?_
        refine w_aload X68 hx (hb hby at_82) rfl rfl (pc' := 84) rfl ?_
        refine w_aload X68 hx (hb hby at_84) rfl rfl (pc' := 86) rfl ?_
        refine w_iload X68 hx (hb hby at_86) rfl (pc' := 88) rfl ?_
        refine w_if_eq X68 hx (hb hby at_88) (by decide) (pcY := 96) (by decide) (pc' := 91) rfl (fun h23 => absurd h23 (by decide)) (fun h23 => ?_)
        refine w_aload X68 hx (hb hby at_91) rfl rfl (pc' := 93) rfl ?_
        refine w_goto X68 hx (hb hby at_93) (by decide) (pc' := 97) (by decide) ?_
        refine own_callI (W := 1) X68 hx hZ rfl rfl hown hml.symm (wd4 hw) (wd5 hw) (wd3 hw) (wd6 hw) (rm1_8 l Z a0 hw [] n0 kA21 hkA21 kA22 hkA22 kA23 hkA23 x3 x4 x5 x0 c24 F24 _ P68) (by decide) (by decide) (by decide) (by decide) (by decide) (a := (n0 + 3)) (argsL := [.ref (n0 + 0), .ref (n0 + 1), .ref (n0 + 2)]) (rest := [.ref (n0 + 3)]) pd1 rfl rfl rfl (Nat.le_of_eq rfl) (hb hby at_97) (pc' := 100) rfl ?_
        intro _ T69 L49 X69 hq
        obtain ⟨rfl, N49, c25, F25, kA26, hkA26, P69⟩ := hq
        replace N49 := Fr.app N48 N49
        replace P69 : HP n0 T69.heap [AC kA21 [.int (1 : Int32), .int (2 : Int32)], AC kA22 [.int (1 : Int32), .int (1 : Int32)], AC kA23 [.int x3, .int x4, .int x5, .int x0], c25, AC kA26 [.int (0 : Int32), .int (1 : Int32)]] := P69
        refine w_astore (l' := #[.val (.int x0), .val (.int x1), .val (.int x2), .val (.int x3), .val (.int x4), .val (.int x5), .val (.int (1 : Int32)), .val (.int (1 : Int32)), .val (.int (1 : Int32)), .val (.ref (n0 + 0)), .val (.ref (n0 + 1)), .val (.ref (n0 + 2)), .val (.ref (n0 + 3)), .unset, .unset]) X69 hx (hb hby at_100) rfl rfl (pc' := 102) rfl ?_
        refine w_aload X69 hx (hb hby at_102) rfl rfl (pc' := 104) rfl ?_
        refine own_callV (W := 0) X69 hx hZ rfl hown hml.symm (wd18 hw) (wd19 hw) (wd21 hw) (wd20 hw) (wd3 hw) (wd22 hw) (rm3_9 l Z a0 hw [] n0 kA21 hkA21 kA22 hkA22 kA23 hkA23 x3 x4 x5 x0 c25 F25 kA26 hkA26 _ P69) (a := (n0 + 3)) (P69.exa (i := 3) rfl F25.1) (by decide) (by decide) (by decide) (by decide) (by decide) (argsL := []) (rest := []) pd3 rfl rfl rfl (Nat.le_of_eq rfl) (hb hby at_104) (pc' := 107) rfl ?_
        intro _ T70 L50 X70 hq
        obtain ⟨rfl, N50, P70⟩ := hq
        replace N50 := Fr.app N49 N50
        replace P70 : HP n0 T70.heap [AC kA21 [.int (1 : Int32), .int (2 : Int32)], AC kA22 [.int (1 : Int32), .int (1 : Int32)], AC kA23 [.int x3, .int x4, .int x5, .int x0], c25, AC kA26 [.int (0 : Int32), .int (1 : Int32)]] := P70
        refine w_istore (l' := #[.val (.int x0), .val (.int x1), .val (.int x2), .val (.int x3), .val (.int x4), .val (.int x5), .val (.int (1 : Int32)), .val (.int (1 : Int32)), .val (.int (1 : Int32)), .val (.ref (n0 + 0)), .val (.ref (n0 + 1)), .val (.ref (n0 + 2)), .val (.ref (n0 + 3)), .val (.int (1 : Int32)), .unset]) X70 hx (hb hby at_107) rfl (pc' := 109) rfl ?_
        refine w_iload X70 hx (hb hby at_109) rfl (pc' := 111) rfl ?_
        refine w_iload X70 hx (hb hby at_111) rfl (pc' := 113) rfl ?_
        refine w_icmp_eq X70 hx (hb hby at_113) (by decide) (pcY := 118) (by decide) (pc' := 116) rfl (fun h24 => ?_) (fun h24 => absurd h24 (by decide))
        refine w_iload X70 hx (hb hby at_118) rfl (pc' := 120) rfl ?_
        refine w_if_ne X70 hx (hb hby at_120) (by decide) (pcY := 125) (by decide) (pc' := 123) rfl (fun h25 => ?_) (fun h25 => absurd h25 (by decide))
        refine w_aload X70 hx (hb hby at_125) rfl rfl (pc' := 127) rfl ?_
        refine w_iconst (v := (1 : Int32)) X70 hx (hb hby at_127) rfl (pc' := 128) rfl ?_
        refine own_callV (W := 0) X70 hx hZ rfl hown hml.symm (wd23 hw) (wd24 hw) (wd26 hw) (wd25 hw) (wd3 hw) (wd27 hw) (rm4_10 l Z a0 hw [] n0 kA21 hkA21 kA22 hkA22 kA23 hkA23 x3 x4 x5 x0 c25 F25 kA26 hkA26 _ P70) (a := (n0 + 3)) (P70.exa (i := 3) rfl F25.1) (by decide) (by decide) (by decide) (by decide) (by decide) (argsL := [.int (1 : Int32)]) (rest := []) pd4 rfl rfl rfl (Nat.le_of_eq rfl) (hb hby at_128) (pc' := 131) rfl ?_
        intro _ T71 L51 X71 hq
        obtain ⟨rfl, N51, kA27, hkA27, P71⟩ := hq
        replace N51 := Fr.app N50 N51
        replace P71 : HP n0 T71.heap [AC kA21 [.int (1 : Int32), .int (2 : Int32)], AC kA22 [.int (1 : Int32), .int (1 : Int32)], AC kA23 [.int x3, .int x4, .int x5, .int x0], c25, AC kA26 [.int (0 : Int32), .int (1 : Int32)], AC kA27 [.int x4]] := P71
        refine w_astore (l' := #[.val (.int x0), .val (.int x1), .val (.int x2), .val (.int x3), .val (.int x4), .val (.int x5), .val (.int (1 : Int32)), .val (.int (1 : Int32)), .val (.int (1 : Int32)), .val (.ref (n0 + 0)), .val (.ref (n0 + 1)), .val (.ref (n0 + 2)), .val (.ref (n0 + 3)), .val (.int (1 : Int32)), .val (.ref (n0 + 5))]) X71 hx (hb hby at_131) rfl rfl (pc' := 133) rfl ?_
        refine w_aload X71 hx (hb hby at_133) rfl rfl (pc' := 135) rfl ?_
        refine w_arrlen (i := 5) X71 hx hZ P71 rfl hkA27 (hb hby at_135) (z := (1 : Int32)) rfl (pc' := 136) rfl ?_
        refine w_iload X71 hx (hb hby at_136) rfl (pc' := 138) rfl ?_
        refine w_icmp_eq X71 hx (hb hby at_138) (by decide) (pcY := 143) (by decide) (pc' := 141) rfl (fun h26 => ?_) (fun h26 => absurd h26 (by decide))
        refine w_aload X71 hx (hb hby at_143) rfl rfl (pc' := 145) rfl ?_
        refine w_iconst (v := (0 : Int32)) X71 hx (hb hby at_145) rfl (pc' := 146) rfl ?_
        refine w_iaload (i := 5) (jn := 0) (v := .int x4) X71 hx hZ P71 rfl hkA27 (hb hby at_146) (by decide) rfl (pc' := 147) rfl ?_
        refine w_aload X71 hx (hb hby at_147) rfl rfl (pc' := 149) rfl ?_
        refine w_iload X71 hx (hb hby at_149) rfl (pc' := 151) rfl ?_
        refine w_iaload (i := 2) (jn := 1) (v := .int x4) X71 hx hZ P71 rfl hkA23 (hb hby at_151) (by decide) rfl (pc' := 152) rfl ?_
        refine w_icmp_eq X71 hx (hb hby at_152) (by decide) (pcY := 157) (by decide) (pc' := 155) rfl (fun h27 => ?_) (fun h27 => absurd rfl h27)
        refine w_iload X71 hx (hb hby at_157) rfl (pc' := 159) rfl ?_
        refine w_iconst (v := (2 : Int32)) X71 hx (hb hby at_159) rfl (pc' := 160) rfl ?_
        refine w_icmp_ne X71 hx (hb hby at_160) (by decide) (pcY := 179) (by decide) (pc' := 163) rfl (fun h28 => ?_) (fun h28 => absurd h28 (by decide))
        refine w_iconst (v := (1 : Int32)) X71 hx (hb hby at_179) rfl (pc' := 180) rfl ?_
        exact w_ret_n (t := .boolean) X71 hx hret hlk (by simp) (hb hby at_180) (z' := (1 : Int32)) rfl (by decide) (by decide) ⟨rfl, N51⟩
      · refine w_eqI (z := (1 : Int32)) g22 ?_
        refine w_iadd X0 hx (hb hby at_24) (pc' := 25) rfl ?_
        refine w_eqI (z := (2 : Int32)) (by decide) ?_
        refine w_istore (l' := #[.val (.int x0), .val (.int x1), .val (.int x2), .val (.int x3), .val (.int x4), .val (.int x5), .val (.int (1 : Int32)), .val (.int (1 : Int32)), .val (.int (2 : Int32)), .unset, .unset, .unset, .unset, .unset, .unset]) X0 hx (hb hby at_25) rfl (pc' := 27) rfl ?_
        refine w_iconst (v := (2 : Int32)) X0 hx (hb hby at_27) rfl (pc' := 28) rfl ?_
        refine w_newarr (N := 2) (j := 0) X0 hx hZ P0 (ty := .int) rfl (wd0 hw) (hb hby at_28) (by decide) (by decide) (by decide) (by decide) rfl (pc' := 30) rfl ?_
        intro T72 kA28 X72 hkA28 P72
        replace P72 : HP n0 T72.heap [AC kA28 [.int (0 : Int32), .int (0 : Int32)]] := P72
        refine w_dup X72 hx (hb hby at_30) rfl (pc' := 31) rfl ?_
        refine w_iconst (v := (0 : Int32)) X72 hx (hb hby at_31) rfl (pc' := 32) rfl ?_
        refine w_iconst (v := (1 : Int32)) X72 hx (hb hby at_32) rfl (pc' := 33) rfl ?_
        refine w_iastore (i := 0) (jn := 0) X72 hx hZ N0 P72 rfl hkA28 (hb hby at_33) (by decide) (Nat.le_of_ble_eq_true rfl) (pc' := 34) rfl ?_
        intro T73 L52 N52 X73 P73
        replace P73 : HP n0 T73.heap [AC kA28 [.int (1 : Int32), .int (0 : Int32)]] := P73
        refine w_dup X73 hx (hb hby at_34) rfl (pc' := 35) rfl ?_
        refine w_iconst (v := (1 : Int32)) X73 hx (hb hby at_35) rfl (pc' := 36) rfl ?_
        refine w_iconst (v := (2 : Int32)) X73 hx (hb hby at_36) rfl (pc' := 37) rfl ?_
        refine w_iastore (i := 0) (jn := 1) X73 hx hZ N52 P73 rfl hkA28 (hb hby at_37) (by decide) (Nat.le_of_ble_eq_true rfl) (pc' := 38) rfl ?_
        intro T74 L53 N53 X74 P74
        replace P74 : HP n0 T74.heap [AC kA28 [.int (1 : Int32), .int (2 : Int32)]] := P74
        refine w_astore (l' := #[.val (.int x0), .val (.int x1), .val (.int x2), .val (.int x3), .val (.int x4), .val (.int x5), .val (.int (1 : Int32)), .val (.int (1 : Int32)), .val (.int (2 : Int32)), .val (.ref (n0 + 0)), .unset, .unset, .unset, .unset, .unset]) X74 hx (hb hby at_38) rfl rfl (pc' := 40) rfl ?_
        refine w_iconst (v := (2 : Int32)) X74 hx (hb hby at_40) rfl (pc' := 41) rfl ?_
        refine w_newarr (N := 2) (j := 1) X74 hx hZ P74 (ty := .int) rfl (wd0 hw) (hb hby at_41) (by decide) (by decide) (by decide) (by decide) rfl (pc' := 43) rfl ?_
        intro T75 kA29 X75 hkA29 P75
        replace P75 : HP n0 T75.heap [AC kA28 [.int (1 : Int32), .int (2 : Int32)], AC kA29 [.int (0 : Int32), .int (0 : Int32)]] := P75
        refine w_dup X75 hx (hb hby at_43) rfl (pc' := 44) rfl ?_
        refine w_iconst (v := (0 : Int32)) X75 hx (hb hby at_44) rfl (pc' := 45) rfl ?_
        refine w_iload X75 hx (hb hby at_45) rfl (pc' := 47) rfl ?_
        refine w_iastore (i := 1) (jn := 0) X75 hx hZ N53 P75 rfl hkA29 (hb hby at_47) (by decide) (Nat.le_of_ble_eq_true rfl) (pc' := 48) rfl ?_
        intro T76 L54 N54 X76 P76
        replace P76 : HP n0 T76.heap [AC kA28 [.int (1 : Int32), .int (2 : Int32)], AC kA29 [.int (1 : Int32), .int (0 : Int32)]] := P76
        refine w_dup X76 hx (hb hby at_48) rfl (pc' := 49) rfl ?_
        refine w_iconst (v := (1 : Int32)) X76 hx (hb hby at_49) rfl (pc' := 50) rfl ?_
        refine w_iload X76 hx (hb hby at_50) rfl (pc' := 52) rfl ?_
        refine w_iastore (i := 1) (jn := 1) X76 hx hZ N54 P76 rfl hkA29 (hb hby at_52) (by decide) (Nat.le_of_ble_eq_true rfl) (pc' := 53) rfl ?_
        intro T77 L55 N55 X77 P77
        replace P77 : HP n0 T77.heap [AC kA28 [.int (1 : Int32), .int (2 : Int32)], AC kA29 [.int (1 : Int32), .int (2 : Int32)]] := P77
        refine w_astore (l' := #[.val (.int x0), .val (.int x1), .val (.int x2), .val (.int x3), .val (.int x4), .val (.int x5), .val (.int (1 : Int32)), .val (.int (1 : Int32)), .val (.int (2 : Int32)), .val (.ref (n0 + 0)), .val (.ref (n0 + 1)), .unset, .unset, .unset, .unset]) X77 hx (hb hby at_53) rfl rfl (pc' := 55) rfl ?_
        refine w_iconst (v := (4 : Int32)) X77 hx (hb hby at_55) rfl (pc' := 56) rfl ?_
        refine w_newarr (N := 4) (j := 2) X77 hx hZ P77 (ty := .int) rfl (wd0 hw) (hb hby at_56) (by decide) (by decide) (by decide) (by decide) rfl (pc' := 58) rfl ?_
        intro T78 kA30 X78 hkA30 P78
        replace P78 : HP n0 T78.heap [AC kA28 [.int (1 : Int32), .int (2 : Int32)], AC kA29 [.int (1 : Int32), .int (2 : Int32)], AC kA30 [.int (0 : Int32), .int (0 : Int32), .int (0 : Int32), .int (0 : Int32)]] := P78
        refine w_dup X78 hx (hb hby at_58) rfl (pc' := 59) rfl ?_
        refine w_iconst (v := (0 : Int32)) X78 hx (hb hby at_59) rfl (pc' := 60) rfl ?_
        refine w_iloadN X78 hx (hb hby at_60) rfl (pc' := 61) rfl ?_
        refine w_iastore (i := 2) (jn := 0) X78 hx hZ N55 P78 rfl hkA30 (hb hby at_61) (by decide) (Nat.le_of_ble_eq_true rfl) (pc' := 62) rfl ?_
        intro T79 L56 N56 X79 P79
        replace P79 : HP n0 T79.heap [AC kA28 [.int (1 : Int32), .int (2 : Int32)], AC kA29 [.int (1 : Int32), .int (2 : Int32)], AC kA30 [.int x3, .int (0 : Int32), .int (0 : Int32), .int (0 : Int32)]] := P79
        refine w_dup X79 hx (hb hby at_62) rfl (pc' := 63) rfl ?_
        refine w_iconst (v := (1 : Int32)) X79 hx (hb hby at_63) rfl (pc' := 64) rfl ?_
        refine w_iload X79 hx (hb hby at_64) rfl (pc' := 66) rfl ?_
        refine w_iastore (i := 2) (jn := 1) X79 hx hZ N56 P79 rfl hkA30 (hb hby at_66) (by decide) (Nat.le_of_ble_eq_true rfl) (pc' := 67) rfl ?_
        intro T80 L57 N57 X80 P80
        replace P80 : HP n0 T80.heap [AC kA28 [.int (1 : Int32), .int (2 : Int32)], AC kA29 [.int (1 : Int32), .int (2 : Int32)], AC kA30 [.int x3, .int x4, .int (0 : Int32), .int (0 : Int32)]] := P80
        refine w_dup X80 hx (hb hby at_67) rfl (pc' := 68) rfl ?_
        refine w_iconst (v := (2 : Int32)) X80 hx (hb hby at_68) rfl (pc' := 69) rfl ?_
        refine w_iload X80 hx (hb hby at_69) rfl (pc' := 71) rfl ?_
        refine w_iastore (i := 2) (jn := 2) X80 hx hZ N57 P80 rfl hkA30 (hb hby at_71) (by decide) (Nat.le_of_ble_eq_true rfl) (pc' := 72) rfl ?_
        intro T81 L58 N58 X81 P81
        replace P81 : HP n0 T81.heap [AC kA28 [.int (1 : Int32), .int (2 : Int32)], AC kA29 [.int (1 : Int32), .int (2 : Int32)], AC kA30 [.int x3, .int x4, .int x5, .int (0 : Int32)]] := P81
        refine w_dup X81 hx (hb hby at_72) rfl (pc' := 73) rfl ?_
        refine w_iconst (v := (3 : Int32)) X81 hx (hb hby at_73) rfl (pc' := 74) rfl ?_
        refine w_iloadN X81 hx (hb hby at_74) rfl (pc' := 75) rfl ?_
        refine w_iastore (i := 2) (jn := 3) X81 hx hZ N58 P81 rfl hkA30 (hb hby at_75) (by decide) (Nat.le_of_ble_eq_true rfl) (pc' := 76) rfl ?_
        intro T82 L59 N59 X82 P82
        replace P82 : HP n0 T82.heap [AC kA28 [.int (1 : Int32), .int (2 : Int32)], AC kA29 [.int (1 : Int32), .int (2 : Int32)], AC kA30 [.int x3, .int x4, .int x5, .int x0]] := P82
        refine w_astore (l' := #[.val (.int x0), .val (.int x1), .val (.int x2), .val (.int x3), .val (.int x4), .val (.int x5), .val (.int (1 : Int32)), .val (.int (1 : Int32)), .val (.int (2 : Int32)), .val (.ref (n0 + 0)), .val (.ref (n0 + 1)), .val (.ref (n0 + 2)), .unset, .unset, .unset]) X82 hx (hb hby at_76) rfl rfl (pc' := 78) rfl ?_
        refine w_new (j := 3) X82 hx hZ hown (wd1 hw) (wd2 hw) (wd3 hw) P82 fl_C0 dv_C0 rfl (ly_C0 hw) (hb hby at_78) (by decide) (by decide) rfl (pc' := 81) rfl ?_
        intro T83 c31 X83 P83 F31
        replace P83 : HP n0 T83.heap [AC kA28 [.int (1 : Int32), .int (2 : Int32)], AC kA29 [.int (1 : Int32), .int (2 : Int32)], AC kA30 [.int x3, .int x4, .int x5, .int x0], c31] := P83
        refine w_dup X83 hx (hb hby at_81) rfl (pc' := 82) rfl ?_
        refine w_aload X83 hx (hb hby at_82) rfl rfl (pc' := 84) rfl ?_
        refine w_aload X83 hx (hb hby at_84) rfl rfl (pc' := 86) rfl ?_
        refine w_iload X83 hx (hb hby at_86) rfl (pc' := 88) rfl ?_
        refine w_if_eq X83 hx (hb hby at_88) (by decide) (pcY := 96) (by decide) (pc' := 91) rfl (fun h29 => absurd h29 (by decide)) (fun h29 => ?_)
        refine w_aload X83 hx (hb hby at_91) rfl rfl (pc' := 93) rfl ?_
        refine w_goto X83 hx (hb hby at_93) (by decide) (pc' := 97) (by decide) ?_
        refine own_callI (W := 1) X83 hx hZ rfl rfl hown hml.symm (wd4 hw) (wd5 hw) (wd3 hw) (wd6 hw) (rm1_15 l Z a0 hw [] n0 kA28 hkA28 kA29 hkA29 kA30 hkA30 x3 x4 x5 x0 c31 F31 _ P83) (by decide) (by decide) (by decide) (by decide) (by decide) (a := (n0 + 3)) (argsL := [.ref (n0 + 0), .ref (n0 + 1), .ref (n0 + 2)]) (rest := [.ref (n0 + 3)]) pd1 rfl rfl rfl (Nat.le_of_eq rfl) (hb hby at_97) (pc' := 100) rfl ?_
        intro _ T84 L60 X84 hq
        obtain ⟨rfl, N60, c32, F32, kA33, hkA33, P84⟩ := hq
        replace N60 := Fr.app N59 N60
        replace P84 : HP n0 T84.heap [AC kA28 [.int (1 : Int32), .int (2 : Int32)], AC kA29 [.int (1 : Int32), .int (2 : Int32)], AC kA30 [.int x3, .int x4, .int x5, .int x0], c32, AC kA33 [.int (0 : Int32), .int (1 : Int32)]] := P84
        refine w_astore (l' := #[.val (.int x0), .val (.int x1), .val (.int x2), .val (.int x3), .val (.int x4), .val (.int x5), .val (.int (1 : Int32)), .val (.int (1 : Int32)), .val (.int (2 : Int32)), .val (.ref (n0 + 0)), .val (.ref (n0 + 1)), .val (.ref (n0 + 2)), .val (.ref (n0 + 3)), .unset, .unset]) X84 hx (hb hby at_100) rfl rfl (pc' := 102) rfl ?_
        refine w_aload X84 hx (hb hby at_102) rfl rfl (pc' := 104) rfl ?_
        refine own_callV (W := 0) X84 hx hZ rfl hown hml.symm (wd18 hw) (wd19 hw) (wd21 hw) (wd20 hw) (wd3 hw) (wd22 hw) (rm3_16 l Z a0 hw [] n0 kA28 hkA28 kA29 hkA29 kA30 hkA30 x3 x4 x5 x0 c32 F32 kA33 hkA33 _ P84) (a := (n0 + 3)) (P84.exa (i := 3) rfl F32.1) (by decide) (by decide) (by decide) (by decide) (by decide) (argsL := []) (rest := []) pd3 rfl rfl rfl (Nat.le_of_eq rfl) (hb hby at_104) (pc' := 107) rfl ?_
        intro _ T85 L61 X85 hq
        obtain ⟨rfl, N61, P85⟩ := hq
        replace N61 := Fr.app N60 N61
        replace P85 : HP n0 T85.heap [AC kA28 [.int (1 : Int32), .int (2 : Int32)], AC kA29 [.int (1 : Int32), .int (2 : Int32)], AC kA30 [.int x3, .int x4, .int x5, .int x0], c32, AC kA33 [.int (0 : Int32), .int (1 : Int32)]] := P85
        refine w_istore (l' := #[.val (.int x0), .val (.int x1), .val (.int x2), .val (.int x3), .val (.int x4), .val (.int x5), .val (.int (1 : Int32)), .val (.int (1 : Int32)), .val (.int (2 : Int32)), .val (.ref (n0 + 0)), .val (.ref (n0 + 1)), .val (.ref (n0 + 2)), .val (.ref (n0 + 3)), .val (.int (1 : Int32)), .unset]) X85 hx (hb hby at_107) rfl (pc' := 109) rfl ?_
        refine w_iload X85 hx (hb hby at_109) rfl (pc' := 111) rfl ?_
        refine w_iload X85 hx (hb hby at_111) rfl (pc' := 113) rfl ?_
        refine w_icmp_eq X85 hx (hb hby at_113) (by decide) (pcY := 118) (by decide) (pc' := 116) rfl (fun h30 => ?_) (fun h30 => absurd h30 (by decide))
        refine w_iload X85 hx (hb hby at_118) rfl (pc' := 120) rfl ?_
        refine w_if_ne X85 hx (hb hby at_120) (by decide) (pcY := 125) (by decide) (pc' := 123) rfl (fun h31 => ?_) (fun h31 => absurd h31 (by decide))
        refine w_aload X85 hx (hb hby at_125) rfl rfl (pc' := 127) rfl ?_
        refine w_iconst (v := (1 : Int32)) X85 hx (hb hby at_127) rfl (pc' := 128) rfl ?_
        refine own_callV (W := 0) X85 hx hZ rfl hown hml.symm (wd23 hw) (wd24 hw) (wd26 hw) (wd25 hw) (wd3 hw) (wd27 hw) (rm4_17 l Z a0 hw [] n0 kA28 hkA28 kA29 hkA29 kA30 hkA30 x3 x4 x5 x0 c32 F32 kA33 hkA33 _ P85) (a := (n0 + 3)) (P85.exa (i := 3) rfl F32.1) (by decide) (by decide) (by decide) (by decide) (by decide) (argsL := [.int (1 : Int32)]) (rest := []) pd4 rfl rfl rfl (Nat.le_of_eq rfl) (hb hby at_128) (pc' := 131) rfl ?_
        intro _ T86 L62 X86 hq
        obtain ⟨rfl, N62, kA34, hkA34, P86⟩ := hq
        replace N62 := Fr.app N61 N62
        replace P86 : HP n0 T86.heap [AC kA28 [.int (1 : Int32), .int (2 : Int32)], AC kA29 [.int (1 : Int32), .int (2 : Int32)], AC kA30 [.int x3, .int x4, .int x5, .int x0], c32, AC kA33 [.int (0 : Int32), .int (1 : Int32)], AC kA34 [.int x4, .int x5]] := P86
        refine w_astore (l' := #[.val (.int x0), .val (.int x1), .val (.int x2), .val (.int x3), .val (.int x4), .val (.int x5), .val (.int (1 : Int32)), .val (.int (1 : Int32)), .val (.int (2 : Int32)), .val (.ref (n0 + 0)), .val (.ref (n0 + 1)), .val (.ref (n0 + 2)), .val (.ref (n0 + 3)), .val (.int (1 : Int32)), .val (.ref (n0 + 5))]) X86 hx (hb hby at_131) rfl rfl (pc' := 133) rfl ?_
        refine w_aload X86 hx (hb hby at_133) rfl rfl (pc' := 135) rfl ?_
        refine w_arrlen (i := 5) X86 hx hZ P86 rfl hkA34 (hb hby at_135) (z := (2 : Int32)) rfl (pc' := 136) rfl ?_
        refine w_iload X86 hx (hb hby at_136) rfl (pc' := 138) rfl ?_
        refine w_icmp_eq X86 hx (hb hby at_138) (by decide) (pcY := 143) (by decide) (pc' := 141) rfl (fun h32 => ?_) (fun h32 => absurd h32 (by decide))
        refine w_aload X86 hx (hb hby at_143) rfl rfl (pc' := 145) rfl ?_
        refine w_iconst (v := (0 : Int32)) X86 hx (hb hby at_145) rfl (pc' := 146) rfl ?_
        refine w_iaload (i := 5) (jn := 0) (v := .int x4) X86 hx hZ P86 rfl hkA34 (hb hby at_146) (by decide) rfl (pc' := 147) rfl ?_
        refine w_aload X86 hx (hb hby at_147) rfl rfl (pc' := 149) rfl ?_
        refine w_iload X86 hx (hb hby at_149) rfl (pc' := 151) rfl ?_
        refine w_iaload (i := 2) (jn := 1) (v := .int x4) X86 hx hZ P86 rfl hkA30 (hb hby at_151) (by decide) rfl (pc' := 152) rfl ?_
        refine w_icmp_eq X86 hx (hb hby at_152) (by decide) (pcY := 157) (by decide) (pc' := 155) rfl (fun h33 => ?_) (fun h33 => absurd rfl h33)
        refine w_iload X86 hx (hb hby at_157) rfl (pc' := 159) rfl ?_
        refine w_iconst (v := (2 : Int32)) X86 hx (hb hby at_159) rfl (pc' := 160) rfl ?_
        refine w_icmp_ne X86 hx (hb hby at_160) (by decide) (pcY := 179) (by decide) (pc' := 163) rfl (fun h34 => absurd h34 (by decide)) (fun h34 => ?_)
        refine w_aload X86 hx (hb hby at_163) rfl rfl (pc' := 165) rfl ?_
        refine w_iconst (v := (1 : Int32)) X86 hx (hb hby at_165) rfl (pc' := 166) rfl ?_
        refine w_iaload (i := 5) (jn := 1) (v := .int x5) X86 hx hZ P86 rfl hkA34 (hb hby at_166) (by decide) rfl (pc' := 167) rfl ?_
        refine w_aload X86 hx (hb hby at_167) rfl rfl (pc' := 169) rfl ?_
        refine w_iload X86 hx (hb hby at_169) rfl (pc' := 171) rfl ?_
        refine w_iconst (v := (1 : Int32)) X86 hx (hb hby at_171) rfl (pc' := 172) rfl ?_
        refine w_iadd X86 hx (hb hby at_172) (pc' := 173) rfl ?_
        refine w_eqI (z := (2 : Int32)) (by decide) ?_
        refine w_iaload (i := 2) (jn := 2) (v := .int x5) X86 hx hZ P86 rfl hkA30 (hb hby at_173) (by decide) rfl (pc' := 174) rfl ?_
        refine w_icmp_eq X86 hx (hb hby at_174) (by decide) (pcY := 179) (by decide) (pc' := 177) rfl (fun h35 => ?_) (fun h35 => absurd rfl h35)
        refine w_iconst (v := (1 : Int32)) X86 hx (hb hby at_179) rfl (pc' := 180) rfl ?_
        exact w_ret_n (t := .boolean) X86 hx hret hlk (by simp) (hb hby at_180) (z' := (1 : Int32)) rfl (by decide) (by decide) ⟨rfl, N62⟩
    · refine w_eqI (z := (1 : Int32)) g20 ?_
      refine w_iadd X0 hx (hb hby at_17) (pc' := 18) rfl ?_
      refine w_eqI (z := (2 : Int32)) (by decide) ?_
      refine w_istore (l' := #[.val (.int x0), .val (.int x1), .val (.int x2), .val (.int x3), .val (.int x4), .val (.int x5), .val (.int (1 : Int32)), .val (.int (2 : Int32)), .unset, .unset, .unset, .unset, .unset, .unset, .unset]) X0 hx (hb hby at_18) rfl (pc' := 20) rfl ?_
      refine w_iconst (v := (1 : Int32)) X0 hx (hb hby at_20) rfl (pc' := 21) rfl ?_
      refine w_iloadN X0 hx (hb hby at_21) rfl (pc' := 22) rfl ?_
      refine w_iconst (v := (1 : Int32)) X0 hx (hb hby at_22) rfl (pc' := 23) rfl ?_
      refine w_iand X0 hx (hb hby at_23) (pc' := 24) rfl ?_
      rcases (own_c2 (own_andk x2 1 1 (by decide))) with g36 | g37
      · refine w_eqI (z := (0 : Int32)) g36 ?_
        refine w_iadd X0 hx (hb hby at_24) (pc' := 25) rfl ?_
        refine w_eqI (z := (1 : Int32)) (by decide) ?_
        refine w_istore (l' := #[.val (.int x0), .val (.int x1), .val (.int x2), .val (.int x3), .val (.int x4), .val (.int x5), .val (.int (1 : Int32)), .val (.int (2 : Int32)), .val (.int (1 : Int32)), .unset, .unset, .unset, .unset, .unset, .unset]) X0 hx (hb hby at_25) rfl (pc' := 27) rfl ?_
        refine w_iconst (v := (2 : Int32)) X0 hx (hb hby at_27) rfl (pc' := 28) rfl ?_
        refine w_newarr (N := 2) (j := 0) X0 hx hZ P0 (ty := .int) rfl (wd0 hw) (hb hby at_28) (by decide) (by decide) (by decide) (by decide) rfl (pc' := 30) rfl ?_
        intro T87 kA35 X87 hkA35 P87
        replace P87 : HP n0 T87.heap [AC kA35 [.int (0 : Int32), .int (0 : Int32)]] := P87
        refine w_dup X87 hx (hb hby at_30) rfl (pc' := 31) rfl ?_
        refine w_iconst (v := (0 : Int32)) X87 hx (hb hby at_31) rfl (pc' := 32) rfl ?_
        refine w_iconst (v := (1 : Int32)) X87 hx (hb hby at_32) rfl (pc' := 33) rfl ?_
        refine w_iastore (i := 0) (jn := 0) X87 hx hZ N0 P87 rfl hkA35 (hb hby at_33) (by decide) (Nat.le_of_ble_eq_true rfl) (pc' := 34) rfl ?_
        intro T88 L63 N63 X88 P88
        replace P88 : HP n0 T88.heap [AC kA35 [.int (1 : Int32), .int (0 : Int32)]] := P88
        refine w_dup X88 hx (hb hby at_34) rfl (pc' := 35) rfl ?_
        refine w_iconst (v := (1 : Int32)) X88 hx (hb hby at_35) rfl (pc' := 36) rfl ?_
        refine w_iconst (v := (2 : Int32)) X88 hx (hb hby at_36) rfl (pc' := 37) rfl ?_
        refine w_iastore (i := 0) (jn := 1) X88 hx hZ N63 P88 rfl hkA35 (hb hby at_37) (by decide) (Nat.le_of_ble_eq_true rfl) (pc' := 38) rfl ?_
        intro T89 L64 N64 X89 P89
        replace P89 : HP n0 T89.heap [AC kA35 [.int (1 : Int32), .int (2 : Int32)]] := P89
        refine w_astore (l' := #[.val (.int x0), .val (.int x1), .val (.int x2), .val (.int x3), .val (.int x4), .val (.int x5), .val (.int (1 : Int32)), .val (.int (2 : Int32)), .val (.int (1 : Int32)), .val (.ref (n0 + 0)), .unset, .unset, .unset, .unset, .unset]) X89 hx (hb hby at_38) rfl rfl (pc' := 40) rfl ?_
        refine w_iconst (v := (2 : Int32)) X89 hx (hb hby at_40) rfl (pc' := 41) rfl ?_
        refine w_newarr (N := 2) (j := 1) X89 hx hZ P89 (ty := .int) rfl (wd0 hw) (hb hby at_41) (by decide) (by decide) (by decide) (by decide) rfl (pc' := 43) rfl ?_
        intro T90 kA36 X90 hkA36 P90
        replace P90 : HP n0 T90.heap [AC kA35 [.int (1 : Int32), .int (2 : Int32)], AC kA36 [.int (0 : Int32), .int (0 : Int32)]] := P90
        refine w_dup X90 hx (hb hby at_43) rfl (pc' := 44) rfl ?_
        refine w_iconst (v := (0 : Int32)) X90 hx (hb hby at_44) rfl (pc' := 45) rfl ?_
        refine w_iload X90 hx (hb hby at_45) rfl (pc' := 47) rfl ?_
        refine w_iastore (i := 1) (jn := 0) X90 hx hZ N64 P90 rfl hkA36 (hb hby at_47) (by decide) (Nat.le_of_ble_eq_true rfl) (pc' := 48) rfl ?_
        intro T91 L65 N65 X91 P91
        replace P91 : HP n0 T91.heap [AC kA35 [.int (1 : Int32), .int (2 : Int32)], AC kA36 [.int (2 : Int32), .int (0 : Int32)]] := P91
        refine w_dup X91 hx (hb hby at_48) rfl (pc' := 49) rfl ?_
        refine w_iconst (v := (1 : Int32)) X91 hx (hb hby at_49) rfl (pc' := 50) rfl ?_
        refine w_iload X91 hx (hb hby at_50) rfl (pc' := 52) rfl ?_
        refine w_iastore (i := 1) (jn := 1) X91 hx hZ N65 P91 rfl hkA36 (hb hby at_52) (by decide) (Nat.le_of_ble_eq_true rfl) (pc' := 53) rfl ?_
        intro T92 L66 N66 X92 P92
        replace P92 : HP n0 T92.heap [AC kA35 [.int (1 : Int32), .int (2 : Int32)], AC kA36 [.int (2 : Int32), .int (1 : Int32)]] := P92
        refine w_astore (l' := #[.val (.int x0), .val (.int x1), .val (.int x2), .val (.int x3), .val (.int x4), .val (.int x5), .val (.int (1 : Int32)), .val (.int (2 : Int32)), .val (.int (1 : Int32)), .val (.ref (n0 + 0)), .val (.ref (n0 + 1)), .unset, .unset, .unset, .unset]) X92 hx (hb hby at_53) rfl rfl (pc' := 55) rfl ?_
        refine w_iconst (v := (4 : Int32)) X92 hx (hb hby at_55) rfl (pc' := 56) rfl ?_
        refine w_newarr (N := 4) (j := 2) X92 hx hZ P92 (ty := .int) rfl (wd0 hw) (hb hby at_56) (by decide) (by decide) (by decide) (by decide) rfl (pc' := 58) rfl ?_
        intro T93 kA37 X93 hkA37 P93
        replace P93 : HP n0 T93.heap [AC kA35 [.int (1 : Int32), .int (2 : Int32)], AC kA36 [.int (2 : Int32), .int (1 : Int32)], AC kA37 [.int (0 : Int32), .int (0 : Int32), .int (0 : Int32), .int (0 : Int32)]] := P93
        refine w_dup X93 hx (hb hby at_58) rfl (pc' := 59) rfl ?_
        refine w_iconst (v := (0 : Int32)) X93 hx (hb hby at_59) rfl (pc' := 60) rfl ?_
        refine w_iloadN X93 hx (hb hby at_60) rfl (pc' := 61) rfl ?_
        refine w_iastore (i := 2) (jn := 0) X93 hx hZ N66 P93 rfl hkA37 (hb hby at_61) (by decide) (Nat.le_of_ble_eq_true rfl) (pc' := 62) rfl ?_
        intro T94 L67 N67 X94 P94
        replace P94 : HP n0 T94.heap [AC kA35 [.int (1 : Int32), .int (2 : Int32)], AC kA36 [.int (2 : Int32), .int (1 : Int32)], AC kA37 [.int x3, .int (0 : Int32), .int (0 : Int32), .int (0 : Int32)]] := P94
        refine w_dup X94 hx (hb hby at_62) rfl (pc' := 63) rfl ?_
        refine w_iconst (v := (1 : Int32)) X94 hx (hb hby at_63) rfl (pc' := 64) rfl ?_
        refine w_iload X94 hx (hb hby at_64) rfl (pc' := 66) rfl ?_
        refine w_iastore (i := 2) (jn := 1) X94 hx hZ N67 P94 rfl hkA37 (hb hby at_66) (by decide) (Nat.le_of_ble_eq_true rfl) (pc' := 67) rfl ?_
        intro T95 L68 N68 X95 P95
        replace P95 : HP n0 T95.heap [AC kA35 [.int (1 : Int32), .int (2 : Int32)], AC kA36 [.int (2 : Int32), .int (1 : Int32)], AC kA37 [.int x3, .int x4, .int (0 : Int32), .int (0 : Int32)]] := P95
        refine w_dup X95 hx (hb hby at_67) rfl (pc' := 68) rfl ?_
        refine w_iconst (v := (2 : Int32)) X95 hx (hb hby at_68) rfl (pc' := 69) rfl ?_
        refine w_iload X95 hx (hb hby at_69) rfl (pc' := 71) rfl ?_
        refine w_iastore (i := 2) (jn := 2) X95 hx hZ N68 P95 rfl hkA37 (hb hby at_71) (by decide) (Nat.le_of_ble_eq_true rfl) (pc' := 72) rfl ?_
        intro T96 L69 N69 X96 P96
        replace P96 : HP n0 T96.heap [AC kA35 [.int (1 : Int32), .int (2 : Int32)], AC kA36 [.int (2 : Int32), .int (1 : Int32)], AC kA37 [.int x3, .int x4, .int x5, .int (0 : Int32)]] := P96
        refine w_dup X96 hx (hb hby at_72) rfl (pc' := 73) rfl ?_
        refine w_iconst (v := (3 : Int32)) X96 hx (hb hby at_73) rfl (pc' := 74) rfl ?_
        refine w_iloadN X96 hx (hb hby at_74) rfl (pc' := 75) rfl ?_
        refine w_iastore (i := 2) (jn := 3) X96 hx hZ N69 P96 rfl hkA37 (hb hby at_75) (by decide) (Nat.le_of_ble_eq_true rfl) (pc' := 76) rfl ?_
        intro T97 L70 N70 X97 P97
        replace P97 : HP n0 T97.heap [AC kA35 [.int (1 : Int32), .int (2 : Int32)], AC kA36 [.int (2 : Int32), .int (1 : Int32)], AC kA37 [.int x3, .int x4, .int x5, .int x0]] := P97
        refine w_astore (l' := #[.val (.int x0), .val (.int x1), .val (.int x2), .val (.int x3), .val (.int x4), .val (.int x5), .val (.int (1 : Int32)), .val (.int (2 : Int32)), .val (.int (1 : Int32)), .val (.ref (n0 + 0)), .val (.ref (n0 + 1)), .val (.ref (n0 + 2)), .unset, .unset, .unset]) X97 hx (hb hby at_76) rfl rfl (pc' := 78) rfl ?_
        refine w_new (j := 3) X97 hx hZ hown (wd1 hw) (wd2 hw) (wd3 hw) P97 fl_C0 dv_C0 rfl (ly_C0 hw) (hb hby at_78) (by decide) (by decide) rfl (pc' := 81) rfl ?_
        intro T98 c38 X98 P98 F38
        replace P98 : HP n0 T98.heap [AC kA35 [.int (1 : Int32), .int (2 : Int32)], AC kA36 [.int (2 : Int32), .int (1 : Int32)], AC kA37 [.int x3, .int x4, .int x5, .int x0], c38] := P98
        refine w_dup X98 hx (hb hby at_81) rfl (pc' := 82) rfl ?_
        refine w_aload X98 hx (hb hby at_82) rfl rfl (pc' := 84) rfl ?_
        refine w_aload X98 hx (hb hby at_84) rfl rfl (pc' := 86) rfl ?_
        refine w_iload X98 hx (hb hby at_86) rfl (pc' := 88) rfl ?_
        refine w_if_eq X98 hx (hb hby at_88) (by decide) (pcY := 96) (by decide) (pc' := 91) rfl (fun h38 => absurd h38 (by decide)) (fun h38 => ?_)
        refine w_aload X98 hx (hb hby at_91) rfl rfl (pc' := 93) rfl ?_
        refine w_goto X98 hx (hb hby at_93) (by decide) (pc' := 97) (by decide) ?_
        refine own_callI (W := 1) X98 hx hZ rfl rfl hown hml.symm (wd4 hw) (wd5 hw) (wd3 hw) (wd6 hw) (rm1_22 l Z a0 hw [] n0 kA35 hkA35 kA36 hkA36 kA37 hkA37 x3 x4 x5 x0 c38 F38 _ P98) (by decide) (by decide) (by decide) (by decide) (by decide) (a := (n0 + 3)) (argsL := [.ref (n0 + 0), .ref (n0 + 1), .ref (n0 + 2)]) (rest := [.ref (n0 + 3)]) pd1 rfl rfl rfl (Nat.le_of_eq rfl) (hb hby at_97) (pc' := 100) rfl ?_
        intro _ T99 L71 X99 hq
        obtain ⟨rfl, N71, c39, F39, kA40, hkA40, P99⟩ := hq
        replace N71 := Fr.app N70 N71
        replace P99 : HP n0 T99.heap [AC kA35 [.int (1 : Int32), .int (2 : Int32)], AC kA36 [.int (2 : Int32), .int (1 : Int32)], AC kA37 [.int x3, .int x4, .int x5, .int x0], c39, AC kA40 [.int (0 : Int32), .int (2 : Int32)]] := P99
        refine w_astore (l' := #[.val (.int x0), .val (.int x1), .val (.int x2), .val (.int x3), .val (.int x4), .val (.int x5), .val (.int (1 : Int32)), .val (.int (2 : Int32)), .val (.int (1 : Int32)), .val (.ref (n0 + 0)), .val (.ref (n0 + 1)), .val (.ref (n0 + 2)), .val (.ref (n0 + 3)), .unset, .unset]) X99 hx (hb hby at_100) rfl rfl (pc' := 102) rfl ?_
        refine w_aload X99 hx (hb hby at_102) rfl rfl (pc' := 104) rfl ?_
        refine own_callV (W := 0) X99 hx hZ rfl hown hml.symm (wd18 hw) (wd19 hw) (wd21 hw) (wd20 hw) (wd3 hw) (wd22 hw) (rm3_23 l Z a0 hw [] n0 kA35 hkA35 kA36 hkA36 kA37 hkA37 x3 x4 x5 x0 c39 F39 kA40 hkA40 _ P99) (a := (n0 + 3)) (P99.exa (i := 3) rfl F39.1) (by decide) (by decide) (by decide) (by decide) (by decide) (argsL := []) (rest := []) pd3 rfl rfl rfl (Nat.le_of_eq rfl) (hb hby at_104) (pc' := 107) rfl ?_
        intro _ T100 L72 X100 hq
        obtain ⟨rfl, N72, P100⟩ := hq
        replace N72 := Fr.app N71 N72
        replace P100 : HP n0 T100.heap [AC kA35 [.int (1 : Int32), .int (2 : Int32)], AC kA36 [.int (2 : Int32), .int (1 : Int32)], AC kA37 [.int x3, .int x4, .int x5, .int x0], c39, AC kA40 [.int (0 : Int32), .int (2 : Int32)]] := P100
        refine w_istore (l' := #[.val (.int x0), .val (.int x1), .val (.int x2), .val (.int x3), .val (.int x4), .val (.int x5), .val (.int (1 : Int32)), .val (.int (2 : Int32)), .val (.int (1 : Int32)), .val (.ref (n0 + 0)), .val (.ref (n0 + 1)), .val (.ref (n0 + 2)), .val (.ref (n0 + 3)), .val (.int (1 : Int32)), .unset]) X100 hx (hb hby at_107) rfl (pc' := 109) rfl ?_
        refine w_iload X100 hx (hb hby at_109) rfl (pc' := 111) rfl ?_
        refine w_iload X100 hx (hb hby at_111) rfl (pc' := 113) rfl ?_
        refine w_icmp_eq X100 hx (hb hby at_113) (by decide) (pcY := 118) (by decide) (pc' := 116) rfl (fun h39 => ?_) (fun h39 => absurd h39 (by decide))
        refine w_iload X100 hx (hb hby at_118) rfl (pc' := 120) rfl ?_
        refine w_if_ne X100 hx (hb hby at_120) (by decide) (pcY := 125) (by decide) (pc' := 123) rfl (fun h40 => ?_) (fun h40 => absurd h40 (by decide))
        refine w_aload X100 hx (hb hby at_125) rfl rfl (pc' := 127) rfl ?_
        refine w_iconst (v := (1 : Int32)) X100 hx (hb hby at_127) rfl (pc' := 128) rfl ?_
        refine own_callV (W := 0) X100 hx hZ rfl hown hml.symm (wd23 hw) (wd24 hw) (wd26 hw) (wd25 hw) (wd3 hw) (wd27 hw) (rm4_24 l Z a0 hw [] n0 kA35 hkA35 kA36 hkA36 kA37 hkA37 x3 x4 x5 x0 c39 F39 kA40 hkA40 _ P100) (a := (n0 + 3)) (P100.exa (i := 3) rfl F39.1) (by decide) (by decide) (by decide) (by decide) (by decide) (argsL := [.int (1 : Int32)]) (rest := []) pd4 rfl rfl rfl (Nat.le_of_eq rfl) (hb hby at_128) (pc' := 131) rfl ?_
        intro _ T101 L73 X101 hq
        obtain ⟨rfl, N73, kA41, hkA41, P101⟩ := hq
        replace N73 := Fr.app N72 N73
        replace P101 : HP n0 T101.heap [AC kA35 [.int (1 : Int32), .int (2 : Int32)], AC kA36 [.int (2 : Int32), .int (1 : Int32)], AC kA37 [.int x3, .int x4, .int x5, .int x0], c39, AC kA40 [.int (0 : Int32), .int (2 : Int32)], AC kA41 [.int x5]] := P101
        refine w_astore (l' := #[.val (.int x0), .val (.int x1), .val (.int x2), .val (.int x3), .val (.int x4), .val (.int x5), .val (.int (1 : Int32)), .val (.int (2 : Int32)), .val (.int (1 : Int32)), .val (.ref (n0 + 0)), .val (.ref (n0 + 1)), .val (.ref (n0 + 2)), .val (.ref (n0 + 3)), .val (.int (1 : Int32)), .val (.ref (n0 + 5))]) X101 hx (hb hby at_131) rfl rfl (pc' := 133) rfl ?_
        refine w_aload X101 hx (hb hby at_133) rfl rfl (pc' := 135) rfl ?_
        refine w_arrlen (i := 5) X101 hx hZ P101 rfl hkA41 (hb hby at_135) (z := (1 : Int32)) rfl (pc' := 136) rfl ?_
        refine w_iload X101 hx (hb hby at_136) rfl (pc' := 138) rfl ?_
        refine w_icmp_eq X101 hx (hb hby at_138) (by decide) (pcY := 143) (by decide) (pc' := 141) rfl (fun h41 => ?_) (fun h41 => absurd h41 (by decide))
        refine w_aload X101 hx (hb hby at_143) rfl rfl (pc' := 145) rfl ?_
        refine w_iconst (v := (0 : Int32)) X101 hx (hb hby at_145) rfl (pc' := 146) rfl ?_
        refine w_iaload (i := 5) (jn := 0) (v := .int x5) X101 hx hZ P101 rfl hkA41 (hb hby at_146) (by decide) rfl (pc' := 147) rfl ?_
        refine w_aload X101 hx (hb hby at_147) rfl rfl (pc' := 149) rfl ?_
        refine w_iload X101 hx (hb hby at_149) rfl (pc' := 151) rfl ?_
        refine w_iaload (i := 2) (jn := 2) (v := .int x5) X101 hx hZ P101 rfl hkA37 (hb hby at_151) (by decide) rfl (pc' := 152) rfl ?_
        refine w_icmp_eq X101 hx (hb hby at_152) (by decide) (pcY := 157) (by decide) (pc' := 155) rfl (fun h42 => ?_) (fun h42 => absurd rfl h42)
        refine w_iload X101 hx (hb hby at_157) rfl (pc' := 159) rfl ?_
        refine w_iconst (v := (2 : Int32)) X101 hx (hb hby at_159) rfl (pc' := 160) rfl ?_
        refine w_icmp_ne X101 hx (hb hby at_160) (by decide) (pcY := 179) (by decide) (pc' := 163) rfl (fun h43 => ?_) (fun h43 => absurd h43 (by decide))
        refine w_iconst (v := (1 : Int32)) X101 hx (hb hby at_179) rfl (pc' := 180) rfl ?_
        exact w_ret_n (t := .boolean) X101 hx hret hlk (by simp) (hb hby at_180) (z' := (1 : Int32)) rfl (by decide) (by decide) ⟨rfl, N73⟩
      · refine w_eqI (z := (1 : Int32)) g37 ?_
        refine w_iadd X0 hx (hb hby at_24) (pc' := 25) rfl ?_
        refine w_eqI (z := (2 : Int32)) (by decide) ?_
        refine w_istore (l' := #[.val (.int x0), .val (.int x1), .val (.int x2), .val (.int x3), .val (.int x4), .val (.int x5), .val (.int (1 : Int32)), .val (.int (2 : Int32)), .val (.int (2 : Int32)), .unset, .unset, .unset, .unset, .unset, .unset]) X0 hx (hb hby at_25) rfl (pc' := 27) rfl ?_
        refine w_iconst (v := (2 : Int32)) X0 hx (hb hby at_27) rfl (pc' := 28) rfl ?_
        refine w_newarr (N := 2) (j := 0) X0 hx hZ P0 (ty := .int) rfl (wd0 hw) (hb hby at_28) (by decide) (by decide) (by decide) (by decide) rfl (pc' := 30) rfl ?_
        intro T102 kA42 X102 hkA42 P102
        replace P102 : HP n0 T102.heap [AC kA42 [.int (0 : Int32), .int (0 : Int32)]] := P102
        refine w_dup X102 hx (hb hby at_30) rfl (pc' := 31) rfl ?_
        refine w_iconst (v := (0 : Int32)) X102 hx (hb hby at_31) rfl (pc' := 32) rfl ?_
        refine w_iconst (v := (1 : Int32)) X102 hx (hb hby at_32) rfl (pc' := 33) rfl ?_
        refine w_iastore (i := 0) (jn := 0) X102 hx hZ N0 P102 rfl hkA42 (hb hby at_33) (by decide) (Nat.le_of_ble_eq_true rfl) (pc' := 34) rfl ?_
        intro T103 L74 N74 X103 P103
        replace P103 : HP n0 T103.heap [AC kA42 [.int (1 : Int32), .int (0 : Int32)]] := P103
        refine w_dup X103 hx (hb hby at_34) rfl (pc' := 35) rfl ?_
        refine w_iconst (v := (1 : Int32)) X103 hx (hb hby at_35) rfl (pc' := 36) rfl ?_
        refine w_iconst (v := (2 : Int32)) X103 hx (hb hby at_36) rfl (pc' := 37) rfl ?_
        refine w_iastore (i := 0) (jn := 1) X103 hx hZ N74 P103 rfl hkA42 (hb hby at_37) (by decide) (Nat.le_of_ble_eq_true rfl) (pc' := 38) rfl ?_
        intro T104 L75 N75 X104 P104
        replace P104 : HP n0 T104.heap [AC kA42 [.int (1 : Int32), .int (2 : Int32)]] := P104
        refine w_astore (l' := #[.val (.int x0), .val (.int x1), .val (.int x2), .val (.int x3), .val (.int x4), .val (.int x5), .val (.int (1 : Int32)), .val (.int (2 : Int32)), .val (.int (2 : Int32)), .val (.ref (n0 + 0)), .unset, .unset, .unset, .unset, .unset]) X104 hx (hb hby at_38) rfl rfl (pc' := 40) rfl ?_
        refine w_iconst (v := (2 : Int32)) X104 hx (hb hby at_40) rfl (pc' := 41) rfl ?_
        refine w_newarr (N := 2) (j := 1) X104 hx hZ P104 (ty := .int) rfl (wd0 hw) (hb hby at_41) (by decide) (by decide) (by decide) (by decide) rfl (pc' := 43) rfl ?_
        intro T105 kA43 X105 hkA43 P105
        replace P105 : HP n0 T105.heap [AC kA42 [.int (1 : Int32), .int (2 : Int32)], AC kA43 [.int (0 : Int32), .int (0 : Int32)]] := P105
        refine w_dup X105 hx (hb hby at_43) rfl (pc' := 44) rfl ?_
        refine w_iconst (v := (0 : Int32)) X105 hx (hb hby at_44) rfl (pc' := 45) rfl ?_
        refine w_iload X105 hx (hb hby at_45) rfl (pc' := 47) rfl ?_
        refine w_iastore (i := 1) (jn := 0) X105 hx hZ N75 P105 rfl hkA43 (hb hby at_47) (by decide) (Nat.le_of_ble_eq_true rfl) (pc' := 48) rfl ?_
        intro T106 L76 N76 X106 P106
        replace P106 : HP n0 T106.heap [AC kA42 [.int (1 : Int32), .int (2 : Int32)], AC kA43 [.int (2 : Int32), .int (0 : Int32)]] := P106
        refine w_dup X106 hx (hb hby at_48) rfl (pc' := 49) rfl ?_
        refine w_iconst (v := (1 : Int32)) X106 hx (hb hby at_49) rfl (pc' := 50) rfl ?_
        refine w_iload X106 hx (hb hby at_50) rfl (pc' := 52) rfl ?_
        refine w_iastore (i := 1) (jn := 1) X106 hx hZ N76 P106 rfl hkA43 (hb hby at_52) (by decide) (Nat.le_of_ble_eq_true rfl) (pc' := 53) rfl ?_
        intro T107 L77 N77 X107 P107
        replace P107 : HP n0 T107.heap [AC kA42 [.int (1 : Int32), .int (2 : Int32)], AC kA43 [.int (2 : Int32), .int (2 : Int32)]] := P107
        refine w_astore (l' := #[.val (.int x0), .val (.int x1), .val (.int x2), .val (.int x3), .val (.int x4), .val (.int x5), .val (.int (1 : Int32)), .val (.int (2 : Int32)), .val (.int (2 : Int32)), .val (.ref (n0 + 0)), .val (.ref (n0 + 1)), .unset, .unset, .unset, .unset]) X107 hx (hb hby at_53) rfl rfl (pc' := 55) rfl ?_
        refine w_iconst (v := (4 : Int32)) X107 hx (hb hby at_55) rfl (pc' := 56) rfl ?_
        refine w_newarr (N := 4) (j := 2) X107 hx hZ P107 (ty := .int) rfl (wd0 hw) (hb hby at_56) (by decide) (by decide) (by decide) (by decide) rfl (pc' := 58) rfl ?_
        intro T108 kA44 X108 hkA44 P108
        replace P108 : HP n0 T108.heap [AC kA42 [.int (1 : Int32), .int (2 : Int32)], AC kA43 [.int (2 : Int32), .int (2 : Int32)], AC kA44 [.int (0 : Int32), .int (0 : Int32), .int (0 : Int32), .int (0 : Int32)]] := P108
        refine w_dup X108 hx (hb hby at_58) rfl (pc' := 59) rfl ?_
        refine w_iconst (v := (0 : Int32)) X108 hx (hb hby at_59) rfl (pc' := 60) rfl ?_
        refine w_iloadN X108 hx (hb hby at_60) rfl (pc' := 61) rfl ?_
        refine w_iastore (i := 2) (jn := 0) X108 hx hZ N77 P108 rfl hkA44 (hb hby at_61) (by decide) (Nat.le_of_ble_eq_true rfl) (pc' := 62) rfl ?_
        intro T109 L78 N78 X109 P109
        replace P109 : HP n0 T109.heap [AC kA42 [.int (1 : Int32), .int (2 : Int32)], AC kA43 [.int (2 : Int32), .int (2 : Int32)], AC kA44 [.int x3, .int (0 : Int32), .int (0 : Int32), .int (0 : Int32)]] := P109
        refine w_dup X109 hx (hb hby at_62) rfl (pc' := 63) rfl ?_
        refine w_iconst (v := (1 : Int32)) X109 hx (hb hby at_63) rfl (pc' := 64) rfl ?_
        refine w_iload X109 hx (hb hby at_64) rfl (pc' := 66) rfl ?_
        refine w_iastore (i := 2) (jn := 1) X109 hx hZ N78 P109 rfl hkA44 (hb hby at_66) (by decide) (Nat.le_of_ble_eq_true rfl) (pc' := 67) rfl ?_
        intro T110 L79 N79 X110 P110
        replace P110 : HP n0 T110.heap [AC kA42 [.int (1 : Int32), .int (2 : Int32)], AC kA43 [.int (2 : Int32), .int (2 : Int32)], AC kA44 [.int x3, .int x4, .int (0 : Int32), .int (0 : Int32)]] := P110
        refine w_dup X110 hx (hb hby at_67) rfl (pc' := 68) rfl ?_
        refine w_iconst (v := (2 : Int32)) X110 hx (hb hby at_68) rfl (pc' := 69) rfl ?_
        refine w_iload X110 hx (hb hby at_69) rfl (pc' := 71) rfl ?_
        refine w_iastore (i := 2) (jn := 2) X110 hx hZ N79 P110 rfl hkA44 (hb hby at_71) (by decide) (Nat.le_of_ble_eq_true rfl) (pc' := 72) rfl ?_
        intro T111 L80 N80 X111 P111
        replace P111 : HP n0 T111.heap [AC kA42 [.int (1 : Int32), .int (2 : Int32)], AC kA43 [.int (2 : Int32), .int (2 : Int32)], AC kA44 [.int x3, .int x4, .int x5, .int (0 : Int32)]] := P111
        refine w_dup X111 hx (hb hby at_72) rfl (pc' := 73) rfl ?_
        refine w_iconst (v := (3 : Int32)) X111 hx (hb hby at_73) rfl (pc' := 74) rfl ?_
        refine w_iloadN X111 hx (hb hby at_74) rfl (pc' := 75) rfl ?_
        refine w_iastore (i := 2) (jn := 3) X111 hx hZ N80 P111 rfl hkA44 (hb hby at_75) (by decide) (Nat.le_of_ble_eq_true rfl) (pc' := 76) rfl ?_
        intro T112 L81 N81 X112 P112
        replace P112 : HP n0 T112.heap [AC kA42 [.int (1 : Int32), .int (2 : Int32)], AC kA43 [.int (2 : Int32), .int (2 : Int32)], AC kA44 [.int x3, .int x4, .int x5, .int x0]] := P112
        refine w_astore (l' := #[.val (.int x0), .val (.int x1), .val (.int x2), .val (.int x3), .val (.int x4), .val (.int x5), .val (.int (1 : Int32)), .val (.int (2 : Int32)), .val (.int (2 : Int32)), .val (.ref (n0 + 0)), .val (.ref (n0 + 1)), .val (.ref (n0 + 2)), .unset, .unset, .unset]) X112 hx (hb hby at_76) rfl rfl (pc' := 78) rfl ?_
        refine w_new (j := 3) X112 hx hZ hown (wd1 hw) (wd2 hw) (wd3 hw) P112 fl_C0 dv_C0 rfl (ly_C0 hw) (hb hby at_78) (by decide) (by decide) rfl (pc' := 81) rfl ?_
        intro T113 c45 X113 P113 F45
        replace P113 : HP n0 T113.heap [AC kA42 [.int (1 : Int32), .int (2 : Int32)], AC kA43 [.int (2 : Int32), .int (2 : Int32)], AC kA44 [.int x3, .int x4, .int x5, .int x0], c45] := P113
        refine w_dup X113 hx (hb hby at_81) rfl (pc' := 82) rfl ?_
        refine w_aload X113 hx (hb hby at_82) rfl rfl (pc' := 84) rfl ?_
        refine w_aload X113 hx (hb hby at_84) rfl rfl (pc' := 86) rfl ?_
        refine w_iload X113 hx (hb hby at_86) rfl (pc' := 88) rfl ?_
        refine w_if_eq X113 hx (hb hby at_88) (by decide) (pcY := 96) (by decide) (pc' := 91) rfl (fun h44 => absurd h44 (by decide)) (fun h44 => ?_)
        refine w_aload X113 hx (hb hby at_91) rfl rfl (pc' := 93) rfl ?_
        refine w_goto X113 hx (hb hby at_93) (by decide) (pc' := 97) (by decide) ?_
        refine own_callI (W := 1) X113 hx hZ rfl rfl hown hml.symm (wd4 hw) (wd5 hw) (wd3 hw) (wd6 hw) (rm1_29 l Z a0 hw [] n0 kA42 hkA42 kA43 hkA43 kA44 hkA44 x3 x4 x5 x0 c45 F45 _ P113) (by decide) (by decide) (by decide) (by decide) (by decide) (a := (n0 + 3)) (argsL := [.ref (n0 + 0), .ref (n0 + 1), .ref (n0 + 2)]) (rest := [.ref (n0 + 3)]) pd1 rfl rfl rfl (Nat.le_of_eq rfl) (hb hby at_97) (pc' := 100) rfl ?_
        intro _ T114 L82 X114 hq
        obtain ⟨rfl, N82, c46, F46, kA47, hkA47, P114⟩ := hq
        replace N82 := Fr.app N81 N82
        replace P114 : HP n0 T114.heap [AC kA42 [.int (1 : Int32), .int (2 : Int32)], AC kA43 [.int (2 : Int32), .int (2 : Int32)], AC kA44 [.int x3, .int x4, .int x5, .int x0], c46, AC kA47 [.int (0 : Int32), .int (2 : Int32)]] := P114
        refine w_astore (l' := #[.val (.int x0), .val (.int x1), .val (.int x2), .val (.int x3), .val (.int x4), .val (.int x5), .val (.int (1 : Int32)), .val (.int (2 : Int32)), .val (.int (2 : Int32)), .val (.ref (n0 + 0)), .val (.ref (n0 + 1)), .val (.ref (n0 + 2)), .val (.ref (n0 + 3)), .unset, .unset]) X114 hx (hb hby at_100) rfl rfl (pc' := 102) rfl ?_
        refine w_aload X114 hx (hb hby at_102) rfl rfl (pc' := 104) rfl ?_
        refine own_callV (W := 0) X114 hx hZ rfl hown hml.symm (wd18 hw) (wd19 hw) (wd21 hw) (wd20 hw) (wd3 hw) (wd22 hw) (rm3_30 l Z a0 hw [] n0 kA42 hkA42 kA43 hkA43 kA44 hkA44 x3 x4 x5 x0 c46 F46 kA47 hkA47 _ P114) (a := (n0 + 3)) (P114.exa (i := 3) rfl F46.1) (by decide) (by decide) (by decide) (by decide) (by decide) (argsL := []) (rest := []) pd3 rfl rfl rfl (Nat.le_of_eq rfl) (hb hby at_104) (pc' := 107) rfl ?_
        intro _ T115 L83 X115 hq
        obtain ⟨rfl, N83, P115⟩ := hq
        replace N83 := Fr.app N82 N83
        replace P115 : HP n0 T115.heap [AC kA42 [.int (1 : Int32), .int (2 : Int32)], AC kA43 [.int (2 : Int32), .int (2 : Int32)], AC kA44 [.int x3, .int x4, .int x5, .int x0], c46, AC kA47 [.int (0 : Int32), .int (2 : Int32)]] := P115
        refine w_istore (l' := #[.val (.int x0), .val (.int x1), .val (.int x2), .val (.int x3), .val (.int x4), .val (.int x5), .val (.int (1 : Int32)), .val (.int (2 : Int32)), .val (.int (2 : Int32)), .val (.ref (n0 + 0)), .val (.ref (n0 + 1)), .val (.ref (n0 + 2)), .val (.ref (n0 + 3)), .val (.int (1 : Int32)), .unset]) X115 hx (hb hby at_107) rfl (pc' := 109) rfl ?_
        refine w_iload X115 hx (hb hby at_109) rfl (pc' := 111) rfl ?_
        refine w_iload X115 hx (hb hby at_111) rfl (pc' := 113) rfl ?_
        refine w_icmp_eq X115 hx (hb hby at_113) (by decide) (pcY := 118) (by decide) (pc' := 116) rfl (fun h45 => ?_) (fun h45 => absurd h45 (by decide))
        refine w_iload X115 hx (hb hby at_118) rfl (pc' := 120) rfl ?_
        refine w_if_ne X115 hx (hb hby at_120) (by decide) (pcY := 125) (by decide) (pc' := 123) rfl (fun h46 => ?_) (fun h46 => absurd h46 (by decide))
        refine w_aload X115 hx (hb hby at_125) rfl rfl (pc' := 127) rfl ?_
        refine w_iconst (v := (1 : Int32)) X115 hx (hb hby at_127) rfl (pc' := 128) rfl ?_
        refine own_callV (W := 0) X115 hx hZ rfl hown hml.symm (wd23 hw) (wd24 hw) (wd26 hw) (wd25 hw) (wd3 hw) (wd27 hw) (rm4_31 l Z a0 hw [] n0 kA42 hkA42 kA43 hkA43 kA44 hkA44 x3 x4 x5 x0 c46 F46 kA47 hkA47 _ P115) (a := (n0 + 3)) (P115.exa (i := 3) rfl F46.1) (by decide) (by decide) (by decide) (by decide) (by decide) (argsL := [.int (1 : Int32)]) (rest := []) pd4 rfl rfl rfl (Nat.le_of_eq rfl) (hb hby at_128) (pc' := 131) rfl ?_
        intro _ T116 L84 X116 hq
        obtain ⟨rfl, N84, kA48, hkA48, P116⟩ := hq
        replace N84 := Fr.app N83 N84
        replace P116 : HP n0 T116.heap [AC kA42 [.int (1 : Int32), .int (2 : Int32)], AC kA43 [.int (2 : Int32), .int (2 : Int32)], AC kA44 [.int x3, .int x4, .int x5, .int x0], c46, AC kA47 [.int (0 : Int32), .int (2 : Int32)], AC kA48 [.int x5, .int x0]] := P116
        refine w_astore (l' := #[.val (.int x0), .val (.int x1), .val (.int x2), .val (.int x3), .val (.int x4), .val (.int x5), .val (.int (1 : Int32)), .val (.int (2 : Int32)), .val (.int (2 : Int32)), .val (.ref (n0 + 0)), .val (.ref (n0 + 1)), .val (.ref (n0 + 2)), .val (.ref (n0 + 3)), .val (.int (1 : Int32)), .val (.ref (n0 + 5))]) X116 hx (hb hby at_131) rfl rfl (pc' := 133) rfl ?_
        refine w_aload X116 hx (hb hby at_133) rfl rfl (pc' := 135) rfl ?_
        refine w_arrlen (i := 5) X116 hx hZ P116 rfl hkA48 (hb hby at_135) (z := (2 : Int32)) rfl (pc' := 136) rfl ?_
        refine w_iload X116 hx (hb hby at_136) rfl (pc' := 138) rfl ?_
        refine w_icmp_eq X116 hx (hb hby at_138) (by decide) (pcY := 143) (by decide) (pc' := 141) rfl (fun h47 => ?_) (fun h47 => absurd h47 (by decide))
        refine w_aload X116 hx (hb hby at_143) rfl rfl (pc' := 145) rfl ?_
        refine w_iconst (v := (0 : Int32)) X116 hx (hb hby at_145) rfl (pc' := 146) rfl ?_
        refine w_iaload (i := 5) (jn := 0) (v := .int x5) X116 hx hZ P116 rfl hkA48 (hb hby at_146) (by decide) rfl (pc' := 147) rfl ?_
        refine w_aload X116 hx (hb hby at_147) rfl rfl (pc' := 149) rfl ?_
        refine w_iload X116 hx (hb hby at_149) rfl (pc' := 151) rfl ?_
        refine w_iaload (i := 2) (jn := 2) (v := .int x5) X116 hx hZ P116 rfl hkA44 (hb hby at_151) (by decide) rfl (pc' := 152) rfl ?_
        refine w_icmp_eq X116 hx (hb hby at_152) (by decide) (pcY := 157) (by decide) (pc' := 155) rfl (fun h48 => ?_) (fun h48 => absurd rfl h48)
        refine w_iload X116 hx (hb hby at_157) rfl (pc' := 159) rfl ?_
        refine w_iconst (v := (2 : Int32)) X116 hx (hb hby at_159) rfl (pc' := 160) rfl ?_
        refine w_icmp_ne X116 hx (hb hby at_160) (by decide) (pcY := 179) (by decide) (pc' := 163) rfl (fun h49 => absurd h49 (by decide)) (fun h49 => ?_)
        refine w_aload X116 hx (hb hby at_163) rfl rfl (pc' := 165) rfl ?_
        refine w_iconst (v := (1 : Int32)) X116 hx (hb hby at_165) rfl (pc' := 166) rfl ?_
        refine w_iaload (i := 5) (jn := 1) (v := .int x0) X116 hx hZ P116 rfl hkA48 (hb hby at_166) (by decide) rfl (pc' := 167) rfl ?_
        refine w_aload X116 hx (hb hby at_167) rfl rfl (pc' := 169) rfl ?_
        refine w_iload X116 hx (hb hby at_169) rfl (pc' := 171) rfl ?_
        refine w_iconst (v := (1 : Int32)) X116 hx (hb hby at_171) rfl (pc' := 172) rfl ?_
        refine w_iadd X116 hx (hb hby at_172) (pc' := 173) rfl ?_
        refine w_eqI (z := (3 : Int32)) (by decide) ?_
        refine w_iaload (i := 2) (jn := 3) (v := .int x0) X116 hx hZ P116 rfl hkA44 (hb hby at_173) (by decide) rfl (pc' := 174) rfl ?_
        refine w_icmp_eq X116 hx (hb hby at_174) (by decide) (pcY := 179) (by decide) (pc' := 177) rfl (fun h50 => ?_) (fun h50 => absurd rfl h50)
        refine w_iconst (v := (1 : Int32)) X116 hx (hb hby at_179) rfl (pc' := 180) rfl ?_
        exact w_ret_n (t := .boolean) X116 hx hret hlk (by simp) (hb hby at_180) (z' := (1 : Int32)) rfl (by decide) (by decide) ⟨rfl, N84⟩
set_option maxRecDepth 65536 in
set_option maxHeartbeats 40000000 in
theorem comes_1 {Post : Tables → Env → Array Value → State → Outcome → State → Prop} (hpost : ∀ tb e args s v u, (limb_1_1.after args s (.returned v) u = true ∧ limb_1_2.after args s (.returned v) u = true ∧ True) → FrameEnd s (.returned v) u (Jvm.fieldLocs frame_1_writes args s ++ Jvm.arrayLocs frame_1_arrays args s ++ Jvm.staticLocs frame_1_statics s) 24 128 → Post tb e args s (.returned v) u) :
    ArmFor flags0 classFile x code maxLocals ret World_1 tables_1 room_1 Calls_1 rest_1 Pre_1 Post := by
  intro l hfl _ _ p e ha hc hk s m args below hf hA hF happ hP
  obtain ⟨hcalls, hrest, hpre⟩ := hP
  obtain ⟨-, -, -, hnamed, -, -, -, hat⟩ := (Spec.applies_iff hf).mp happ
  obtain ⟨hg, hn⟩ := and_e (Cond.before_iff.mp (show (Jvm.Cond.and given_1 narrow_1).before args s = true from hpre))
  obtain ⟨g0, k0⟩ := and_e hg
  obtain ⟨q0, k1⟩ := and_e k0
  obtain ⟨q1, k2⟩ := and_e k1
  obtain ⟨q2, k3⟩ := and_e k2
  obtain ⟨q3, k4⟩ := and_e k3
  obtain ⟨q4, k5⟩ := and_e k4
  have q5 := k5
  obtain ⟨w0, w1, w2, w3, w4, w5, rfl⟩ : ∃ w0 w1 w2 w3 w4 w5 : Value, args = #[w0, w1, w2, w3, w4, w5] := by
    have hs : args.size = 6 := by simpa [Cond.value, given_1] using g0
    obtain ⟨L⟩ := args
    match L, hs with
    | [w0, w1, w2, w3, w4, w5], _ => exact ⟨w0, w1, w2, w3, w4, w5, rfl⟩
  have hw := fun d (hd : d ∈ tables_1) => atoms_spec (ws := Jvm.Cond.code x code maxLocals ret :: tables_1) hat d (List.mem_cons_of_mem _ hd)
  obtain ⟨i0, ei0⟩ := is_v q0
  obtain rfl : w0 = (.int i0) := Option.some.inj ei0
  obtain ⟨i1, ei1⟩ := is_v q1
  obtain rfl : w1 = (.int i1) := Option.some.inj ei1
  obtain ⟨i2, ei2⟩ := is_v q2
  obtain rfl : w2 = (.int i2) := Option.some.inj ei2
  obtain ⟨i3, ei3⟩ := is_v q3
  obtain rfl : w3 = (.int i3) := Option.some.inj ei3
  obtain ⟨i4, ei4⟩ := is_v q4
  obtain rfl : w4 = (.int i4) := Option.some.inj ei4
  obtain ⟨i5, ei5⟩ := is_v q5
  obtain rfl : w5 = (.int i5) := Option.some.inj ei5
  obtain ⟨n, o, h1, h2, h3, _, L, rfl, ⟨rfl, N⟩, hq⟩ := rm0 l s _ hw tables_1 i0 i1 i2 i3 i4 i5 s.heap s.heap.size rfl p e ha hc hk s m _ below hf ((Spec.applies_iff_loose hf).mp happ).1 ⟨rfl, State.Warmed39.refl s, rfl⟩ trivial
  refine ⟨n, _, h1, h2, h3, hpost _ _ _ _ _ _ ⟨Cond.after_iff.mpr rfl, Cond.after_iff.mpr (eq_i res_at (Term.int_eval (1)) rfl), trivial⟩ ⟨hq.1, hq.2.1, (hq.2.2.sift fun y hy => Or.inr (N y hy)).mono (by decide) (by decide)⟩⟩
theorem main_1_1 : Claimed_1_1 := comes_1 fun _ _ _ _ _ _ h hF => ⟨h.1, hF⟩
theorem main_1_2 : Claimed_1_2 := comes_1 fun _ _ _ _ _ _ h hF => ⟨h.2.1, hF⟩
end Jvm.Pilot.@@N@@
namespace Jvm.Pilot.@@N@@
open Jvm Jvm.ClassFile Sem Op Lib Jvm.Free Jvm.Stand Jvm.Pilot.@@N@@.Jvm.D
/-! MADE BY PROGRAM (witnessworld.py) out of the Statement's table words and the real class files: 12 classes; the members and pool entries that the words name. The judged class is class 1, her method 1. -/
namespace start1
open Jvm.ClassFile
def u (s : String) : CpInfo := .utf8 (stringToUtf16 s)
/-- a pool by its gaps: so many unusable entries, then the entry; so many at the end -/
def gap : Nat → List CpInfo → List CpInfo
  | 0, r => r
  | n + 1, r => .unusable :: gap n r
def poolList (es : List (Nat × CpInfo)) (last : Nat) : List CpInfo := es.foldr (fun e r => gap e.1 (e.2 :: r)) (gap last [])
def pool (es : List (Nat × CpInfo)) (last : Nat) : Array CpInfo := ⟨poolList es last⟩
def fileOf (pool : Array CpInfo) (this : Nat) (attrs : Array Attribute := #[]) (ms : Array MethodInfo := #[]) (fl : Nat := 33) (sup : Nat := 0) (ifs : Array Nat := #[]) (fds : Array FieldInfo := #[]) : ClassFile where
  minorVersion := 0
  majorVersion := 65
  constantPool := pool
  accessFlags := fl
  thisClass := this
  superClass := sup
  interfaces := ifs
  fields := fds
  methods := ms
  attributes := attrs
def plain (name : String) (sup : Option ClassId) : Class where
  name := name
  kind := .ordinary
  loader := none
  accessFlags := 33
  super := sup
  interfaces := #[]
  cf := none
  fields := #[]
  methods := #[]
  instanceTypes := #[]
  staticTypes := #[]
  resolved := #[]
  callSites := []
  init := .initialized
  statics := none
  mirror := none

def pool0 : Array CpInfo := pool [(5, u "<init>"), (0, u "()V"), (1, .class_ 10), (1, u "java/lang/Object")] 113

def k0c0 : Code := { maxStack := 0, maxLocals := 1, code := object_method_1_code, exceptionTable := #[], attributes := #[] }
def k0m0 : Method := { name := "<init>", desc := "()V", sig := { parameters := [], returnType := none }, accessFlags := 1, code := some k0c0 }
/-- java/lang/Object -/
def k0 : Class := { plain "java/lang/Object" none with
  accessFlags := 33
  interfaces := #[]
  cf := some (fileOf pool0 8 #[] #[{ accessFlags := 1, nameIndex := 5, descriptorIndex := 6, attributes := #[] }] 33 0 #[] #[])
  fields := #[]
  methods := #[k0m0]
  instanceTypes := #[]
  staticTypes := #[]
  resolved := Array.replicate 124 none
  statics := none }

def pool1 : Array CpInfo := pool [(2, .class_ 4), (1, u "java/lang/Object"), (0, u "<init>"), (0, u "()V"), (0, .class_ 8), (0, u "com/example/dirichlet/dirichlet/index/Postings"), (0, .methodref 7 10), (0, .nameAndType 5 11), (0, u "([I[I[I)V"), (0, .methodref 7 13), (0, .nameAndType 14 15), (0, u "hasPositions"), (0, u "()Z"), (0, .methodref 7 17), (0, .nameAndType 18 19), (0, u "positions"), (0, u "(I)[I"), (0, .class_ 21), (0, u "com/example/dirichlet/dirichlet/index/PostingsHasPositionsPinLaw"), (2, u "law"), (0, u "(IIIIII)Z")] 5

def k1m0 : Method := { name := "<init>", desc := "()V", sig := { parameters := [], returnType := none }, accessFlags := 1, code := none }
def k1c1 : Code := { maxStack := 5, maxLocals := 15, code := code, exceptionTable := #[], attributes := #[] }
def k1m1 : Method := { name := "law", desc := "(IIIIII)Z", sig := { parameters := [.int, .int, .int, .int, .int, .int], returnType := some .boolean }, accessFlags := 9, code := some k1c1 }
/-- com/example/dirichlet/dirichlet/index/PostingsHasPositionsPinLaw -/
def k1 : Class := { plain "com/example/dirichlet/dirichlet/index/PostingsHasPositionsPinLaw" (some 0) with
  accessFlags := 49
  interfaces := #[]
  cf := some (fileOf pool1 20 #[] #[{ accessFlags := 1, nameIndex := 5, descriptorIndex := 6, attributes := #[] }, { accessFlags := 9, nameIndex := 24, descriptorIndex := 25, attributes := #[] }] 49 2 #[] #[])
  fields := #[]
  methods := #[k1m0, k1m1]
  instanceTypes := #[]
  staticTypes := #[]
  resolved := Array.replicate 31 none
  statics := none }

def pool2 : Array CpInfo := pool [(1, .methodref 2 3), (0, .class_ 4), (0, .nameAndType 5 6), (0, u "java/lang/Object"), (0, u "<init>"), (0, u "()V"), (0, .fieldref 8 9), (0, .class_ 10), (0, .nameAndType 11 12), (0, u "com/example/dirichlet/dirichlet/index/Postings"), (0, u "documents"), (0, u "[I"), (0, .fieldref 8 14), (0, .nameAndType 15 12), (0, u "counts"), (0, .fieldref 8 17), (0, .nameAndType 18 12), (0, u "positions"), (0, .fieldref 8 20), (0, .nameAndType 21 12), (0, u "starts"), (7, .methodref 30 31), (0, .class_ 32), (0, .nameAndType 33 34), (0, u "java/util/Arrays"), (0, u "copyOfRange"), (0, u "([III)[I"), (0, u "([I[I[I)V"), (9, u "hasPositions"), (0, u "()Z"), (0, u "(I)[I")] 2

def k2c0 : Code := { maxStack := 6, maxLocals := 5, code := prog_23_method_1_code, exceptionTable := #[], attributes := #[] }
def k2m0 : Method := { name := "<init>", desc := "([I[I[I)V", sig := { parameters := [(.array .int), (.array .int), (.array .int)], returnType := none }, accessFlags := 0, code := some k2c0 }
def k2c1 : Code := { maxStack := 1, maxLocals := 1, code := prog_23_method_5_code, exceptionTable := #[], attributes := #[] }
def k2m1 : Method := { name := "hasPositions", desc := "()Z", sig := { parameters := [], returnType := some .boolean }, accessFlags := 1, code := some k2c1 }
def k2c2 : Code := { maxStack := 5, maxLocals := 2, code := prog_23_method_6_code, exceptionTable := #[], attributes := #[] }
def k2m2 : Method := { name := "positions", desc := "(I)[I", sig := { parameters := [.int], returnType := some (.array .int) }, accessFlags := 1, code := some k2c2 }
/-- com/example/dirichlet/dirichlet/index/Postings -/
def k2 : Class := { plain "com/example/dirichlet/dirichlet/index/Postings" (some 0) with
  accessFlags := 33
  interfaces := #[]
  cf := some (fileOf pool2 8 #[] #[{ accessFlags := 0, nameIndex := 5, descriptorIndex := 35, attributes := #[] }, { accessFlags := 1, nameIndex := 45, descriptorIndex := 46, attributes := #[] }, { accessFlags := 1, nameIndex := 18, descriptorIndex := 47, attributes := #[] }] 33 2 #[] #[{ accessFlags := 18, nameIndex := 11, descriptorIndex := 12, attributes := #[] }, { accessFlags := 18, nameIndex := 15, descriptorIndex := 12, attributes := #[] }, { accessFlags := 18, nameIndex := 18, descriptorIndex := 12, attributes := #[] }, { accessFlags := 18, nameIndex := 21, descriptorIndex := 12, attributes := #[] }])
  fields := #[{ name := "documents", type := (.array .int), accessFlags := 18, slot := 0, constantValue := 0 }, { name := "counts", type := (.array .int), accessFlags := 18, slot := 1, constantValue := 0 }, { name := "positions", type := (.array .int), accessFlags := 18, slot := 2, constantValue := 0 }, { name := "starts", type := (.array .int), accessFlags := 18, slot := 3, constantValue := 0 }]
  methods := #[k2m0, k2m1, k2m2]
  instanceTypes := #[(.array .int), (.array .int), (.array .int), (.array .int)]
  staticTypes := #[]
  resolved := Array.replicate 50 none
  statics := none }

def pool3 : Array CpInfo := pool [(2, .class_ 4), (1, u "java/lang/Object"), (0, u "<init>"), (0, u "()V"), (7, .class_ 16), (1, u "java/util/Arrays"), (57, .class_ 76), (1, u "java/util/Arrays$NaturalOrder"), (36, .class_ 115), (1, u "java/util/Arrays$LegacyMergeSort"), (1, u "Z"), (21, u "copyOfRange"), (10, .methodref 151 152), (0, .class_ 153), (0, .nameAndType 154 155), (0, u "java/lang/System"), (0, u "arraycopy"), (0, u "(Ljava/lang/Object;ILjava/lang/Object;II)V"), (148, .methodref 305 306), (0, .class_ 307), (0, .nameAndType 308 309), (0, u "java/lang/Math"), (0, u "min"), (0, u "(II)I"), (33, .methodref 14 344), (0, .nameAndType 345 346), (0, u "checkLength"), (0, u "(II)V"), (4, .methodref 14 352), (0, .nameAndType 353 354), (0, u "copyOfRangeInt"), (0, u "([III)[I"), (20, .class_ 376), (0, u "java/util/Arrays$ArrayList"), (68, u "$assertionsDisabled"), (269, u "MIN_ARRAY_SORT_GRAN"), (0, u "I"), (2, u "INSERTIONSORT_THRESHOLD"), (255, .class_ 976), (0, u "java/util/Arrays$ArrayItr")] 52

def k3m0 : Method := { name := "<init>", desc := "()V", sig := { parameters := [], returnType := none }, accessFlags := 2, code := none }
def k3c1 : Code := { maxStack := 4, maxLocals := 2, code := jdk_65_method_131_code, exceptionTable := #[], attributes := #[] }
def k3m1 : Method := { name := "checkLength", desc := "(II)V", sig := { parameters := [.int, .int], returnType := none }, accessFlags := 10, code := some k3c1 }
def k3c2 : Code := { maxStack := 3, maxLocals := 3, code := jdk_65_method_136_code, exceptionTable := #[], attributes := #[] }
def k3m2 : Method := { name := "copyOfRange", desc := "([III)[I", sig := { parameters := [(.array .int), .int, .int], returnType := some (.array .int) }, accessFlags := 9, code := some k3c2 }
def k3c3 : Code := { maxStack := 6, maxLocals := 5, code := jdk_65_method_137_code, exceptionTable := #[], attributes := #[] }
def k3m3 : Method := { name := "copyOfRangeInt", desc := "([III)[I", sig := { parameters := [(.array .int), .int, .int], returnType := some (.array .int) }, accessFlags := 10, code := some k3c3 }
/-- java/util/Arrays -/
def k3 : Class := { plain "java/util/Arrays" (some 0) with
  accessFlags := 49
  interfaces := #[]
  cf := some (fileOf pool3 14 #[.nestMembers #[975, 375, 113, 74]] #[{ accessFlags := 2, nameIndex := 5, descriptorIndex := 6, attributes := #[] }, { accessFlags := 10, nameIndex := 345, descriptorIndex := 346, attributes := #[] }, { accessFlags := 9, nameIndex := 139, descriptorIndex := 354, attributes := #[] }, { accessFlags := 10, nameIndex := 353, descriptorIndex := 354, attributes := #[] }] 49 2 #[] #[{ accessFlags := 26, nameIndex := 715, descriptorIndex := 716, attributes := #[] }, { accessFlags := 26, nameIndex := 719, descriptorIndex := 716, attributes := #[] }, { accessFlags := 4120, nameIndex := 445, descriptorIndex := 117, attributes := #[] }])
  fields := #[{ name := "MIN_ARRAY_SORT_GRAN", type := .int, accessFlags := 26, slot := 0, constantValue := 0 }, { name := "INSERTIONSORT_THRESHOLD", type := .int, accessFlags := 26, slot := 1, constantValue := 0 }, { name := "$assertionsDisabled", type := .boolean, accessFlags := 4120, slot := 2, constantValue := 0 }]
  methods := #[k3m0, k3m1, k3m2, k3m3]
  instanceTypes := #[]
  staticTypes := #[.int, .int, .boolean]
  resolved := Array.replicate 1029 none
  statics := none }

def pool4 : Array CpInfo := pool [(1, .class_ 2), (0, u "java/lang/Math"), (1, .class_ 6), (1, u "java/lang/Object"), (0, u "<init>"), (0, u "()V"), (89, .class_ 100), (1, u "java/lang/Math$RandomNumberGeneratorHolder"), (71, u "negativeZeroFloatBits"), (0, u "J"), (2, u "negativeZeroDoubleBits"), (24, u "min"), (43, u "$assertionsDisabled"), (0, u "Z"), (88, u "(II)I"), (2, u "twoToTheDoubleScaleDown"), (0, u "D"), (4, u "twoToTheDoubleScaleUp"), (9, u "E"), (3, u "PI"), (2, u "TAU"), (2, u "DEGREES_TO_RADIANS"), (0, u "RADIANS_TO_DEGREES")] 94

def k4m0 : Method := { name := "<init>", desc := "()V", sig := { parameters := [], returnType := none }, accessFlags := 2, code := none }
def k4c1 : Code := { maxStack := 2, maxLocals := 2, code := jdk_29_method_69_code, exceptionTable := #[], attributes := #[] }
def k4m1 : Method := { name := "min", desc := "(II)I", sig := { parameters := [.int, .int], returnType := some .int }, accessFlags := 9, code := some k4c1 }
/-- java/lang/Math -/
def k4 : Class := { plain "java/lang/Math" (some 0) with
  accessFlags := 49
  interfaces := #[]
  cf := some (fileOf pool4 1 #[.nestMembers #[98]] #[{ accessFlags := 2, nameIndex := 7, descriptorIndex := 8, attributes := #[] }, { accessFlags := 9, nameIndex := 201, descriptorIndex := 335, attributes := #[] }] 49 4 #[] #[{ accessFlags := 25, nameIndex := 354, descriptorIndex := 339, attributes := #[] }, { accessFlags := 25, nameIndex := 358, descriptorIndex := 339, attributes := #[] }, { accessFlags := 25, nameIndex := 361, descriptorIndex := 339, attributes := #[] }, { accessFlags := 26, nameIndex := 364, descriptorIndex := 339, attributes := #[] }, { accessFlags := 26, nameIndex := 365, descriptorIndex := 339, attributes := #[] }, { accessFlags := 26, nameIndex := 172, descriptorIndex := 173, attributes := #[] }, { accessFlags := 26, nameIndex := 176, descriptorIndex := 173, attributes := #[] }, { accessFlags := 8, nameIndex := 344, descriptorIndex := 339, attributes := #[] }, { accessFlags := 8, nameIndex := 338, descriptorIndex := 339, attributes := #[] }, { accessFlags := 4120, nameIndex := 245, descriptorIndex := 246, attributes := #[] }])
  fields := #[{ name := "E", type := .double, accessFlags := 25, slot := 0, constantValue := 0 }, { name := "PI", type := .double, accessFlags := 25, slot := 1, constantValue := 0 }, { name := "TAU", type := .double, accessFlags := 25, slot := 2, constantValue := 0 }, { name := "DEGREES_TO_RADIANS", type := .double, accessFlags := 26, slot := 3, constantValue := 0 }, { name := "RADIANS_TO_DEGREES", type := .double, accessFlags := 26, slot := 4, constantValue := 0 }, { name := "negativeZeroFloatBits", type := .long, accessFlags := 26, slot := 5, constantValue := 0 }, { name := "negativeZeroDoubleBits", type := .long, accessFlags := 26, slot := 6, constantValue := 0 }, { name := "twoToTheDoubleScaleUp", type := .double, accessFlags := 8, slot := 7, constantValue := 0 }, { name := "twoToTheDoubleScaleDown", type := .double, accessFlags := 8, slot := 8, constantValue := 0 }, { name := "$assertionsDisabled", type := .boolean, accessFlags := 4120, slot := 9, constantValue := 0 }]
  methods := #[k4m0, k4m1]
  instanceTypes := #[]
  staticTypes := #[.double, .double, .double, .double, .double, .long, .long, .double, .double, .boolean]
  resolved := Array.replicate 460 none
  statics := none }

def pool5 : Array CpInfo := pool [(2, .class_ 4), (1, u "java/lang/Object"), (0, u "<init>"), (0, u "()V"), (1, .class_ 10), (1, u "java/lang/System"), (0, u "allowSecurityManager"), (0, u "I"), (16, u "cons"), (0, u "Ljava/io/Console;"), (77, .class_ 110), (1, u "java/lang/System$CallersHolder"), (43, u "initialErrStream"), (0, u "Ljava/io/PrintStream;"), (19, u "security"), (0, u "Ljava/lang/SecurityManager;"), (31, .class_ 209), (0, u "java/lang/System$1"), (7, u "props"), (0, u "Ljava/util/Properties;"), (2, u "lineSeparator"), (0, u "Ljava/lang/String;"), (96, .class_ 321), (1, u "java/lang/System$LoggerFinder"), (5, .class_ 328), (0, u "java/lang/System$Logger"), (67, u "err"), (2, u "out"), (91, u "notSupportedJnuEncoding"), (15, u "in"), (17, u "initialIn"), (0, u "Ljava/io/InputStream;"), (35, u "bootLayer"), (0, u "Ljava/lang/ModuleLayer;"), (99, .class_ 664), (0, u "java/lang/System$2"), (9, u "NEVER"), (2, u "MAYBE"), (49, u "arraycopy"), (0, u "(Ljava/lang/Object;ILjava/lang/Object;II)V"), (72, .class_ 802), (0, u "java/lang/System$Logger$Level")] 31

def k5m0 : Method := { name := "<init>", desc := "()V", sig := { parameters := [], returnType := none }, accessFlags := 2, code := none }
def k5m1 : Method := { name := "arraycopy", desc := "(Ljava/lang/Object;ILjava/lang/Object;II)V", sig := { parameters := [(.object "java/lang/Object"), .int, (.object "java/lang/Object"), .int, .int], returnType := none }, accessFlags := 265, code := none }
/-- java/lang/System -/
def k5 : Class := { plain "java/lang/System" (some 0) with
  accessFlags := 49
  interfaces := #[]
  cf := some (fileOf pool5 8 #[.nestMembers #[319, 327, 801, 108, 663, 208]] #[{ accessFlags := 2, nameIndex := 5, descriptorIndex := 6, attributes := #[] }, { accessFlags := 265, nameIndex := 727, descriptorIndex := 728, attributes := #[] }] 49 2 #[] #[{ accessFlags := 25, nameIndex := 507, descriptorIndex := 526, attributes := #[] }, { accessFlags := 25, nameIndex := 399, descriptorIndex := 155, attributes := #[] }, { accessFlags := 25, nameIndex := 396, descriptorIndex := 155, attributes := #[] }, { accessFlags := 10, nameIndex := 525, descriptorIndex := 526, attributes := #[] }, { accessFlags := 26, nameIndex := 674, descriptorIndex := 12, attributes := #[] }, { accessFlags := 26, nameIndex := 677, descriptorIndex := 12, attributes := #[] }, { accessFlags := 10, nameIndex := 11, descriptorIndex := 12, attributes := #[] }, { accessFlags := 74, nameIndex := 175, descriptorIndex := 176, attributes := #[] }, { accessFlags := 10, nameIndex := 491, descriptorIndex := 222, attributes := #[] }, { accessFlags := 74, nameIndex := 29, descriptorIndex := 30, attributes := #[] }, { accessFlags := 74, nameIndex := 154, descriptorIndex := 155, attributes := #[] }, { accessFlags := 10, nameIndex := 217, descriptorIndex := 218, attributes := #[] }, { accessFlags := 10, nameIndex := 221, descriptorIndex := 222, attributes := #[] }, { accessFlags := 8, nameIndex := 562, descriptorIndex := 563, attributes := #[] }])
  fields := #[{ name := "in", type := (.object "java/io/InputStream"), accessFlags := 25, slot := 0, constantValue := 0 }, { name := "out", type := (.object "java/io/PrintStream"), accessFlags := 25, slot := 1, constantValue := 0 }, { name := "err", type := (.object "java/io/PrintStream"), accessFlags := 25, slot := 2, constantValue := 0 }, { name := "initialIn", type := (.object "java/io/InputStream"), accessFlags := 10, slot := 3, constantValue := 0 }, { name := "NEVER", type := .int, accessFlags := 26, slot := 4, constantValue := 0 }, { name := "MAYBE", type := .int, accessFlags := 26, slot := 5, constantValue := 0 }, { name := "allowSecurityManager", type := .int, accessFlags := 10, slot := 6, constantValue := 0 }, { name := "security", type := (.object "java/lang/SecurityManager"), accessFlags := 74, slot := 7, constantValue := 0 }, { name := "notSupportedJnuEncoding", type := (.object "java/lang/String"), accessFlags := 10, slot := 8, constantValue := 0 }, { name := "cons", type := (.object "java/io/Console"), accessFlags := 74, slot := 9, constantValue := 0 }, { name := "initialErrStream", type := (.object "java/io/PrintStream"), accessFlags := 74, slot := 10, constantValue := 0 }, { name := "props", type := (.object "java/util/Properties"), accessFlags := 10, slot := 11, constantValue := 0 }, { name := "lineSeparator", type := (.object "java/lang/String"), accessFlags := 10, slot := 12, constantValue := 0 }, { name := "bootLayer", type := (.object "java/lang/ModuleLayer"), accessFlags := 8, slot := 13, constantValue := 0 }]
  methods := #[k5m0, k5m1]
  instanceTypes := #[]
  staticTypes := #[(.object "java/io/InputStream"), (.object "java/io/PrintStream"), (.object "java/io/PrintStream"), (.object "java/io/InputStream"), .int, .int, .int, (.object "java/lang/SecurityManager"), (.object "java/lang/String"), (.object "java/io/Console"), (.object "java/io/PrintStream"), (.object "java/util/Properties"), (.object "java/lang/String"), (.object "java/lang/ModuleLayer")]
  resolved := Array.replicate 834 none
  statics := none }

def pool6 : Array CpInfo := pool [(1, u "java/lang/Cloneable"), (0, .class_ 1), (0, u "java/lang/Object"), (0, .class_ 3)] 3

/-- java/lang/Cloneable -/
def k6 : Class := { plain "java/lang/Cloneable" (some 0) with
  accessFlags := 1537
  interfaces := #[]
  cf := some (fileOf pool6 2 #[] #[] 1537 4 #[] #[])
  fields := #[]
  methods := #[]
  instanceTypes := #[]
  staticTypes := #[]
  resolved := Array.replicate 8 none
  statics := none }

def pool7 : Array CpInfo := pool [(1, u "java/io/Serializable"), (0, .class_ 1), (0, u "java/lang/Object"), (0, .class_ 3)] 3

/-- java/io/Serializable -/
def k7 : Class := { plain "java/io/Serializable" (some 0) with
  accessFlags := 1537
  interfaces := #[]
  cf := some (fileOf pool7 2 #[] #[] 1537 4 #[] #[])
  fields := #[]
  methods := #[]
  instanceTypes := #[]
  staticTypes := #[]
  resolved := Array.replicate 8 none
  statics := none }

/-- the primitive byte -/
def k8 : Class := { plain "byte" none with kind := .primitive 'B', accessFlags := 0x411 }
/-- [B -/
def k9 : Class := { plain "[B" (some 0) with kind := .array 8 .byte, interfaces := #[6, 7], accessFlags := 1041 }

/-- the primitive int -/
def k10 : Class := { plain "int" none with kind := .primitive 'I', accessFlags := 0x411 }
/-- [I -/
def k11 : Class := { plain "[I" (some 0) with kind := .array 10 .int, interfaces := #[6, 7], accessFlags := 1041 }

def heap : Heap := #[]
def classes : Array Class := #[k0, k1, k2, k3, k4, k5, k6, k7, k8, k9, k10, k11]
def interned : List (Array UInt16 × Addr) := []
def slotsUsed : Nat := 0
def theMethod : MethodId := ⟨1, 1⟩
def args0 : Array Value := #[.int 5, .int 7, .int 3, .int 2, .int 9, .int 2]
def aboutOver (below : List Frame) : State where
  vm := { classes := classes, interned := interned.toArray }
  heap := heap
  slotsUsed := slotsUsed
  threads := #[{ frames := .invoking theMethod args0 :: below }]
def below0 : List Frame := [.native { method := ⟨0, 0⟩, args := #[] }]
def about1 : State := aboutOver below0
def p0 : Program := .bare "" "" ""
def e0 : Env := launch0.env 0 0 0
theorem w_frames : about1.frames = Frame.invoking theMethod args0 :: below0 := rfl
set_option maxRecDepth 65536 in
theorem w_args : argsFit about1.vm theMethod args0 = true := by decide +kernel
set_option maxRecDepth 65536 in
theorem w_heap : heapFits about1 = true := by decide +kernel
set_option maxRecDepth 65536 in
theorem w_runnable : about1.curStatus? = some .runnable := by decide +kernel
set_option maxRecDepth 65536 in
theorem w_alone : about1.alone = true := by decide +kernel
set_option maxRecDepth 65536 in
theorem w_named : about1.methodNamed? x = some theMethod := by decide +kernel
set_option maxRecDepth 65536 in
theorem w_hears : about1.hears theMethod below0 = true := by decide +kernel
set_option maxRecDepth 65536 in
theorem w_ripe : about1.ripe theMethod args0 below0 = true := by decide +kernel
theorem w_running : about1.status = .running := rfl
set_option maxRecDepth 65536 in
theorem w_room : about1.hasRoom e0.platform room_1 = true :=
  launch0.hasRoom_least _ room_1 (by decide +kernel) (by decide +kernel) (by decide +kernel) (by decide +kernel) (by decide +kernel) (by decide +kernel)
theorem allAtoms_all (ts : List Jvm.Cond) (a : Array Jvm.Value) (st : Jvm.State) : (allAtoms ts).before a st = ts.all (fun c => c.before a st) := by
  induction ts with
  | nil => rfl
  | cons c t ih =>
    show (Jvm.Cond.and c (allAtoms t)).before a st = _
    rw [Jvm.Cond.before_and, ih, List.all_cons]
def words1 : List Jvm.Cond := Jvm.Cond.code x code maxLocals ret :: tables_1
/-- a 'code' word, met by the world's own term for the bytes: nothing is compared byte by byte -/
theorem code_word {y : MethodName} {bytes : ByteArray} {mx : Nat} {rt : Option FieldType} {a : Array Value} {s : State} {m : MethodId} {meth : Method} {c : Code} (h1 : s.methodNamed? y = some m) (h2 : s.vm.method? m = some meth) (h3 : meth.code = some c) (h4 : c.code = bytes)
    (h5 : (c.maxLocals == mx && c.exceptionTable.isEmpty && decide (c.maxStack ≤ mostOperands) && decide (meth.sig.returnType = rt) && !meth.locks && decide (parseMethodDescriptor y.desc = some meth.sig)) = true) : (Jvm.Cond.code y bytes mx rt).before a s = true := by
  simp only [Bool.and_eq_true, beq_iff_eq, Bool.not_eq_true', decide_eq_true_eq] at h5
  obtain ⟨⟨⟨⟨⟨g1, g2⟩, g3⟩, g4⟩, g5⟩, g6⟩ := h5
  simp [Cond.before, Cond.holds, Cond.value, h1, h2, h3, h4, g1, g2, g3, g4, g5, g6]
def isCode : Jvm.Cond → Bool
  | .code _ _ _ _ => true
  | _ => false
theorem all_split {L : List Jvm.Cond} {P : Jvm.Cond → Bool} (h1 : L.all (fun c => isCode c || P c) = true) (h2 : ∀ c ∈ L.filter isCode, P c = true) : L.all P = true := by
  refine List.all_eq_true.mpr fun c hc => ?_
  have h := List.all_eq_true.mp h1 c hc
  rcases Bool.eq_false_or_eq_true (isCode c) with hi | hi
  · exact h2 c (List.mem_filter.mpr ⟨hc, hi⟩)
  · simpa [hi] using h
set_option maxRecDepth 65536 in
theorem w_c0 : (Jvm.Cond.code x code maxLocals ret).before args0 about1 = true := code_word (m := ⟨1, 1⟩) (meth := k1m1) (c := k1c1) (by decide +kernel) rfl rfl rfl (by decide +kernel)
set_option maxRecDepth 65536 in
theorem w_c1 : (Jvm.Cond.code ({ cls := "com/example/dirichlet/dirichlet/index/Postings", name := "<init>", desc := "([I[I[I)V" } : Jvm.MethodName) prog_23_method_1_code (5 : Nat) (Option.none : Option Jvm.ClassFile.FieldType)).before args0 about1 = true := code_word (m := ⟨2, 0⟩) (meth := k2m0) (c := k2c0) (by decide +kernel) rfl rfl rfl (by decide +kernel)
set_option maxRecDepth 65536 in
theorem w_c2 : (Jvm.Cond.code ({ cls := "java/lang/Object", name := "<init>", desc := "()V" } : Jvm.MethodName) object_method_1_code (1 : Nat) (Option.none : Option Jvm.ClassFile.FieldType)).before args0 about1 = true := code_word (m := ⟨0, 0⟩) (meth := k0m0) (c := k0c0) (by decide +kernel) rfl rfl rfl (by decide +kernel)
set_option maxRecDepth 65536 in
theorem w_c3 : (Jvm.Cond.code ({ cls := "com/example/dirichlet/dirichlet/index/Postings", name := "hasPositions", desc := "()Z" } : Jvm.MethodName) prog_23_method_5_code (1 : Nat) (Option.some Jvm.ClassFile.FieldType.boolean)).before args0 about1 = true := code_word (m := ⟨2, 1⟩) (meth := k2m1) (c := k2c1) (by decide +kernel) rfl rfl rfl (by decide +kernel)
set_option maxRecDepth 65536 in
theorem w_c4 : (Jvm.Cond.code ({ cls := "com/example/dirichlet/dirichlet/index/Postings", name := "positions", desc := "(I)[I" } : Jvm.MethodName) prog_23_method_6_code (2 : Nat) (Option.some (Jvm.ClassFile.FieldType.array Jvm.ClassFile.FieldType.int))).before args0 about1 = true := code_word (m := ⟨2, 2⟩) (meth := k2m2) (c := k2c2) (by decide +kernel) rfl rfl rfl (by decide +kernel)
set_option maxRecDepth 65536 in
theorem w_c5 : (Jvm.Cond.code ({ cls := "java/util/Arrays", name := "copyOfRange", desc := "([III)[I" } : Jvm.MethodName) jdk_65_method_136_code (3 : Nat) (Option.some (Jvm.ClassFile.FieldType.array Jvm.ClassFile.FieldType.int))).before args0 about1 = true := code_word (m := ⟨3, 2⟩) (meth := k3m2) (c := k3c2) (by decide +kernel) rfl rfl rfl (by decide +kernel)
set_option maxRecDepth 65536 in
theorem w_c6 : (Jvm.Cond.code ({ cls := "java/util/Arrays", name := "copyOfRangeInt", desc := "([III)[I" } : Jvm.MethodName) jdk_65_method_137_code (5 : Nat) (Option.some (Jvm.ClassFile.FieldType.array Jvm.ClassFile.FieldType.int))).before args0 about1 = true := code_word (m := ⟨3, 3⟩) (meth := k3m3) (c := k3c3) (by decide +kernel) rfl rfl rfl (by decide +kernel)
set_option maxRecDepth 65536 in
theorem w_c7 : (Jvm.Cond.code ({ cls := "java/util/Arrays", name := "checkLength", desc := "(II)V" } : Jvm.MethodName) jdk_65_method_131_code (2 : Nat) (Option.none : Option Jvm.ClassFile.FieldType)).before args0 about1 = true := code_word (m := ⟨3, 1⟩) (meth := k3m1) (c := k3c1) (by decide +kernel) rfl rfl rfl (by decide +kernel)
set_option maxRecDepth 65536 in
theorem w_c8 : (Jvm.Cond.code ({ cls := "java/lang/Math", name := "min", desc := "(II)I" } : Jvm.MethodName) jdk_29_method_69_code (2 : Nat) (Option.some Jvm.ClassFile.FieldType.int)).before args0 about1 = true := code_word (m := ⟨4, 1⟩) (meth := k4m1) (c := k4c1) (by decide +kernel) rfl rfl rfl (by decide +kernel)
def codes1 : List Jvm.Cond := [Jvm.Cond.code x code maxLocals ret, Jvm.Cond.code ({ cls := "com/example/dirichlet/dirichlet/index/Postings", name := "<init>", desc := "([I[I[I)V" } : Jvm.MethodName) prog_23_method_1_code (5 : Nat) (Option.none : Option Jvm.ClassFile.FieldType), Jvm.Cond.code ({ cls := "java/lang/Object", name := "<init>", desc := "()V" } : Jvm.MethodName) object_method_1_code (1 : Nat) (Option.none : Option Jvm.ClassFile.FieldType), Jvm.Cond.code ({ cls := "com/example/dirichlet/dirichlet/index/Postings", name := "hasPositions", desc := "()Z" } : Jvm.MethodName) prog_23_method_5_code (1 : Nat) (Option.some Jvm.ClassFile.FieldType.boolean), Jvm.Cond.code ({ cls := "com/example/dirichlet/dirichlet/index/Postings", name := "positions", desc := "(I)[I" } : Jvm.MethodName) prog_23_method_6_code (2 : Nat) (Option.some (Jvm.ClassFile.FieldType.array Jvm.ClassFile.FieldType.int)), Jvm.Cond.code ({ cls := "java/util/Arrays", name := "copyOfRange", desc := "([III)[I" } : Jvm.MethodName) jdk_65_method_136_code (3 : Nat) (Option.some (Jvm.ClassFile.FieldType.array Jvm.ClassFile.FieldType.int)), Jvm.Cond.code ({ cls := "java/util/Arrays", name := "copyOfRangeInt", desc := "([III)[I" } : Jvm.MethodName) jdk_65_method_137_code (5 : Nat) (Option.some (Jvm.ClassFile.FieldType.array Jvm.ClassFile.FieldType.int)), Jvm.Cond.code ({ cls := "java/util/Arrays", name := "checkLength", desc := "(II)V" } : Jvm.MethodName) jdk_65_method_131_code (2 : Nat) (Option.none : Option Jvm.ClassFile.FieldType), Jvm.Cond.code ({ cls := "java/lang/Math", name := "min", desc := "(II)I" } : Jvm.MethodName) jdk_29_method_69_code (2 : Nat) (Option.some Jvm.ClassFile.FieldType.int)]
set_option maxRecDepth 65536 in
theorem codes_eq : words1.filter isCode = codes1 := rfl
theorem w_codes : ∀ c ∈ words1.filter isCode, c.before args0 about1 = true := by
  rw [codes_eq]
  intro c hc
  simp only [codes1, List.mem_cons, List.not_mem_nil, or_false] at hc
  rcases hc with rfl | rfl | rfl | rfl | rfl | rfl | rfl | rfl | rfl
  · exact w_c0
  · exact w_c1
  · exact w_c2
  · exact w_c3
  · exact w_c4
  · exact w_c5
  · exact w_c6
  · exact w_c7
  · exact w_c8
set_option maxRecDepth 65536 in
theorem w_t1 : (words1.take 24).all (fun c => isCode c || c.before args0 about1) = true := by decide +kernel
set_option maxRecDepth 65536 in
theorem w_t2 : (words1.drop 24).all (fun c => isCode c || c.before args0 about1) = true := by decide +kernel
theorem w_tables : (allAtoms (Jvm.Cond.code x code maxLocals ret :: tables_1)).before args0 about1 = true := by
  rw [allAtoms_all]
  show words1.all (fun c => c.before args0 about1) = true
  refine all_split ?_ w_codes
  rw [← List.take_append_drop 24 words1, List.all_append, w_t1, w_t2]
  rfl
set_option maxRecDepth 65536 in
theorem w_case : (Jvm.Cond.and given_1 narrow_1).before args0 about1 = true := by decide +kernel
theorem w_applies : (headSpec (Jvm.Cond.code x code maxLocals ret :: tables_1) room_1).applies x e0.platform about1 = true :=
  (Spec.applies_iff w_frames).mpr ⟨w_running, w_runnable, w_alone, w_named, w_hears, w_ripe, w_room, w_tables⟩
theorem atStart : AtStart classFile x code maxLocals ret World_1 tables_1 room_1 Calls_1 rest_1 Pre_1 launch0 p0 e0 about1 theMethod args0 below0 :=
  ⟨lists_1, trivial, launch0.admits_env _ _ _, launch0.least_env, fairChoices_fair.cas, fairChoices_fair.clock, w_frames, w_args, w_heap, w_applies, trivial, trivial, w_case⟩
end start1
theorem witness_1 : WitnessClaimed_1 := ⟨start1.p0, start1.e0, start1.about1, start1.theMethod, start1.args0, start1.below0, start1.atStart⟩
end Jvm.Pilot.@@N@@
