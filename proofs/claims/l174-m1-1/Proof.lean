import JvmDerived
import JvmDerived.Pilot.@@N@@Statement
import JvmDerived.Pilot.@@N@@Code
set_option linter.unusedVariables false
set_option linter.unusedSimpArgs false
namespace Jvm.RoadKit
open Sem ClassFile Op Lib Jvm.Stand Jvm.Free Jvm.LawKit
section New
variable {p : Program} {l : Launch} {e : Env} {R : Room} {s : State} {m : MethodId} {args : Array Value} {below : List Frame} {meth : Method} {c : Code} {T : State} {locs : List Loc} {cells slots : Nat}
theorem retI (X : Stand p l e R s m args below meth c T locs cells slots) (hx : p.tables.exec = Jvm.exec) {pc : Nat} {Ls : Array Slot} {z : Int32} {rest : List Value} (hret : meth.sig.returnType = some .int) (hd : decode c.code pc = .ok (.ireturn, 1)) {fs : List Frame}
    (hl : ∀ (f : JFrame) (acts : List Action), f.method = m → f.locked = none → f.entered = [] → (doReturn e (T.setTop f) acts (some (.int z))).1 = T.setFrames fs) : Steps p.tables e below (T.setTop (mkF m pc Ls (.int z :: rest))) (T.setFrames fs) := by
  have hm' : T.vm.method? m = some meth := X.method'
  have hn : narrow .int (.int z) = .int z := rfl
  show Steps p.tables e below (T.setTop { method := m, pc := pc, locals := Ls, stack := _ :: rest, locked := none }) _
  jvm_step X.here [X.here.top, hx, hd, hm', hret, hn]
  first | (intro acts; rw [hl _ acts rfl rfl rfl]) | rw [hl _ _ rfl rfl rfl]
  exact Steps.refl _
end New
end Jvm.RoadKit
namespace Jvm.Pilot.@@N@@
open Jvm Jvm.ClassFile Sem Op Lib Jvm.Free Jvm.Stand Jvm.LawKit Jvm.RoadKit Bundle Jvm.Pilot.@@N@@.Jvm.D
def Wp (p : Program) (e : Env) (s : State) (below : List Frame) (C S : Nat) (Q : Option Value → Heap → List Loc → Prop) (T : State) (g : JFrame) : Prop :=
  ∃ s₂ o, Steps p.tables e below (T.setTop g) s₂ ∧ s₂.status = .running ∧ Ended s₂ below o ∧ ∃ v L, o = .returned v ∧ Q v s₂.heap L ∧ FrameEnd s o s₂ L C S
section OwnW
variable {p : Program} {l : Launch} {e : Env} {R : Room} {s : State} {m : MethodId} {args : Array Value} {below : List Frame} {meth : Method} {c : Code} {T : State} {locs : List Loc} {cells slots : Nat} {C S : Nat} {Q : Option Value → Heap → List Loc → Prop} {pc pc' : Nat} {Ls : Array Slot} {st : List Value}
theorem Wp.via {T' : State} {g g' : JFrame} (st : ∀ t, Steps p.tables e below (T'.setTop g') t → Steps p.tables e below (T.setTop g) t) (k : Wp p e s below C S Q T' g') : Wp p e s below C S Q T g := by
  obtain ⟨s₂, o, h1, h2⟩ := k
  exact ⟨s₂, o, st _ h1, h2⟩
theorem w_iload (X : Stand p l e R s m args below meth c T locs cells slots) (hx : p.tables.exec = Jvm.exec) {k : Nat} {v : Int32} (hd : decode c.code pc = .ok (.iload k, 2)) (hl : Ls[k]? = some (.val (.int v))) (hp : pc + 2 = pc') (k : Wp p e s below C S Q T (mkF m pc' Ls (Value.int v :: st))) : Wp p e s below C S Q T (mkF m pc Ls (st)) := by
  subst hp
  exact Wp.via (fun _ h => XS.iload X.here hx rfl hd hl h) k
theorem w_iloadN (X : Stand p l e R s m args below meth c T locs cells slots) (hx : p.tables.exec = Jvm.exec) {k : Fin 4} {v : Int32} (hd : decode c.code pc = .ok (.iload_n k, 1)) (hl : Ls[k.val]? = some (.val (.int v))) (hp : pc + 1 = pc') (k : Wp p e s below C S Q T (mkF m pc' Ls (Value.int v :: st))) : Wp p e s below C S Q T (mkF m pc Ls (st)) := by
  subst hp
  exact Wp.via (fun _ h => XS.iloadN X.here hx rfl hd hl h) k
theorem w_lload (X : Stand p l e R s m args below meth c T locs cells slots) (hx : p.tables.exec = Jvm.exec) {k : Nat} {v : Int64} (hd : decode c.code pc = .ok (.lload k, 2)) (hl : Ls[k]? = some (.val (.long v))) (hp : pc + 2 = pc') (k : Wp p e s below C S Q T (mkF m pc' Ls (Value.long v :: st))) : Wp p e s below C S Q T (mkF m pc Ls (st)) := by
  subst hp
  exact Wp.via (fun _ h => XT.lload X.here hx rfl hd hl h) k
theorem w_lloadN (X : Stand p l e R s m args below meth c T locs cells slots) (hx : p.tables.exec = Jvm.exec) {k : Fin 4} {v : Int64} (hd : decode c.code pc = .ok (.lload_n k, 1)) (hl : Ls[k.val]? = some (.val (.long v))) (hp : pc + 1 = pc') (k : Wp p e s below C S Q T (mkF m pc' Ls (Value.long v :: st))) : Wp p e s below C S Q T (mkF m pc Ls (st)) := by
  subst hp
  exact Wp.via (fun _ h => XT.lloadN X.here hx rfl hd hl h) k
theorem w_aload (X : Stand p l e R s m args below meth c T locs cells slots) (hx : p.tables.exec = Jvm.exec) {k : Nat} {v : Value} (hd : decode c.code pc = .ok (.aload k, 2)) (hl : Ls[k]? = some (.val v)) (hv : v.isRef = true) (hp : pc + 2 = pc') (k : Wp p e s below C S Q T (mkF m pc' Ls (v :: st))) : Wp p e s below C S Q T (mkF m pc Ls (st)) := by
  subst hp
  exact Wp.via (fun _ h => XS.aload X.here hx rfl hd hl hv h) k
theorem w_aloadN (X : Stand p l e R s m args below meth c T locs cells slots) (hx : p.tables.exec = Jvm.exec) {k : Fin 4} {v : Value} (hd : decode c.code pc = .ok (.aload_n k, 1)) (hl : Ls[k.val]? = some (.val v)) (hv : v.isRef = true) (hp : pc + 1 = pc') (k : Wp p e s below C S Q T (mkF m pc' Ls (v :: st))) : Wp p e s below C S Q T (mkF m pc Ls (st)) := by
  subst hp
  exact Wp.via (fun _ h => XS.aloadN X.here hx rfl hd hl hv h) k
theorem w_istore (X : Stand p l e R s m args below meth c T locs cells slots) (hx : p.tables.exec = Jvm.exec) {k : Nat} {v : Int32} {l' : Array Slot} (hd : decode c.code pc = .ok (.istore k, 2)) (hl : storeLocals Ls k (Value.int v) = some l') (hp : pc + 2 = pc') (k : Wp p e s below C S Q T (mkF m pc' l' (st))) : Wp p e s below C S Q T (mkF m pc Ls (Value.int v :: st)) := by
  subst hp
  exact Wp.via (fun _ h => XS.istore X.here hx rfl hd rfl hl h) k
theorem w_istoreN (X : Stand p l e R s m args below meth c T locs cells slots) (hx : p.tables.exec = Jvm.exec) {k : Fin 4} {v : Int32} {l' : Array Slot} (hd : decode c.code pc = .ok (.istore_n k, 1)) (hl : storeLocals Ls k.val (Value.int v) = some l') (hp : pc + 1 = pc') (k : Wp p e s below C S Q T (mkF m pc' l' (st))) : Wp p e s below C S Q T (mkF m pc Ls (Value.int v :: st)) := by
  subst hp
  exact Wp.via (fun _ h => XS.istoreN X.here hx rfl hd rfl hl h) k
theorem w_lstore (X : Stand p l e R s m args below meth c T locs cells slots) (hx : p.tables.exec = Jvm.exec) {k : Nat} {v : Int64} {l' : Array Slot} (hd : decode c.code pc = .ok (.lstore k, 2)) (hl : storeLocals Ls k (Value.long v) = some l') (hp : pc + 2 = pc') (k : Wp p e s below C S Q T (mkF m pc' l' (st))) : Wp p e s below C S Q T (mkF m pc Ls (Value.long v :: st)) := by
  subst hp
  exact Wp.via (fun _ h => XT.lstore X.here hx rfl hd rfl hl h) k
theorem w_lstoreN (X : Stand p l e R s m args below meth c T locs cells slots) (hx : p.tables.exec = Jvm.exec) {k : Fin 4} {v : Int64} {l' : Array Slot} (hd : decode c.code pc = .ok (.lstore_n k, 1)) (hl : storeLocals Ls k.val (Value.long v) = some l') (hp : pc + 1 = pc') (k : Wp p e s below C S Q T (mkF m pc' l' (st))) : Wp p e s below C S Q T (mkF m pc Ls (Value.long v :: st)) := by
  subst hp
  exact Wp.via (fun _ h => XT.lstoreN X.here hx rfl hd rfl hl h) k
theorem w_istoreS (X : Stand p l e R s m args below meth c T locs cells slots) (hx : p.tables.exec = Jvm.exec) {k : Nat} {v : Int32} {o : Slot} (hd : decode c.code pc = .ok (.istore k, 2)) (hold : Ls[k]? = some o) (ho : One o) (hp : pc + 2 = pc') (k : Wp p e s below C S Q T (mkF m pc' (Ls.setIfInBounds k (.val (.int v))) (st))) : Wp p e s below C S Q T (mkF m pc Ls (Value.int v :: st)) := by
  subst hp
  exact Wp.via (fun _ h => XS.istoreS X.here hx rfl hd rfl hold ho h) k
theorem w_astore (X : Stand p l e R s m args below meth c T locs cells slots) (hx : p.tables.exec = Jvm.exec) {k : Nat} {v : Value} {l' : Array Slot} (hd : decode c.code pc = .ok (.astore k, 2)) (hv : v.isRef = true) (hl : storeLocals Ls k v = some l') (hp : pc + 2 = pc') (k : Wp p e s below C S Q T (mkF m pc' l' (st))) : Wp p e s below C S Q T (mkF m pc Ls (v :: st)) := by
  subst hp
  exact Wp.via (fun _ h => XS.astore X.here hx rfl hd rfl hv hl h) k
theorem w_astoreN (X : Stand p l e R s m args below meth c T locs cells slots) (hx : p.tables.exec = Jvm.exec) {k : Fin 4} {v : Value} {l' : Array Slot} (hd : decode c.code pc = .ok (.astore_n k, 1)) (hv : v.isRef = true) (hl : storeLocals Ls k.val v = some l') (hp : pc + 1 = pc') (k : Wp p e s below C S Q T (mkF m pc' l' (st))) : Wp p e s below C S Q T (mkF m pc Ls (v :: st)) := by
  subst hp
  exact Wp.via (fun _ h => XS.astoreN X.here hx rfl hd rfl hv hl h) k
theorem w_iconst (X : Stand p l e R s m args below meth c T locs cells slots) (hx : p.tables.exec = Jvm.exec) {i : Int} {v : Int32} (hd : decode c.code pc = .ok (.iconst i, 1)) (hv : Int32.ofInt i = v) (hp : pc + 1 = pc') (k : Wp p e s below C S Q T (mkF m pc' Ls (Value.int v :: st))) : Wp p e s below C S Q T (mkF m pc Ls (st)) := by
  subst hp hv
  exact Wp.via (fun _ h => XS.iconst X.here hx rfl hd h) k
theorem w_bipush (X : Stand p l e R s m args below meth c T locs cells slots) (hx : p.tables.exec = Jvm.exec) {i : Int} {v : Int32} (hd : decode c.code pc = .ok (.bipush i, 2)) (hv : (Int8.ofInt i).toInt32 = v) (hp : pc + 2 = pc') (k : Wp p e s below C S Q T (mkF m pc' Ls (Value.int v :: st))) : Wp p e s below C S Q T (mkF m pc Ls (st)) := by
  subst hp hv
  exact Wp.via (fun _ h => XS.bipush X.here hx rfl hd h) k
theorem w_sipush (X : Stand p l e R s m args below meth c T locs cells slots) (hx : p.tables.exec = Jvm.exec) {i : Int} {v : Int32} (hd : decode c.code pc = .ok (.sipush i, 3)) (hv : (Int16.ofInt i).toInt32 = v) (hp : pc + 3 = pc') (k : Wp p e s below C S Q T (mkF m pc' Ls (Value.int v :: st))) : Wp p e s below C S Q T (mkF m pc Ls (st)) := by
  subst hp hv
  exact Wp.via (fun _ h => XS.sipush X.here hx rfl hd h) k
theorem w_lconst (X : Stand p l e R s m args below meth c T locs cells slots) (hx : p.tables.exec = Jvm.exec) {k : Fin 2} {v : Int64} (hd : decode c.code pc = .ok (.lconst k, 1)) (hv : Int64.ofNat k = v) (hp : pc + 1 = pc') (k : Wp p e s below C S Q T (mkF m pc' Ls (Value.long v :: st))) : Wp p e s below C S Q T (mkF m pc Ls (st)) := by
  subst hp hv
  exact Wp.via (fun _ h => XT.lconst X.here hx rfl hd h) k
theorem w_aconst (X : Stand p l e R s m args below meth c T locs cells slots) (hx : p.tables.exec = Jvm.exec)  (hd : decode c.code pc = .ok (.aconst_null, 1))  (hp : pc + 1 = pc') (k : Wp p e s below C S Q T (mkF m pc' Ls (Value.null :: st))) : Wp p e s below C S Q T (mkF m pc Ls (st)) := by
  subst hp
  exact Wp.via (fun _ h => XS.aconstNull X.here hx rfl hd h) k
theorem w_ldc (X : Stand p l e R s m args below meth c T locs cells slots) (hx : p.tables.exec = Jvm.exec) {i : Nat} {v : Int32} {own : String} (hd : decode c.code pc = .ok (.ldc i, 2)) (hown : s.vm.findClass own = some m.cls) (hc : (Jvm.Cond.constant own i v).before args s = true) (hp : pc + 2 = pc') (k : Wp p e s below C S Q T (mkF m pc' Ls (Value.int v :: st))) : Wp p e s below C S Q T (mkF m pc Ls (st)) := by
  subst hp
  exact Wp.via (fun _ h => X.ldcInt hx hown hc (g := mkF m pc Ls st) rfl hd _ h) k
theorem w_ldc2 (X : Stand p l e R s m args below meth c T locs cells slots) (hx : p.tables.exec = Jvm.exec) {i : Nat} {v : Int64} {own : String} (hd : decode c.code pc = .ok (.ldc2_w i, 3)) (hown : s.vm.findClass own = some m.cls) (hc : (Jvm.Cond.constantLong own i v).before args s = true) (hp : pc + 3 = pc') (k : Wp p e s below C S Q T (mkF m pc' Ls (Value.long v :: st))) : Wp p e s below C S Q T (mkF m pc Ls (st)) := by
  subst hp
  exact Wp.via (fun _ h => X.ldc2Long hx hown hc (g := mkF m pc Ls st) rfl hd _ h) k
theorem w_iadd (X : Stand p l e R s m args below meth c T locs cells slots) (hx : p.tables.exec = Jvm.exec) {x y : Int32} (hd : decode c.code pc = .ok (.iadd, 1))  (hp : pc + 1 = pc') (k : Wp p e s below C S Q T (mkF m pc' Ls (Value.int (x + y) :: st))) : Wp p e s below C S Q T (mkF m pc Ls (Value.int y :: Value.int x :: st)) := by
  subst hp
  exact Wp.via (fun _ h => XS.iadd X.here hx rfl hd rfl h) k
theorem w_isub (X : Stand p l e R s m args below meth c T locs cells slots) (hx : p.tables.exec = Jvm.exec) {x y : Int32} (hd : decode c.code pc = .ok (.isub, 1))  (hp : pc + 1 = pc') (k : Wp p e s below C S Q T (mkF m pc' Ls (Value.int (x - y) :: st))) : Wp p e s below C S Q T (mkF m pc Ls (Value.int y :: Value.int x :: st)) := by
  subst hp
  exact Wp.via (fun _ h => XS.isub X.here hx rfl hd rfl h) k
theorem w_iand (X : Stand p l e R s m args below meth c T locs cells slots) (hx : p.tables.exec = Jvm.exec) {x y : Int32} (hd : decode c.code pc = .ok (.iand, 1))  (hp : pc + 1 = pc') (k : Wp p e s below C S Q T (mkF m pc' Ls (Value.int (x &&& y) :: st))) : Wp p e s below C S Q T (mkF m pc Ls (Value.int y :: Value.int x :: st)) := by
  subst hp
  exact Wp.via (fun _ h => XS.iand X.here hx rfl hd rfl h) k
theorem w_imul (X : Stand p l e R s m args below meth c T locs cells slots) (hx : p.tables.exec = Jvm.exec) {x y : Int32} (hd : decode c.code pc = .ok (.imul, 1))  (hp : pc + 1 = pc') (k : Wp p e s below C S Q T (mkF m pc' Ls (Value.int (x * y) :: st))) : Wp p e s below C S Q T (mkF m pc Ls (Value.int y :: Value.int x :: st)) := by
  subst hp
  exact Wp.via (fun _ h => XS.imul X.here hx rfl hd rfl h) k
theorem w_ixor (X : Stand p l e R s m args below meth c T locs cells slots) (hx : p.tables.exec = Jvm.exec) {x y : Int32} (hd : decode c.code pc = .ok (.ixor, 1))  (hp : pc + 1 = pc') (k : Wp p e s below C S Q T (mkF m pc' Ls (Value.int (x ^^^ y) :: st))) : Wp p e s below C S Q T (mkF m pc Ls (Value.int y :: Value.int x :: st)) := by
  subst hp
  exact Wp.via (fun _ h => XT.ixor X.here hx rfl hd rfl h) k
theorem w_ior (X : Stand p l e R s m args below meth c T locs cells slots) (hx : p.tables.exec = Jvm.exec) {x y : Int32} (hd : decode c.code pc = .ok (.ior, 1))  (hp : pc + 1 = pc') (k : Wp p e s below C S Q T (mkF m pc' Ls (Value.int (x ||| y) :: st))) : Wp p e s below C S Q T (mkF m pc Ls (Value.int y :: Value.int x :: st)) := by
  subst hp
  exact Wp.via (fun _ h => XT.ior X.here hx rfl hd rfl h) k
theorem w_ishl (X : Stand p l e R s m args below meth c T locs cells slots) (hx : p.tables.exec = Jvm.exec) {x y : Int32} (hd : decode c.code pc = .ok (.ishl, 1))  (hp : pc + 1 = pc') (k : Wp p e s below C S Q T (mkF m pc' Ls (Value.int (x <<< (y &&& 31)) :: st))) : Wp p e s below C S Q T (mkF m pc Ls (Value.int y :: Value.int x :: st)) := by
  subst hp
  exact Wp.via (fun _ h => XT.ishl X.here hx rfl hd rfl h) k
theorem w_ishr (X : Stand p l e R s m args below meth c T locs cells slots) (hx : p.tables.exec = Jvm.exec) {x y : Int32} (hd : decode c.code pc = .ok (.ishr, 1))  (hp : pc + 1 = pc') (k : Wp p e s below C S Q T (mkF m pc' Ls (Value.int (x >>> (y &&& 31)) :: st))) : Wp p e s below C S Q T (mkF m pc Ls (Value.int y :: Value.int x :: st)) := by
  subst hp
  exact Wp.via (fun _ h => XT.ishr X.here hx rfl hd rfl h) k
theorem w_iushr (X : Stand p l e R s m args below meth c T locs cells slots) (hx : p.tables.exec = Jvm.exec) {x y : Int32} (hd : decode c.code pc = .ok (.iushr, 1))  (hp : pc + 1 = pc') (k : Wp p e s below C S Q T (mkF m pc' Ls (Value.int (XT.ushr x y) :: st))) : Wp p e s below C S Q T (mkF m pc Ls (Value.int y :: Value.int x :: st)) := by
  subst hp
  exact Wp.via (fun _ h => XT.iushr X.here hx rfl hd rfl h) k
theorem w_idiv (X : Stand p l e R s m args below meth c T locs cells slots) (hx : p.tables.exec = Jvm.exec) {x y : Int32} (hd : decode c.code pc = .ok (.idiv, 1)) (hy : y ≠ 0) (hp : pc + 1 = pc') (k : Wp p e s below C S Q T (mkF m pc' Ls (Value.int (x / y) :: st))) : Wp p e s below C S Q T (mkF m pc Ls (Value.int y :: Value.int x :: st)) := by
  subst hp
  exact Wp.via (fun _ h => XS.idiv X.here hx rfl hd rfl hy h) k
theorem w_irem (X : Stand p l e R s m args below meth c T locs cells slots) (hx : p.tables.exec = Jvm.exec) {x y : Int32} (hd : decode c.code pc = .ok (.irem, 1)) (hy : y ≠ 0) (hp : pc + 1 = pc') (k : Wp p e s below C S Q T (mkF m pc' Ls (Value.int (x % y) :: st))) : Wp p e s below C S Q T (mkF m pc Ls (Value.int y :: Value.int x :: st)) := by
  subst hp
  exact Wp.via (fun _ h => iremM X hx rfl hd rfl hy h) k
theorem w_ladd (X : Stand p l e R s m args below meth c T locs cells slots) (hx : p.tables.exec = Jvm.exec) {x y : Int64} (hd : decode c.code pc = .ok (.ladd, 1))  (hp : pc + 1 = pc') (k : Wp p e s below C S Q T (mkF m pc' Ls (Value.long (x + y) :: st))) : Wp p e s below C S Q T (mkF m pc Ls (Value.long y :: Value.long x :: st)) := by
  subst hp
  exact Wp.via (fun _ h => XT.ladd X.here hx rfl hd rfl h) k
theorem w_lsub (X : Stand p l e R s m args below meth c T locs cells slots) (hx : p.tables.exec = Jvm.exec) {x y : Int64} (hd : decode c.code pc = .ok (.lsub, 1))  (hp : pc + 1 = pc') (k : Wp p e s below C S Q T (mkF m pc' Ls (Value.long (x - y) :: st))) : Wp p e s below C S Q T (mkF m pc Ls (Value.long y :: Value.long x :: st)) := by
  subst hp
  exact Wp.via (fun _ h => XT.lsub X.here hx rfl hd rfl h) k
theorem w_lmul (X : Stand p l e R s m args below meth c T locs cells slots) (hx : p.tables.exec = Jvm.exec) {x y : Int64} (hd : decode c.code pc = .ok (.lmul, 1))  (hp : pc + 1 = pc') (k : Wp p e s below C S Q T (mkF m pc' Ls (Value.long (x * y) :: st))) : Wp p e s below C S Q T (mkF m pc Ls (Value.long y :: Value.long x :: st)) := by
  subst hp
  exact Wp.via (fun _ h => XT.lmul X.here hx rfl hd rfl h) k
theorem w_land (X : Stand p l e R s m args below meth c T locs cells slots) (hx : p.tables.exec = Jvm.exec) {x y : Int64} (hd : decode c.code pc = .ok (.land, 1))  (hp : pc + 1 = pc') (k : Wp p e s below C S Q T (mkF m pc' Ls (Value.long (x &&& y) :: st))) : Wp p e s below C S Q T (mkF m pc Ls (Value.long y :: Value.long x :: st)) := by
  subst hp
  exact Wp.via (fun _ h => XT.land X.here hx rfl hd rfl h) k
theorem w_lor (X : Stand p l e R s m args below meth c T locs cells slots) (hx : p.tables.exec = Jvm.exec) {x y : Int64} (hd : decode c.code pc = .ok (.lor, 1))  (hp : pc + 1 = pc') (k : Wp p e s below C S Q T (mkF m pc' Ls (Value.long (x ||| y) :: st))) : Wp p e s below C S Q T (mkF m pc Ls (Value.long y :: Value.long x :: st)) := by
  subst hp
  exact Wp.via (fun _ h => XT.lor X.here hx rfl hd rfl h) k
theorem w_lxor (X : Stand p l e R s m args below meth c T locs cells slots) (hx : p.tables.exec = Jvm.exec) {x y : Int64} (hd : decode c.code pc = .ok (.lxor, 1))  (hp : pc + 1 = pc') (k : Wp p e s below C S Q T (mkF m pc' Ls (Value.long (x ^^^ y) :: st))) : Wp p e s below C S Q T (mkF m pc Ls (Value.long y :: Value.long x :: st)) := by
  subst hp
  exact Wp.via (fun _ h => XT.lxor X.here hx rfl hd rfl h) k
theorem w_ldiv (X : Stand p l e R s m args below meth c T locs cells slots) (hx : p.tables.exec = Jvm.exec) {x y : Int64} (hd : decode c.code pc = .ok (.ldiv, 1)) (hy : y ≠ 0) (hp : pc + 1 = pc') (k : Wp p e s below C S Q T (mkF m pc' Ls (Value.long (x / y) :: st))) : Wp p e s below C S Q T (mkF m pc Ls (Value.long y :: Value.long x :: st)) := by
  subst hp
  exact Wp.via (fun _ h => XT.ldiv X.here hx rfl hd rfl hy h) k
theorem w_lrem (X : Stand p l e R s m args below meth c T locs cells slots) (hx : p.tables.exec = Jvm.exec) {x y : Int64} (hd : decode c.code pc = .ok (.lrem, 1)) (hy : y ≠ 0) (hp : pc + 1 = pc') (k : Wp p e s below C S Q T (mkF m pc' Ls (Value.long (x % y) :: st))) : Wp p e s below C S Q T (mkF m pc Ls (Value.long y :: Value.long x :: st)) := by
  subst hp
  exact Wp.via (fun _ h => XT.lrem X.here hx rfl hd rfl hy (by rw [lrem_mod]; exact h)) k
theorem w_lshl (X : Stand p l e R s m args below meth c T locs cells slots) (hx : p.tables.exec = Jvm.exec) {x : Int64} {y : Int32} (hd : decode c.code pc = .ok (.lshl, 1))  (hp : pc + 1 = pc') (k : Wp p e s below C S Q T (mkF m pc' Ls (Value.long (x <<< (y.toInt64 &&& 63)) :: st))) : Wp p e s below C S Q T (mkF m pc Ls (Value.int y :: Value.long x :: st)) := by
  subst hp
  exact Wp.via (fun _ h => XT.lshl X.here hx rfl hd rfl h) k
theorem w_lshr (X : Stand p l e R s m args below meth c T locs cells slots) (hx : p.tables.exec = Jvm.exec) {x : Int64} {y : Int32} (hd : decode c.code pc = .ok (.lshr, 1))  (hp : pc + 1 = pc') (k : Wp p e s below C S Q T (mkF m pc' Ls (Value.long (x >>> (y.toInt64 &&& 63)) :: st))) : Wp p e s below C S Q T (mkF m pc Ls (Value.int y :: Value.long x :: st)) := by
  subst hp
  exact Wp.via (fun _ h => XT.lshr X.here hx rfl hd rfl h) k
theorem w_lushr (X : Stand p l e R s m args below meth c T locs cells slots) (hx : p.tables.exec = Jvm.exec) {x : Int64} {y : Int32} (hd : decode c.code pc = .ok (.lushr, 1))  (hp : pc + 1 = pc') (k : Wp p e s below C S Q T (mkF m pc' Ls (Value.long (XT.ushrL x y) :: st))) : Wp p e s below C S Q T (mkF m pc Ls (Value.int y :: Value.long x :: st)) := by
  subst hp
  exact Wp.via (fun _ h => XT.lushr X.here hx rfl hd rfl h) k
theorem w_lcmp (X : Stand p l e R s m args below meth c T locs cells slots) (hx : p.tables.exec = Jvm.exec) {x y : Int64} (hd : decode c.code pc = .ok (.lcmp, 1))  (hp : pc + 1 = pc') (k : Wp p e s below C S Q T (mkF m pc' Ls (Value.int (XT.cmpL x y) :: st))) : Wp p e s below C S Q T (mkF m pc Ls (Value.long y :: Value.long x :: st)) := by
  subst hp
  exact Wp.via (fun _ h => XT.lcmp X.here hx rfl hd rfl h) k
theorem w_ineg (X : Stand p l e R s m args below meth c T locs cells slots) (hx : p.tables.exec = Jvm.exec) {x : Int32} (hd : decode c.code pc = .ok (.ineg, 1))  (hp : pc + 1 = pc') (k : Wp p e s below C S Q T (mkF m pc' Ls (Value.int (-x) :: st))) : Wp p e s below C S Q T (mkF m pc Ls (Value.int x :: st)) := by
  subst hp
  exact Wp.via (fun _ h => XS.ineg X.here hx rfl hd rfl h) k
theorem w_lneg (X : Stand p l e R s m args below meth c T locs cells slots) (hx : p.tables.exec = Jvm.exec) {x : Int64} (hd : decode c.code pc = .ok (.lneg, 1))  (hp : pc + 1 = pc') (k : Wp p e s below C S Q T (mkF m pc' Ls (Value.long (-x) :: st))) : Wp p e s below C S Q T (mkF m pc Ls (Value.long x :: st)) := by
  subst hp
  exact Wp.via (fun _ h => XT.lneg X.here hx rfl hd rfl h) k
theorem w_i2l (X : Stand p l e R s m args below meth c T locs cells slots) (hx : p.tables.exec = Jvm.exec) {x : Int32} (hd : decode c.code pc = .ok (.i2l, 1))  (hp : pc + 1 = pc') (k : Wp p e s below C S Q T (mkF m pc' Ls (Value.long x.toInt64 :: st))) : Wp p e s below C S Q T (mkF m pc Ls (Value.int x :: st)) := by
  subst hp
  exact Wp.via (fun _ h => XT.i2l X.here hx rfl hd rfl h) k
theorem w_l2i (X : Stand p l e R s m args below meth c T locs cells slots) (hx : p.tables.exec = Jvm.exec) {x : Int64} (hd : decode c.code pc = .ok (.l2i, 1))  (hp : pc + 1 = pc') (k : Wp p e s below C S Q T (mkF m pc' Ls (Value.int x.toInt32 :: st))) : Wp p e s below C S Q T (mkF m pc Ls (Value.long x :: st)) := by
  subst hp
  exact Wp.via (fun _ h => XT.l2i X.here hx rfl hd rfl h) k
theorem w_i2b (X : Stand p l e R s m args below meth c T locs cells slots) (hx : p.tables.exec = Jvm.exec) {x : Int32} (hd : decode c.code pc = .ok (.i2b, 1))  (hp : pc + 1 = pc') (k : Wp p e s below C S Q T (mkF m pc' Ls (Value.int x.toInt8.toInt32 :: st))) : Wp p e s below C S Q T (mkF m pc Ls (Value.int x :: st)) := by
  subst hp
  exact Wp.via (fun _ h => XT.i2b X.here hx rfl hd rfl h) k
theorem w_i2c (X : Stand p l e R s m args below meth c T locs cells slots) (hx : p.tables.exec = Jvm.exec) {x : Int32} (hd : decode c.code pc = .ok (.i2c, 1))  (hp : pc + 1 = pc') (k : Wp p e s below C S Q T (mkF m pc' Ls (Value.int x.toUInt32.toUInt16.toUInt32.toInt32 :: st))) : Wp p e s below C S Q T (mkF m pc Ls (Value.int x :: st)) := by
  subst hp
  exact Wp.via (fun _ h => XT.i2c X.here hx rfl hd rfl h) k
theorem w_iinc (X : Stand p l e R s m args below meth c T locs cells slots) (hx : p.tables.exec = Jvm.exec) {k : Nat} {cst : Int} {v : Int32} {l' : Array Slot} (hd : decode c.code pc = .ok (.iinc k cst, 3)) (hl : Ls[k]? = some (.val (.int v))) (hl' : storeLocals Ls k (.int (v + Int32.ofInt cst)) = some l') (hp : pc + 3 = pc') (k : Wp p e s below C S Q T (mkF m pc' l' (st))) : Wp p e s below C S Q T (mkF m pc Ls (st)) := by
  subst hp
  exact Wp.via (fun _ h => XS.iinc X.here hx rfl hd hl hl' h) k
theorem w_dup (X : Stand p l e R s m args below meth c T locs cells slots) (hx : p.tables.exec = Jvm.exec) {x : Value} (hd : decode c.code pc = .ok (.dup, 1)) (hc : x.category = 1) (hp : pc + 1 = pc') (k : Wp p e s below C S Q T (mkF m pc' Ls (x :: x :: st))) : Wp p e s below C S Q T (mkF m pc Ls (x :: st)) := by
  subst hp
  exact Wp.via (fun _ h => XS.dup X.here hx rfl hd rfl hc h) k
theorem w_dup2 (X : Stand p l e R s m args below meth c T locs cells slots) (hx : p.tables.exec = Jvm.exec) {x y : Value} (hd : decode c.code pc = .ok (.dup2, 1)) (hc : x.category = 1) (hc' : y.category = 1) (hp : pc + 1 = pc') (k : Wp p e s below C S Q T (mkF m pc' Ls (x :: y :: x :: y :: st))) : Wp p e s below C S Q T (mkF m pc Ls (x :: y :: st)) := by
  subst hp
  exact Wp.via (fun _ h => XT.dup2 X.here hx rfl hd rfl hc hc' h) k
theorem w_dup2L (X : Stand p l e R s m args below meth c T locs cells slots) (hx : p.tables.exec = Jvm.exec) {x : Int64} (hd : decode c.code pc = .ok (.dup2, 1))  (hp : pc + 1 = pc') (k : Wp p e s below C S Q T (mkF m pc' Ls (Value.long x :: Value.long x :: st))) : Wp p e s below C S Q T (mkF m pc Ls (Value.long x :: st)) := by
  subst hp
  exact Wp.via (fun _ h => XT.dup2L X.here hx rfl hd rfl h) k
theorem w_dupX1 (X : Stand p l e R s m args below meth c T locs cells slots) (hx : p.tables.exec = Jvm.exec) {x y : Value} (hd : decode c.code pc = .ok (.dup_x1, 1)) (hc : x.category = 1) (hc' : y.category = 1) (hp : pc + 1 = pc') (k : Wp p e s below C S Q T (mkF m pc' Ls (x :: y :: x :: st))) : Wp p e s below C S Q T (mkF m pc Ls (x :: y :: st)) := by
  subst hp
  exact Wp.via (fun _ h => XT.dupX1 X.here hx rfl hd rfl hc hc' h) k
theorem w_pop (X : Stand p l e R s m args below meth c T locs cells slots) (hx : p.tables.exec = Jvm.exec) {x : Value} (hd : decode c.code pc = .ok (.pop, 1)) (hc : x.category = 1) (hp : pc + 1 = pc') (k : Wp p e s below C S Q T (mkF m pc' Ls (st))) : Wp p e s below C S Q T (mkF m pc Ls (x :: st)) := by
  subst hp
  exact Wp.via (fun _ h => XT.pop X.here hx rfl hd rfl hc h) k
theorem w_goto (X : Stand p l e R s m args below meth c T locs cells slots) (hx : p.tables.exec = Jvm.exec) {o : Int} (hd : decode c.code pc = .ok (.goto o, 3)) (ho : 0 ≤ (pc : Int) + o) (hp : ((pc : Int) + o).toNat = pc') (k : Wp p e s below C S Q T (mkF m pc' Ls st)) : Wp p e s below C S Q T (mkF m pc Ls st) :=
  Wp.via (fun _ h => XS.goto X.here hx rfl (pc0 := pc) (pc' := pc') rfl hd ho hp h) k
theorem w_icmp_eq (X : Stand p l e R s m args below meth c T locs cells slots) (hx : p.tables.exec = Jvm.exec) {o : Int} {pcY : Nat} {x y : Int32} (hd : decode c.code pc = .ok (.if_icmp .eq o, 3)) (ho : 0 ≤ (pc : Int) + o) (hy : ((pc : Int) + o).toNat = pcY) (hp : pc + 3 = pc') (kY : x = y → Wp p e s below C S Q T (mkF m pcY Ls st)) (kN : ¬ x = y → Wp p e s below C S Q T (mkF m pc' Ls st)) : Wp p e s below C S Q T (mkF m pc Ls (Value.int y :: Value.int x :: st)) := by
  by_cases q : x = y
  · exact Wp.via (fun _ h => XS.icmpYes X.here hx rfl (pc0 := pc) (pc' := pcY) rfl hd rfl (teq q).1 ho hy h) (kY q)
  · exact Wp.via (fun _ h => XS.icmpNo X.here hx rfl hd rfl (feq (by simpa using q)).1 h) (by subst hp; exact kN (by simpa using q))
theorem w_if_eq (X : Stand p l e R s m args below meth c T locs cells slots) (hx : p.tables.exec = Jvm.exec) {o : Int} {pcY : Nat} {x : Int32} (hd : decode c.code pc = .ok (.ifCond .eq o, 3)) (ho : 0 ≤ (pc : Int) + o) (hy : ((pc : Int) + o).toNat = pcY) (hp : pc + 3 = pc') (kY : x = 0 → Wp p e s below C S Q T (mkF m pcY Ls st)) (kN : ¬ x = 0 → Wp p e s below C S Q T (mkF m pc' Ls st)) : Wp p e s below C S Q T (mkF m pc Ls (Value.int x :: st)) := by
  by_cases q : x = 0
  · exact Wp.via (fun _ h => XS.ifYes X.here hx rfl (pc0 := pc) (pc' := pcY) rfl hd rfl ((if0 _ _).trans (teq q).1) ho hy h) (kY q)
  · exact Wp.via (fun _ h => XS.ifNo X.here hx rfl hd rfl ((if0 _ _).trans (feq (by simpa using q)).1) h) (by subst hp; exact kN (by simpa using q))
theorem w_icmp_ne (X : Stand p l e R s m args below meth c T locs cells slots) (hx : p.tables.exec = Jvm.exec) {o : Int} {pcY : Nat} {x y : Int32} (hd : decode c.code pc = .ok (.if_icmp .ne o, 3)) (ho : 0 ≤ (pc : Int) + o) (hy : ((pc : Int) + o).toNat = pcY) (hp : pc + 3 = pc') (kY : ¬ x = y → Wp p e s below C S Q T (mkF m pcY Ls st)) (kN : x = y → Wp p e s below C S Q T (mkF m pc' Ls st)) : Wp p e s below C S Q T (mkF m pc Ls (Value.int y :: Value.int x :: st)) := by
  by_cases q : ¬ x = y
  · exact Wp.via (fun _ h => XS.icmpYes X.here hx rfl (pc0 := pc) (pc' := pcY) rfl hd rfl (feq q).2 ho hy h) (kY q)
  · exact Wp.via (fun _ h => XS.icmpNo X.here hx rfl hd rfl (teq (by simpa using q)).2 h) (by subst hp; exact kN (by simpa using q))
theorem w_if_ne (X : Stand p l e R s m args below meth c T locs cells slots) (hx : p.tables.exec = Jvm.exec) {o : Int} {pcY : Nat} {x : Int32} (hd : decode c.code pc = .ok (.ifCond .ne o, 3)) (ho : 0 ≤ (pc : Int) + o) (hy : ((pc : Int) + o).toNat = pcY) (hp : pc + 3 = pc') (kY : ¬ x = 0 → Wp p e s below C S Q T (mkF m pcY Ls st)) (kN : x = 0 → Wp p e s below C S Q T (mkF m pc' Ls st)) : Wp p e s below C S Q T (mkF m pc Ls (Value.int x :: st)) := by
  by_cases q : ¬ x = 0
  · exact Wp.via (fun _ h => XS.ifYes X.here hx rfl (pc0 := pc) (pc' := pcY) rfl hd rfl ((if0 _ _).trans (feq q).2) ho hy h) (kY q)
  · exact Wp.via (fun _ h => XS.ifNo X.here hx rfl hd rfl ((if0 _ _).trans (teq (by simpa using q)).2) h) (by subst hp; exact kN (by simpa using q))
theorem w_icmp_lt (X : Stand p l e R s m args below meth c T locs cells slots) (hx : p.tables.exec = Jvm.exec) {o : Int} {pcY : Nat} {x y : Int32} (hd : decode c.code pc = .ok (.if_icmp .lt o, 3)) (ho : 0 ≤ (pc : Int) + o) (hy : ((pc : Int) + o).toNat = pcY) (hp : pc + 3 = pc') (kY : x < y → Wp p e s below C S Q T (mkF m pcY Ls st)) (kN : ¬ x < y → Wp p e s below C S Q T (mkF m pc' Ls st)) : Wp p e s below C S Q T (mkF m pc Ls (Value.int y :: Value.int x :: st)) := by
  by_cases q : x < y
  · exact Wp.via (fun _ h => XS.icmpYes X.here hx rfl (pc0 := pc) (pc' := pcY) rfl hd rfl (tlt q).1 ho hy h) (kY q)
  · exact Wp.via (fun _ h => XS.icmpNo X.here hx rfl hd rfl (flt (by simpa using q)).1 h) (by subst hp; exact kN (by simpa using q))
theorem w_if_lt (X : Stand p l e R s m args below meth c T locs cells slots) (hx : p.tables.exec = Jvm.exec) {o : Int} {pcY : Nat} {x : Int32} (hd : decode c.code pc = .ok (.ifCond .lt o, 3)) (ho : 0 ≤ (pc : Int) + o) (hy : ((pc : Int) + o).toNat = pcY) (hp : pc + 3 = pc') (kY : x < 0 → Wp p e s below C S Q T (mkF m pcY Ls st)) (kN : ¬ x < 0 → Wp p e s below C S Q T (mkF m pc' Ls st)) : Wp p e s below C S Q T (mkF m pc Ls (Value.int x :: st)) := by
  by_cases q : x < 0
  · exact Wp.via (fun _ h => XS.ifYes X.here hx rfl (pc0 := pc) (pc' := pcY) rfl hd rfl ((if0 _ _).trans (tlt q).1) ho hy h) (kY q)
  · exact Wp.via (fun _ h => XS.ifNo X.here hx rfl hd rfl ((if0 _ _).trans (flt (by simpa using q)).1) h) (by subst hp; exact kN (by simpa using q))
theorem w_icmp_ge (X : Stand p l e R s m args below meth c T locs cells slots) (hx : p.tables.exec = Jvm.exec) {o : Int} {pcY : Nat} {x y : Int32} (hd : decode c.code pc = .ok (.if_icmp .ge o, 3)) (ho : 0 ≤ (pc : Int) + o) (hy : ((pc : Int) + o).toNat = pcY) (hp : pc + 3 = pc') (kY : ¬ x < y → Wp p e s below C S Q T (mkF m pcY Ls st)) (kN : x < y → Wp p e s below C S Q T (mkF m pc' Ls st)) : Wp p e s below C S Q T (mkF m pc Ls (Value.int y :: Value.int x :: st)) := by
  by_cases q : ¬ x < y
  · exact Wp.via (fun _ h => XS.icmpYes X.here hx rfl (pc0 := pc) (pc' := pcY) rfl hd rfl (flt q).2.1 ho hy h) (kY q)
  · exact Wp.via (fun _ h => XS.icmpNo X.here hx rfl hd rfl (tlt (by simpa using q)).2.1 h) (by subst hp; exact kN (by simpa using q))
theorem w_if_ge (X : Stand p l e R s m args below meth c T locs cells slots) (hx : p.tables.exec = Jvm.exec) {o : Int} {pcY : Nat} {x : Int32} (hd : decode c.code pc = .ok (.ifCond .ge o, 3)) (ho : 0 ≤ (pc : Int) + o) (hy : ((pc : Int) + o).toNat = pcY) (hp : pc + 3 = pc') (kY : ¬ x < 0 → Wp p e s below C S Q T (mkF m pcY Ls st)) (kN : x < 0 → Wp p e s below C S Q T (mkF m pc' Ls st)) : Wp p e s below C S Q T (mkF m pc Ls (Value.int x :: st)) := by
  by_cases q : ¬ x < 0
  · exact Wp.via (fun _ h => XS.ifYes X.here hx rfl (pc0 := pc) (pc' := pcY) rfl hd rfl ((if0 _ _).trans (flt q).2.1) ho hy h) (kY q)
  · exact Wp.via (fun _ h => XS.ifNo X.here hx rfl hd rfl ((if0 _ _).trans (tlt (by simpa using q)).2.1) h) (by subst hp; exact kN (by simpa using q))
theorem w_icmp_gt (X : Stand p l e R s m args below meth c T locs cells slots) (hx : p.tables.exec = Jvm.exec) {o : Int} {pcY : Nat} {x y : Int32} (hd : decode c.code pc = .ok (.if_icmp .gt o, 3)) (ho : 0 ≤ (pc : Int) + o) (hy : ((pc : Int) + o).toNat = pcY) (hp : pc + 3 = pc') (kY : y < x → Wp p e s below C S Q T (mkF m pcY Ls st)) (kN : ¬ y < x → Wp p e s below C S Q T (mkF m pc' Ls st)) : Wp p e s below C S Q T (mkF m pc Ls (Value.int y :: Value.int x :: st)) := by
  by_cases q : y < x
  · exact Wp.via (fun _ h => XS.icmpYes X.here hx rfl (pc0 := pc) (pc' := pcY) rfl hd rfl (tlt q).2.2.1 ho hy h) (kY q)
  · exact Wp.via (fun _ h => XS.icmpNo X.here hx rfl hd rfl (flt (by simpa using q)).2.2.1 h) (by subst hp; exact kN (by simpa using q))
theorem w_if_gt (X : Stand p l e R s m args below meth c T locs cells slots) (hx : p.tables.exec = Jvm.exec) {o : Int} {pcY : Nat} {x : Int32} (hd : decode c.code pc = .ok (.ifCond .gt o, 3)) (ho : 0 ≤ (pc : Int) + o) (hy : ((pc : Int) + o).toNat = pcY) (hp : pc + 3 = pc') (kY : 0 < x → Wp p e s below C S Q T (mkF m pcY Ls st)) (kN : ¬ 0 < x → Wp p e s below C S Q T (mkF m pc' Ls st)) : Wp p e s below C S Q T (mkF m pc Ls (Value.int x :: st)) := by
  by_cases q : 0 < x
  · exact Wp.via (fun _ h => XS.ifYes X.here hx rfl (pc0 := pc) (pc' := pcY) rfl hd rfl ((if0 _ _).trans (tlt q).2.2.1) ho hy h) (kY q)
  · exact Wp.via (fun _ h => XS.ifNo X.here hx rfl hd rfl ((if0 _ _).trans (flt (by simpa using q)).2.2.1) h) (by subst hp; exact kN (by simpa using q))
theorem w_icmp_le (X : Stand p l e R s m args below meth c T locs cells slots) (hx : p.tables.exec = Jvm.exec) {o : Int} {pcY : Nat} {x y : Int32} (hd : decode c.code pc = .ok (.if_icmp .le o, 3)) (ho : 0 ≤ (pc : Int) + o) (hy : ((pc : Int) + o).toNat = pcY) (hp : pc + 3 = pc') (kY : ¬ y < x → Wp p e s below C S Q T (mkF m pcY Ls st)) (kN : y < x → Wp p e s below C S Q T (mkF m pc' Ls st)) : Wp p e s below C S Q T (mkF m pc Ls (Value.int y :: Value.int x :: st)) := by
  by_cases q : ¬ y < x
  · exact Wp.via (fun _ h => XS.icmpYes X.here hx rfl (pc0 := pc) (pc' := pcY) rfl hd rfl (flt q).2.2.2 ho hy h) (kY q)
  · exact Wp.via (fun _ h => XS.icmpNo X.here hx rfl hd rfl (tlt (by simpa using q)).2.2.2 h) (by subst hp; exact kN (by simpa using q))
theorem w_if_le (X : Stand p l e R s m args below meth c T locs cells slots) (hx : p.tables.exec = Jvm.exec) {o : Int} {pcY : Nat} {x : Int32} (hd : decode c.code pc = .ok (.ifCond .le o, 3)) (ho : 0 ≤ (pc : Int) + o) (hy : ((pc : Int) + o).toNat = pcY) (hp : pc + 3 = pc') (kY : ¬ 0 < x → Wp p e s below C S Q T (mkF m pcY Ls st)) (kN : 0 < x → Wp p e s below C S Q T (mkF m pc' Ls st)) : Wp p e s below C S Q T (mkF m pc Ls (Value.int x :: st)) := by
  by_cases q : ¬ 0 < x
  · exact Wp.via (fun _ h => XS.ifYes X.here hx rfl (pc0 := pc) (pc' := pcY) rfl hd rfl ((if0 _ _).trans (flt q).2.2.2) ho hy h) (kY q)
  · exact Wp.via (fun _ h => XS.ifNo X.here hx rfl hd rfl ((if0 _ _).trans (tlt (by simpa using q)).2.2.2) h) (by subst hp; exact kN (by simpa using q))
theorem own_cl_lt (x y : Int64) : XT.cmpL x y < 0 ↔ x < y := by
  unfold XT.cmpL
  by_cases h1 : y < x
  · rw [if_pos h1]
    refine ⟨fun h => absurd h (by decide), fun h => absurd (Int64.lt_trans h1 h) Int64.lt_irrefl⟩
  · rw [if_neg h1]
    by_cases h2 : x = y
    · rw [if_pos h2]
      refine ⟨fun h => absurd h (by decide), fun h => absurd (h2 ▸ h) Int64.lt_irrefl⟩
    · rw [if_neg h2]
      refine ⟨fun _ => ?_, fun _ => by decide⟩
      rw [Int64.lt_iff_toInt_lt] at *
      have : x.toInt ≠ y.toInt := fun q => h2 (Int64.toInt_inj.mp q)
      omega
theorem own_cl_gt (x y : Int64) : 0 < XT.cmpL x y ↔ y < x := by
  unfold XT.cmpL
  by_cases h1 : y < x
  · rw [if_pos h1]
    exact ⟨fun _ => h1, fun _ => by decide⟩
  · rw [if_neg h1]
    by_cases h2 : x = y
    · rw [if_pos h2]
      exact ⟨fun h => absurd h (by decide), fun h => absurd h h1⟩
    · rw [if_neg h2]
      exact ⟨fun h => absurd h (by decide), fun h => absurd h h1⟩
theorem own_cl_eq (x y : Int64) : XT.cmpL x y = 0 ↔ x = y := by
  unfold XT.cmpL
  by_cases h1 : y < x
  · rw [if_pos h1]
    exact ⟨fun h => absurd h (by decide), fun h => absurd (h ▸ h1) Int64.lt_irrefl⟩
  · rw [if_neg h1]
    by_cases h2 : x = y
    · rw [if_pos h2]
      exact ⟨fun _ => h2, fun _ => rfl⟩
    · rw [if_neg h2]
      exact ⟨fun h => absurd h (by decide), fun h => absurd h h2⟩
theorem w_lcmp_eq (X : Stand p l e R s m args below meth c T locs cells slots) (hx : p.tables.exec = Jvm.exec) {o : Int} {pcY pc1 : Nat} {x y : Int64} (hd : decode c.code pc = .ok (.lcmp, 1)) (hp1 : pc + 1 = pc1) (hd1 : decode c.code pc1 = .ok (.ifCond .eq o, 3)) (ho : 0 ≤ (pc1 : Int) + o) (hy : ((pc1 : Int) + o).toNat = pcY) (hp : pc1 + 3 = pc') (kY : x = y → Wp p e s below C S Q T (mkF m pcY Ls st)) (kN : ¬ x = y → Wp p e s below C S Q T (mkF m pc' Ls st)) : Wp p e s below C S Q T (mkF m pc Ls (Value.long y :: Value.long x :: st)) :=
  w_lcmp X hx hd hp1 (w_if_eq X hx hd1 ho hy hp (fun q => kY ((own_cl_eq x y).mp q)) (fun q => kN fun r => q ((own_cl_eq x y).mpr r)))
theorem w_lcmp_ne (X : Stand p l e R s m args below meth c T locs cells slots) (hx : p.tables.exec = Jvm.exec) {o : Int} {pcY pc1 : Nat} {x y : Int64} (hd : decode c.code pc = .ok (.lcmp, 1)) (hp1 : pc + 1 = pc1) (hd1 : decode c.code pc1 = .ok (.ifCond .ne o, 3)) (ho : 0 ≤ (pc1 : Int) + o) (hy : ((pc1 : Int) + o).toNat = pcY) (hp : pc1 + 3 = pc') (kY : ¬ x = y → Wp p e s below C S Q T (mkF m pcY Ls st)) (kN : x = y → Wp p e s below C S Q T (mkF m pc' Ls st)) : Wp p e s below C S Q T (mkF m pc Ls (Value.long y :: Value.long x :: st)) :=
  w_lcmp X hx hd hp1 (w_if_ne X hx hd1 ho hy hp (fun q => kY fun r => q ((own_cl_eq x y).mpr r)) (fun q => kN ((own_cl_eq x y).mp q)))
theorem w_lcmp_lt (X : Stand p l e R s m args below meth c T locs cells slots) (hx : p.tables.exec = Jvm.exec) {o : Int} {pcY pc1 : Nat} {x y : Int64} (hd : decode c.code pc = .ok (.lcmp, 1)) (hp1 : pc + 1 = pc1) (hd1 : decode c.code pc1 = .ok (.ifCond .lt o, 3)) (ho : 0 ≤ (pc1 : Int) + o) (hy : ((pc1 : Int) + o).toNat = pcY) (hp : pc1 + 3 = pc') (kY : x < y → Wp p e s below C S Q T (mkF m pcY Ls st)) (kN : ¬ x < y → Wp p e s below C S Q T (mkF m pc' Ls st)) : Wp p e s below C S Q T (mkF m pc Ls (Value.long y :: Value.long x :: st)) :=
  w_lcmp X hx hd hp1 (w_if_lt X hx hd1 ho hy hp (fun q => kY ((own_cl_lt x y).mp q)) (fun q => kN fun r => q ((own_cl_lt x y).mpr r)))
theorem w_lcmp_ge (X : Stand p l e R s m args below meth c T locs cells slots) (hx : p.tables.exec = Jvm.exec) {o : Int} {pcY pc1 : Nat} {x y : Int64} (hd : decode c.code pc = .ok (.lcmp, 1)) (hp1 : pc + 1 = pc1) (hd1 : decode c.code pc1 = .ok (.ifCond .ge o, 3)) (ho : 0 ≤ (pc1 : Int) + o) (hy : ((pc1 : Int) + o).toNat = pcY) (hp : pc1 + 3 = pc') (kY : ¬ x < y → Wp p e s below C S Q T (mkF m pcY Ls st)) (kN : x < y → Wp p e s below C S Q T (mkF m pc' Ls st)) : Wp p e s below C S Q T (mkF m pc Ls (Value.long y :: Value.long x :: st)) :=
  w_lcmp X hx hd hp1 (w_if_ge X hx hd1 ho hy hp (fun q => kY fun r => q ((own_cl_lt x y).mpr r)) (fun q => kN ((own_cl_lt x y).mp q)))
theorem w_lcmp_gt (X : Stand p l e R s m args below meth c T locs cells slots) (hx : p.tables.exec = Jvm.exec) {o : Int} {pcY pc1 : Nat} {x y : Int64} (hd : decode c.code pc = .ok (.lcmp, 1)) (hp1 : pc + 1 = pc1) (hd1 : decode c.code pc1 = .ok (.ifCond .gt o, 3)) (ho : 0 ≤ (pc1 : Int) + o) (hy : ((pc1 : Int) + o).toNat = pcY) (hp : pc1 + 3 = pc') (kY : y < x → Wp p e s below C S Q T (mkF m pcY Ls st)) (kN : ¬ y < x → Wp p e s below C S Q T (mkF m pc' Ls st)) : Wp p e s below C S Q T (mkF m pc Ls (Value.long y :: Value.long x :: st)) :=
  w_lcmp X hx hd hp1 (w_if_gt X hx hd1 ho hy hp (fun q => kY ((own_cl_gt x y).mp q)) (fun q => kN fun r => q ((own_cl_gt x y).mpr r)))
theorem w_lcmp_le (X : Stand p l e R s m args below meth c T locs cells slots) (hx : p.tables.exec = Jvm.exec) {o : Int} {pcY pc1 : Nat} {x y : Int64} (hd : decode c.code pc = .ok (.lcmp, 1)) (hp1 : pc + 1 = pc1) (hd1 : decode c.code pc1 = .ok (.ifCond .le o, 3)) (ho : 0 ≤ (pc1 : Int) + o) (hy : ((pc1 : Int) + o).toNat = pcY) (hp : pc1 + 3 = pc') (kY : ¬ y < x → Wp p e s below C S Q T (mkF m pcY Ls st)) (kN : y < x → Wp p e s below C S Q T (mkF m pc' Ls st)) : Wp p e s below C S Q T (mkF m pc Ls (Value.long y :: Value.long x :: st)) :=
  w_lcmp X hx hd hp1 (w_if_le X hx hd1 ho hy hp (fun q => kY fun r => q ((own_cl_gt x y).mpr r)) (fun q => kN ((own_cl_gt x y).mp q)))
theorem w_eqI {x z : Int32} (h : x = z) (k : Wp p e s below C S Q T (mkF m pc Ls (Value.int z :: st))) : Wp p e s below C S Q T (mkF m pc Ls (Value.int x :: st)) := h ▸ k
theorem w_genI {x : Int32} (k : ∀ z, z = x → Wp p e s below C S Q T (mkF m pc Ls (Value.int z :: st))) : Wp p e s below C S Q T (mkF m pc Ls (Value.int x :: st)) := k x rfl
theorem w_eqJ {x z : Int64} (h : x = z) (k : Wp p e s below C S Q T (mkF m pc Ls (Value.long z :: st))) : Wp p e s below C S Q T (mkF m pc Ls (Value.long x :: st)) := h ▸ k
theorem w_genJ {x : Int64} (k : ∀ z, z = x → Wp p e s below C S Q T (mkF m pc Ls (Value.long z :: st))) : Wp p e s below C S Q T (mkF m pc Ls (Value.long x :: st)) := k x rfl
theorem w_iincE (X : Stand p l e R s m args below meth c T locs cells slots) (hx : p.tables.exec = Jvm.exec) {k : Nat} {cst : Int} {v z : Int32} {l' : Array Slot} (hd : decode c.code pc = .ok (.iinc k cst, 3)) (hl : Ls[k]? = some (.val (.int v))) (hz : v + Int32.ofInt cst = z) (hl' : storeLocals Ls k (.int z) = some l') (hp : pc + 3 = pc') (k : Wp p e s below C S Q T (mkF m pc' l' (st))) : Wp p e s below C S Q T (mkF m pc Ls (st)) := by
  subst hp
  exact Wp.via (fun _ h => XS.iinc X.here hx rfl hd hl (hz ▸ hl') h) k
theorem w_ifnullY (X : Stand p l e R s m args below meth c T locs cells slots) (hx : p.tables.exec = Jvm.exec) {o : Int}  (hd : decode c.code pc = .ok (.ifnull o, 3)) (ho : 0 ≤ (pc : Int) + o) (hp : ((pc : Int) + o).toNat = pc') (k : Wp p e s below C S Q T (mkF m pc' Ls st)) : Wp p e s below C S Q T (mkF m pc Ls (Value.null :: st)) :=
  Wp.via (fun _ h => XS.ifnullYes X.here hx rfl (pc0 := pc) (pc' := pc') rfl hd rfl ho hp h) k
theorem w_ifnonnullY (X : Stand p l e R s m args below meth c T locs cells slots) (hx : p.tables.exec = Jvm.exec) {o : Int} {b : Addr} (hd : decode c.code pc = .ok (.ifnonnull o, 3)) (ho : 0 ≤ (pc : Int) + o) (hp : ((pc : Int) + o).toNat = pc') (k : Wp p e s below C S Q T (mkF m pc' Ls st)) : Wp p e s below C S Q T (mkF m pc Ls (Value.ref b :: st)) :=
  Wp.via (fun _ h => XT.ifnonnullYes X.here hx rfl (pc0 := pc) (pc' := pc') rfl hd rfl ho hp h) k
theorem w_ifnullN (X : Stand p l e R s m args below meth c T locs cells slots) (hx : p.tables.exec = Jvm.exec) {o : Int} {b : Addr} (hd : decode c.code pc = .ok (.ifnull o, 3))  (hp : pc + 3 = pc') (k : Wp p e s below C S Q T (mkF m pc' Ls (st))) : Wp p e s below C S Q T (mkF m pc Ls (Value.ref b :: st)) := by
  subst hp
  exact Wp.via (fun _ h => XS.ifnullNo X.here hx rfl hd rfl h) k
theorem w_ifnonnullN (X : Stand p l e R s m args below meth c T locs cells slots) (hx : p.tables.exec = Jvm.exec) {o : Int} (hd : decode c.code pc = .ok (.ifnonnull o, 3))  (hp : pc + 3 = pc') (k : Wp p e s below C S Q T (mkF m pc' Ls (st))) : Wp p e s below C S Q T (mkF m pc Ls (Value.null :: st)) := by
  subst hp
  exact Wp.via (fun _ h => XT.ifnonnullNo X.here hx rfl hd rfl h) k
theorem own_out {fs : List Frame} {v : Option Value} {g : JFrame} (hs : Steps p.tables e below (T.setTop g) (T.setFrames fs)) (h1 : (T.setFrames fs).status = .running) (h2 : Ended (T.setFrames fs) below (.returned v)) (h3 : s.WarmedH (T.setFrames fs).vm) (h4 : s.sameButNew ({ T.setFrames fs with vm := s.vm } : State) locs cells slots)
    (hc : cells ≤ C) (hl : slots ≤ S) (hq : Q v T.heap locs) : Wp p e s below C S Q T g :=
  ⟨_, _, hs, h1, h2, _, _, rfl, hq, ⟨_, rfl⟩, h3, h4.mono hc hl⟩
theorem w_ret_i (X : Stand p l e R s m args below meth c T locs cells slots) (hx : p.tables.exec = Jvm.exec) {z : Int32} (hret : meth.sig.returnType = some .int) (hlk : meth.locks = false) (hd : decode c.code pc = .ok (.ireturn, 1)) (hc : cells ≤ C) (hl : slots ≤ S) (hq : Q (some (.int z)) T.heap locs) : Wp p e s below C S Q T (mkF m pc Ls (Value.int z :: st)) := by
  obtain ⟨fs, hr, h1, h2, h3, h4⟩ := X.leave (v := some (.int z)) (fun h => by rw [hret] at h; cases h) hlk
  exact own_out (retI X hx hret hd hr) h1 h2 h3 h4 hc hl hq
theorem w_ret_n (X : Stand p l e R s m args below meth c T locs cells slots) (hx : p.tables.exec = Jvm.exec) {z z' : Int32} {t : FieldType} (hret : meth.sig.returnType = some t) (hlk : meth.locks = false) (ht : t = .boolean ∨ t = .byte ∨ t = .char ∨ t = .short) (hd : decode c.code pc = .ok (.ireturn, 1)) (hz : nar t z = z') (hc : cells ≤ C) (hl : slots ≤ S) (hq : Q (some (.int z')) T.heap locs) : Wp p e s below C S Q T (mkF m pc Ls (Value.int z :: st)) := by
  subst hz
  obtain ⟨fs, hr, h1, h2, h3, h4⟩ := X.leave (v := some (.int (nar t z))) (fun h => by rw [hret] at h; cases h) hlk
  exact own_out (retN X hx hret ht hd hr) h1 h2 h3 h4 hc hl hq
theorem w_ret_l (X : Stand p l e R s m args below meth c T locs cells slots) (hx : p.tables.exec = Jvm.exec) {z : Int64} (hret : meth.sig.returnType = some .long) (hlk : meth.locks = false) (hd : decode c.code pc = .ok (.lreturn, 1)) (hc : cells ≤ C) (hl : slots ≤ S) (hq : Q (some (.long z)) T.heap locs) : Wp p e s below C S Q T (mkF m pc Ls [Value.long z]) := by
  obtain ⟨fs, hr, h1, h2, h3, h4⟩ := X.leave (v := some (.long z)) (fun h => by rw [hret] at h; cases h) hlk
  exact own_out (X.lreturnOut hx hret hd hr) h1 h2 h3 h4 hc hl hq
theorem w_ret_a (X : Stand p l e R s m args below meth c T locs cells slots) (hx : p.tables.exec = Jvm.exec) {w : Value} {t : FieldType} (hw : w.isRef = true) (hret : meth.sig.returnType = some t) (ht : t.isReference = true) (hlk : meth.locks = false) (hd : decode c.code pc = .ok (.areturn, 1)) (hc : cells ≤ C) (hl : slots ≤ S) (hq : Q (some w) T.heap locs) : Wp p e s below C S Q T (mkF m pc Ls [w]) := by
  obtain ⟨fs, hr, h1, h2, h3, h4⟩ := X.leave (v := some w) (fun h => by rw [hret] at h; cases h) hlk
  exact own_out (X.areturnOut hx hw hret ht hd hr) h1 h2 h3 h4 hc hl hq
theorem w_ret_v (X : Stand p l e R s m args below meth c T locs cells slots) (hx : p.tables.exec = Jvm.exec) (hret : meth.sig.returnType = none) (hlk : meth.locks = false) (hd : decode c.code pc = .ok (.return_, 1)) (hc : cells ≤ C) (hl : slots ≤ S) (hq : Q none T.heap locs) : Wp p e s below C S Q T (mkF m pc Ls []) := by
  obtain ⟨fs, hr, h1, h2, h3, h4⟩ := X.leave (v := none) (fun h => rfl) hlk
  exact own_out (X.returnOut hx hret hd hr) h1 h2 h3 h4 hc hl hq
theorem own_call (X : Stand p l e R s m args below meth c T locs cells slots) (hx : p.tables.exec = Jvm.exec) {Z : State} {a0 : Array Value} {h : Heap} (hZ : Z.Warmed39 s.vm) (eT : T.heap = h) {own : String} {i : Nat} {y : MethodName} {bytes : ByteArray} {maxL : Nat} {ret : Option FieldType} {rm : Room} {W : Nat} {as' : Array Value} {Qc : Option Value → Heap → List Loc → Prop}
    (hown : s.vm.findClass own = some m.cls) (hml : Ls.size = c.maxLocals) (w1 : (Jvm.Cond.methodLink own i y).before a0 Z = true) (w2 : (Jvm.Cond.static y).before a0 Z = true) (w3 : (Jvm.Cond.initialized y.cls).before a0 Z = true) (w4 : (Jvm.Cond.code y bytes maxL ret).before a0 Z = true)
    (hM : MetFree l y (head1 [Jvm.Cond.code y bytes maxL ret] rm) (fun a U => a = as' ∧ Z.Warmed39 U.vm ∧ U.heap = h) (fun _ _ _ _ _ => True) (fun _ U o U' => ∃ v L, o = .returned v ∧ Qc v U'.heap L ∧ FrameEnd U o U' L rm.cells rm.slots))
    (hy : y.cls ≠ "java/lang/invoke/MethodHandle" ∧ y.cls ≠ "java/lang/invoke/VarHandle") (hf : rm.frames + 1 ≤ R.frames) (hl : W + (maxL + 11) + rm.locals ≤ R.locals) (hc : cells + rm.cells ≤ R.cells) (hsl : slots + rm.slots ≤ R.slots)
    {argsL rest : List Value} {ps : List FieldType} {r : Option FieldType} (hpd : parseMethodDescriptor y.desc = some ⟨ps, r⟩) (hlen : argsL.length = ps.length) (has : argsL.toArray = as') (hst : st = argsL.reverse ++ rest) (hW : (rest.map fun v => v.category).sum ≤ W) (hd : decode c.code pc = .ok (.invokestatic i, 3)) (hp : pc + 3 = pc')
    (k : ∀ (v : Option Value) (T' : State) (L : List Loc), Stand p l e R s m args below meth c T' (locs ++ L) (cells + rm.cells) (slots + rm.slots) → Qc v T'.heap L → Wp p e s below C S Q T' (mkF m pc' Ls (v.toList ++ rest))) : Wp p e s below C S Q T (mkF m pc Ls st) := by
  obtain ⟨v, _, ⟨T1, L1, k1, n1⟩, -, X1, ⟨Lc1, hQ1, l1, y1, z1⟩, st1⟩ := Jvm.LawKit.callS X hx (y := y) hown (mvT hZ w1) (mvT hZ w2) (mvT hZ w3) (mvT hZ w4) hy (backOf (W := W) hM hZ w4 w3 hf hl) (g := mkF m pc Ls st) rfl hml (argsL := argsL) (rest := rest) (lenOf hpd hlen) hst (by show 2 * 0 + _ ≤ _; omega) hd (fun _ _ => ⟨has, eT, hc, hsl⟩)
  dsimp only [Pt.U, Pt.locs, Pt.cells, Pt.slots] at X1 l1 y1 z1 st1 hQ1
  subst l1 y1 z1
  subst hp
  exact Wp.via st1 (k v T1 Lc1 X1 hQ1)
theorem own_cast {g g' : JFrame} (q : g = g') (k : Wp p e s below C S Q T g') : Wp p e s below C S Q T g := q ▸ k
def PureQ (r : Value) (h0 : Heap) (v : Option Value) (h : Heap) (L : List Loc) : Prop := v = some r ∧ L = [] ∧ h = h0
theorem w_callP (X : Stand p l e R s m args below meth c T locs cells slots) (hx : p.tables.exec = Jvm.exec) {Z : State} {a0 : Array Value} {h : Heap} (hZ : Z.Warmed39 s.vm) (eT : T.heap = h) {own : String} {i : Nat} {y : MethodName} {bytes : ByteArray} {maxL : Nat} {ret : Option FieldType} {rm : Room} {W : Nat} {as' : Array Value} {r0 : Value}
    (hown : s.vm.findClass own = some m.cls) (hml : Ls.size = c.maxLocals) (w1 : (Jvm.Cond.methodLink own i y).before a0 Z = true) (w2 : (Jvm.Cond.static y).before a0 Z = true) (w3 : (Jvm.Cond.initialized y.cls).before a0 Z = true) (w4 : (Jvm.Cond.code y bytes maxL ret).before a0 Z = true)
    (hM : MetFree l y (head1 [Jvm.Cond.code y bytes maxL ret] rm) (fun a U => a = as' ∧ Z.Warmed39 U.vm ∧ U.heap = h) (fun _ _ _ _ _ => True) (fun _ U o U' => ∃ v L, o = .returned v ∧ PureQ r0 h v U'.heap L ∧ FrameEnd U o U' L rm.cells rm.slots))
    (hy : y.cls ≠ "java/lang/invoke/MethodHandle" ∧ y.cls ≠ "java/lang/invoke/VarHandle") (hf : rm.frames + 1 ≤ R.frames) (hl : W + (maxL + 11) + rm.locals ≤ R.locals) (hc : rm.cells = 0) (hsl : rm.slots = 0) (hc' : cells ≤ R.cells) (hsl' : slots ≤ R.slots)
    {argsL rest : List Value} {ps : List FieldType} {r : Option FieldType} (hpd : parseMethodDescriptor y.desc = some ⟨ps, r⟩) (hlen : argsL.length = ps.length) (has : argsL.toArray = as') (hst : st = argsL.reverse ++ rest) (hW : (rest.map fun v => v.category).sum ≤ W) (hd : decode c.code pc = .ok (.invokestatic i, 3)) (hp : pc + 3 = pc')
    (k : ∀ (T' : State), Stand p l e R s m args below meth c T' locs cells slots → T'.heap = h → Wp p e s below C S Q T' (mkF m pc' Ls (r0 :: rest))) : Wp p e s below C S Q T (mkF m pc Ls st) := by
  refine own_call X hx hZ eT hown hml w1 w2 w3 w4 hM hy hf hl (by omega) (by omega) hpd hlen has hst hW hd hp ?_
  intro v T' L X' hq
  obtain ⟨rfl, rfl, e1⟩ := hq
  rw [List.append_nil, hc, hsl] at X'
  exact k T' X' e1
def PureQV (h0 : Heap) (v : Option Value) (h : Heap) (L : List Loc) : Prop := v = none ∧ L = [] ∧ h = h0
theorem w_callPV (X : Stand p l e R s m args below meth c T locs cells slots) (hx : p.tables.exec = Jvm.exec) {Z : State} {a0 : Array Value} {h : Heap} (hZ : Z.Warmed39 s.vm) (eT : T.heap = h) {own : String} {i : Nat} {y : MethodName} {bytes : ByteArray} {maxL : Nat} {ret : Option FieldType} {rm : Room} {W : Nat} {as' : Array Value}
    (hown : s.vm.findClass own = some m.cls) (hml : Ls.size = c.maxLocals) (w1 : (Jvm.Cond.methodLink own i y).before a0 Z = true) (w2 : (Jvm.Cond.static y).before a0 Z = true) (w3 : (Jvm.Cond.initialized y.cls).before a0 Z = true) (w4 : (Jvm.Cond.code y bytes maxL ret).before a0 Z = true)
    (hM : MetFree l y (head1 [Jvm.Cond.code y bytes maxL ret] rm) (fun a U => a = as' ∧ Z.Warmed39 U.vm ∧ U.heap = h) (fun _ _ _ _ _ => True) (fun _ U o U' => ∃ v L, o = .returned v ∧ PureQV h v U'.heap L ∧ FrameEnd U o U' L rm.cells rm.slots))
    (hy : y.cls ≠ "java/lang/invoke/MethodHandle" ∧ y.cls ≠ "java/lang/invoke/VarHandle") (hf : rm.frames + 1 ≤ R.frames) (hl : W + (maxL + 11) + rm.locals ≤ R.locals) (hc : rm.cells = 0) (hsl : rm.slots = 0) (hc' : cells ≤ R.cells) (hsl' : slots ≤ R.slots)
    {argsL rest : List Value} {ps : List FieldType} {r : Option FieldType} (hpd : parseMethodDescriptor y.desc = some ⟨ps, r⟩) (hlen : argsL.length = ps.length) (has : argsL.toArray = as') (hst : st = argsL.reverse ++ rest) (hW : (rest.map fun v => v.category).sum ≤ W) (hd : decode c.code pc = .ok (.invokestatic i, 3)) (hp : pc + 3 = pc')
    (k : ∀ (T' : State), Stand p l e R s m args below meth c T' locs cells slots → T'.heap = h → Wp p e s below C S Q T' (mkF m pc' Ls rest)) : Wp p e s below C S Q T (mkF m pc Ls st) := by
  refine own_call X hx hZ eT hown hml w1 w2 w3 w4 hM hy hf hl (by omega) (by omega) hpd hlen has hst hW hd hp ?_
  intro v T' L X' hq
  obtain ⟨rfl, rfl, e1⟩ := hq
  rw [List.append_nil, hc, hsl] at X'
  exact k T' X' e1
theorem own_body {x : MethodName} {code : ByteArray} {maxL : Nat} {ret : Option FieldType} {ws : List Jvm.Cond} {rm : Room} {Z : State} {as : Array Value} {h0 : Heap} (hx : plainFor x = true)
    (body : ∀ (p : Program) (e : Env) (s : State) (m : MethodId) (below : List Frame) (meth : Method) (c : Code) (T : State), p.tables.exec = Jvm.exec → c.code = code → c.maxLocals = maxL → meth.sig.returnType = ret → meth.locks = false → s.vm.findClass x.cls = some m.cls → meth.name = x.name → Z.Warmed39 s.vm → Stand p l e rm s m as below meth c T [] 0 0 → T.heap = h0 → Wp p e s below rm.cells rm.slots Q T (entryFrame m as maxL)) :
    MetFree l x (head1 (Jvm.Cond.code x code maxL ret :: ws) rm) (fun a U => a = as ∧ Z.Warmed39 U.vm ∧ U.heap = h0) (fun _ _ _ _ _ => True) (fun _ U o U' => ∃ v L, o = .returned v ∧ Q v U'.heap L ∧ FrameEnd U o U' L rm.cells rm.slots) := by
  refine MetFree.of_bodySF hx hisR ?_
  intro p e s m args below meth c s₁ Bd hml0 hP hK
  obtain ⟨rfl, hZ, hh⟩ := hP
  exact body p e s m below meth c s₁ Bd.exec Bd.bytes hml0 Bd.returns Bd.notSynchronized (findClass_of_methodNamed Bd.named) (name_of_methodNamed Bd.named Bd.method).1 hZ (Stand.of_body Bd) (by rw [← hh, Bd.state]; rfl)
end OwnW
/-! cells made since the start: explicit -/
def HP (n0 : Nat) (h : Heap) (cs : List Cell) : Prop := h.size = n0 + cs.length ∧ ∀ (i : Nat) (c : Cell), cs[i]? = some c → h[n0 + i]? = some c
def IsA (Z : State) (k : ClassId) (ty : FieldType) : Prop := (∃ kc, Z.vm.classes[k]? = some kc ∧ ∃ comp, kc.kind = .array comp ty) ∧ Z.vm.findClass ("[" ++ ty.toString) = some k
def AC (k : ClassId) (vs : List Value) : Cell := { cls := k, slots := vs.toArray, vm := .none }
def FldC (Z : State) (cell : Cell) (C n d : String) (v : Value) : Prop := ∃ (cf : ClassId) (k : Class) (i : Nat) (f : Field), Z.fieldFound? C n d = some (cf, k, i, f) ∧ f.isStatic = false ∧ cell.vm ≠ .unknown ∧ cell.vm.isStatics = false ∧ Z.vm.assignable cell.cls cf = true ∧ cell.slots[f.slot]? = some v
def ExaC (Z : State) (cell : Cell) (C : String) : Prop := ∃ (k : Class), Z.vm.findClass C = some cell.cls ∧ Z.vm.classes[cell.cls]? = some k ∧ cell.vm.isStatics = false ∧ (k.kind = .ordinary → cell.slots.size = k.instanceTypes.size)
def ObjF (Z : State) (cell : Cell) (C : String) (fl : List (String × String)) (vs : List Value) : Prop := ExaC Z cell C ∧ vs.length = fl.length ∧ ∀ (j : Nat) (n d : String) (v : Value), fl[j]? = some (n, d) → vs[j]? = some v → FldC Z cell C n d v
def Dis (Z : State) (C : String) (fl : List (String × String)) : Prop := ∀ (i j : Nat) (a b : String × String), fl[i]? = some a → fl[j]? = some b → i ≠ j → Jvm.RoadKit.slotOf Z C a.1 a.2 ≠ Jvm.RoadKit.slotOf Z C b.1 b.2
section OwnHP
variable {Z : State} {h h' : Heap} {n0 : Nat} {cs : List Cell} {i sl : Nat} {cell : Cell} {v : Value} {k : ClassId} {vs : List Value} {ty : FieldType} {C : String} {fl : List (String × String)}
theorem HP.nil (h : Heap) : HP h.size h [] := ⟨by simp, fun i c q => by simp at q⟩
theorem HP.push (P : HP n0 h cs) (c : Cell) : HP n0 (h.push c) (cs ++ [c]) := by
  refine ⟨by simp [P.1]; omega, fun i c' q => ?_⟩
  by_cases hi : i < cs.length
  · rw [List.getElem?_append_left hi] at q
    have := P.2 i c' q
    rw [Array.getElem?_push_lt (by rw [P.1]; omega)]
    rw [Array.getElem?_eq_getElem (by rw [P.1]; omega)] at this
    exact this
  · have hl : i < (cs ++ [c]).length := (List.getElem?_eq_some_iff.mp q).1
    have e : i = cs.length := by simp at hl; omega
    subst e
    rw [List.getElem?_append_right (Nat.le_refl _)] at q
    simp at q
    subst q
    rw [← P.1]; simp
theorem HP.wr (P : HP n0 h cs) (W : Wr h h' (n0 + i) sl v) (q : cs[i]? = some cell) : HP n0 h' (cs.set i (cell.setSlot sl v)) := by
  obtain ⟨c0, h1, h2, h3, rfl⟩ := W
  cases h1.symm.trans (P.2 i cell q)
  refine ⟨by simp [P.1], fun j c' r => ?_⟩
  by_cases e : i = j
  · subst e
    have hl : i < cs.length := (List.getElem?_eq_some_iff.mp q).1
    rw [List.getElem?_set_self hl] at r
    cases r
    rw [Array.getElem?_setIfInBounds_self_of_lt (by rw [P.1]; omega)]
  · rw [List.getElem?_set_ne e] at r
    rw [Array.getElem?_setIfInBounds_ne (by omega)]
    exact P.2 j c' r
theorem HP.arr (P : HP n0 h cs) (q : cs[i]? = some (AC k vs)) (a : IsA Z k ty) : Arr Z h (n0 + i) (AC k vs) ty := ⟨P.2 _ _ q, ⟨fun _ => by simp [AC], a.1⟩, by simp [AC]⟩
theorem HP.exaA (P : HP n0 h cs) (q : cs[i]? = some (AC k vs)) (a : IsA Z k ty) {ad : String} (had : "[" ++ ty.toString = ad) : Exa Z h (n0 + i) ad := by
  obtain ⟨⟨kc, h1, comp, h2⟩, h3⟩ := a
  exact ⟨AC k vs, kc, P.2 _ _ q, by rw [← had]; exact h3, h1, rfl, fun z => by rw [h2] at z; cases z⟩
theorem HP.fld (P : HP n0 h cs) (q : cs[i]? = some cell) {n d : String} (F : FldC Z cell C n d v) : Fld Z h (n0 + i) C n d v := by
  obtain ⟨cf, k, j, f, r⟩ := F
  exact ⟨cell, cf, k, j, f, P.2 _ _ q, r⟩
theorem HP.exa (P : HP n0 h cs) (q : cs[i]? = some cell) (F : ExaC Z cell C) : Exa Z h (n0 + i) C := by
  obtain ⟨k, r⟩ := F
  exact ⟨cell, k, P.2 _ _ q, r⟩
theorem AC.set (k : ClassId) (vs : List Value) (j : Nat) (v : Value) : (AC k vs).setSlot j v = AC k (vs.set j v) := by simp [AC, Cell.setSlot]
theorem ExaC.set (F : ExaC Z cell C) (sl : Nat) (v : Value) : ExaC Z (cell.setSlot sl v) C := by
  obtain ⟨k, h1, h2, h3, h4⟩ := F
  exact ⟨k, h1, h2, h3, fun q => by rw [← h4 q]; simp [Cell.setSlot]⟩
theorem ObjF.set (F : ObjF Z cell C fl vs) (D : Dis Z C fl) {j : Nat} {n d : String} (hj : fl[j]? = some (n, d)) (v : Value) : ObjF Z (cell.setSlot (Jvm.RoadKit.slotOf Z C n d) v) C fl (vs.set j v) := by
  obtain ⟨E, hl, F⟩ := F
  refine ⟨E.set _ _, by simp [hl], fun i n' d' v' h1 h2 => ?_⟩
  have hjl : j < fl.length := (List.getElem?_eq_some_iff.mp hj).1
  by_cases e : j = i
  · subst e
    cases hj.symm.trans h1
    rw [List.getElem?_set_self (by omega)] at h2
    cases h2
    obtain ⟨cf, k, x, f, g1, g2, g3, g4, g5, g6⟩ := F j n d _ hj (List.getElem?_eq_getElem (by omega))
    have es : Jvm.RoadKit.slotOf Z C n d = f.slot := by simp [Jvm.RoadKit.slotOf, g1]
    refine ⟨cf, k, x, f, g1, g2, g3, g4, g5, ?_⟩
    rw [es]
    have := (Array.getElem?_eq_some_iff.mp g6).1
    simp [Cell.setSlot, this]
  · rw [List.getElem?_set_ne e] at h2
    obtain ⟨cf, k, x, f, g1, g2, g3, g4, g5, g6⟩ := F i n' d' v' h1 h2
    have es : Jvm.RoadKit.slotOf Z C n' d' = f.slot := by simp [Jvm.RoadKit.slotOf, g1]
    have ne := D j i _ _ hj h1 e
    refine ⟨cf, k, x, f, g1, g2, g3, g4, g5, ?_⟩
    show ((cell.slots.setIfInBounds _ _)[_]?) = _
    rw [Array.getElem?_setIfInBounds_ne (by rw [← es]; exact ne)]
    exact g6
theorem own_dis {a0 : Array Value} (hL : ∀ (j : Nat) (n d : String), fl[j]? = some (n, d) → Laid Z a0 C C n d ∧ ∃ t, parseFieldDescriptor d = some t) (hN : (fl.map Prod.fst).Nodup) : Dis Z C fl := by
  intro i j a b h1 h2 hne
  obtain ⟨L1, t1, p1⟩ := hL i a.1 a.2 h1
  obtain ⟨L2, t2, p2⟩ := hL j b.1 b.2 h2
  refine slot_ne L1 L2 (fun q => hne ?_) p1 p2
  have i1 := (List.getElem?_eq_some_iff.mp h1).1
  have i2 := (List.getElem?_eq_some_iff.mp h2).1
  have e1 : (fl.map Prod.fst)[i]? = some a.1 := by simp [h1]
  have e2 : (fl.map Prod.fst)[j]? = some b.1 := by simp [h2]
  exact (List.getElem?_inj (by simpa using i1) hN).mp (by rw [e1, e2, q])
theorem own_one {n0 : Nat} {L : List Loc} (N : Fr n0 L) (i sl : Nat) : Fr n0 (L ++ [⟨n0 + i, sl⟩]) := N.app fun y hy => by cases List.mem_singleton.mp hy; exact Nat.le_add_right _ _
theorem own_idx {j : Int32} {jn N : Nat} (hj : j.toInt = (jn : Int)) (hn : jn < N) : j.toNatClampNeg = jn ∧ ¬ (j < 0 ∨ N ≤ j.toNatClampNeg) := by
  have e : j.toNatClampNeg = jn := by simp [Int32.toNatClampNeg, hj]
  refine ⟨e, ?_⟩
  rw [e, Int32.lt_iff_toInt_lt, hj]
  simp
  omega
end OwnHP
theorem own_get {α : Type} {f : α → Value} {l : List α} {j : Nat} {d : α} (h : j < l.length) : (List.map f l)[j]? = some (f (l.getD j d)) := by
  simp [List.getD_eq_getElem?_getD, h]
theorem own_sl {α : Type} {l : List α} {i N : Nat} {x : α} (h : l.length = N) : (l.set i x).length = N := by simp [h]
theorem own_llt {α : Type} {l : List α} {j N : Nat} (h : l.length = N) (q : j < N) : j < l.length := by omega
theorem own_oN {n : Nat} (h : n < 2147483648) : (Int32.ofNat n).toInt = (n : Int) := Int32.toInt_ofNat_of_lt h
theorem own_oadd (a b : Nat) : Int32.ofNat a + Int32.ofNat b = Int32.ofNat (a + b) := (Int32.ofNat_add a b).symm
theorem own_osub {a b : Nat} (h : b ≤ a) : Int32.ofNat a - Int32.ofNat b = Int32.ofNat (a - b) := by
  have := own_oadd (a - b) b
  rw [Nat.sub_add_cancel h] at this
  rw [← this, Int32.add_sub_cancel]
theorem own_omul (a b : Nat) : Int32.ofNat a * Int32.ofNat b = Int32.ofNat (a * b) := (Int32.ofNat_mul a b).symm
theorem own_olt {a b : Nat} (ha : a < 2147483648) (hb : b < 2147483648) : Int32.ofNat a < Int32.ofNat b ↔ a < b := by
  rw [Int32.lt_iff_toInt_lt, own_oN ha, own_oN hb]; omega
theorem own_oeq {a b : Nat} (ha : a < 2147483648) (hb : b < 2147483648) : Int32.ofNat a = Int32.ofNat b ↔ a = b := by
  rw [← Int32.toInt_inj, own_oN ha, own_oN hb]; omega
theorem own_len {α : Type} {f : α → Value} {l : List α} {N : Nat} (h : l.length = N) : (List.map f l).length.toInt32 = Int32.ofNat N := by
  rw [List.length_map, h]
section OwnH
variable {p : Program} {l : Launch} {e : Env} {R : Room} {s : State} {m : MethodId} {args : Array Value} {below : List Frame} {meth : Method} {c : Code} {T : State} {locs : List Loc} {cells slots : Nat} {C S : Nat} {Q : Option Value → Heap → List Loc → Prop} {pc pc' : Nat} {Ls : Array Slot} {st : List Value}
  {Z : State} {a0 : Array Value} {n0 : Nat} {cs : List Cell}
theorem w_newarr (X : Stand p l e R s m args below meth c T locs cells slots) (hx : p.tables.exec = Jvm.exec) (hZ : Z.Warmed39 s.vm) (P : HP n0 T.heap cs) {aty : ArrayType} {ty : FieldType} (hty : newarray.typeOf aty = ty) (w : (Jvm.Cond.arrayClass ty).before a0 Z = true) (hd : decode c.code pc = .ok (.newarray aty, 2))
    {n : Int32} {N j : Nat} (hn : n.toInt = (N : Int)) (hN : N ≤ 1000) (hc : cells + 1 ≤ R.cells) (hl : slots + N ≤ R.slots) (hj : cs.length = j) (hp : pc + 2 = pc')
    (k : ∀ (T' : State) (kA : ClassId), Stand p l e R s m args below meth c T' locs (cells + 1) (slots + N) → IsA Z kA ty → HP n0 T'.heap (cs ++ [AC kA (List.replicate N (defaultValue ty))]) → Wp p e s below C S Q T' (mkF m pc' Ls (.ref (n0 + j) :: st))) :
    Wp p e s below C S Q T (mkF m pc Ls (.int n :: st)) := by
  subst hp hty hj
  have en : n.toNatClampNeg = N := by simp [Int32.toNatClampNeg, hn]
  have hcb : componentBytes (newarray.typeOf aty) ≤ 8 := by cases aty <;> decide
  obtain ⟨cA, kA, comp, h1, h2, h3, X', st1⟩ := X.newarrayPrim hx (mvA hZ w) (g := mkF m pc Ls (.int n :: st)) rfl hd rfl (by rw [Int32.lt_iff_toInt_lt, hn]; simp) (by rw [en]; exact Nat.le_trans (Nat.mul_le_mul hN hcb) (by decide)) hc (by rw [en]; exact hl)
  rw [en] at X' st1
  rw [hZ.alike.findClass] at h1
  obtain ⟨kZ, z1, -⟩ := Vm.findClass_spec h1
  obtain ⟨k', z2, z3⟩ := hZ.alike.2.2 _ _ z1
  cases h2.symm.trans z2
  rw [P.1] at st1
  have ec : ({ cls := cA, slots := Array.replicate N (defaultValue (newarray.typeOf aty)), vm := .none } : Cell) = AC cA (List.replicate N (defaultValue (newarray.typeOf aty))) := by simp [AC]
  rw [ec] at X' st1
  exact Wp.via st1 (k _ cA X' ⟨⟨kZ, z1, comp, by rw [← h3, z3]⟩, h1⟩ (P.push _))
theorem w_arrlen (X : Stand p l e R s m args below meth c T locs cells slots) (hx : p.tables.exec = Jvm.exec) (hZ : Z.Warmed39 s.vm) (P : HP n0 T.heap cs) {i : Nat} {kA : ClassId} {vs : List Value} {ty : FieldType} (q : cs[i]? = some (AC kA vs)) (hk : IsA Z kA ty) (hd : decode c.code pc = .ok (.arraylength, 1)) {z : Int32} (hz : vs.length.toInt32 = z) (hp : pc + 1 = pc')
    (k : Wp p e s below C S Q T (mkF m pc' Ls (.int z :: st))) : Wp p e s below C S Q T (mkF m pc Ls (.ref (n0 + i) :: st)) := by
  subst hp hz
  have A := P.arr q hk
  refine Wp.via (fun t ht => X.arraylength hx (cell := AC kA vs) A.1 (State.isArrayOf_alike hZ.alike A.2.1) (g := mkF m pc Ls (.ref (n0 + i) :: st)) rfl (rest := st) rfl hd _ ?_) k
  simpa [AC] using ht
theorem w_iaload (X : Stand p l e R s m args below meth c T locs cells slots) (hx : p.tables.exec = Jvm.exec) (hZ : Z.Warmed39 s.vm) (P : HP n0 T.heap cs) {i : Nat} {kA : ClassId} {vs : List Value} (q : cs[i]? = some (AC kA vs)) (hk : IsA Z kA .int) (hd : decode c.code pc = .ok (.iaload, 1)) {j : Int32} {jn : Nat} (hj : j.toInt = (jn : Int)) {v : Value} (hv : vs[jn]? = some v) (hp : pc + 1 = pc')
    (k : Wp p e s below C S Q T (mkF m pc' Ls (v :: st))) : Wp p e s below C S Q T (mkF m pc Ls (.int j :: .ref (n0 + i) :: st)) := by
  subst hp
  have A := P.arr q hk
  have hl : jn < (AC kA vs).slots.size := by simp [AC]; exact (List.getElem?_eq_some_iff.mp hv).1
  obtain ⟨e1, e2⟩ := own_idx hj hl
  exact Wp.via (fun t ht => X.iaload hx (j := j) (v := v) A.1 (State.isArrayOf_alike hZ.alike A.2.1) A.2.2 e2 (by rw [e1]; simpa [AC] using hv) (g := mkF m pc Ls (.int j :: .ref (n0 + i) :: st)) rfl rfl hd _ ht) k
theorem w_laload (X : Stand p l e R s m args below meth c T locs cells slots) (hx : p.tables.exec = Jvm.exec) (hZ : Z.Warmed39 s.vm) (P : HP n0 T.heap cs) {i : Nat} {kA : ClassId} {vs : List Value} (q : cs[i]? = some (AC kA vs)) (hk : IsA Z kA .long) (hd : decode c.code pc = .ok (.laload, 1)) {j : Int32} {jn : Nat} (hj : j.toInt = (jn : Int)) {v : Value} (hv : vs[jn]? = some v) (hp : pc + 1 = pc')
    (k : Wp p e s below C S Q T (mkF m pc' Ls (v :: st))) : Wp p e s below C S Q T (mkF m pc Ls (.int j :: .ref (n0 + i) :: st)) := by
  subst hp
  have A := P.arr q hk
  have hl : jn < (AC kA vs).slots.size := by simp [AC]; exact (List.getElem?_eq_some_iff.mp hv).1
  obtain ⟨e1, e2⟩ := own_idx hj hl
  exact Wp.via (fun t ht => X.laload hx (j := j) (v := v) A.1 (State.isArrayOf_alike hZ.alike A.2.1) A.2.2 e2 (by rw [e1]; simpa [AC] using hv) (g := mkF m pc Ls (.int j :: .ref (n0 + i) :: st)) rfl rfl hd _ ht) k
theorem w_baload (X : Stand p l e R s m args below meth c T locs cells slots) (hx : p.tables.exec = Jvm.exec) (hZ : Z.Warmed39 s.vm) (P : HP n0 T.heap cs) {i : Nat} {kA : ClassId} {vs : List Value} (q : cs[i]? = some (AC kA vs)) (hk : IsA Z kA .byte) (hd : decode c.code pc = .ok (.baload, 1)) {j : Int32} {jn : Nat} (hj : j.toInt = (jn : Int)) {v : Value} (hv : vs[jn]? = some v) (hp : pc + 1 = pc')
    (k : Wp p e s below C S Q T (mkF m pc' Ls (v :: st))) : Wp p e s below C S Q T (mkF m pc Ls (.int j :: .ref (n0 + i) :: st)) := by
  subst hp
  have A := P.arr q hk
  have hl : jn < (AC kA vs).slots.size := by simp [AC]; exact (List.getElem?_eq_some_iff.mp hv).1
  obtain ⟨e1, e2⟩ := own_idx hj hl
  exact Wp.via (fun t ht => X.baloadBytes hx (j := j) (v := v) A.1 (State.isArrayOf_alike hZ.alike A.2.1) A.2.2 e2 (by rw [e1]; simpa [AC] using hv) (g := mkF m pc Ls (.int j :: .ref (n0 + i) :: st)) rfl rfl hd _ ht) k
theorem w_caload (X : Stand p l e R s m args below meth c T locs cells slots) (hx : p.tables.exec = Jvm.exec) (hZ : Z.Warmed39 s.vm) (P : HP n0 T.heap cs) {i : Nat} {kA : ClassId} {vs : List Value} (q : cs[i]? = some (AC kA vs)) (hk : IsA Z kA .char) (hd : decode c.code pc = .ok (.caload, 1)) {j : Int32} {jn : Nat} (hj : j.toInt = (jn : Int)) {v : Value} (hv : vs[jn]? = some v) (hp : pc + 1 = pc')
    (k : Wp p e s below C S Q T (mkF m pc' Ls (v :: st))) : Wp p e s below C S Q T (mkF m pc Ls (.int j :: .ref (n0 + i) :: st)) := by
  subst hp
  have A := P.arr q hk
  have hl : jn < (AC kA vs).slots.size := by simp [AC]; exact (List.getElem?_eq_some_iff.mp hv).1
  obtain ⟨e1, e2⟩ := own_idx hj hl
  exact Wp.via (fun t ht => X.caload hx (j := j) (v := v) A.1 (State.isArrayOf_alike hZ.alike A.2.1) A.2.2 e2 (by rw [e1]; simpa [AC] using hv) (g := mkF m pc Ls (.int j :: .ref (n0 + i) :: st)) rfl rfl hd _ ht) k
theorem w_iastore (X : Stand p l e R s m args below meth c T locs cells slots) (hx : p.tables.exec = Jvm.exec) (hZ : Z.Warmed39 s.vm) (N : Fr n0 locs) (P : HP n0 T.heap cs) {i : Nat} {kA : ClassId} {vs : List Value} (q : cs[i]? = some (AC kA vs)) (hk : IsA Z kA .int) (hd : decode c.code pc = .ok (.iastore, 1)) {j : Int32} {x : Int32} {jn : Nat} (hj : j.toInt = (jn : Int)) (hl : jn < vs.length) (hp : pc + 1 = pc')
    (k : ∀ (T' : State) (L' : List Loc), Fr n0 L' → Stand p l e R s m args below meth c T' L' cells slots → HP n0 T'.heap (cs.set i (AC kA (vs.set jn (.int x)))) → Wp p e s below C S Q T' (mkF m pc' Ls st)) : Wp p e s below C S Q T (mkF m pc Ls (.int x :: .int j :: .ref (n0 + i) :: st)) := by
  subst hp
  have A := P.arr q hk
  obtain ⟨e1, e2⟩ := own_idx hj (N := (AC kA vs).slots.size) (by simpa [AC] using hl)
  obtain ⟨T', h', X', eh, W, st1⟩ := stI X hx hZ rfl A e2 (g := mkF m pc Ls (.int x :: .int j :: .ref (n0 + i) :: st)) rfl rfl hd
  rw [e1] at X' W
  subst eh
  have P' := P.wr W q
  rw [AC.set] at P'
  exact Wp.via st1 (k T' _ (own_one N _ _) X' P')
theorem w_lastore (X : Stand p l e R s m args below meth c T locs cells slots) (hx : p.tables.exec = Jvm.exec) (hZ : Z.Warmed39 s.vm) (N : Fr n0 locs) (P : HP n0 T.heap cs) {i : Nat} {kA : ClassId} {vs : List Value} (q : cs[i]? = some (AC kA vs)) (hk : IsA Z kA .long) (hd : decode c.code pc = .ok (.lastore, 1)) {j : Int32} {x : Int64} {jn : Nat} (hj : j.toInt = (jn : Int)) (hl : jn < vs.length) (hp : pc + 1 = pc')
    (k : ∀ (T' : State) (L' : List Loc), Fr n0 L' → Stand p l e R s m args below meth c T' L' cells slots → HP n0 T'.heap (cs.set i (AC kA (vs.set jn (.long x)))) → Wp p e s below C S Q T' (mkF m pc' Ls st)) : Wp p e s below C S Q T (mkF m pc Ls (.long x :: .int j :: .ref (n0 + i) :: st)) := by
  subst hp
  have A := P.arr q hk
  obtain ⟨e1, e2⟩ := own_idx hj (N := (AC kA vs).slots.size) (by simpa [AC] using hl)
  obtain ⟨T', h', X', eh, W, st1⟩ := stJ X hx hZ rfl A e2 (g := mkF m pc Ls (.long x :: .int j :: .ref (n0 + i) :: st)) rfl rfl hd
  rw [e1] at X' W
  subst eh
  have P' := P.wr W q
  rw [AC.set] at P'
  exact Wp.via st1 (k T' _ (own_one N _ _) X' P')
theorem w_bastore (X : Stand p l e R s m args below meth c T locs cells slots) (hx : p.tables.exec = Jvm.exec) (hZ : Z.Warmed39 s.vm) (N : Fr n0 locs) (P : HP n0 T.heap cs) {i : Nat} {kA : ClassId} {vs : List Value} (q : cs[i]? = some (AC kA vs)) (hk : IsA Z kA .byte) (hd : decode c.code pc = .ok (.bastore, 1)) {j : Int32} {x : Int32} {jn : Nat} (hj : j.toInt = (jn : Int)) (hl : jn < vs.length) (hp : pc + 1 = pc')
    (k : ∀ (T' : State) (L' : List Loc), Fr n0 L' → Stand p l e R s m args below meth c T' L' cells slots → HP n0 T'.heap (cs.set i (AC kA (vs.set jn (.int (nar .byte x))))) → Wp p e s below C S Q T' (mkF m pc' Ls st)) : Wp p e s below C S Q T (mkF m pc Ls (.int x :: .int j :: .ref (n0 + i) :: st)) := by
  subst hp
  have A := P.arr q hk
  obtain ⟨e1, e2⟩ := own_idx hj (N := (AC kA vs).slots.size) (by simpa [AC] using hl)
  obtain ⟨T', h', X', eh, W, st1⟩ := stB X hx hZ rfl A e2 (g := mkF m pc Ls (.int x :: .int j :: .ref (n0 + i) :: st)) rfl rfl hd
  rw [e1] at X' W
  subst eh
  have P' := P.wr W q
  rw [AC.set] at P'
  exact Wp.via st1 (k T' _ (own_one N _ _) X' P')
theorem w_bastoreE (X : Stand p l e R s m args below meth c T locs cells slots) (hx : p.tables.exec = Jvm.exec) (hZ : Z.Warmed39 s.vm) (N : Fr n0 locs) (P : HP n0 T.heap cs) {i : Nat} {kA : ClassId} {vs : List Value} (q : cs[i]? = some (AC kA vs)) (hk : IsA Z kA .byte) (hd : decode c.code pc = .ok (.bastore, 1)) {j : Int32} {x z : Int32} {jn : Nat} (hz : nar .byte x = z) (hj : j.toInt = (jn : Int)) (hl : jn < vs.length) (hp : pc + 1 = pc')
    (k : ∀ (T' : State) (L' : List Loc), Fr n0 L' → Stand p l e R s m args below meth c T' L' cells slots → HP n0 T'.heap (cs.set i (AC kA (vs.set jn (.int z)))) → Wp p e s below C S Q T' (mkF m pc' Ls st)) : Wp p e s below C S Q T (mkF m pc Ls (.int x :: .int j :: .ref (n0 + i) :: st)) := by
  subst hp hz
  have A := P.arr q hk
  obtain ⟨e1, e2⟩ := own_idx hj (N := (AC kA vs).slots.size) (by simpa [AC] using hl)
  obtain ⟨T', h', X', eh, W, st1⟩ := stB X hx hZ rfl A e2 (g := mkF m pc Ls (.int x :: .int j :: .ref (n0 + i) :: st)) rfl rfl hd
  rw [e1] at X' W
  subst eh
  have P' := P.wr W q
  rw [AC.set] at P'
  exact Wp.via st1 (k T' _ (own_one N _ _) X' P')
theorem w_getf (X : Stand p l e R s m args below meth c T locs cells slots) (hx : p.tables.exec = Jvm.exec) (hZ : Z.Warmed39 s.vm) {own O n d : String} {idx : Nat} (hown : s.vm.findClass own = some m.cls) (w : (Jvm.Cond.fieldLink own idx O n d).before a0 Z = true) (P : HP n0 T.heap cs) {i : Nat} {cell : Cell} (q : cs[i]? = some cell) {fl : List (String × String)} {vs : List Value} (F : ObjF Z cell O fl vs) (j : Nat) (hf : fl[j]? = some (n, d)) {v : Value} (hv : vs[j]? = some v) (hd : decode c.code pc = .ok (.getfield idx, 3)) (hp : pc + 3 = pc')
    (k : ∀ (T' : State), Stand p l e R s m args below meth c T' locs cells slots → HP n0 T'.heap cs → Wp p e s below C S Q T' (mkF m pc' Ls (v :: st))) : Wp p e s below C S Q T (mkF m pc Ls (.ref (n0 + i) :: st)) := by
  subst hp
  obtain ⟨T', X', eh, st1⟩ := getF X hx hZ hown (host := "") (Or.inl w) Via.refl rfl (P.fld q (F.2.2 j n d v hf hv)) (g := mkF m pc Ls (.ref (n0 + i) :: st)) rfl rfl hd
  exact Wp.via st1 (k T' X' (by rw [eh]; exact P))
theorem w_putf (X : Stand p l e R s m args below meth c T locs cells slots) (hx : p.tables.exec = Jvm.exec) (hZ : Z.Warmed39 s.vm) {own O n d : String} {idx kk : Nat} {ty : FieldType} (hown : s.vm.findClass own = some m.cls) (w : (Jvm.Cond.fieldLink own idx O n d).before a0 Z = true) (N : Fr n0 locs) (P : HP n0 T.heap cs) {i : Nat} {cell : Cell} (q : cs[i]? = some cell) {fl : List (String × String)} {vs : List Value} (F : ObjF Z cell O fl vs) (D : Dis Z O fl) (j : Nat) (hf : fl[j]? = some (n, d))
    (L : (Jvm.Cond.lays O O n d).before a0 Z = true ∨ ((Jvm.Cond.laysFinal O O n d).before a0 Z = true ∧ own = O ∧ meth.name = "<init>")) (wi : (Jvm.Cond.instantiable O kk).before a0 Z = true) (hty : parseFieldDescriptor d = some ty) {v : Value} (hn : narrow ty v = v) (hfit : fits ty v = true) (hd : decode c.code pc = .ok (.putfield idx, 3)) (hp : pc + 3 = pc')
    (k : ∀ (T' : State) (L' : List Loc) (cell' : Cell), Fr n0 L' → Stand p l e R s m args below meth c T' L' cells slots → HP n0 T'.heap (cs.set i cell') → ObjF Z cell' O fl (vs.set j v) → Wp p e s below C S Q T' (mkF m pc' Ls st)) : Wp p e s below C S Q T (mkF m pc Ls (v :: .ref (n0 + i) :: st)) := by
  subst hp
  have hjl : j < vs.length := by rw [F.2.1]; exact (List.getElem?_eq_some_iff.mp hf).1
  obtain ⟨T', h', X', eh, W, st1⟩ := putF X hx hZ hown (host := "") (Or.inl w) Via.refl rfl (P.fld q (F.2.2 j n d _ hf (List.getElem?_eq_getElem hjl))) (P.exa q F.1) L wi hty hn hfit (g := mkF m pc Ls (v :: .ref (n0 + i) :: st)) rfl rfl hd
  subst eh
  exact Wp.via st1 (k T' _ _ (own_one N _ _) X' (P.wr W q) (F.set D hf v))
theorem w_new (X : Stand p l e R s m args below meth c T locs cells slots) (hx : p.tables.exec = Jvm.exec) (hZ : Z.Warmed39 s.vm) {own K : String} {idx n j : Nat} (hown : s.vm.findClass own = some m.cls) (w : (Jvm.Cond.classLink own idx K).before a0 Z = true) (wi : (Jvm.Cond.instantiable K n).before a0 Z = true) (wz : (Jvm.Cond.initialized K).before a0 Z = true) (P : HP n0 T.heap cs)
    (fl : List (String × String)) (vs : List Value) (hfl : vs.length = fl.length) (hlay : ∀ (j : Nat) (n d : String) (v : Value), fl[j]? = some (n, d) → vs[j]? = some v → Laid Z a0 K K n d ∧ ∃ ty, parseFieldDescriptor d = some ty ∧ defaultValue ty = v) (hd : decode c.code pc = .ok (.new idx, 3)) (hc : cells + 1 ≤ R.cells) (hl : slots + n ≤ R.slots) (hj : cs.length = j) (hp : pc + 3 = pc')
    (k : ∀ (T' : State) (cell' : Cell), Stand p l e R s m args below meth c T' locs (cells + 1) (slots + n) → HP n0 T'.heap (cs ++ [cell']) → ObjF Z cell' K fl vs → Wp p e s below C S Q T' (mkF m pc' Ls (.ref (n0 + j) :: st))) : Wp p e s below C S Q T (mkF m pc Ls st) := by
  subst hp hj
  obtain ⟨vm', cC, kC, h1, h2, h3, h4, X', st1⟩ := X.newCold hx hown (mv hZ w) (mv hZ wi) (mv hZ wz) (g := mkF m pc Ls st) rfl hd hc hl
  rw [hZ.alike.findClass] at h1
  obtain ⟨kZ, z1, -⟩ := Vm.findClass_spec h1
  obtain ⟨k', z2, z3⟩ := hZ.alike.2.2 _ _ z1
  cases h2.symm.trans z2
  have ei : kC.instanceTypes = kZ.instanceTypes := by rw [z3]
  rw [P.1] at st1
  refine Wp.via st1 (k _ _ X' (P.push _) ⟨⟨kZ, h1, z1, rfl, fun _ => by simp [ei]⟩, hfl, fun j n d v a b => ?_⟩)
  obtain ⟨L, ty, ht, hv⟩ := hlay j n d v a b
  obtain ⟨c1, k1, cf, kf, i, f, a1, a2, a3, a4, a5, a6, -⟩ := L.spec
  cases h1.symm.trans a1
  cases z1.symm.trans a2
  exact ⟨cf, kf, i, f, a3, a4, by simp, rfl, a5, by simp [ei, a6, (State.fieldFound?_type a3 ht).2, hv]⟩
theorem w_initO (X : Stand p l e R s m args below meth c T locs cells slots) (hx : p.tables.exec = Jvm.exec) (hZ : Z.Warmed39 s.vm) {own : String} {idx : Nat} (hown : s.vm.findClass own = some m.cls) (hml : Ls.size = c.maxLocals) (w1 : (Jvm.Cond.methodLink own idx Lib.objectInit).before a0 Z = true) (w2 : (Jvm.Cond.instanceMethod Lib.objectInit).before a0 Z = true)
    (w3 : (Jvm.Cond.code Lib.objectInit ⟨#[0xb1]⟩ 1 none).before a0 Z = true) (P : HP n0 T.heap cs) {a : Addr} (hd : decode c.code pc = .ok (.invokespecial idx, 3)) (hf : 1 ≤ R.frames) {W : Nat} (hW : (st.map fun v => v.category).sum ≤ W) (hl : W + 12 ≤ R.locals) (hp : pc + 3 = pc')
    (k : ∀ (T' : State), Stand p l e R s m args below meth c T' locs cells slots → HP n0 T'.heap cs → Wp p e s below C S Q T' (mkF m pc' Ls st)) : Wp p e s below C S Q T (mkF m pc Ls (.ref a :: st)) := by
  subst hp
  obtain ⟨T', X', eh, st1⟩ := initO X hx hZ hown w1 w2 w3 rfl (g := mkF m pc Ls (.ref a :: st)) rfl hml (rest := st) rfl hd hf (W := W) (by show 2 * 0 + _ ≤ _; omega) hl
  exact Wp.via st1 (k T' X' (by rw [eh]; exact P))
theorem own_callI (X : Stand p l e R s m args below meth c T locs cells slots) (hx : p.tables.exec = Jvm.exec) {h : Heap} (hZ : Z.Warmed39 s.vm) (eT : T.heap = h) {own : String} {i : Nat} {y : MethodName} {bytes : ByteArray} {maxL : Nat} {rm : Room} {W : Nat} {as' : Array Value} {Qc : Option Value → Heap → List Loc → Prop} (hy1 : y.name = "<init>")
    (hown : s.vm.findClass own = some m.cls) (hml : Ls.size = c.maxLocals) (w1 : (Jvm.Cond.methodLink own i y).before a0 Z = true) (w2 : (Jvm.Cond.instanceMethod y).before a0 Z = true) (w3 : (Jvm.Cond.initialized y.cls).before a0 Z = true) (w4 : (Jvm.Cond.code y bytes maxL none).before a0 Z = true)
    (hM : MetFree l y (head1 [Jvm.Cond.code y bytes maxL none] rm) (fun a U => a = as' ∧ Z.Warmed39 U.vm ∧ U.heap = h) (fun _ _ _ _ _ => True) (fun _ U o U' => ∃ v L, o = .returned v ∧ Qc v U'.heap L ∧ FrameEnd U o U' L rm.cells rm.slots))
    (hy : y.cls ≠ "java/lang/invoke/MethodHandle" ∧ y.cls ≠ "java/lang/invoke/VarHandle") (hf : rm.frames + 1 ≤ R.frames) (hl : W + (maxL + 11) + rm.locals ≤ R.locals) (hc : cells + rm.cells ≤ R.cells) (hsl : slots + rm.slots ≤ R.slots)
    {a : Addr} {argsL rest : List Value} {ps : List FieldType} {r : Option FieldType} (hpd : parseMethodDescriptor y.desc = some ⟨ps, r⟩) (hlen : argsL.length = ps.length) (has : (.ref a :: argsL).toArray = as') (hst : st = argsL.reverse ++ .ref a :: rest) (hW : (rest.map fun v => v.category).sum ≤ W) (hd : decode c.code pc = .ok (.invokespecial i, 3)) (hp : pc + 3 = pc')
    (k : ∀ (v : Option Value) (T' : State) (L : List Loc), Stand p l e R s m args below meth c T' (locs ++ L) (cells + rm.cells) (slots + rm.slots) → Qc v T'.heap L → Wp p e s below C S Q T' (mkF m pc' Ls (v.toList ++ rest))) : Wp p e s below C S Q T (mkF m pc Ls st) := by
  obtain ⟨v, _, ⟨T1, L1, k1, n1⟩, -, X1, ⟨Lc1, hQ1, l1, y1, z1⟩, st1⟩ := X.specialBack hx (y := y) hy1 hown (mvT hZ w1) (mvT hZ w2) (mvT hZ w4) hy (backOf (W := W) hM hZ w4 w3 hf hl) (g := mkF m pc Ls st) rfl hml (Steps.refl _) (a := a) (argsL := argsL) (rest := rest) (lenOf hpd hlen) hst (by show 2 * 0 + _ ≤ _; omega) hd (fun _ _ => ⟨has, eT, hc, hsl⟩)
  dsimp only [Pt.U, Pt.locs, Pt.cells, Pt.slots] at X1 l1 y1 z1 st1 hQ1
  subst l1 y1 z1
  subst hp
  exact Wp.via (fun _ h => st1.trans h) (k v T1 Lc1 X1 hQ1)
theorem own_callV (X : Stand p l e R s m args below meth c T locs cells slots) (hx : p.tables.exec = Jvm.exec) {h : Heap} (hZ : Z.Warmed39 s.vm) (eT : T.heap = h) {own K : String} {i : Nat} {y : MethodName} {bytes : ByteArray} {maxL : Nat} {ret : Option FieldType} {rm : Room} {W : Nat} {as' : Array Value} {Qc : Option Value → Heap → List Loc → Prop}
    (hown : s.vm.findClass own = some m.cls) (hml : Ls.size = c.maxLocals) (w1 : (Jvm.Cond.methodLink own i y).before a0 Z = true) (w2 : (Jvm.Cond.declares y).before a0 Z = true) (w5 : (Jvm.Cond.selects K y y).before a0 Z = true) (w6 : (Jvm.Cond.instanceMethod y).before a0 Z = true) (w3 : (Jvm.Cond.initialized y.cls).before a0 Z = true) (w4 : (Jvm.Cond.code y bytes maxL ret).before a0 Z = true)
    (hM : MetFree l y (head1 [Jvm.Cond.code y bytes maxL ret] rm) (fun a U => a = as' ∧ Z.Warmed39 U.vm ∧ U.heap = h) (fun _ _ _ _ _ => True) (fun _ U o U' => ∃ v L, o = .returned v ∧ Qc v U'.heap L ∧ FrameEnd U o U' L rm.cells rm.slots))
    {a : Addr} (E : Exa Z h a K) (hy : y.cls ≠ "java/lang/invoke/MethodHandle" ∧ y.cls ≠ "java/lang/invoke/VarHandle") (hf : rm.frames + 1 ≤ R.frames) (hl : W + (maxL + 11) + rm.locals ≤ R.locals) (hc : cells + rm.cells ≤ R.cells) (hsl : slots + rm.slots ≤ R.slots)
    {argsL rest : List Value} {ps : List FieldType} {r : Option FieldType} (hpd : parseMethodDescriptor y.desc = some ⟨ps, r⟩) (hlen : argsL.length = ps.length) (has : (.ref a :: argsL).toArray = as') (hst : st = argsL.reverse ++ .ref a :: rest) (hW : (rest.map fun v => v.category).sum ≤ W) (hd : decode c.code pc = .ok (.invokevirtual i, 3)) (hp : pc + 3 = pc')
    (k : ∀ (v : Option Value) (T' : State) (L : List Loc), Stand p l e R s m args below meth c T' (locs ++ L) (cells + rm.cells) (slots + rm.slots) → Qc v T'.heap L → Wp p e s below C S Q T' (mkF m pc' Ls (v.toList ++ rest))) : Wp p e s below C S Q T (mkF m pc Ls st) := by
  obtain ⟨cq, kq, qa, qb, qc⟩ := isOf hZ eT E
  obtain ⟨v, _, ⟨T1, L1, k1, n1⟩, -, X1, ⟨Lc1, hQ1, l1, y1, z1⟩, st1⟩ := X.virtualBack hx (y := y) (z := y) hown (mvT hZ w1) (mvT hZ w2) (notFace_of_selects (args := #[]) (mvT hZ w5)) (mvT hZ w5) (mvT hZ w6) hy (backOf (W := W) hM hZ w4 w3 hf hl) qa qc (g := mkF m pc Ls st) rfl hml (Steps.refl _) (argsL := argsL) (rest := rest) (lenOf hpd hlen) hst (by show 2 * 0 + _ ≤ _; omega) hd (fun _ _ => ⟨has, eT, hc, hsl⟩)
  dsimp only [Pt.U, Pt.locs, Pt.cells, Pt.slots] at X1 l1 y1 z1 st1 hQ1
  subst l1 y1 z1
  subst hp
  exact Wp.via (fun _ h => st1.trans h) (k v T1 Lc1 X1 hQ1)
theorem w_clone (X : Stand p l e R s m args below meth c T locs cells slots) (hx : p.tables.exec = Jvm.exec) (hZ : Z.Warmed39 s.vm) {own ad : String} {idx : Nat} (hown : s.vm.findClass own = some m.cls) (hml : Ls.size = c.maxLocals)
    (w1 : (Jvm.Cond.methodLink own idx ⟨ad, "clone", "()Ljava/lang/Object;"⟩).before a0 Z = true) (w2 : (Jvm.Cond.sameMethod ad "java/lang/Object" "clone" "()Ljava/lang/Object;").before a0 Z = true) (w3 : (Jvm.Cond.native ⟨"java/lang/Object", "clone", "()Ljava/lang/Object;"⟩).before a0 Z = true)
    (w4 : (Jvm.Cond.instanceMethod ⟨"java/lang/Object", "clone", "()Ljava/lang/Object;"⟩).before a0 Z = true) (w5 : (Jvm.Cond.selects ad ⟨ad, "clone", "()Ljava/lang/Object;"⟩ ⟨"java/lang/Object", "clone", "()Ljava/lang/Object;"⟩).before a0 Z = true) (w6 : (Jvm.Cond.castable ad "java/lang/Cloneable").before a0 Z = true)
    (P : HP n0 T.heap cs) {i : Nat} {kA : ClassId} {vs : List Value} {ty : FieldType} (q : cs[i]? = some (AC kA vs)) (hk : IsA Z kA ty) (had : "[" ++ ty.toString = ad) (hfit : ∀ v ∈ vs, fits ty v = true) (hd : decode c.code pc = .ok (.invokevirtual idx, 3)) (hf : 1 ≤ R.frames) {W N j : Nat} (hW : (st.map fun v => v.category).sum ≤ W) (hl : W + 14 ≤ R.locals) (hN : vs.length = N) (hc : cells + 1 ≤ R.cells) (hsl : slots + N ≤ R.slots) (hj : cs.length = j) (hp : pc + 3 = pc')
    (k : ∀ (T' : State), Stand p l e R s m args below meth c T' locs (cells + 1) (slots + N) → HP n0 T'.heap (cs ++ [AC kA vs]) → Wp p e s below C S Q T' (mkF m pc' Ls (.ref (n0 + j) :: st))) : Wp p e s below C S Q T (mkF m pc Ls (.ref (n0 + i) :: st)) := by
  subst hp hj hN
  have A := P.arr q hk
  have E := P.exaA q hk had
  have F : FitC Z (AC kA vs) := fitC_of A fun i hi v hv => hfit v (by simp [AC] at hv; exact List.mem_of_getElem? hv)
  obtain ⟨c1, cC, g1, g2, g3⟩ := Cond.castable_spec w6
  have e2 : Z.vm.findClass ad = some (AC kA vs).cls := by rw [← had]; exact hk.2
  cases e2.symm.trans g1
  have hal : Z.vm.Alike T.vm := hZ.alike.trans X.warmed.alike
  obtain ⟨vm', X', st1⟩ := X.cloneArray hx hown (mv hZ w1) (mv hZ w2) (mv hZ w3) (mv hZ w4) (mv hZ w5) (a := n0 + i) A.1 A.2.1.1 A.2.2 (by rw [hZ.alike.findClass]; exact e2) (by rw [hZ.alike.findClass]; exact g2) (by rw [hZ.alike.assignable]; exact g3)
    (fun i v hv => by have q := F i v hv; rw [← State.fitsSlot_setVm hal] at q; exact q) (g := mkF m pc Ls (.ref (n0 + i) :: st)) rfl hml rfl hd hf (by show 2 * 0 + _ + 14 ≤ _; omega) hc (by simpa [AC] using hsl)
    (by obtain ⟨-, k2, hk2, comp, hkind⟩ := A.2.1; rw [hZ.alike.clonesLoader]; exact Vm.clonesLoader_of_array hk2 hkind)
  rw [P.1] at st1
  have es : (AC kA vs).slots.size = vs.length := by simp [AC]
  rw [es] at X'
  exact Wp.via st1 (k _ X' (P.push _))
theorem w_ccastA (X : Stand p l e R s m args below meth c T locs cells slots) (hx : p.tables.exec = Jvm.exec) (hZ : Z.Warmed39 s.vm) {own ad : String} {idx : Nat} (hown : s.vm.findClass own = some m.cls) (w : (Jvm.Cond.classLink own idx ad).before a0 Z = true) (P : HP n0 T.heap cs) {i : Nat} {kA : ClassId} {vs : List Value} {ty : FieldType} (q : cs[i]? = some (AC kA vs)) (hk : IsA Z kA ty) (had : "[" ++ ty.toString = ad) (hd : decode c.code pc = .ok (.checkcast idx, 3)) (hp : pc + 3 = pc')
    (k : ∀ (T' : State), Stand p l e R s m args below meth c T' locs cells slots → HP n0 T'.heap cs → Wp p e s below C S Q T' (mkF m pc' Ls (.ref (n0 + i) :: st))) : Wp p e s below C S Q T (mkF m pc Ls (.ref (n0 + i) :: st)) := by
  subst hp
  obtain ⟨T', X', eh, st1⟩ := castY X hx hZ hown w rfl (Ins.self (P.exaA q hk had)) (g := mkF m pc Ls (.ref (n0 + i) :: st)) rfl rfl hd
  exact Wp.via st1 (k T' X' (by rw [eh]; exact P))
theorem w_ialoadL (X : Stand p l e R s m args below meth c T locs cells slots) (hx : p.tables.exec = Jvm.exec) (hZ : Z.Warmed39 s.vm) (P : HP n0 T.heap cs) {i : Nat} {kA : ClassId} {ll : List Int32} (q : cs[i]? = some (AC kA (List.map Value.int ll))) (hk : IsA Z kA .int) (hd : decode c.code pc = .ok (.iaload, 1)) {j : Int32} {jn : Nat} (hj : j.toInt = (jn : Int)) (hl : jn < ll.length) (hp : pc + 1 = pc')
    (k : Wp p e s below C S Q T (mkF m pc' Ls (.int (ll.getD jn 0) :: st))) : Wp p e s below C S Q T (mkF m pc Ls (.int j :: .ref (n0 + i) :: st)) :=
  w_iaload X hx hZ P q hk hd hj (own_get hl) hp k
theorem w_laloadL (X : Stand p l e R s m args below meth c T locs cells slots) (hx : p.tables.exec = Jvm.exec) (hZ : Z.Warmed39 s.vm) (P : HP n0 T.heap cs) {i : Nat} {kA : ClassId} {ll : List Int64} (q : cs[i]? = some (AC kA (List.map Value.long ll))) (hk : IsA Z kA .long) (hd : decode c.code pc = .ok (.laload, 1)) {j : Int32} {jn : Nat} (hj : j.toInt = (jn : Int)) (hl : jn < ll.length) (hp : pc + 1 = pc')
    (k : Wp p e s below C S Q T (mkF m pc' Ls (.long (ll.getD jn 0) :: st))) : Wp p e s below C S Q T (mkF m pc Ls (.int j :: .ref (n0 + i) :: st)) :=
  w_laload X hx hZ P q hk hd hj (own_get hl) hp k
theorem w_baloadL (X : Stand p l e R s m args below meth c T locs cells slots) (hx : p.tables.exec = Jvm.exec) (hZ : Z.Warmed39 s.vm) (P : HP n0 T.heap cs) {i : Nat} {kA : ClassId} {ll : List Int32} (q : cs[i]? = some (AC kA (List.map Value.int ll))) (hk : IsA Z kA .byte) (hd : decode c.code pc = .ok (.baload, 1)) {j : Int32} {jn : Nat} (hj : j.toInt = (jn : Int)) (hl : jn < ll.length) (hp : pc + 1 = pc')
    (k : Wp p e s below C S Q T (mkF m pc' Ls (.int (ll.getD jn 0) :: st))) : Wp p e s below C S Q T (mkF m pc Ls (.int j :: .ref (n0 + i) :: st)) :=
  w_baload X hx hZ P q hk hd hj (own_get hl) hp k
theorem w_iastoreL (X : Stand p l e R s m args below meth c T locs cells slots) (hx : p.tables.exec = Jvm.exec) (hZ : Z.Warmed39 s.vm) (N : Fr n0 locs) (P : HP n0 T.heap cs) {i : Nat} {kA : ClassId} {ll : List Int32} (q : cs[i]? = some (AC kA (List.map Value.int ll))) (hk : IsA Z kA .int) (hd : decode c.code pc = .ok (.iastore, 1)) {j : Int32} {x : Int32} {jn : Nat} (hj : j.toInt = (jn : Int)) (hl : jn < ll.length) (hp : pc + 1 = pc')
    (k : ∀ (T' : State) (L' : List Loc), Fr n0 L' → Stand p l e R s m args below meth c T' L' cells slots → HP n0 T'.heap (cs.set i (AC kA (List.map Value.int (ll.set jn x)))) → Wp p e s below C S Q T' (mkF m pc' Ls st)) : Wp p e s below C S Q T (mkF m pc Ls (.int x :: .int j :: .ref (n0 + i) :: st)) :=
  w_iastore X hx hZ N P q hk hd hj (by simpa using hl) hp (fun T' L' N' X' P' => k T' L' N' X' (by rw [List.map_set]; exact P'))
theorem w_lastoreL (X : Stand p l e R s m args below meth c T locs cells slots) (hx : p.tables.exec = Jvm.exec) (hZ : Z.Warmed39 s.vm) (N : Fr n0 locs) (P : HP n0 T.heap cs) {i : Nat} {kA : ClassId} {ll : List Int64} (q : cs[i]? = some (AC kA (List.map Value.long ll))) (hk : IsA Z kA .long) (hd : decode c.code pc = .ok (.lastore, 1)) {j : Int32} {x : Int64} {jn : Nat} (hj : j.toInt = (jn : Int)) (hl : jn < ll.length) (hp : pc + 1 = pc')
    (k : ∀ (T' : State) (L' : List Loc), Fr n0 L' → Stand p l e R s m args below meth c T' L' cells slots → HP n0 T'.heap (cs.set i (AC kA (List.map Value.long (ll.set jn x)))) → Wp p e s below C S Q T' (mkF m pc' Ls st)) : Wp p e s below C S Q T (mkF m pc Ls (.long x :: .int j :: .ref (n0 + i) :: st)) :=
  w_lastore X hx hZ N P q hk hd hj (by simpa using hl) hp (fun T' L' N' X' P' => k T' L' N' X' (by rw [List.map_set]; exact P'))
theorem w_bastoreEL (X : Stand p l e R s m args below meth c T locs cells slots) (hx : p.tables.exec = Jvm.exec) (hZ : Z.Warmed39 s.vm) (N : Fr n0 locs) (P : HP n0 T.heap cs) {i : Nat} {kA : ClassId} {ll : List Int32} (q : cs[i]? = some (AC kA (List.map Value.int ll))) (hk : IsA Z kA .byte) (hd : decode c.code pc = .ok (.bastore, 1)) {j : Int32} {x : Int32} {z : Int32} (hz : nar .byte x = z) {jn : Nat} (hj : j.toInt = (jn : Int)) (hl : jn < ll.length) (hp : pc + 1 = pc')
    (k : ∀ (T' : State) (L' : List Loc), Fr n0 L' → Stand p l e R s m args below meth c T' L' cells slots → HP n0 T'.heap (cs.set i (AC kA (List.map Value.int (ll.set jn z)))) → Wp p e s below C S Q T' (mkF m pc' Ls st)) : Wp p e s below C S Q T (mkF m pc Ls (.int x :: .int j :: .ref (n0 + i) :: st)) :=
  w_bastoreE X hx hZ N P q hk hd hz hj (by simpa using hl) hp (fun T' L' N' X' P' => k T' L' N' X' (by rw [List.map_set]; exact P'))
end OwnH
/-! small numbers -/
theorem own_small {x : Int32} {n : Nat} (h0 : 0 ≤ x.toInt) (h1 : x.toInt < n) (hn : n ≤ 2147483648) : ∃ k : Nat, k < n ∧ x = Int32.ofNat k := by
  refine ⟨x.toInt.toNat, by omega, Int32.toInt_inj.mp ?_⟩
  rw [Int32.toInt_ofNat_of_lt (by omega)]
  omega
theorem own_mask (a : Int32) : 0 ≤ (a &&& 2147483647).toInt ∧ (a &&& 2147483647).toInt < 2147483648 := by
  have h := c_mask a 2147483647 31 (by decide) (by decide)
  omega
theorem own_rem (a d : Int32) (D : Nat) (hd : d.toInt = (D : Int)) (h0 : 0 < D) : ∃ k : Nat, k < D ∧ (a &&& 2147483647) % d = Int32.ofNat k := by
  have h := own_mask a
  have h2 := (c_irem (a &&& 2147483647) d D hd).1 h.1
  have h3 := Int.emod_nonneg (a &&& 2147483647).toInt (b := (D : Int)) (by omega)
  have h4 := Int.emod_lt_of_pos (a &&& 2147483647).toInt (b := (D : Int)) (by omega)
  have h5 := d.toInt_lt
  exact own_small (by omega) (by omega) (by omega)
theorem own_remP (y d : Int32) (D : Nat) (h0 : 0 ≤ y.toInt) (hd : d.toInt = (D : Int)) (h1 : 0 < D) : ∃ k : Nat, k < D ∧ y % d = Int32.ofNat k := by
  have h2 := (c_irem y d D hd).1 h0
  have h3 := Int.emod_nonneg y.toInt (b := (D : Int)) (by omega)
  have h4 := Int.emod_lt_of_pos y.toInt (b := (D : Int)) (by omega)
  have h5 := d.toInt_lt
  exact own_small (by omega) (by omega) (by omega)
theorem own_andk (a m : Int32) (M : Nat) (hm : m.toInt = (M : Int)) : ∃ k : Nat, k < M + 1 ∧ a &&& m = Int32.ofNat k := by
  have h := c_and a m (by omega)
  have h5 := m.toInt_lt
  exact own_small h.1 (by omega) (by omega)
theorem own_c1 {x : Int32} (h : ∃ k : Nat, k < 1 ∧ x = Int32.ofNat k) : x = 0 := by
  obtain ⟨k, hk, e⟩ := h
  obtain rfl : k = 0 := by omega
  exact e
theorem own_c2 {x : Int32} (h : ∃ k : Nat, k < 2 ∧ x = Int32.ofNat k) : x = 0 ∨ x = 1 := by
  obtain ⟨k, hk, e⟩ := h
  have q : k = 0 ∨ k = 1 := by omega
  rcases q with rfl | rfl
  · exact Or.inl e
  · exact Or.inr (e)
theorem own_c3 {x : Int32} (h : ∃ k : Nat, k < 3 ∧ x = Int32.ofNat k) : x = 0 ∨ x = 1 ∨ x = 2 := by
  obtain ⟨k, hk, e⟩ := h
  have q : k = 0 ∨ k = 1 ∨ k = 2 := by omega
  rcases q with rfl | rfl | rfl
  · exact Or.inl e
  · exact Or.inr (Or.inl e)
  · exact Or.inr (Or.inr (e))
theorem own_c4 {x : Int32} (h : ∃ k : Nat, k < 4 ∧ x = Int32.ofNat k) : x = 0 ∨ x = 1 ∨ x = 2 ∨ x = 3 := by
  obtain ⟨k, hk, e⟩ := h
  have q : k = 0 ∨ k = 1 ∨ k = 2 ∨ k = 3 := by omega
  rcases q with rfl | rfl | rfl | rfl
  · exact Or.inl e
  · exact Or.inr (Or.inl e)
  · exact Or.inr (Or.inr (Or.inl e))
  · exact Or.inr (Or.inr (Or.inr (e)))
theorem own_c5 {x : Int32} (h : ∃ k : Nat, k < 5 ∧ x = Int32.ofNat k) : x = 0 ∨ x = 1 ∨ x = 2 ∨ x = 3 ∨ x = 4 := by
  obtain ⟨k, hk, e⟩ := h
  have q : k = 0 ∨ k = 1 ∨ k = 2 ∨ k = 3 ∨ k = 4 := by omega
  rcases q with rfl | rfl | rfl | rfl | rfl
  · exact Or.inl e
  · exact Or.inr (Or.inl e)
  · exact Or.inr (Or.inr (Or.inl e))
  · exact Or.inr (Or.inr (Or.inr (Or.inl e)))
  · exact Or.inr (Or.inr (Or.inr (Or.inr (e))))
theorem own_c6 {x : Int32} (h : ∃ k : Nat, k < 6 ∧ x = Int32.ofNat k) : x = 0 ∨ x = 1 ∨ x = 2 ∨ x = 3 ∨ x = 4 ∨ x = 5 := by
  obtain ⟨k, hk, e⟩ := h
  have q : k = 0 ∨ k = 1 ∨ k = 2 ∨ k = 3 ∨ k = 4 ∨ k = 5 := by omega
  rcases q with rfl | rfl | rfl | rfl | rfl | rfl
  · exact Or.inl e
  · exact Or.inr (Or.inl e)
  · exact Or.inr (Or.inr (Or.inl e))
  · exact Or.inr (Or.inr (Or.inr (Or.inl e)))
  · exact Or.inr (Or.inr (Or.inr (Or.inr (Or.inl e))))
  · exact Or.inr (Or.inr (Or.inr (Or.inr (Or.inr (e)))))
theorem own_c7 {x : Int32} (h : ∃ k : Nat, k < 7 ∧ x = Int32.ofNat k) : x = 0 ∨ x = 1 ∨ x = 2 ∨ x = 3 ∨ x = 4 ∨ x = 5 ∨ x = 6 := by
  obtain ⟨k, hk, e⟩ := h
  have q : k = 0 ∨ k = 1 ∨ k = 2 ∨ k = 3 ∨ k = 4 ∨ k = 5 ∨ k = 6 := by omega
  rcases q with rfl | rfl | rfl | rfl | rfl | rfl | rfl
  · exact Or.inl e
  · exact Or.inr (Or.inl e)
  · exact Or.inr (Or.inr (Or.inl e))
  · exact Or.inr (Or.inr (Or.inr (Or.inl e)))
  · exact Or.inr (Or.inr (Or.inr (Or.inr (Or.inl e))))
  · exact Or.inr (Or.inr (Or.inr (Or.inr (Or.inr (Or.inl e)))))
  · exact Or.inr (Or.inr (Or.inr (Or.inr (Or.inr (Or.inr (e))))))
theorem own_c8 {x : Int32} (h : ∃ k : Nat, k < 8 ∧ x = Int32.ofNat k) : x = 0 ∨ x = 1 ∨ x = 2 ∨ x = 3 ∨ x = 4 ∨ x = 5 ∨ x = 6 ∨ x = 7 := by
  obtain ⟨k, hk, e⟩ := h
  have q : k = 0 ∨ k = 1 ∨ k = 2 ∨ k = 3 ∨ k = 4 ∨ k = 5 ∨ k = 6 ∨ k = 7 := by omega
  rcases q with rfl | rfl | rfl | rfl | rfl | rfl | rfl | rfl
  · exact Or.inl e
  · exact Or.inr (Or.inl e)
  · exact Or.inr (Or.inr (Or.inl e))
  · exact Or.inr (Or.inr (Or.inr (Or.inl e)))
  · exact Or.inr (Or.inr (Or.inr (Or.inr (Or.inl e))))
  · exact Or.inr (Or.inr (Or.inr (Or.inr (Or.inr (Or.inl e)))))
  · exact Or.inr (Or.inr (Or.inr (Or.inr (Or.inr (Or.inr (Or.inl e))))))
  · exact Or.inr (Or.inr (Or.inr (Or.inr (Or.inr (Or.inr (Or.inr (e)))))))
theorem own_c9 {x : Int32} (h : ∃ k : Nat, k < 9 ∧ x = Int32.ofNat k) : x = 0 ∨ x = 1 ∨ x = 2 ∨ x = 3 ∨ x = 4 ∨ x = 5 ∨ x = 6 ∨ x = 7 ∨ x = 8 := by
  obtain ⟨k, hk, e⟩ := h
  have q : k = 0 ∨ k = 1 ∨ k = 2 ∨ k = 3 ∨ k = 4 ∨ k = 5 ∨ k = 6 ∨ k = 7 ∨ k = 8 := by omega
  rcases q with rfl | rfl | rfl | rfl | rfl | rfl | rfl | rfl | rfl
  · exact Or.inl e
  · exact Or.inr (Or.inl e)
  · exact Or.inr (Or.inr (Or.inl e))
  · exact Or.inr (Or.inr (Or.inr (Or.inl e)))
  · exact Or.inr (Or.inr (Or.inr (Or.inr (Or.inl e))))
  · exact Or.inr (Or.inr (Or.inr (Or.inr (Or.inr (Or.inl e)))))
  · exact Or.inr (Or.inr (Or.inr (Or.inr (Or.inr (Or.inr (Or.inl e))))))
  · exact Or.inr (Or.inr (Or.inr (Or.inr (Or.inr (Or.inr (Or.inr (Or.inl e)))))))
  · exact Or.inr (Or.inr (Or.inr (Or.inr (Or.inr (Or.inr (Or.inr (Or.inr (e))))))))
theorem own_c10 {x : Int32} (h : ∃ k : Nat, k < 10 ∧ x = Int32.ofNat k) : x = 0 ∨ x = 1 ∨ x = 2 ∨ x = 3 ∨ x = 4 ∨ x = 5 ∨ x = 6 ∨ x = 7 ∨ x = 8 ∨ x = 9 := by
  obtain ⟨k, hk, e⟩ := h
  have q : k = 0 ∨ k = 1 ∨ k = 2 ∨ k = 3 ∨ k = 4 ∨ k = 5 ∨ k = 6 ∨ k = 7 ∨ k = 8 ∨ k = 9 := by omega
  rcases q with rfl | rfl | rfl | rfl | rfl | rfl | rfl | rfl | rfl | rfl
  · exact Or.inl e
  · exact Or.inr (Or.inl e)
  · exact Or.inr (Or.inr (Or.inl e))
  · exact Or.inr (Or.inr (Or.inr (Or.inl e)))
  · exact Or.inr (Or.inr (Or.inr (Or.inr (Or.inl e))))
  · exact Or.inr (Or.inr (Or.inr (Or.inr (Or.inr (Or.inl e)))))
  · exact Or.inr (Or.inr (Or.inr (Or.inr (Or.inr (Or.inr (Or.inl e))))))
  · exact Or.inr (Or.inr (Or.inr (Or.inr (Or.inr (Or.inr (Or.inr (Or.inl e)))))))
  · exact Or.inr (Or.inr (Or.inr (Or.inr (Or.inr (Or.inr (Or.inr (Or.inr (Or.inl e))))))))
  · exact Or.inr (Or.inr (Or.inr (Or.inr (Or.inr (Or.inr (Or.inr (Or.inr (Or.inr (e)))))))))
theorem own_c11 {x : Int32} (h : ∃ k : Nat, k < 11 ∧ x = Int32.ofNat k) : x = 0 ∨ x = 1 ∨ x = 2 ∨ x = 3 ∨ x = 4 ∨ x = 5 ∨ x = 6 ∨ x = 7 ∨ x = 8 ∨ x = 9 ∨ x = 10 := by
  obtain ⟨k, hk, e⟩ := h
  have q : k = 0 ∨ k = 1 ∨ k = 2 ∨ k = 3 ∨ k = 4 ∨ k = 5 ∨ k = 6 ∨ k = 7 ∨ k = 8 ∨ k = 9 ∨ k = 10 := by omega
  rcases q with rfl | rfl | rfl | rfl | rfl | rfl | rfl | rfl | rfl | rfl | rfl
  · exact Or.inl e
  · exact Or.inr (Or.inl e)
  · exact Or.inr (Or.inr (Or.inl e))
  · exact Or.inr (Or.inr (Or.inr (Or.inl e)))
  · exact Or.inr (Or.inr (Or.inr (Or.inr (Or.inl e))))
  · exact Or.inr (Or.inr (Or.inr (Or.inr (Or.inr (Or.inl e)))))
  · exact Or.inr (Or.inr (Or.inr (Or.inr (Or.inr (Or.inr (Or.inl e))))))
  · exact Or.inr (Or.inr (Or.inr (Or.inr (Or.inr (Or.inr (Or.inr (Or.inl e)))))))
  · exact Or.inr (Or.inr (Or.inr (Or.inr (Or.inr (Or.inr (Or.inr (Or.inr (Or.inl e))))))))
  · exact Or.inr (Or.inr (Or.inr (Or.inr (Or.inr (Or.inr (Or.inr (Or.inr (Or.inr (Or.inl e)))))))))
  · exact Or.inr (Or.inr (Or.inr (Or.inr (Or.inr (Or.inr (Or.inr (Or.inr (Or.inr (Or.inr (e))))))))))
theorem own_c12 {x : Int32} (h : ∃ k : Nat, k < 12 ∧ x = Int32.ofNat k) : x = 0 ∨ x = 1 ∨ x = 2 ∨ x = 3 ∨ x = 4 ∨ x = 5 ∨ x = 6 ∨ x = 7 ∨ x = 8 ∨ x = 9 ∨ x = 10 ∨ x = 11 := by
  obtain ⟨k, hk, e⟩ := h
  have q : k = 0 ∨ k = 1 ∨ k = 2 ∨ k = 3 ∨ k = 4 ∨ k = 5 ∨ k = 6 ∨ k = 7 ∨ k = 8 ∨ k = 9 ∨ k = 10 ∨ k = 11 := by omega
  rcases q with rfl | rfl | rfl | rfl | rfl | rfl | rfl | rfl | rfl | rfl | rfl | rfl
  · exact Or.inl e
  · exact Or.inr (Or.inl e)
  · exact Or.inr (Or.inr (Or.inl e))
  · exact Or.inr (Or.inr (Or.inr (Or.inl e)))
  · exact Or.inr (Or.inr (Or.inr (Or.inr (Or.inl e))))
  · exact Or.inr (Or.inr (Or.inr (Or.inr (Or.inr (Or.inl e)))))
  · exact Or.inr (Or.inr (Or.inr (Or.inr (Or.inr (Or.inr (Or.inl e))))))
  · exact Or.inr (Or.inr (Or.inr (Or.inr (Or.inr (Or.inr (Or.inr (Or.inl e)))))))
  · exact Or.inr (Or.inr (Or.inr (Or.inr (Or.inr (Or.inr (Or.inr (Or.inr (Or.inl e))))))))
  · exact Or.inr (Or.inr (Or.inr (Or.inr (Or.inr (Or.inr (Or.inr (Or.inr (Or.inr (Or.inl e)))))))))
  · exact Or.inr (Or.inr (Or.inr (Or.inr (Or.inr (Or.inr (Or.inr (Or.inr (Or.inr (Or.inr (Or.inl e))))))))))
  · exact Or.inr (Or.inr (Or.inr (Or.inr (Or.inr (Or.inr (Or.inr (Or.inr (Or.inr (Or.inr (Or.inr (e)))))))))))
theorem own_c13 {x : Int32} (h : ∃ k : Nat, k < 13 ∧ x = Int32.ofNat k) : x = 0 ∨ x = 1 ∨ x = 2 ∨ x = 3 ∨ x = 4 ∨ x = 5 ∨ x = 6 ∨ x = 7 ∨ x = 8 ∨ x = 9 ∨ x = 10 ∨ x = 11 ∨ x = 12 := by
  obtain ⟨k, hk, e⟩ := h
  have q : k = 0 ∨ k = 1 ∨ k = 2 ∨ k = 3 ∨ k = 4 ∨ k = 5 ∨ k = 6 ∨ k = 7 ∨ k = 8 ∨ k = 9 ∨ k = 10 ∨ k = 11 ∨ k = 12 := by omega
  rcases q with rfl | rfl | rfl | rfl | rfl | rfl | rfl | rfl | rfl | rfl | rfl | rfl | rfl
  · exact Or.inl e
  · exact Or.inr (Or.inl e)
  · exact Or.inr (Or.inr (Or.inl e))
  · exact Or.inr (Or.inr (Or.inr (Or.inl e)))
  · exact Or.inr (Or.inr (Or.inr (Or.inr (Or.inl e))))
  · exact Or.inr (Or.inr (Or.inr (Or.inr (Or.inr (Or.inl e)))))
  · exact Or.inr (Or.inr (Or.inr (Or.inr (Or.inr (Or.inr (Or.inl e))))))
  · exact Or.inr (Or.inr (Or.inr (Or.inr (Or.inr (Or.inr (Or.inr (Or.inl e)))))))
  · exact Or.inr (Or.inr (Or.inr (Or.inr (Or.inr (Or.inr (Or.inr (Or.inr (Or.inl e))))))))
  · exact Or.inr (Or.inr (Or.inr (Or.inr (Or.inr (Or.inr (Or.inr (Or.inr (Or.inr (Or.inl e)))))))))
  · exact Or.inr (Or.inr (Or.inr (Or.inr (Or.inr (Or.inr (Or.inr (Or.inr (Or.inr (Or.inr (Or.inl e))))))))))
  · exact Or.inr (Or.inr (Or.inr (Or.inr (Or.inr (Or.inr (Or.inr (Or.inr (Or.inr (Or.inr (Or.inr (Or.inl e)))))))))))
  · exact Or.inr (Or.inr (Or.inr (Or.inr (Or.inr (Or.inr (Or.inr (Or.inr (Or.inr (Or.inr (Or.inr (Or.inr (e))))))))))))
theorem own_c14 {x : Int32} (h : ∃ k : Nat, k < 14 ∧ x = Int32.ofNat k) : x = 0 ∨ x = 1 ∨ x = 2 ∨ x = 3 ∨ x = 4 ∨ x = 5 ∨ x = 6 ∨ x = 7 ∨ x = 8 ∨ x = 9 ∨ x = 10 ∨ x = 11 ∨ x = 12 ∨ x = 13 := by
  obtain ⟨k, hk, e⟩ := h
  have q : k = 0 ∨ k = 1 ∨ k = 2 ∨ k = 3 ∨ k = 4 ∨ k = 5 ∨ k = 6 ∨ k = 7 ∨ k = 8 ∨ k = 9 ∨ k = 10 ∨ k = 11 ∨ k = 12 ∨ k = 13 := by omega
  rcases q with rfl | rfl | rfl | rfl | rfl | rfl | rfl | rfl | rfl | rfl | rfl | rfl | rfl | rfl
  · exact Or.inl e
  · exact Or.inr (Or.inl e)
  · exact Or.inr (Or.inr (Or.inl e))
  · exact Or.inr (Or.inr (Or.inr (Or.inl e)))
  · exact Or.inr (Or.inr (Or.inr (Or.inr (Or.inl e))))
  · exact Or.inr (Or.inr (Or.inr (Or.inr (Or.inr (Or.inl e)))))
  · exact Or.inr (Or.inr (Or.inr (Or.inr (Or.inr (Or.inr (Or.inl e))))))
  · exact Or.inr (Or.inr (Or.inr (Or.inr (Or.inr (Or.inr (Or.inr (Or.inl e)))))))
  · exact Or.inr (Or.inr (Or.inr (Or.inr (Or.inr (Or.inr (Or.inr (Or.inr (Or.inl e))))))))
  · exact Or.inr (Or.inr (Or.inr (Or.inr (Or.inr (Or.inr (Or.inr (Or.inr (Or.inr (Or.inl e)))))))))
  · exact Or.inr (Or.inr (Or.inr (Or.inr (Or.inr (Or.inr (Or.inr (Or.inr (Or.inr (Or.inr (Or.inl e))))))))))
  · exact Or.inr (Or.inr (Or.inr (Or.inr (Or.inr (Or.inr (Or.inr (Or.inr (Or.inr (Or.inr (Or.inr (Or.inl e)))))))))))
  · exact Or.inr (Or.inr (Or.inr (Or.inr (Or.inr (Or.inr (Or.inr (Or.inr (Or.inr (Or.inr (Or.inr (Or.inr (Or.inl e))))))))))))
  · exact Or.inr (Or.inr (Or.inr (Or.inr (Or.inr (Or.inr (Or.inr (Or.inr (Or.inr (Or.inr (Or.inr (Or.inr (Or.inr (e)))))))))))))
theorem own_c15 {x : Int32} (h : ∃ k : Nat, k < 15 ∧ x = Int32.ofNat k) : x = 0 ∨ x = 1 ∨ x = 2 ∨ x = 3 ∨ x = 4 ∨ x = 5 ∨ x = 6 ∨ x = 7 ∨ x = 8 ∨ x = 9 ∨ x = 10 ∨ x = 11 ∨ x = 12 ∨ x = 13 ∨ x = 14 := by
  obtain ⟨k, hk, e⟩ := h
  have q : k = 0 ∨ k = 1 ∨ k = 2 ∨ k = 3 ∨ k = 4 ∨ k = 5 ∨ k = 6 ∨ k = 7 ∨ k = 8 ∨ k = 9 ∨ k = 10 ∨ k = 11 ∨ k = 12 ∨ k = 13 ∨ k = 14 := by omega
  rcases q with rfl | rfl | rfl | rfl | rfl | rfl | rfl | rfl | rfl | rfl | rfl | rfl | rfl | rfl | rfl
  · exact Or.inl e
  · exact Or.inr (Or.inl e)
  · exact Or.inr (Or.inr (Or.inl e))
  · exact Or.inr (Or.inr (Or.inr (Or.inl e)))
  · exact Or.inr (Or.inr (Or.inr (Or.inr (Or.inl e))))
  · exact Or.inr (Or.inr (Or.inr (Or.inr (Or.inr (Or.inl e)))))
  · exact Or.inr (Or.inr (Or.inr (Or.inr (Or.inr (Or.inr (Or.inl e))))))
  · exact Or.inr (Or.inr (Or.inr (Or.inr (Or.inr (Or.inr (Or.inr (Or.inl e)))))))
  · exact Or.inr (Or.inr (Or.inr (Or.inr (Or.inr (Or.inr (Or.inr (Or.inr (Or.inl e))))))))
  · exact Or.inr (Or.inr (Or.inr (Or.inr (Or.inr (Or.inr (Or.inr (Or.inr (Or.inr (Or.inl e)))))))))
  · exact Or.inr (Or.inr (Or.inr (Or.inr (Or.inr (Or.inr (Or.inr (Or.inr (Or.inr (Or.inr (Or.inl e))))))))))
  · exact Or.inr (Or.inr (Or.inr (Or.inr (Or.inr (Or.inr (Or.inr (Or.inr (Or.inr (Or.inr (Or.inr (Or.inl e)))))))))))
  · exact Or.inr (Or.inr (Or.inr (Or.inr (Or.inr (Or.inr (Or.inr (Or.inr (Or.inr (Or.inr (Or.inr (Or.inr (Or.inl e))))))))))))
  · exact Or.inr (Or.inr (Or.inr (Or.inr (Or.inr (Or.inr (Or.inr (Or.inr (Or.inr (Or.inr (Or.inr (Or.inr (Or.inr (Or.inl e)))))))))))))
  · exact Or.inr (Or.inr (Or.inr (Or.inr (Or.inr (Or.inr (Or.inr (Or.inr (Or.inr (Or.inr (Or.inr (Or.inr (Or.inr (Or.inr (e))))))))))))))
theorem own_c16 {x : Int32} (h : ∃ k : Nat, k < 16 ∧ x = Int32.ofNat k) : x = 0 ∨ x = 1 ∨ x = 2 ∨ x = 3 ∨ x = 4 ∨ x = 5 ∨ x = 6 ∨ x = 7 ∨ x = 8 ∨ x = 9 ∨ x = 10 ∨ x = 11 ∨ x = 12 ∨ x = 13 ∨ x = 14 ∨ x = 15 := by
  obtain ⟨k, hk, e⟩ := h
  have q : k = 0 ∨ k = 1 ∨ k = 2 ∨ k = 3 ∨ k = 4 ∨ k = 5 ∨ k = 6 ∨ k = 7 ∨ k = 8 ∨ k = 9 ∨ k = 10 ∨ k = 11 ∨ k = 12 ∨ k = 13 ∨ k = 14 ∨ k = 15 := by omega
  rcases q with rfl | rfl | rfl | rfl | rfl | rfl | rfl | rfl | rfl | rfl | rfl | rfl | rfl | rfl | rfl | rfl
  · exact Or.inl e
  · exact Or.inr (Or.inl e)
  · exact Or.inr (Or.inr (Or.inl e))
  · exact Or.inr (Or.inr (Or.inr (Or.inl e)))
  · exact Or.inr (Or.inr (Or.inr (Or.inr (Or.inl e))))
  · exact Or.inr (Or.inr (Or.inr (Or.inr (Or.inr (Or.inl e)))))
  · exact Or.inr (Or.inr (Or.inr (Or.inr (Or.inr (Or.inr (Or.inl e))))))
  · exact Or.inr (Or.inr (Or.inr (Or.inr (Or.inr (Or.inr (Or.inr (Or.inl e)))))))
  · exact Or.inr (Or.inr (Or.inr (Or.inr (Or.inr (Or.inr (Or.inr (Or.inr (Or.inl e))))))))
  · exact Or.inr (Or.inr (Or.inr (Or.inr (Or.inr (Or.inr (Or.inr (Or.inr (Or.inr (Or.inl e)))))))))
  · exact Or.inr (Or.inr (Or.inr (Or.inr (Or.inr (Or.inr (Or.inr (Or.inr (Or.inr (Or.inr (Or.inl e))))))))))
  · exact Or.inr (Or.inr (Or.inr (Or.inr (Or.inr (Or.inr (Or.inr (Or.inr (Or.inr (Or.inr (Or.inr (Or.inl e)))))))))))
  · exact Or.inr (Or.inr (Or.inr (Or.inr (Or.inr (Or.inr (Or.inr (Or.inr (Or.inr (Or.inr (Or.inr (Or.inr (Or.inl e))))))))))))
  · exact Or.inr (Or.inr (Or.inr (Or.inr (Or.inr (Or.inr (Or.inr (Or.inr (Or.inr (Or.inr (Or.inr (Or.inr (Or.inr (Or.inl e)))))))))))))
  · exact Or.inr (Or.inr (Or.inr (Or.inr (Or.inr (Or.inr (Or.inr (Or.inr (Or.inr (Or.inr (Or.inr (Or.inr (Or.inr (Or.inr (Or.inl e))))))))))))))
  · exact Or.inr (Or.inr (Or.inr (Or.inr (Or.inr (Or.inr (Or.inr (Or.inr (Or.inr (Or.inr (Or.inr (Or.inr (Or.inr (Or.inr (Or.inr (e)))))))))))))))
theorem own_c17 {x : Int32} (h : ∃ k : Nat, k < 17 ∧ x = Int32.ofNat k) : x = 0 ∨ x = 1 ∨ x = 2 ∨ x = 3 ∨ x = 4 ∨ x = 5 ∨ x = 6 ∨ x = 7 ∨ x = 8 ∨ x = 9 ∨ x = 10 ∨ x = 11 ∨ x = 12 ∨ x = 13 ∨ x = 14 ∨ x = 15 ∨ x = 16 := by
  obtain ⟨k, hk, e⟩ := h
  have q : k = 0 ∨ k = 1 ∨ k = 2 ∨ k = 3 ∨ k = 4 ∨ k = 5 ∨ k = 6 ∨ k = 7 ∨ k = 8 ∨ k = 9 ∨ k = 10 ∨ k = 11 ∨ k = 12 ∨ k = 13 ∨ k = 14 ∨ k = 15 ∨ k = 16 := by omega
  rcases q with rfl | rfl | rfl | rfl | rfl | rfl | rfl | rfl | rfl | rfl | rfl | rfl | rfl | rfl | rfl | rfl | rfl
  · exact Or.inl e
  · exact Or.inr (Or.inl e)
  · exact Or.inr (Or.inr (Or.inl e))
  · exact Or.inr (Or.inr (Or.inr (Or.inl e)))
  · exact Or.inr (Or.inr (Or.inr (Or.inr (Or.inl e))))
  · exact Or.inr (Or.inr (Or.inr (Or.inr (Or.inr (Or.inl e)))))
  · exact Or.inr (Or.inr (Or.inr (Or.inr (Or.inr (Or.inr (Or.inl e))))))
  · exact Or.inr (Or.inr (Or.inr (Or.inr (Or.inr (Or.inr (Or.inr (Or.inl e)))))))
  · exact Or.inr (Or.inr (Or.inr (Or.inr (Or.inr (Or.inr (Or.inr (Or.inr (Or.inl e))))))))
  · exact Or.inr (Or.inr (Or.inr (Or.inr (Or.inr (Or.inr (Or.inr (Or.inr (Or.inr (Or.inl e)))))))))
  · exact Or.inr (Or.inr (Or.inr (Or.inr (Or.inr (Or.inr (Or.inr (Or.inr (Or.inr (Or.inr (Or.inl e))))))))))
  · exact Or.inr (Or.inr (Or.inr (Or.inr (Or.inr (Or.inr (Or.inr (Or.inr (Or.inr (Or.inr (Or.inr (Or.inl e)))))))))))
  · exact Or.inr (Or.inr (Or.inr (Or.inr (Or.inr (Or.inr (Or.inr (Or.inr (Or.inr (Or.inr (Or.inr (Or.inr (Or.inl e))))))))))))
  · exact Or.inr (Or.inr (Or.inr (Or.inr (Or.inr (Or.inr (Or.inr (Or.inr (Or.inr (Or.inr (Or.inr (Or.inr (Or.inr (Or.inl e)))))))))))))
  · exact Or.inr (Or.inr (Or.inr (Or.inr (Or.inr (Or.inr (Or.inr (Or.inr (Or.inr (Or.inr (Or.inr (Or.inr (Or.inr (Or.inr (Or.inl e))))))))))))))
  · exact Or.inr (Or.inr (Or.inr (Or.inr (Or.inr (Or.inr (Or.inr (Or.inr (Or.inr (Or.inr (Or.inr (Or.inr (Or.inr (Or.inr (Or.inr (Or.inl e)))))))))))))))
  · exact Or.inr (Or.inr (Or.inr (Or.inr (Or.inr (Or.inr (Or.inr (Or.inr (Or.inr (Or.inr (Or.inr (Or.inr (Or.inr (Or.inr (Or.inr (Or.inr (e))))))))))))))))
theorem wd0 {Z : State} {a0 : Array Value} (hw : ∀ d ∈ tables_1, d.before a0 Z = true) : (Jvm.Cond.arrayClass Jvm.ClassFile.FieldType.byte).before a0 Z = true := hw _ (List.mem_of_getElem? (i := 0) rfl)
theorem wd1 {Z : State} {a0 : Array Value} (hw : ∀ d ∈ tables_1, d.before a0 Z = true) : (Jvm.Cond.constant "com/example/normfeld/normfeld/io/Utf8FirstInvalidPinLaw" (7 : Nat) (2147483647 : Int32)).before a0 Z = true := hw _ (List.mem_of_getElem? (i := 1) rfl)
theorem wd2 {Z : State} {a0 : Array Value} (hw : ∀ d ∈ tables_1, d.before a0 Z = true) : (Jvm.Cond.methodLink "com/example/normfeld/normfeld/io/Utf8FirstInvalidPinLaw" (8 : Nat) ({ cls := "com/example/normfeld/normfeld/io/Utf8FirstInvalidPinLaw", name := "next", desc := "([BII)I" } : Jvm.MethodName)).before a0 Z = true := hw _ (List.mem_of_getElem? (i := 2) rfl)
theorem wd3 {Z : State} {a0 : Array Value} (hw : ∀ d ∈ tables_1, d.before a0 Z = true) : (Jvm.Cond.static ({ cls := "com/example/normfeld/normfeld/io/Utf8FirstInvalidPinLaw", name := "next", desc := "([BII)I" } : Jvm.MethodName)).before a0 Z = true := hw _ (List.mem_of_getElem? (i := 3) rfl)
theorem wd4 {Z : State} {a0 : Array Value} (hw : ∀ d ∈ tables_1, d.before a0 Z = true) : (Jvm.Cond.initialized "com/example/normfeld/normfeld/io/Utf8FirstInvalidPinLaw").before a0 Z = true := hw _ (List.mem_of_getElem? (i := 4) rfl)
theorem wd5 {Z : State} {a0 : Array Value} (hw : ∀ d ∈ tables_1, d.before a0 Z = true) : (Jvm.Cond.code ({ cls := "com/example/normfeld/normfeld/io/Utf8FirstInvalidPinLaw", name := "next", desc := "([BII)I" } : Jvm.MethodName) method_3_code (4 : Nat) (Option.some Jvm.ClassFile.FieldType.int)).before a0 Z = true := hw _ (List.mem_of_getElem? (i := 5) rfl)
theorem wd6 {Z : State} {a0 : Array Value} (hw : ∀ d ∈ tables_1, d.before a0 Z = true) : (Jvm.Cond.methodLink "com/example/normfeld/normfeld/io/Utf8FirstInvalidPinLaw" (19 : Nat) ({ cls := "com/example/normfeld/normfeld/io/Utf8FirstInvalidPinLaw", name := "seq", desc := "([BII)I" } : Jvm.MethodName)).before a0 Z = true := hw _ (List.mem_of_getElem? (i := 6) rfl)
theorem wd7 {Z : State} {a0 : Array Value} (hw : ∀ d ∈ tables_1, d.before a0 Z = true) : (Jvm.Cond.static ({ cls := "com/example/normfeld/normfeld/io/Utf8FirstInvalidPinLaw", name := "seq", desc := "([BII)I" } : Jvm.MethodName)).before a0 Z = true := hw _ (List.mem_of_getElem? (i := 7) rfl)
theorem wd8 {Z : State} {a0 : Array Value} (hw : ∀ d ∈ tables_1, d.before a0 Z = true) : (Jvm.Cond.code ({ cls := "com/example/normfeld/normfeld/io/Utf8FirstInvalidPinLaw", name := "seq", desc := "([BII)I" } : Jvm.MethodName) method_4_code (9 : Nat) (Option.some Jvm.ClassFile.FieldType.int)).before a0 Z = true := hw _ (List.mem_of_getElem? (i := 8) rfl)
theorem wd9 {Z : State} {a0 : Array Value} (hw : ∀ d ∈ tables_1, d.before a0 Z = true) : (Jvm.Cond.methodLink "com/example/normfeld/normfeld/io/Utf8FirstInvalidPinLaw" (14 : Nat) ({ cls := "com/example/normfeld/normfeld/io/Utf8", name := "firstInvalid", desc := "([BII)I" } : Jvm.MethodName)).before a0 Z = true := hw _ (List.mem_of_getElem? (i := 9) rfl)
theorem wd10 {Z : State} {a0 : Array Value} (hw : ∀ d ∈ tables_1, d.before a0 Z = true) : (Jvm.Cond.static ({ cls := "com/example/normfeld/normfeld/io/Utf8", name := "firstInvalid", desc := "([BII)I" } : Jvm.MethodName)).before a0 Z = true := hw _ (List.mem_of_getElem? (i := 10) rfl)
theorem wd11 {Z : State} {a0 : Array Value} (hw : ∀ d ∈ tables_1, d.before a0 Z = true) : (Jvm.Cond.initialized "com/example/normfeld/normfeld/io/Utf8").before a0 Z = true := hw _ (List.mem_of_getElem? (i := 11) rfl)
theorem wd12 {Z : State} {a0 : Array Value} (hw : ∀ d ∈ tables_1, d.before a0 Z = true) : (Jvm.Cond.code ({ cls := "com/example/normfeld/normfeld/io/Utf8", name := "firstInvalid", desc := "([BII)I" } : Jvm.MethodName) prog_96_method_2_code (10 : Nat) (Option.some Jvm.ClassFile.FieldType.int)).before a0 Z = true := hw _ (List.mem_of_getElem? (i := 12) rfl)
theorem wd13 {Z : State} {a0 : Array Value} (hw : ∀ d ∈ tables_1, d.before a0 Z = true) : (Jvm.Cond.constant "com/example/normfeld/normfeld/io/Utf8FirstInvalidPinLaw" (22 : Nat) (55296 : Int32)).before a0 Z = true := hw _ (List.mem_of_getElem? (i := 13) rfl)
theorem wd14 {Z : State} {a0 : Array Value} (hw : ∀ d ∈ tables_1, d.before a0 Z = true) : (Jvm.Cond.constant "com/example/normfeld/normfeld/io/Utf8FirstInvalidPinLaw" (23 : Nat) (57343 : Int32)).before a0 Z = true := hw _ (List.mem_of_getElem? (i := 14) rfl)
theorem wd15 {Z : State} {a0 : Array Value} (hw : ∀ d ∈ tables_1, d.before a0 Z = true) : (Jvm.Cond.constant "com/example/normfeld/normfeld/io/Utf8FirstInvalidPinLaw" (24 : Nat) (65536 : Int32)).before a0 Z = true := hw _ (List.mem_of_getElem? (i := 15) rfl)
theorem wd16 {Z : State} {a0 : Array Value} (hw : ∀ d ∈ tables_1, d.before a0 Z = true) : (Jvm.Cond.constant "com/example/normfeld/normfeld/io/Utf8FirstInvalidPinLaw" (25 : Nat) (1114111 : Int32)).before a0 Z = true := hw _ (List.mem_of_getElem? (i := 16) rfl)
theorem own_m224 {a : Nat} (h : a < 256) : Int32.ofNat a &&& (224 : Int32) = Int32.ofNat (a / 32 * 32) := by
  revert h; revert a; decide +kernel
theorem own_m240 {a : Nat} (h : a < 256) : Int32.ofNat a &&& (240 : Int32) = Int32.ofNat (a / 16 * 16) := by
  revert h; revert a; decide +kernel
theorem own_m248 {a : Nat} (h : a < 256) : Int32.ofNat a &&& (248 : Int32) = Int32.ofNat (a / 8 * 8) := by
  revert h; revert a; decide +kernel
theorem own_m192 {a : Nat} (h : a < 256) : Int32.ofNat a &&& (192 : Int32) = Int32.ofNat (a / 64 * 64) := by
  revert h; revert a; decide +kernel
theorem own_m31 {a : Nat} (h : a < 256) : Int32.ofNat a &&& (31 : Int32) = Int32.ofNat (a % 32) := by
  revert h; revert a; decide +kernel
theorem own_m63 {a : Nat} (h : a < 256) : Int32.ofNat a &&& (63 : Int32) = Int32.ofNat (a % 64) := by
  revert h; revert a; decide +kernel
theorem own_m15 {a : Nat} (h : a < 256) : Int32.ofNat a &&& (15 : Int32) = Int32.ofNat (a % 16) := by
  revert h; revert a; decide +kernel
theorem own_m7 {a : Nat} (h : a < 256) : Int32.ofNat a &&& (7 : Int32) = Int32.ofNat (a % 8) := by
  revert h; revert a; decide +kernel
theorem own_oshl {a m : Nat} {k : Int32} (h : (1 : Int32) <<< (k &&& 31) = Int32.ofNat m) : Int32.ofNat a <<< (k &&& 31) = Int32.ofNat (a * m) := by
  rw [shlm h, own_omul]
theorem own_oor {A b : Nat} (k : Nat) (hk : k ≤ 31) (P : Nat) (hP : P = 2 ^ k) (hA : A % P = 0) (hb : b < P) (h : A + b < 2147483648) : Int32.ofNat A ||| Int32.ofNat b = Int32.ofNat (A + b) := by
  have e1 := own_oN (n := A) (by omega)
  have e2 := own_oN (n := b) (by omega)
  have e := c_or (Int32.ofNat A) (Int32.ofNat b) k hk (P : Int) (by rw [hP]) (by rw [e1]; omega) (by omega) (by omega)
  have r := rng32 (Int32.ofNat A ||| Int32.ofNat b)
  apply Int32.toInt_inj.mp
  rw [own_oN h]
  omega
theorem own_nz {n : Nat} (h : 0 < n) (h2 : n < 2147483648) : Int32.ofNat n ≠ 0 := fun q => by
  have := (own_oeq (a := n) (b := 0) h2 (by omega)).mp q
  omega
def own_by (B : List Int32) (i : Nat) : Nat := (B.getD i 0 &&& (255 : Int32)).toInt.toNat
theorem own_byl (B : List Int32) (i : Nat) : own_by B i < 256 := by
  have := c_and (B.getD i 0) 255 (by decide)
  have e : (255 : Int32).toInt = 255 := by decide
  unfold own_by; omega
theorem own_bye (B : List Int32) (i : Nat) : B.getD i 0 &&& (255 : Int32) = Int32.ofNat (own_by B i) := by
  have := c_and (B.getD i 0) 255 (by decide)
  have e : (255 : Int32).toInt = 255 := by decide
  apply Int32.toInt_inj.mp
  rw [own_oN (by have := own_byl B i; omega)]
  unfold own_by; omega
theorem own_byc (B : List Int32) (i : Nat) : B.getD i 0 &&& (192 : Int32) = Int32.ofNat (own_by B i / 64 * 64) := by
  rw [← own_m192 (own_byl B i), ← own_bye, Int32.and_assoc]
  congr 1
def own_ok (d ld c1 c2 c3 : Nat) : Nat :=
  if ld < 128 then 1 else
  if 194 ≤ ld ∧ ld ≤ 223 then (if d < 2 then 0 else (if 128 ≤ c1 ∧ c1 ≤ 191 then 2 else 0)) else
  if 224 ≤ ld ∧ ld ≤ 239 then (if d < 3 then 0 else (if 128 ≤ c1 ∧ c1 ≤ 191 ∧ (ld ≠ 224 ∨ 160 ≤ c1) ∧ (ld ≠ 237 ∨ c1 ≤ 159) ∧ 128 ≤ c2 ∧ c2 ≤ 191 then 3 else 0)) else
  if 240 ≤ ld ∧ ld ≤ 244 then (if d < 4 then 0 else (if 128 ≤ c1 ∧ c1 ≤ 191 ∧ (ld ≠ 240 ∨ 144 ≤ c1) ∧ (ld ≠ 244 ∨ c1 ≤ 143) ∧ 128 ≤ c2 ∧ c2 ≤ 191 ∧ 128 ≤ c3 ∧ c3 ≤ 191 then 4 else 0)) else 0
theorem own_ok1 {d ld c1 c2 c3 : Nat} (h : ld < 128) : own_ok d ld c1 c2 c3 = 1 := by
  unfold own_ok; rw [if_pos h]
theorem own_ok2 {d ld c1 c2 c3 : Nat} (h : 194 ≤ ld ∧ ld ≤ 223 ∧ 2 ≤ d ∧ 128 ≤ c1 ∧ c1 ≤ 191) : own_ok d ld c1 c2 c3 = 2 := by
  unfold own_ok; rw [if_neg (by omega), if_pos (by omega), if_neg (by omega), if_pos (by omega)]
theorem own_ok3 {d ld c1 c2 c3 : Nat} (h : 224 ≤ ld ∧ ld ≤ 239 ∧ 3 ≤ d ∧ 128 ≤ c1 ∧ c1 ≤ 191 ∧ (ld ≠ 224 ∨ 160 ≤ c1) ∧ (ld ≠ 237 ∨ c1 ≤ 159) ∧ 128 ≤ c2 ∧ c2 ≤ 191) : own_ok d ld c1 c2 c3 = 3 := by
  unfold own_ok; rw [if_neg (by omega), if_neg (by omega), if_pos (by omega), if_neg (by omega), if_pos (by omega)]
theorem own_ok4 {d ld c1 c2 c3 : Nat} (h : 240 ≤ ld ∧ ld ≤ 244 ∧ 4 ≤ d ∧ 128 ≤ c1 ∧ c1 ≤ 191 ∧ (ld ≠ 240 ∨ 144 ≤ c1) ∧ (ld ≠ 244 ∨ c1 ≤ 143) ∧ 128 ≤ c2 ∧ c2 ≤ 191 ∧ 128 ≤ c3 ∧ c3 ≤ 191) : own_ok d ld c1 c2 c3 = 4 := by
  unfold own_ok; rw [if_neg (by omega), if_neg (by omega), if_neg (by omega), if_pos (by omega), if_neg (by omega), if_pos (by omega)]
theorem own_ok0 {d ld c1 c2 c3 : Nat} (h0 : 128 ≤ ld) (h1 : ld < 194 ∨ 223 < ld ∨ d < 2 ∨ c1 < 128 ∨ 191 < c1) (h2 : ld < 224 ∨ 239 < ld ∨ d < 3 ∨ c1 < 128 ∨ 191 < c1 ∨ (ld = 224 ∧ c1 < 160) ∨ (ld = 237 ∧ 159 < c1) ∨ c2 < 128 ∨ 191 < c2)
    (h3 : ld < 240 ∨ 244 < ld ∨ d < 4 ∨ c1 < 128 ∨ 191 < c1 ∨ (ld = 240 ∧ c1 < 144) ∨ (ld = 244 ∧ 143 < c1) ∨ c2 < 128 ∨ 191 < c2 ∨ c3 < 128 ∨ 191 < c3) : own_ok d ld c1 c2 c3 = 0 := by
  unfold own_ok
  (repeat' split) <;> first | rfl | (exfalso; omega)
def own_k (B : List Int32) (to i : Nat) : Nat := own_ok (to - i) (own_by B i) (own_by B (i + 1)) (own_by B (i + 2)) (own_by B (i + 3))
theorem own_kb (B : List Int32) (to i : Nat) (h : i < to) : own_k B to i ≤ to - i := by
  unfold own_k own_ok
  (repeat' split) <;> omega
def own_fi (B : List Int32) (to : Nat) : Nat → Nat → Int32
  | 0, _ => -1
  | f + 1, a => if a < to then (if own_k B to a = 0 then Int32.ofNat a else own_fi B to f (a + own_k B to a)) else -1
def own_hid (p : Prop) : Prop := p
theorem own_neg {a : Nat} (h : a < 9) : (-2 : Int32) - Int32.ofNat a < 0 := by
  revert h; revert a; decide +kernel
theorem own_neg2 {a : Nat} (h : a < 9) : (-2 : Int32) - ((-2 : Int32) - Int32.ofNat a) = Int32.ofNat a := by
  revert h; revert a; decide +kernel
theorem d2_0 : decode method_4_code 0 = .ok (.aload_n 0, 1) := by decide +kernel
theorem d2_1 : decode method_4_code 1 = .ok (.iload_n 1, 1) := by decide +kernel
theorem d2_2 : decode method_4_code 2 = .ok (.baload, 1) := by decide +kernel
theorem d2_3 : decode method_4_code 3 = .ok (.sipush 255, 3) := by decide +kernel
theorem d2_6 : decode method_4_code 6 = .ok (.iand, 1) := by decide +kernel
theorem d2_7 : decode method_4_code 7 = .ok (.istore_n 3, 1) := by decide +kernel
theorem d2_8 : decode method_4_code 8 = .ok (.iload_n 3, 1) := by decide +kernel
theorem d2_9 : decode method_4_code 9 = .ok (.sipush 128, 3) := by decide +kernel
theorem d2_12 : decode method_4_code 12 = .ok (.if_icmp .ge 5, 3) := by decide +kernel
theorem d2_15 : decode method_4_code 15 = .ok (.iconst 1, 1) := by decide +kernel
theorem d2_16 : decode method_4_code 16 = .ok (.ireturn, 1) := by decide +kernel
theorem d2_17 : decode method_4_code 17 = .ok (.iload_n 3, 1) := by decide +kernel
theorem d2_18 : decode method_4_code 18 = .ok (.sipush 224, 3) := by decide +kernel
theorem d2_21 : decode method_4_code 21 = .ok (.iand, 1) := by decide +kernel
theorem d2_22 : decode method_4_code 22 = .ok (.sipush 192, 3) := by decide +kernel
theorem d2_25 : decode method_4_code 25 = .ok (.if_icmp .ne 9, 3) := by decide +kernel
theorem d2_28 : decode method_4_code 28 = .ok (.iconst 2, 1) := by decide +kernel
theorem d2_29 : decode method_4_code 29 = .ok (.istore 4, 2) := by decide +kernel
theorem d2_31 : decode method_4_code 31 = .ok (.goto 39, 3) := by decide +kernel
theorem d2_34 : decode method_4_code 34 = .ok (.iload_n 3, 1) := by decide +kernel
theorem d2_35 : decode method_4_code 35 = .ok (.sipush 240, 3) := by decide +kernel
theorem d2_38 : decode method_4_code 38 = .ok (.iand, 1) := by decide +kernel
theorem d2_39 : decode method_4_code 39 = .ok (.sipush 224, 3) := by decide +kernel
theorem d2_42 : decode method_4_code 42 = .ok (.if_icmp .ne 9, 3) := by decide +kernel
theorem d2_45 : decode method_4_code 45 = .ok (.iconst 3, 1) := by decide +kernel
theorem d2_46 : decode method_4_code 46 = .ok (.istore 4, 2) := by decide +kernel
theorem d2_48 : decode method_4_code 48 = .ok (.goto 22, 3) := by decide +kernel
theorem d2_51 : decode method_4_code 51 = .ok (.iload_n 3, 1) := by decide +kernel
theorem d2_52 : decode method_4_code 52 = .ok (.sipush 248, 3) := by decide +kernel
theorem d2_55 : decode method_4_code 55 = .ok (.iand, 1) := by decide +kernel
theorem d2_56 : decode method_4_code 56 = .ok (.sipush 240, 3) := by decide +kernel
theorem d2_59 : decode method_4_code 59 = .ok (.if_icmp .ne 9, 3) := by decide +kernel
theorem d2_62 : decode method_4_code 62 = .ok (.iconst 4, 1) := by decide +kernel
theorem d2_63 : decode method_4_code 63 = .ok (.istore 4, 2) := by decide +kernel
theorem d2_65 : decode method_4_code 65 = .ok (.goto 5, 3) := by decide +kernel
theorem d2_68 : decode method_4_code 68 = .ok (.iconst 0, 1) := by decide +kernel
theorem d2_69 : decode method_4_code 69 = .ok (.ireturn, 1) := by decide +kernel
theorem d2_70 : decode method_4_code 70 = .ok (.iload_n 2, 1) := by decide +kernel
theorem d2_71 : decode method_4_code 71 = .ok (.iload_n 1, 1) := by decide +kernel
theorem d2_72 : decode method_4_code 72 = .ok (.isub, 1) := by decide +kernel
theorem d2_73 : decode method_4_code 73 = .ok (.iload 4, 2) := by decide +kernel
theorem d2_75 : decode method_4_code 75 = .ok (.if_icmp .ge 5, 3) := by decide +kernel
theorem d2_78 : decode method_4_code 78 = .ok (.iconst 0, 1) := by decide +kernel
theorem d2_79 : decode method_4_code 79 = .ok (.ireturn, 1) := by decide +kernel
theorem d2_80 : decode method_4_code 80 = .ok (.aload_n 0, 1) := by decide +kernel
theorem d2_81 : decode method_4_code 81 = .ok (.iload_n 1, 1) := by decide +kernel
theorem d2_82 : decode method_4_code 82 = .ok (.iconst 1, 1) := by decide +kernel
theorem d2_83 : decode method_4_code 83 = .ok (.iadd, 1) := by decide +kernel
theorem d2_84 : decode method_4_code 84 = .ok (.baload, 1) := by decide +kernel
theorem d2_85 : decode method_4_code 85 = .ok (.sipush 255, 3) := by decide +kernel
theorem d2_88 : decode method_4_code 88 = .ok (.iand, 1) := by decide +kernel
theorem d2_89 : decode method_4_code 89 = .ok (.istore 5, 2) := by decide +kernel
theorem d2_91 : decode method_4_code 91 = .ok (.iload 5, 2) := by decide +kernel
theorem d2_93 : decode method_4_code 93 = .ok (.sipush 192, 3) := by decide +kernel
theorem d2_96 : decode method_4_code 96 = .ok (.iand, 1) := by decide +kernel
theorem d2_97 : decode method_4_code 97 = .ok (.sipush 128, 3) := by decide +kernel
theorem d2_100 : decode method_4_code 100 = .ok (.if_icmp .eq 5, 3) := by decide +kernel
theorem d2_103 : decode method_4_code 103 = .ok (.iconst 0, 1) := by decide +kernel
theorem d2_104 : decode method_4_code 104 = .ok (.ireturn, 1) := by decide +kernel
theorem d2_105 : decode method_4_code 105 = .ok (.iload 4, 2) := by decide +kernel
theorem d2_107 : decode method_4_code 107 = .ok (.iconst 2, 1) := by decide +kernel
theorem d2_108 : decode method_4_code 108 = .ok (.if_icmp .ne 32, 3) := by decide +kernel
theorem d2_111 : decode method_4_code 111 = .ok (.iload_n 3, 1) := by decide +kernel
theorem d2_112 : decode method_4_code 112 = .ok (.bipush 31, 2) := by decide +kernel
theorem d2_114 : decode method_4_code 114 = .ok (.iand, 1) := by decide +kernel
theorem d2_115 : decode method_4_code 115 = .ok (.bipush 6, 2) := by decide +kernel
theorem d2_117 : decode method_4_code 117 = .ok (.ishl, 1) := by decide +kernel
theorem d2_118 : decode method_4_code 118 = .ok (.iload 5, 2) := by decide +kernel
theorem d2_120 : decode method_4_code 120 = .ok (.bipush 63, 2) := by decide +kernel
theorem d2_122 : decode method_4_code 122 = .ok (.iand, 1) := by decide +kernel
theorem d2_123 : decode method_4_code 123 = .ok (.ior, 1) := by decide +kernel
theorem d2_124 : decode method_4_code 124 = .ok (.istore 6, 2) := by decide +kernel
theorem d2_126 : decode method_4_code 126 = .ok (.iload 6, 2) := by decide +kernel
theorem d2_128 : decode method_4_code 128 = .ok (.sipush 128, 3) := by decide +kernel
theorem d2_131 : decode method_4_code 131 = .ok (.if_icmp .lt 7, 3) := by decide +kernel
theorem d2_134 : decode method_4_code 134 = .ok (.iconst 2, 1) := by decide +kernel
theorem d2_135 : decode method_4_code 135 = .ok (.goto 4, 3) := by decide +kernel
theorem d2_138 : decode method_4_code 138 = .ok (.iconst 0, 1) := by decide +kernel
theorem d2_139 : decode method_4_code 139 = .ok (.ireturn, 1) := by decide +kernel
theorem d2_140 : decode method_4_code 140 = .ok (.aload_n 0, 1) := by decide +kernel
theorem d2_141 : decode method_4_code 141 = .ok (.iload_n 1, 1) := by decide +kernel
theorem d2_142 : decode method_4_code 142 = .ok (.iconst 2, 1) := by decide +kernel
theorem d2_143 : decode method_4_code 143 = .ok (.iadd, 1) := by decide +kernel
theorem d2_144 : decode method_4_code 144 = .ok (.baload, 1) := by decide +kernel
theorem d2_145 : decode method_4_code 145 = .ok (.sipush 255, 3) := by decide +kernel
theorem d2_148 : decode method_4_code 148 = .ok (.iand, 1) := by decide +kernel
theorem d2_149 : decode method_4_code 149 = .ok (.istore 6, 2) := by decide +kernel
theorem d2_151 : decode method_4_code 151 = .ok (.iload 6, 2) := by decide +kernel
theorem d2_153 : decode method_4_code 153 = .ok (.sipush 192, 3) := by decide +kernel
theorem d2_156 : decode method_4_code 156 = .ok (.iand, 1) := by decide +kernel
theorem d2_157 : decode method_4_code 157 = .ok (.sipush 128, 3) := by decide +kernel
theorem d2_160 : decode method_4_code 160 = .ok (.if_icmp .eq 5, 3) := by decide +kernel
theorem d2_163 : decode method_4_code 163 = .ok (.iconst 0, 1) := by decide +kernel
theorem d2_164 : decode method_4_code 164 = .ok (.ireturn, 1) := by decide +kernel
theorem d2_165 : decode method_4_code 165 = .ok (.iload 4, 2) := by decide +kernel
theorem d2_167 : decode method_4_code 167 = .ok (.iconst 3, 1) := by decide +kernel
theorem d2_168 : decode method_4_code 168 = .ok (.if_icmp .ne 55, 3) := by decide +kernel
theorem d2_171 : decode method_4_code 171 = .ok (.iload_n 3, 1) := by decide +kernel
theorem d2_172 : decode method_4_code 172 = .ok (.bipush 15, 2) := by decide +kernel
theorem d2_174 : decode method_4_code 174 = .ok (.iand, 1) := by decide +kernel
theorem d2_175 : decode method_4_code 175 = .ok (.bipush 12, 2) := by decide +kernel
theorem d2_177 : decode method_4_code 177 = .ok (.ishl, 1) := by decide +kernel
theorem d2_178 : decode method_4_code 178 = .ok (.iload 5, 2) := by decide +kernel
theorem d2_180 : decode method_4_code 180 = .ok (.bipush 63, 2) := by decide +kernel
theorem d2_182 : decode method_4_code 182 = .ok (.iand, 1) := by decide +kernel
theorem d2_183 : decode method_4_code 183 = .ok (.bipush 6, 2) := by decide +kernel
theorem d2_185 : decode method_4_code 185 = .ok (.ishl, 1) := by decide +kernel
theorem d2_186 : decode method_4_code 186 = .ok (.ior, 1) := by decide +kernel
theorem d2_187 : decode method_4_code 187 = .ok (.iload 6, 2) := by decide +kernel
theorem d2_189 : decode method_4_code 189 = .ok (.bipush 63, 2) := by decide +kernel
theorem d2_191 : decode method_4_code 191 = .ok (.iand, 1) := by decide +kernel
theorem d2_192 : decode method_4_code 192 = .ok (.ior, 1) := by decide +kernel
theorem d2_193 : decode method_4_code 193 = .ok (.istore 7, 2) := by decide +kernel
theorem d2_195 : decode method_4_code 195 = .ok (.iload 7, 2) := by decide +kernel
theorem d2_197 : decode method_4_code 197 = .ok (.sipush 2048, 3) := by decide +kernel
theorem d2_200 : decode method_4_code 200 = .ok (.if_icmp .ge 5, 3) := by decide +kernel
theorem d2_203 : decode method_4_code 203 = .ok (.iconst 0, 1) := by decide +kernel
theorem d2_204 : decode method_4_code 204 = .ok (.ireturn, 1) := by decide +kernel
theorem d2_205 : decode method_4_code 205 = .ok (.iload 7, 2) := by decide +kernel
theorem d2_207 : decode method_4_code 207 = .ok (.ldc 22, 2) := by decide +kernel
theorem d2_209 : decode method_4_code 209 = .ok (.if_icmp .lt 12, 3) := by decide +kernel
theorem d2_212 : decode method_4_code 212 = .ok (.iload 7, 2) := by decide +kernel
theorem d2_214 : decode method_4_code 214 = .ok (.ldc 23, 2) := by decide +kernel
theorem d2_216 : decode method_4_code 216 = .ok (.if_icmp .gt 5, 3) := by decide +kernel
theorem d2_219 : decode method_4_code 219 = .ok (.iconst 0, 1) := by decide +kernel
theorem d2_220 : decode method_4_code 220 = .ok (.ireturn, 1) := by decide +kernel
theorem d2_221 : decode method_4_code 221 = .ok (.iconst 3, 1) := by decide +kernel
theorem d2_222 : decode method_4_code 222 = .ok (.ireturn, 1) := by decide +kernel
theorem d2_223 : decode method_4_code 223 = .ok (.aload_n 0, 1) := by decide +kernel
theorem d2_224 : decode method_4_code 224 = .ok (.iload_n 1, 1) := by decide +kernel
theorem d2_225 : decode method_4_code 225 = .ok (.iconst 3, 1) := by decide +kernel
theorem d2_226 : decode method_4_code 226 = .ok (.iadd, 1) := by decide +kernel
theorem d2_227 : decode method_4_code 227 = .ok (.baload, 1) := by decide +kernel
theorem d2_228 : decode method_4_code 228 = .ok (.sipush 255, 3) := by decide +kernel
theorem d2_231 : decode method_4_code 231 = .ok (.iand, 1) := by decide +kernel
theorem d2_232 : decode method_4_code 232 = .ok (.istore 7, 2) := by decide +kernel
theorem d2_234 : decode method_4_code 234 = .ok (.iload 7, 2) := by decide +kernel
theorem d2_236 : decode method_4_code 236 = .ok (.sipush 192, 3) := by decide +kernel
theorem d2_239 : decode method_4_code 239 = .ok (.iand, 1) := by decide +kernel
theorem d2_240 : decode method_4_code 240 = .ok (.sipush 128, 3) := by decide +kernel
theorem d2_243 : decode method_4_code 243 = .ok (.if_icmp .eq 5, 3) := by decide +kernel
theorem d2_246 : decode method_4_code 246 = .ok (.iconst 0, 1) := by decide +kernel
theorem d2_247 : decode method_4_code 247 = .ok (.ireturn, 1) := by decide +kernel
theorem d2_248 : decode method_4_code 248 = .ok (.iload_n 3, 1) := by decide +kernel
theorem d2_249 : decode method_4_code 249 = .ok (.bipush 7, 2) := by decide +kernel
theorem d2_251 : decode method_4_code 251 = .ok (.iand, 1) := by decide +kernel
theorem d2_252 : decode method_4_code 252 = .ok (.bipush 18, 2) := by decide +kernel
theorem d2_254 : decode method_4_code 254 = .ok (.ishl, 1) := by decide +kernel
theorem d2_255 : decode method_4_code 255 = .ok (.iload 5, 2) := by decide +kernel
theorem d2_257 : decode method_4_code 257 = .ok (.bipush 63, 2) := by decide +kernel
theorem d2_259 : decode method_4_code 259 = .ok (.iand, 1) := by decide +kernel
theorem d2_260 : decode method_4_code 260 = .ok (.bipush 12, 2) := by decide +kernel
theorem d2_262 : decode method_4_code 262 = .ok (.ishl, 1) := by decide +kernel
theorem d2_263 : decode method_4_code 263 = .ok (.ior, 1) := by decide +kernel
theorem d2_264 : decode method_4_code 264 = .ok (.iload 6, 2) := by decide +kernel
theorem d2_266 : decode method_4_code 266 = .ok (.bipush 63, 2) := by decide +kernel
theorem d2_268 : decode method_4_code 268 = .ok (.iand, 1) := by decide +kernel
theorem d2_269 : decode method_4_code 269 = .ok (.bipush 6, 2) := by decide +kernel
theorem d2_271 : decode method_4_code 271 = .ok (.ishl, 1) := by decide +kernel
theorem d2_272 : decode method_4_code 272 = .ok (.ior, 1) := by decide +kernel
theorem d2_273 : decode method_4_code 273 = .ok (.iload 7, 2) := by decide +kernel
theorem d2_275 : decode method_4_code 275 = .ok (.bipush 63, 2) := by decide +kernel
theorem d2_277 : decode method_4_code 277 = .ok (.iand, 1) := by decide +kernel
theorem d2_278 : decode method_4_code 278 = .ok (.ior, 1) := by decide +kernel
theorem d2_279 : decode method_4_code 279 = .ok (.istore 8, 2) := by decide +kernel
theorem d2_281 : decode method_4_code 281 = .ok (.iload 8, 2) := by decide +kernel
theorem d2_283 : decode method_4_code 283 = .ok (.ldc 24, 2) := by decide +kernel
theorem d2_285 : decode method_4_code 285 = .ok (.if_icmp .lt 10, 3) := by decide +kernel
theorem d2_288 : decode method_4_code 288 = .ok (.iload 8, 2) := by decide +kernel
theorem d2_290 : decode method_4_code 290 = .ok (.ldc 25, 2) := by decide +kernel
theorem d2_292 : decode method_4_code 292 = .ok (.if_icmp .le 5, 3) := by decide +kernel
theorem d2_295 : decode method_4_code 295 = .ok (.iconst 0, 1) := by decide +kernel
theorem d2_296 : decode method_4_code 296 = .ok (.ireturn, 1) := by decide +kernel
theorem d2_297 : decode method_4_code 297 = .ok (.iconst 4, 1) := by decide +kernel
theorem d2_298 : decode method_4_code 298 = .ok (.ireturn, 1) := by decide +kernel
theorem pn2 : plainFor (⟨"com/example/normfeld/normfeld/io/Utf8FirstInvalidPinLaw", "seq", "([BII)I"⟩ : MethodName) = true := plainFor_of_name (by first | (simp [plainName, overriddenIn]; done) | decide +kernel)
theorem pd2 : parseMethodDescriptor (⟨"com/example/normfeld/normfeld/io/Utf8FirstInvalidPinLaw", "seq", "([BII)I"⟩ : MethodName).desc = some ⟨[(.array .byte), .int, .int], some .int⟩ := by decide +kernel
theorem ef_seq (m : MethodId) (n0 : Nat) (i : Nat) (to : Nat) : entryFrame m #[.ref (n0 + 0), .int (Int32.ofNat i), .int (Int32.ofNat to)] 9 = mkF m 0 #[.val (.ref (n0 + 0)), .val (.int (Int32.ofNat i)), .val (.int (Int32.ofNat to)), .unset, .unset, .unset, .unset, .unset, .unset] [] := by first | (simp [entryFrame, mkF, argsToLocals, Value.category]; done) | rfl
def Q_seq (Z : State) (n0 : Nat) (k0 : ClassId) (B : List Int32) (i : Nat) (to : Nat) (v : Option Value) (h : Heap) (L : List Loc) : Prop := v = some (.int (Int32.ofNat (own_k B to i))) ∧ Fr n0 L ∧ HP n0 h [AC k0 (List.map Value.int B)]
set_option maxRecDepth 65536 in
set_option maxHeartbeats 40000000 in
theorem rm_seq (l : Launch) (Z : State) (a0 : Array Value) (hw : ∀ d ∈ tables_1, d.before a0 Z = true) (ws : List Jvm.Cond) (n0 : Nat) (k0 : ClassId) (B : List Int32) (i : Nat) (to : Nat) (h0 : Heap) (P0 : HP n0 h0 [AC k0 (List.map Value.int B)]) (hk0 : IsA Z k0 .byte) (hB : B.length = 8) (hit : i < to) (hto : to ≤ 8) :
    MetFree l (⟨"com/example/normfeld/normfeld/io/Utf8FirstInvalidPinLaw", "seq", "([BII)I"⟩ : MethodName) (head1 (Jvm.Cond.code (⟨"com/example/normfeld/normfeld/io/Utf8FirstInvalidPinLaw", "seq", "([BII)I"⟩ : MethodName) method_4_code 9 (some .int) :: ws) ({ frames := 0, cells := 0, slots := 0, locals := 0 } : Room)) (fun aa U => aa = #[.ref (n0 + 0), .int (Int32.ofNat i), .int (Int32.ofNat to)] ∧ Z.Warmed39 U.vm ∧ U.heap = h0) (fun _ _ _ _ _ => True) (fun _ U o U' => ∃ v L, o = .returned v ∧ Q_seq Z n0 k0 B i to v U'.heap L ∧ FrameEnd U o U' L ({ frames := 0, cells := 0, slots := 0, locals := 0 } : Room).cells ({ frames := 0, cells := 0, slots := 0, locals := 0 } : Room).slots) := by
  refine own_body pn2 ?_
  intro p e s m below meth c T0 hx hby hml hret hlk hown hnm hZ X0 e0
  subst e0
  have N0 : Fr n0 [] := Fr.nil n0
  have hb0 := own_byl B i
  have hb1 := own_byl B (i + 1)
  have hb2 := own_byl B (i + 2)
  have hb3 := own_byl B (i + 3)
  refine own_cast (ef_seq m n0 i to) ?_
  refine w_aloadN X0 hx (hb hby d2_0) rfl rfl (pc' := 1) rfl ?_
  refine w_iloadN X0 hx (hb hby d2_1) rfl (pc' := 2) rfl ?_
  refine w_baloadL (i := 0) (jn := i) X0 hx hZ P0 rfl hk0 (hb hby d2_2) (own_oN (by omega)) (own_llt hB (by omega)) (pc' := 3) rfl ?_
  refine w_sipush (v := (255 : Int32)) X0 hx (hb hby d2_3) rfl (pc' := 6) rfl ?_
  refine w_iand X0 hx (hb hby d2_6) (pc' := 7) rfl ?_
  refine w_eqI (z := (Int32.ofNat (own_by B i))) (own_bye _ _) ?_
  refine w_istoreN (l' := #[.val (.ref (n0 + 0)), .val (.int (Int32.ofNat i)), .val (.int (Int32.ofNat to)), .val (.int (Int32.ofNat (own_by B i))), .unset, .unset, .unset, .unset, .unset]) X0 hx (hb hby d2_7) rfl (pc' := 8) rfl ?_
  refine w_iloadN X0 hx (hb hby d2_8) rfl (pc' := 9) rfl ?_
  refine w_sipush (v := (128 : Int32)) X0 hx (hb hby d2_9) rfl (pc' := 12) rfl ?_
  refine w_icmp_ge X0 hx (hb hby d2_12) (by decide) (pcY := 17) (by decide) (pc' := 15) rfl (fun h0 => ?_) (fun h0 => ?_)
  · have h0n : ¬ (own_by B i) < 128 := fun q => h0 ((own_olt (a := (own_by B i)) (b := 128) (by omega) (by omega)).mpr q)
    refine w_iloadN X0 hx (hb hby d2_17) rfl (pc' := 18) rfl ?_
    refine w_sipush (v := (224 : Int32)) X0 hx (hb hby d2_18) rfl (pc' := 21) rfl ?_
    refine w_iand X0 hx (hb hby d2_21) (pc' := 22) rfl ?_
    refine w_eqI (z := (Int32.ofNat ((own_by B i) / 32 * 32))) (own_m224 (by omega)) ?_
    refine w_sipush (v := (192 : Int32)) X0 hx (hb hby d2_22) rfl (pc' := 25) rfl ?_
    refine w_icmp_ne X0 hx (hb hby d2_25) (by decide) (pcY := 34) (by decide) (pc' := 28) rfl (fun h1 => ?_) (fun h1 => ?_)
    · have h1n : ¬ ((own_by B i) / 32 * 32) = 192 := fun q => h1 ((own_oeq (a := ((own_by B i) / 32 * 32)) (b := 192) (by omega) (by omega)).mpr q)
      refine w_iloadN X0 hx (hb hby d2_34) rfl (pc' := 35) rfl ?_
      refine w_sipush (v := (240 : Int32)) X0 hx (hb hby d2_35) rfl (pc' := 38) rfl ?_
      refine w_iand X0 hx (hb hby d2_38) (pc' := 39) rfl ?_
      refine w_eqI (z := (Int32.ofNat ((own_by B i) / 16 * 16))) (own_m240 (by omega)) ?_
      refine w_sipush (v := (224 : Int32)) X0 hx (hb hby d2_39) rfl (pc' := 42) rfl ?_
      refine w_icmp_ne X0 hx (hb hby d2_42) (by decide) (pcY := 51) (by decide) (pc' := 45) rfl (fun h2 => ?_) (fun h2 => ?_)
      · have h2n : ¬ ((own_by B i) / 16 * 16) = 224 := fun q => h2 ((own_oeq (a := ((own_by B i) / 16 * 16)) (b := 224) (by omega) (by omega)).mpr q)
        refine w_iloadN X0 hx (hb hby d2_51) rfl (pc' := 52) rfl ?_
        refine w_sipush (v := (248 : Int32)) X0 hx (hb hby d2_52) rfl (pc' := 55) rfl ?_
        refine w_iand X0 hx (hb hby d2_55) (pc' := 56) rfl ?_
        refine w_eqI (z := (Int32.ofNat ((own_by B i) / 8 * 8))) (own_m248 (by omega)) ?_
        refine w_sipush (v := (240 : Int32)) X0 hx (hb hby d2_56) rfl (pc' := 59) rfl ?_
        refine w_icmp_ne X0 hx (hb hby d2_59) (by decide) (pcY := 68) (by decide) (pc' := 62) rfl (fun h3 => ?_) (fun h3 => ?_)
        · have h3n : ¬ ((own_by B i) / 8 * 8) = 240 := fun q => h3 ((own_oeq (a := ((own_by B i) / 8 * 8)) (b := 240) (by omega) (by omega)).mpr q)
          refine w_iconst (v := (0 : Int32)) X0 hx (hb hby d2_68) rfl (pc' := 69) rfl ?_
          exact w_ret_i X0 hx hret hlk (hb hby d2_69) (by decide) (by decide) ⟨congrArg (fun q => some (Value.int (Int32.ofNat q))) (show 0 = own_k B to i from by symm; unfold own_k; exact own_ok0 (by omega) (by omega) (by omega) (by omega)), N0, P0⟩
        · have h3n : ((own_by B i) / 8 * 8) = 240 := (own_oeq (a := ((own_by B i) / 8 * 8)) (b := 240) (by omega) (by omega)).mp h3
          refine w_iconst (v := (4 : Int32)) X0 hx (hb hby d2_62) rfl (pc' := 63) rfl ?_
          refine w_istore (l' := #[.val (.ref (n0 + 0)), .val (.int (Int32.ofNat i)), .val (.int (Int32.ofNat to)), .val (.int (Int32.ofNat (own_by B i))), .val (.int (4 : Int32)), .unset, .unset, .unset, .unset]) X0 hx (hb hby d2_63) rfl (pc' := 65) rfl ?_
          refine w_goto X0 hx (hb hby d2_65) (by decide) (pc' := 70) (by decide) ?_
          refine w_iloadN X0 hx (hb hby d2_70) rfl (pc' := 71) rfl ?_
          refine w_iloadN X0 hx (hb hby d2_71) rfl (pc' := 72) rfl ?_
          refine w_isub X0 hx (hb hby d2_72) (pc' := 73) rfl ?_
          refine w_eqI (z := (Int32.ofNat (to - i))) (own_osub (a := to) (b := i) (by omega)) ?_
          refine w_iload X0 hx (hb hby d2_73) rfl (pc' := 75) rfl ?_
          refine w_icmp_ge X0 hx (hb hby d2_75) (by decide) (pcY := 80) (by decide) (pc' := 78) rfl (fun h4 => ?_) (fun h4 => ?_)
          · have h4n : ¬ (to - i) < 4 := fun q => h4 ((own_olt (a := (to - i)) (b := 4) (by omega) (by omega)).mpr q)
            refine w_aloadN X0 hx (hb hby d2_80) rfl rfl (pc' := 81) rfl ?_
            refine w_iloadN X0 hx (hb hby d2_81) rfl (pc' := 82) rfl ?_
            refine w_iconst (v := (1 : Int32)) X0 hx (hb hby d2_82) rfl (pc' := 83) rfl ?_
            refine w_iadd X0 hx (hb hby d2_83) (pc' := 84) rfl ?_
            refine w_eqI (z := (Int32.ofNat (i + 1))) (own_oadd i 1) ?_
            refine w_baloadL (i := 0) (jn := (i + 1)) X0 hx hZ P0 rfl hk0 (hb hby d2_84) (own_oN (by omega)) (own_llt hB (by omega)) (pc' := 85) rfl ?_
            refine w_sipush (v := (255 : Int32)) X0 hx (hb hby d2_85) rfl (pc' := 88) rfl ?_
            refine w_iand X0 hx (hb hby d2_88) (pc' := 89) rfl ?_
            refine w_eqI (z := (Int32.ofNat (own_by B (i + 1)))) (own_bye _ _) ?_
            refine w_istore (l' := #[.val (.ref (n0 + 0)), .val (.int (Int32.ofNat i)), .val (.int (Int32.ofNat to)), .val (.int (Int32.ofNat (own_by B i))), .val (.int (4 : Int32)), .val (.int (Int32.ofNat (own_by B (i + 1)))), .unset, .unset, .unset]) X0 hx (hb hby d2_89) rfl (pc' := 91) rfl ?_
            refine w_iload X0 hx (hb hby d2_91) rfl (pc' := 93) rfl ?_
            refine w_sipush (v := (192 : Int32)) X0 hx (hb hby d2_93) rfl (pc' := 96) rfl ?_
            refine w_iand X0 hx (hb hby d2_96) (pc' := 97) rfl ?_
            refine w_eqI (z := (Int32.ofNat ((own_by B (i + 1)) / 64 * 64))) (own_m192 (by omega)) ?_
            refine w_sipush (v := (128 : Int32)) X0 hx (hb hby d2_97) rfl (pc' := 100) rfl ?_
            refine w_icmp_eq X0 hx (hb hby d2_100) (by decide) (pcY := 105) (by decide) (pc' := 103) rfl (fun h5 => ?_) (fun h5 => ?_)
            · have h5n : ((own_by B (i + 1)) / 64 * 64) = 128 := (own_oeq (a := ((own_by B (i + 1)) / 64 * 64)) (b := 128) (by omega) (by omega)).mp h5
              refine w_iload X0 hx (hb hby d2_105) rfl (pc' := 107) rfl ?_
              refine w_iconst (v := (2 : Int32)) X0 hx (hb hby d2_107) rfl (pc' := 108) rfl ?_
              refine w_icmp_ne X0 hx (hb hby d2_108) (by decide) (pcY := 140) (by decide) (pc' := 111) rfl (fun h6 => ?_) (fun h6 => absurd h6 (by decide))
              refine w_aloadN X0 hx (hb hby d2_140) rfl rfl (pc' := 141) rfl ?_
              refine w_iloadN X0 hx (hb hby d2_141) rfl (pc' := 142) rfl ?_
              refine w_iconst (v := (2 : Int32)) X0 hx (hb hby d2_142) rfl (pc' := 143) rfl ?_
              refine w_iadd X0 hx (hb hby d2_143) (pc' := 144) rfl ?_
              refine w_eqI (z := (Int32.ofNat (i + 2))) (own_oadd i 2) ?_
              refine w_baloadL (i := 0) (jn := (i + 2)) X0 hx hZ P0 rfl hk0 (hb hby d2_144) (own_oN (by omega)) (own_llt hB (by omega)) (pc' := 145) rfl ?_
              refine w_sipush (v := (255 : Int32)) X0 hx (hb hby d2_145) rfl (pc' := 148) rfl ?_
              refine w_iand X0 hx (hb hby d2_148) (pc' := 149) rfl ?_
              refine w_eqI (z := (Int32.ofNat (own_by B (i + 2)))) (own_bye _ _) ?_
              refine w_istore (l' := #[.val (.ref (n0 + 0)), .val (.int (Int32.ofNat i)), .val (.int (Int32.ofNat to)), .val (.int (Int32.ofNat (own_by B i))), .val (.int (4 : Int32)), .val (.int (Int32.ofNat (own_by B (i + 1)))), .val (.int (Int32.ofNat (own_by B (i + 2)))), .unset, .unset]) X0 hx (hb hby d2_149) rfl (pc' := 151) rfl ?_
              refine w_iload X0 hx (hb hby d2_151) rfl (pc' := 153) rfl ?_
              refine w_sipush (v := (192 : Int32)) X0 hx (hb hby d2_153) rfl (pc' := 156) rfl ?_
              refine w_iand X0 hx (hb hby d2_156) (pc' := 157) rfl ?_
              refine w_eqI (z := (Int32.ofNat ((own_by B (i + 2)) / 64 * 64))) (own_m192 (by omega)) ?_
              refine w_sipush (v := (128 : Int32)) X0 hx (hb hby d2_157) rfl (pc' := 160) rfl ?_
              refine w_icmp_eq X0 hx (hb hby d2_160) (by decide) (pcY := 165) (by decide) (pc' := 163) rfl (fun h7 => ?_) (fun h7 => ?_)
              · have h7n : ((own_by B (i + 2)) / 64 * 64) = 128 := (own_oeq (a := ((own_by B (i + 2)) / 64 * 64)) (b := 128) (by omega) (by omega)).mp h7
                refine w_iload X0 hx (hb hby d2_165) rfl (pc' := 167) rfl ?_
                refine w_iconst (v := (3 : Int32)) X0 hx (hb hby d2_167) rfl (pc' := 168) rfl ?_
                refine w_icmp_ne X0 hx (hb hby d2_168) (by decide) (pcY := 223) (by decide) (pc' := 171) rfl (fun h8 => ?_) (fun h8 => absurd h8 (by decide))
                refine w_aloadN X0 hx (hb hby d2_223) rfl rfl (pc' := 224) rfl ?_
                refine w_iloadN X0 hx (hb hby d2_224) rfl (pc' := 225) rfl ?_
                refine w_iconst (v := (3 : Int32)) X0 hx (hb hby d2_225) rfl (pc' := 226) rfl ?_
                refine w_iadd X0 hx (hb hby d2_226) (pc' := 227) rfl ?_
                refine w_eqI (z := (Int32.ofNat (i + 3))) (own_oadd i 3) ?_
                refine w_baloadL (i := 0) (jn := (i + 3)) X0 hx hZ P0 rfl hk0 (hb hby d2_227) (own_oN (by omega)) (own_llt hB (by omega)) (pc' := 228) rfl ?_
                refine w_sipush (v := (255 : Int32)) X0 hx (hb hby d2_228) rfl (pc' := 231) rfl ?_
                refine w_iand X0 hx (hb hby d2_231) (pc' := 232) rfl ?_
                refine w_eqI (z := (Int32.ofNat (own_by B (i + 3)))) (own_bye _ _) ?_
                refine w_istore (l' := #[.val (.ref (n0 + 0)), .val (.int (Int32.ofNat i)), .val (.int (Int32.ofNat to)), .val (.int (Int32.ofNat (own_by B i))), .val (.int (4 : Int32)), .val (.int (Int32.ofNat (own_by B (i + 1)))), .val (.int (Int32.ofNat (own_by B (i + 2)))), .val (.int (Int32.ofNat (own_by B (i + 3)))), .unset]) X0 hx (hb hby d2_232) rfl (pc' := 234) rfl ?_
                refine w_iload X0 hx (hb hby d2_234) rfl (pc' := 236) rfl ?_
                refine w_sipush (v := (192 : Int32)) X0 hx (hb hby d2_236) rfl (pc' := 239) rfl ?_
                refine w_iand X0 hx (hb hby d2_239) (pc' := 240) rfl ?_
                refine w_eqI (z := (Int32.ofNat ((own_by B (i + 3)) / 64 * 64))) (own_m192 (by omega)) ?_
                refine w_sipush (v := (128 : Int32)) X0 hx (hb hby d2_240) rfl (pc' := 243) rfl ?_
                refine w_icmp_eq X0 hx (hb hby d2_243) (by decide) (pcY := 248) (by decide) (pc' := 246) rfl (fun h9 => ?_) (fun h9 => ?_)
                · have h9n : ((own_by B (i + 3)) / 64 * 64) = 128 := (own_oeq (a := ((own_by B (i + 3)) / 64 * 64)) (b := 128) (by omega) (by omega)).mp h9
                  refine w_iloadN X0 hx (hb hby d2_248) rfl (pc' := 249) rfl ?_
                  refine w_bipush (v := (7 : Int32)) X0 hx (hb hby d2_249) rfl (pc' := 251) rfl ?_
                  refine w_iand X0 hx (hb hby d2_251) (pc' := 252) rfl ?_
                  refine w_eqI (z := (Int32.ofNat ((own_by B i) % 8))) (own_m7 (by omega)) ?_
                  refine w_bipush (v := (18 : Int32)) X0 hx (hb hby d2_252) rfl (pc' := 254) rfl ?_
                  refine w_ishl X0 hx (hb hby d2_254) (pc' := 255) rfl ?_
                  refine w_eqI (z := (Int32.ofNat (((own_by B i) % 8) * 262144))) (own_oshl (by decide)) ?_
                  refine w_iload X0 hx (hb hby d2_255) rfl (pc' := 257) rfl ?_
                  refine w_bipush (v := (63 : Int32)) X0 hx (hb hby d2_257) rfl (pc' := 259) rfl ?_
                  refine w_iand X0 hx (hb hby d2_259) (pc' := 260) rfl ?_
                  refine w_eqI (z := (Int32.ofNat ((own_by B (i + 1)) % 64))) (own_m63 (by omega)) ?_
                  refine w_bipush (v := (12 : Int32)) X0 hx (hb hby d2_260) rfl (pc' := 262) rfl ?_
                  refine w_ishl X0 hx (hb hby d2_262) (pc' := 263) rfl ?_
                  refine w_eqI (z := (Int32.ofNat (((own_by B (i + 1)) % 64) * 4096))) (own_oshl (by decide)) ?_
                  refine w_ior X0 hx (hb hby d2_263) (pc' := 264) rfl ?_
                  refine w_eqI (z := (Int32.ofNat ((((own_by B i) % 8) * 262144) + (((own_by B (i + 1)) % 64) * 4096)))) (own_oor 18 (by decide) 262144 rfl (by omega) (by omega) (by omega)) ?_
                  refine w_iload X0 hx (hb hby d2_264) rfl (pc' := 266) rfl ?_
                  refine w_bipush (v := (63 : Int32)) X0 hx (hb hby d2_266) rfl (pc' := 268) rfl ?_
                  refine w_iand X0 hx (hb hby d2_268) (pc' := 269) rfl ?_
                  refine w_eqI (z := (Int32.ofNat ((own_by B (i + 2)) % 64))) (own_m63 (by omega)) ?_
                  refine w_bipush (v := (6 : Int32)) X0 hx (hb hby d2_269) rfl (pc' := 271) rfl ?_
                  refine w_ishl X0 hx (hb hby d2_271) (pc' := 272) rfl ?_
                  refine w_eqI (z := (Int32.ofNat (((own_by B (i + 2)) % 64) * 64))) (own_oshl (by decide)) ?_
                  refine w_ior X0 hx (hb hby d2_272) (pc' := 273) rfl ?_
                  refine w_eqI (z := (Int32.ofNat (((((own_by B i) % 8) * 262144) + (((own_by B (i + 1)) % 64) * 4096)) + (((own_by B (i + 2)) % 64) * 64)))) (own_oor 12 (by decide) 4096 rfl (by omega) (by omega) (by omega)) ?_
                  refine w_iload X0 hx (hb hby d2_273) rfl (pc' := 275) rfl ?_
                  refine w_bipush (v := (63 : Int32)) X0 hx (hb hby d2_275) rfl (pc' := 277) rfl ?_
                  refine w_iand X0 hx (hb hby d2_277) (pc' := 278) rfl ?_
                  refine w_eqI (z := (Int32.ofNat ((own_by B (i + 3)) % 64))) (own_m63 (by omega)) ?_
                  refine w_ior X0 hx (hb hby d2_278) (pc' := 279) rfl ?_
                  refine w_eqI (z := (Int32.ofNat ((((((own_by B i) % 8) * 262144) + (((own_by B (i + 1)) % 64) * 4096)) + (((own_by B (i + 2)) % 64) * 64)) + ((own_by B (i + 3)) % 64)))) (own_oor 6 (by decide) 64 rfl (by omega) (by omega) (by omega)) ?_
                  refine w_istore (l' := #[.val (.ref (n0 + 0)), .val (.int (Int32.ofNat i)), .val (.int (Int32.ofNat to)), .val (.int (Int32.ofNat (own_by B i))), .val (.int (4 : Int32)), .val (.int (Int32.ofNat (own_by B (i + 1)))), .val (.int (Int32.ofNat (own_by B (i + 2)))), .val (.int (Int32.ofNat (own_by B (i + 3)))), .val (.int (Int32.ofNat ((((((own_by B i) % 8) * 262144) + (((own_by B (i + 1)) % 64) * 4096)) + (((own_by B (i + 2)) % 64) * 64)) + ((own_by B (i + 3)) % 64))))]) X0 hx (hb hby d2_279) rfl (pc' := 281) rfl ?_
                  refine w_iload X0 hx (hb hby d2_281) rfl (pc' := 283) rfl ?_
                  refine w_ldc X0 hx (hb hby d2_283) hown (mvT hZ (wd15 hw)) (pc' := 285) rfl ?_
                  refine w_icmp_lt X0 hx (hb hby d2_285) (by decide) (pcY := 295) (by decide) (pc' := 288) rfl (fun h10 => ?_) (fun h10 => ?_)
                  · have h10n : ((((((own_by B i) % 8) * 262144) + (((own_by B (i + 1)) % 64) * 4096)) + (((own_by B (i + 2)) % 64) * 64)) + ((own_by B (i + 3)) % 64)) < 65536 := (own_olt (a := ((((((own_by B i) % 8) * 262144) + (((own_by B (i + 1)) % 64) * 4096)) + (((own_by B (i + 2)) % 64) * 64)) + ((own_by B (i + 3)) % 64))) (b := 65536) (by omega) (by omega)).mp h10
                    refine w_iconst (v := (0 : Int32)) X0 hx (hb hby d2_295) rfl (pc' := 296) rfl ?_
                    exact w_ret_i X0 hx hret hlk (hb hby d2_296) (by decide) (by decide) ⟨congrArg (fun q => some (Value.int (Int32.ofNat q))) (show 0 = own_k B to i from by symm; unfold own_k; exact own_ok0 (by omega) (by omega) (by omega) (by omega)), N0, P0⟩
                  · have h10n : ¬ ((((((own_by B i) % 8) * 262144) + (((own_by B (i + 1)) % 64) * 4096)) + (((own_by B (i + 2)) % 64) * 64)) + ((own_by B (i + 3)) % 64)) < 65536 := fun q => h10 ((own_olt (a := ((((((own_by B i) % 8) * 262144) + (((own_by B (i + 1)) % 64) * 4096)) + (((own_by B (i + 2)) % 64) * 64)) + ((own_by B (i + 3)) % 64))) (b := 65536) (by omega) (by omega)).mpr q)
                    refine w_iload X0 hx (hb hby d2_288) rfl (pc' := 290) rfl ?_
                    refine w_ldc X0 hx (hb hby d2_290) hown (mvT hZ (wd16 hw)) (pc' := 292) rfl ?_
                    refine w_icmp_le X0 hx (hb hby d2_292) (by decide) (pcY := 297) (by decide) (pc' := 295) rfl (fun h11 => ?_) (fun h11 => ?_)
                    · have h11n : ¬ 1114111 < ((((((own_by B i) % 8) * 262144) + (((own_by B (i + 1)) % 64) * 4096)) + (((own_by B (i + 2)) % 64) * 64)) + ((own_by B (i + 3)) % 64)) := fun q => h11 ((own_olt (a := 1114111) (b := ((((((own_by B i) % 8) * 262144) + (((own_by B (i + 1)) % 64) * 4096)) + (((own_by B (i + 2)) % 64) * 64)) + ((own_by B (i + 3)) % 64))) (by omega) (by omega)).mpr q)
                      refine w_iconst (v := (4 : Int32)) X0 hx (hb hby d2_297) rfl (pc' := 298) rfl ?_
                      exact w_ret_i X0 hx hret hlk (hb hby d2_298) (by decide) (by decide) ⟨congrArg (fun q => some (Value.int (Int32.ofNat q))) (show 4 = own_k B to i from by symm; unfold own_k; exact own_ok4 (by omega)), N0, P0⟩
                    · have h11n : 1114111 < ((((((own_by B i) % 8) * 262144) + (((own_by B (i + 1)) % 64) * 4096)) + (((own_by B (i + 2)) % 64) * 64)) + ((own_by B (i + 3)) % 64)) := (own_olt (a := 1114111) (b := ((((((own_by B i) % 8) * 262144) + (((own_by B (i + 1)) % 64) * 4096)) + (((own_by B (i + 2)) % 64) * 64)) + ((own_by B (i + 3)) % 64))) (by omega) (by omega)).mp h11
                      refine w_iconst (v := (0 : Int32)) X0 hx (hb hby d2_295) rfl (pc' := 296) rfl ?_
                      exact w_ret_i X0 hx hret hlk (hb hby d2_296) (by decide) (by decide) ⟨congrArg (fun q => some (Value.int (Int32.ofNat q))) (show 0 = own_k B to i from by symm; unfold own_k; exact own_ok0 (by omega) (by omega) (by omega) (by omega)), N0, P0⟩
                · have h9n : ¬ ((own_by B (i + 3)) / 64 * 64) = 128 := fun q => h9 ((own_oeq (a := ((own_by B (i + 3)) / 64 * 64)) (b := 128) (by omega) (by omega)).mpr q)
                  refine w_iconst (v := (0 : Int32)) X0 hx (hb hby d2_246) rfl (pc' := 247) rfl ?_
                  exact w_ret_i X0 hx hret hlk (hb hby d2_247) (by decide) (by decide) ⟨congrArg (fun q => some (Value.int (Int32.ofNat q))) (show 0 = own_k B to i from by symm; unfold own_k; exact own_ok0 (by omega) (by omega) (by omega) (by omega)), N0, P0⟩
              · have h7n : ¬ ((own_by B (i + 2)) / 64 * 64) = 128 := fun q => h7 ((own_oeq (a := ((own_by B (i + 2)) / 64 * 64)) (b := 128) (by omega) (by omega)).mpr q)
                refine w_iconst (v := (0 : Int32)) X0 hx (hb hby d2_163) rfl (pc' := 164) rfl ?_
                exact w_ret_i X0 hx hret hlk (hb hby d2_164) (by decide) (by decide) ⟨congrArg (fun q => some (Value.int (Int32.ofNat q))) (show 0 = own_k B to i from by symm; unfold own_k; exact own_ok0 (by omega) (by omega) (by omega) (by omega)), N0, P0⟩
            · have h5n : ¬ ((own_by B (i + 1)) / 64 * 64) = 128 := fun q => h5 ((own_oeq (a := ((own_by B (i + 1)) / 64 * 64)) (b := 128) (by omega) (by omega)).mpr q)
              refine w_iconst (v := (0 : Int32)) X0 hx (hb hby d2_103) rfl (pc' := 104) rfl ?_
              exact w_ret_i X0 hx hret hlk (hb hby d2_104) (by decide) (by decide) ⟨congrArg (fun q => some (Value.int (Int32.ofNat q))) (show 0 = own_k B to i from by symm; unfold own_k; exact own_ok0 (by omega) (by omega) (by omega) (by omega)), N0, P0⟩
          · have h4n : (to - i) < 4 := (own_olt (a := (to - i)) (b := 4) (by omega) (by omega)).mp h4
            refine w_iconst (v := (0 : Int32)) X0 hx (hb hby d2_78) rfl (pc' := 79) rfl ?_
            exact w_ret_i X0 hx hret hlk (hb hby d2_79) (by decide) (by decide) ⟨congrArg (fun q => some (Value.int (Int32.ofNat q))) (show 0 = own_k B to i from by symm; unfold own_k; exact own_ok0 (by omega) (by omega) (by omega) (by omega)), N0, P0⟩
      · have h2n : ((own_by B i) / 16 * 16) = 224 := (own_oeq (a := ((own_by B i) / 16 * 16)) (b := 224) (by omega) (by omega)).mp h2
        refine w_iconst (v := (3 : Int32)) X0 hx (hb hby d2_45) rfl (pc' := 46) rfl ?_
        refine w_istore (l' := #[.val (.ref (n0 + 0)), .val (.int (Int32.ofNat i)), .val (.int (Int32.ofNat to)), .val (.int (Int32.ofNat (own_by B i))), .val (.int (3 : Int32)), .unset, .unset, .unset, .unset]) X0 hx (hb hby d2_46) rfl (pc' := 48) rfl ?_
        refine w_goto X0 hx (hb hby d2_48) (by decide) (pc' := 70) (by decide) ?_
        refine w_iloadN X0 hx (hb hby d2_70) rfl (pc' := 71) rfl ?_
        refine w_iloadN X0 hx (hb hby d2_71) rfl (pc' := 72) rfl ?_
        refine w_isub X0 hx (hb hby d2_72) (pc' := 73) rfl ?_
        refine w_eqI (z := (Int32.ofNat (to - i))) (own_osub (a := to) (b := i) (by omega)) ?_
        refine w_iload X0 hx (hb hby d2_73) rfl (pc' := 75) rfl ?_
        refine w_icmp_ge X0 hx (hb hby d2_75) (by decide) (pcY := 80) (by decide) (pc' := 78) rfl (fun h12 => ?_) (fun h12 => ?_)
        · have h12n : ¬ (to - i) < 3 := fun q => h12 ((own_olt (a := (to - i)) (b := 3) (by omega) (by omega)).mpr q)
          refine w_aloadN X0 hx (hb hby d2_80) rfl rfl (pc' := 81) rfl ?_
          refine w_iloadN X0 hx (hb hby d2_81) rfl (pc' := 82) rfl ?_
          refine w_iconst (v := (1 : Int32)) X0 hx (hb hby d2_82) rfl (pc' := 83) rfl ?_
          refine w_iadd X0 hx (hb hby d2_83) (pc' := 84) rfl ?_
          refine w_eqI (z := (Int32.ofNat (i + 1))) (own_oadd i 1) ?_
          refine w_baloadL (i := 0) (jn := (i + 1)) X0 hx hZ P0 rfl hk0 (hb hby d2_84) (own_oN (by omega)) (own_llt hB (by omega)) (pc' := 85) rfl ?_
          refine w_sipush (v := (255 : Int32)) X0 hx (hb hby d2_85) rfl (pc' := 88) rfl ?_
          refine w_iand X0 hx (hb hby d2_88) (pc' := 89) rfl ?_
          refine w_eqI (z := (Int32.ofNat (own_by B (i + 1)))) (own_bye _ _) ?_
          refine w_istore (l' := #[.val (.ref (n0 + 0)), .val (.int (Int32.ofNat i)), .val (.int (Int32.ofNat to)), .val (.int (Int32.ofNat (own_by B i))), .val (.int (3 : Int32)), .val (.int (Int32.ofNat (own_by B (i + 1)))), .unset, .unset, .unset]) X0 hx (hb hby d2_89) rfl (pc' := 91) rfl ?_
          refine w_iload X0 hx (hb hby d2_91) rfl (pc' := 93) rfl ?_
          refine w_sipush (v := (192 : Int32)) X0 hx (hb hby d2_93) rfl (pc' := 96) rfl ?_
          refine w_iand X0 hx (hb hby d2_96) (pc' := 97) rfl ?_
          refine w_eqI (z := (Int32.ofNat ((own_by B (i + 1)) / 64 * 64))) (own_m192 (by omega)) ?_
          refine w_sipush (v := (128 : Int32)) X0 hx (hb hby d2_97) rfl (pc' := 100) rfl ?_
          refine w_icmp_eq X0 hx (hb hby d2_100) (by decide) (pcY := 105) (by decide) (pc' := 103) rfl (fun h13 => ?_) (fun h13 => ?_)
          · have h13n : ((own_by B (i + 1)) / 64 * 64) = 128 := (own_oeq (a := ((own_by B (i + 1)) / 64 * 64)) (b := 128) (by omega) (by omega)).mp h13
            refine w_iload X0 hx (hb hby d2_105) rfl (pc' := 107) rfl ?_
            refine w_iconst (v := (2 : Int32)) X0 hx (hb hby d2_107) rfl (pc' := 108) rfl ?_
            refine w_icmp_ne X0 hx (hb hby d2_108) (by decide) (pcY := 140) (by decide) (pc' := 111) rfl (fun h14 => ?_) (fun h14 => absurd h14 (by decide))
            refine w_aloadN X0 hx (hb hby d2_140) rfl rfl (pc' := 141) rfl ?_
            refine w_iloadN X0 hx (hb hby d2_141) rfl (pc' := 142) rfl ?_
            refine w_iconst (v := (2 : Int32)) X0 hx (hb hby d2_142) rfl (pc' := 143) rfl ?_
            refine w_iadd X0 hx (hb hby d2_143) (pc' := 144) rfl ?_
            refine w_eqI (z := (Int32.ofNat (i + 2))) (own_oadd i 2) ?_
            refine w_baloadL (i := 0) (jn := (i + 2)) X0 hx hZ P0 rfl hk0 (hb hby d2_144) (own_oN (by omega)) (own_llt hB (by omega)) (pc' := 145) rfl ?_
            refine w_sipush (v := (255 : Int32)) X0 hx (hb hby d2_145) rfl (pc' := 148) rfl ?_
            refine w_iand X0 hx (hb hby d2_148) (pc' := 149) rfl ?_
            refine w_eqI (z := (Int32.ofNat (own_by B (i + 2)))) (own_bye _ _) ?_
            refine w_istore (l' := #[.val (.ref (n0 + 0)), .val (.int (Int32.ofNat i)), .val (.int (Int32.ofNat to)), .val (.int (Int32.ofNat (own_by B i))), .val (.int (3 : Int32)), .val (.int (Int32.ofNat (own_by B (i + 1)))), .val (.int (Int32.ofNat (own_by B (i + 2)))), .unset, .unset]) X0 hx (hb hby d2_149) rfl (pc' := 151) rfl ?_
            refine w_iload X0 hx (hb hby d2_151) rfl (pc' := 153) rfl ?_
            refine w_sipush (v := (192 : Int32)) X0 hx (hb hby d2_153) rfl (pc' := 156) rfl ?_
            refine w_iand X0 hx (hb hby d2_156) (pc' := 157) rfl ?_
            refine w_eqI (z := (Int32.ofNat ((own_by B (i + 2)) / 64 * 64))) (own_m192 (by omega)) ?_
            refine w_sipush (v := (128 : Int32)) X0 hx (hb hby d2_157) rfl (pc' := 160) rfl ?_
            refine w_icmp_eq X0 hx (hb hby d2_160) (by decide) (pcY := 165) (by decide) (pc' := 163) rfl (fun h15 => ?_) (fun h15 => ?_)
            · have h15n : ((own_by B (i + 2)) / 64 * 64) = 128 := (own_oeq (a := ((own_by B (i + 2)) / 64 * 64)) (b := 128) (by omega) (by omega)).mp h15
              refine w_iload X0 hx (hb hby d2_165) rfl (pc' := 167) rfl ?_
              refine w_iconst (v := (3 : Int32)) X0 hx (hb hby d2_167) rfl (pc' := 168) rfl ?_
              refine w_icmp_ne X0 hx (hb hby d2_168) (by decide) (pcY := 223) (by decide) (pc' := 171) rfl (fun h16 => absurd h16 (by decide)) (fun h16 => ?_)
              refine w_iloadN X0 hx (hb hby d2_171) rfl (pc' := 172) rfl ?_
              refine w_bipush (v := (15 : Int32)) X0 hx (hb hby d2_172) rfl (pc' := 174) rfl ?_
              refine w_iand X0 hx (hb hby d2_174) (pc' := 175) rfl ?_
              refine w_eqI (z := (Int32.ofNat ((own_by B i) % 16))) (own_m15 (by omega)) ?_
              refine w_bipush (v := (12 : Int32)) X0 hx (hb hby d2_175) rfl (pc' := 177) rfl ?_
              refine w_ishl X0 hx (hb hby d2_177) (pc' := 178) rfl ?_
              refine w_eqI (z := (Int32.ofNat (((own_by B i) % 16) * 4096))) (own_oshl (by decide)) ?_
              refine w_iload X0 hx (hb hby d2_178) rfl (pc' := 180) rfl ?_
              refine w_bipush (v := (63 : Int32)) X0 hx (hb hby d2_180) rfl (pc' := 182) rfl ?_
              refine w_iand X0 hx (hb hby d2_182) (pc' := 183) rfl ?_
              refine w_eqI (z := (Int32.ofNat ((own_by B (i + 1)) % 64))) (own_m63 (by omega)) ?_
              refine w_bipush (v := (6 : Int32)) X0 hx (hb hby d2_183) rfl (pc' := 185) rfl ?_
              refine w_ishl X0 hx (hb hby d2_185) (pc' := 186) rfl ?_
              refine w_eqI (z := (Int32.ofNat (((own_by B (i + 1)) % 64) * 64))) (own_oshl (by decide)) ?_
              refine w_ior X0 hx (hb hby d2_186) (pc' := 187) rfl ?_
              refine w_eqI (z := (Int32.ofNat ((((own_by B i) % 16) * 4096) + (((own_by B (i + 1)) % 64) * 64)))) (own_oor 12 (by decide) 4096 rfl (by omega) (by omega) (by omega)) ?_
              refine w_iload X0 hx (hb hby d2_187) rfl (pc' := 189) rfl ?_
              refine w_bipush (v := (63 : Int32)) X0 hx (hb hby d2_189) rfl (pc' := 191) rfl ?_
              refine w_iand X0 hx (hb hby d2_191) (pc' := 192) rfl ?_
              refine w_eqI (z := (Int32.ofNat ((own_by B (i + 2)) % 64))) (own_m63 (by omega)) ?_
              refine w_ior X0 hx (hb hby d2_192) (pc' := 193) rfl ?_
              refine w_eqI (z := (Int32.ofNat (((((own_by B i) % 16) * 4096) + (((own_by B (i + 1)) % 64) * 64)) + ((own_by B (i + 2)) % 64)))) (own_oor 6 (by decide) 64 rfl (by omega) (by omega) (by omega)) ?_
              refine w_istore (l' := #[.val (.ref (n0 + 0)), .val (.int (Int32.ofNat i)), .val (.int (Int32.ofNat to)), .val (.int (Int32.ofNat (own_by B i))), .val (.int (3 : Int32)), .val (.int (Int32.ofNat (own_by B (i + 1)))), .val (.int (Int32.ofNat (own_by B (i + 2)))), .val (.int (Int32.ofNat (((((own_by B i) % 16) * 4096) + (((own_by B (i + 1)) % 64) * 64)) + ((own_by B (i + 2)) % 64)))), .unset]) X0 hx (hb hby d2_193) rfl (pc' := 195) rfl ?_
              refine w_iload X0 hx (hb hby d2_195) rfl (pc' := 197) rfl ?_
              refine w_sipush (v := (2048 : Int32)) X0 hx (hb hby d2_197) rfl (pc' := 200) rfl ?_
              refine w_icmp_ge X0 hx (hb hby d2_200) (by decide) (pcY := 205) (by decide) (pc' := 203) rfl (fun h17 => ?_) (fun h17 => ?_)
              · have h17n : ¬ (((((own_by B i) % 16) * 4096) + (((own_by B (i + 1)) % 64) * 64)) + ((own_by B (i + 2)) % 64)) < 2048 := fun q => h17 ((own_olt (a := (((((own_by B i) % 16) * 4096) + (((own_by B (i + 1)) % 64) * 64)) + ((own_by B (i + 2)) % 64))) (b := 2048) (by omega) (by omega)).mpr q)
                refine w_iload X0 hx (hb hby d2_205) rfl (pc' := 207) rfl ?_
                refine w_ldc X0 hx (hb hby d2_207) hown (mvT hZ (wd13 hw)) (pc' := 209) rfl ?_
                refine w_icmp_lt X0 hx (hb hby d2_209) (by decide) (pcY := 221) (by decide) (pc' := 212) rfl (fun h18 => ?_) (fun h18 => ?_)
                · have h18n : (((((own_by B i) % 16) * 4096) + (((own_by B (i + 1)) % 64) * 64)) + ((own_by B (i + 2)) % 64)) < 55296 := (own_olt (a := (((((own_by B i) % 16) * 4096) + (((own_by B (i + 1)) % 64) * 64)) + ((own_by B (i + 2)) % 64))) (b := 55296) (by omega) (by omega)).mp h18
                  refine w_iconst (v := (3 : Int32)) X0 hx (hb hby d2_221) rfl (pc' := 222) rfl ?_
                  exact w_ret_i X0 hx hret hlk (hb hby d2_222) (by decide) (by decide) ⟨congrArg (fun q => some (Value.int (Int32.ofNat q))) (show 3 = own_k B to i from by symm; unfold own_k; exact own_ok3 (by omega)), N0, P0⟩
                · have h18n : ¬ (((((own_by B i) % 16) * 4096) + (((own_by B (i + 1)) % 64) * 64)) + ((own_by B (i + 2)) % 64)) < 55296 := fun q => h18 ((own_olt (a := (((((own_by B i) % 16) * 4096) + (((own_by B (i + 1)) % 64) * 64)) + ((own_by B (i + 2)) % 64))) (b := 55296) (by omega) (by omega)).mpr q)
                  refine w_iload X0 hx (hb hby d2_212) rfl (pc' := 214) rfl ?_
                  refine w_ldc X0 hx (hb hby d2_214) hown (mvT hZ (wd14 hw)) (pc' := 216) rfl ?_
                  refine w_icmp_gt X0 hx (hb hby d2_216) (by decide) (pcY := 221) (by decide) (pc' := 219) rfl (fun h19 => ?_) (fun h19 => ?_)
                  · have h19n : 57343 < (((((own_by B i) % 16) * 4096) + (((own_by B (i + 1)) % 64) * 64)) + ((own_by B (i + 2)) % 64)) := (own_olt (a := 57343) (b := (((((own_by B i) % 16) * 4096) + (((own_by B (i + 1)) % 64) * 64)) + ((own_by B (i + 2)) % 64))) (by omega) (by omega)).mp h19
                    refine w_iconst (v := (3 : Int32)) X0 hx (hb hby d2_221) rfl (pc' := 222) rfl ?_
                    exact w_ret_i X0 hx hret hlk (hb hby d2_222) (by decide) (by decide) ⟨congrArg (fun q => some (Value.int (Int32.ofNat q))) (show 3 = own_k B to i from by symm; unfold own_k; exact own_ok3 (by omega)), N0, P0⟩
                  · have h19n : ¬ 57343 < (((((own_by B i) % 16) * 4096) + (((own_by B (i + 1)) % 64) * 64)) + ((own_by B (i + 2)) % 64)) := fun q => h19 ((own_olt (a := 57343) (b := (((((own_by B i) % 16) * 4096) + (((own_by B (i + 1)) % 64) * 64)) + ((own_by B (i + 2)) % 64))) (by omega) (by omega)).mpr q)
                    refine w_iconst (v := (0 : Int32)) X0 hx (hb hby d2_219) rfl (pc' := 220) rfl ?_
                    exact w_ret_i X0 hx hret hlk (hb hby d2_220) (by decide) (by decide) ⟨congrArg (fun q => some (Value.int (Int32.ofNat q))) (show 0 = own_k B to i from by symm; unfold own_k; exact own_ok0 (by omega) (by omega) (by omega) (by omega)), N0, P0⟩
              · have h17n : (((((own_by B i) % 16) * 4096) + (((own_by B (i + 1)) % 64) * 64)) + ((own_by B (i + 2)) % 64)) < 2048 := (own_olt (a := (((((own_by B i) % 16) * 4096) + (((own_by B (i + 1)) % 64) * 64)) + ((own_by B (i + 2)) % 64))) (b := 2048) (by omega) (by omega)).mp h17
                refine w_iconst (v := (0 : Int32)) X0 hx (hb hby d2_203) rfl (pc' := 204) rfl ?_
                exact w_ret_i X0 hx hret hlk (hb hby d2_204) (by decide) (by decide) ⟨congrArg (fun q => some (Value.int (Int32.ofNat q))) (show 0 = own_k B to i from by symm; unfold own_k; exact own_ok0 (by omega) (by omega) (by omega) (by omega)), N0, P0⟩
            · have h15n : ¬ ((own_by B (i + 2)) / 64 * 64) = 128 := fun q => h15 ((own_oeq (a := ((own_by B (i + 2)) / 64 * 64)) (b := 128) (by omega) (by omega)).mpr q)
              refine w_iconst (v := (0 : Int32)) X0 hx (hb hby d2_163) rfl (pc' := 164) rfl ?_
              exact w_ret_i X0 hx hret hlk (hb hby d2_164) (by decide) (by decide) ⟨congrArg (fun q => some (Value.int (Int32.ofNat q))) (show 0 = own_k B to i from by symm; unfold own_k; exact own_ok0 (by omega) (by omega) (by omega) (by omega)), N0, P0⟩
          · have h13n : ¬ ((own_by B (i + 1)) / 64 * 64) = 128 := fun q => h13 ((own_oeq (a := ((own_by B (i + 1)) / 64 * 64)) (b := 128) (by omega) (by omega)).mpr q)
            refine w_iconst (v := (0 : Int32)) X0 hx (hb hby d2_103) rfl (pc' := 104) rfl ?_
            exact w_ret_i X0 hx hret hlk (hb hby d2_104) (by decide) (by decide) ⟨congrArg (fun q => some (Value.int (Int32.ofNat q))) (show 0 = own_k B to i from by symm; unfold own_k; exact own_ok0 (by omega) (by omega) (by omega) (by omega)), N0, P0⟩
        · have h12n : (to - i) < 3 := (own_olt (a := (to - i)) (b := 3) (by omega) (by omega)).mp h12
          refine w_iconst (v := (0 : Int32)) X0 hx (hb hby d2_78) rfl (pc' := 79) rfl ?_
          exact w_ret_i X0 hx hret hlk (hb hby d2_79) (by decide) (by decide) ⟨congrArg (fun q => some (Value.int (Int32.ofNat q))) (show 0 = own_k B to i from by symm; unfold own_k; exact own_ok0 (by omega) (by omega) (by omega) (by omega)), N0, P0⟩
    · have h1n : ((own_by B i) / 32 * 32) = 192 := (own_oeq (a := ((own_by B i) / 32 * 32)) (b := 192) (by omega) (by omega)).mp h1
      refine w_iconst (v := (2 : Int32)) X0 hx (hb hby d2_28) rfl (pc' := 29) rfl ?_
      refine w_istore (l' := #[.val (.ref (n0 + 0)), .val (.int (Int32.ofNat i)), .val (.int (Int32.ofNat to)), .val (.int (Int32.ofNat (own_by B i))), .val (.int (2 : Int32)), .unset, .unset, .unset, .unset]) X0 hx (hb hby d2_29) rfl (pc' := 31) rfl ?_
      refine w_goto X0 hx (hb hby d2_31) (by decide) (pc' := 70) (by decide) ?_
      refine w_iloadN X0 hx (hb hby d2_70) rfl (pc' := 71) rfl ?_
      refine w_iloadN X0 hx (hb hby d2_71) rfl (pc' := 72) rfl ?_
      refine w_isub X0 hx (hb hby d2_72) (pc' := 73) rfl ?_
      refine w_eqI (z := (Int32.ofNat (to - i))) (own_osub (a := to) (b := i) (by omega)) ?_
      refine w_iload X0 hx (hb hby d2_73) rfl (pc' := 75) rfl ?_
      refine w_icmp_ge X0 hx (hb hby d2_75) (by decide) (pcY := 80) (by decide) (pc' := 78) rfl (fun h20 => ?_) (fun h20 => ?_)
      · have h20n : ¬ (to - i) < 2 := fun q => h20 ((own_olt (a := (to - i)) (b := 2) (by omega) (by omega)).mpr q)
        refine w_aloadN X0 hx (hb hby d2_80) rfl rfl (pc' := 81) rfl ?_
        refine w_iloadN X0 hx (hb hby d2_81) rfl (pc' := 82) rfl ?_
        refine w_iconst (v := (1 : Int32)) X0 hx (hb hby d2_82) rfl (pc' := 83) rfl ?_
        refine w_iadd X0 hx (hb hby d2_83) (pc' := 84) rfl ?_
        refine w_eqI (z := (Int32.ofNat (i + 1))) (own_oadd i 1) ?_
        refine w_baloadL (i := 0) (jn := (i + 1)) X0 hx hZ P0 rfl hk0 (hb hby d2_84) (own_oN (by omega)) (own_llt hB (by omega)) (pc' := 85) rfl ?_
        refine w_sipush (v := (255 : Int32)) X0 hx (hb hby d2_85) rfl (pc' := 88) rfl ?_
        refine w_iand X0 hx (hb hby d2_88) (pc' := 89) rfl ?_
        refine w_eqI (z := (Int32.ofNat (own_by B (i + 1)))) (own_bye _ _) ?_
        refine w_istore (l' := #[.val (.ref (n0 + 0)), .val (.int (Int32.ofNat i)), .val (.int (Int32.ofNat to)), .val (.int (Int32.ofNat (own_by B i))), .val (.int (2 : Int32)), .val (.int (Int32.ofNat (own_by B (i + 1)))), .unset, .unset, .unset]) X0 hx (hb hby d2_89) rfl (pc' := 91) rfl ?_
        refine w_iload X0 hx (hb hby d2_91) rfl (pc' := 93) rfl ?_
        refine w_sipush (v := (192 : Int32)) X0 hx (hb hby d2_93) rfl (pc' := 96) rfl ?_
        refine w_iand X0 hx (hb hby d2_96) (pc' := 97) rfl ?_
        refine w_eqI (z := (Int32.ofNat ((own_by B (i + 1)) / 64 * 64))) (own_m192 (by omega)) ?_
        refine w_sipush (v := (128 : Int32)) X0 hx (hb hby d2_97) rfl (pc' := 100) rfl ?_
        refine w_icmp_eq X0 hx (hb hby d2_100) (by decide) (pcY := 105) (by decide) (pc' := 103) rfl (fun h21 => ?_) (fun h21 => ?_)
        · have h21n : ((own_by B (i + 1)) / 64 * 64) = 128 := (own_oeq (a := ((own_by B (i + 1)) / 64 * 64)) (b := 128) (by omega) (by omega)).mp h21
          refine w_iload X0 hx (hb hby d2_105) rfl (pc' := 107) rfl ?_
          refine w_iconst (v := (2 : Int32)) X0 hx (hb hby d2_107) rfl (pc' := 108) rfl ?_
          refine w_icmp_ne X0 hx (hb hby d2_108) (by decide) (pcY := 140) (by decide) (pc' := 111) rfl (fun h22 => absurd h22 (by decide)) (fun h22 => ?_)
          refine w_iloadN X0 hx (hb hby d2_111) rfl (pc' := 112) rfl ?_
          refine w_bipush (v := (31 : Int32)) X0 hx (hb hby d2_112) rfl (pc' := 114) rfl ?_
          refine w_iand X0 hx (hb hby d2_114) (pc' := 115) rfl ?_
          refine w_eqI (z := (Int32.ofNat ((own_by B i) % 32))) (own_m31 (by omega)) ?_
          refine w_bipush (v := (6 : Int32)) X0 hx (hb hby d2_115) rfl (pc' := 117) rfl ?_
          refine w_ishl X0 hx (hb hby d2_117) (pc' := 118) rfl ?_
          refine w_eqI (z := (Int32.ofNat (((own_by B i) % 32) * 64))) (own_oshl (by decide)) ?_
          refine w_iload X0 hx (hb hby d2_118) rfl (pc' := 120) rfl ?_
          refine w_bipush (v := (63 : Int32)) X0 hx (hb hby d2_120) rfl (pc' := 122) rfl ?_
          refine w_iand X0 hx (hb hby d2_122) (pc' := 123) rfl ?_
          refine w_eqI (z := (Int32.ofNat ((own_by B (i + 1)) % 64))) (own_m63 (by omega)) ?_
          refine w_ior X0 hx (hb hby d2_123) (pc' := 124) rfl ?_
          refine w_eqI (z := (Int32.ofNat ((((own_by B i) % 32) * 64) + ((own_by B (i + 1)) % 64)))) (own_oor 6 (by decide) 64 rfl (by omega) (by omega) (by omega)) ?_
          refine w_istore (l' := #[.val (.ref (n0 + 0)), .val (.int (Int32.ofNat i)), .val (.int (Int32.ofNat to)), .val (.int (Int32.ofNat (own_by B i))), .val (.int (2 : Int32)), .val (.int (Int32.ofNat (own_by B (i + 1)))), .val (.int (Int32.ofNat ((((own_by B i) % 32) * 64) + ((own_by B (i + 1)) % 64)))), .unset, .unset]) X0 hx (hb hby d2_124) rfl (pc' := 126) rfl ?_
          refine w_iload X0 hx (hb hby d2_126) rfl (pc' := 128) rfl ?_
          refine w_sipush (v := (128 : Int32)) X0 hx (hb hby d2_128) rfl (pc' := 131) rfl ?_
          refine w_icmp_lt X0 hx (hb hby d2_131) (by decide) (pcY := 138) (by decide) (pc' := 134) rfl (fun h23 => ?_) (fun h23 => ?_)
          · have h23n : ((((own_by B i) % 32) * 64) + ((own_by B (i + 1)) % 64)) < 128 := (own_olt (a := ((((own_by B i) % 32) * 64) + ((own_by B (i + 1)) % 64))) (b := 128) (by omega) (by omega)).mp h23
            refine w_iconst (v := (0 : Int32)) X0 hx (hb hby d2_138) rfl (pc' := 139) rfl ?_
            exact w_ret_i X0 hx hret hlk (hb hby d2_139) (by decide) (by decide) ⟨congrArg (fun q => some (Value.int (Int32.ofNat q))) (show 0 = own_k B to i from by symm; unfold own_k; exact own_ok0 (by omega) (by omega) (by omega) (by omega)), N0, P0⟩
          · have h23n : ¬ ((((own_by B i) % 32) * 64) + ((own_by B (i + 1)) % 64)) < 128 := fun q => h23 ((own_olt (a := ((((own_by B i) % 32) * 64) + ((own_by B (i + 1)) % 64))) (b := 128) (by omega) (by omega)).mpr q)
            refine w_iconst (v := (2 : Int32)) X0 hx (hb hby d2_134) rfl (pc' := 135) rfl ?_
            refine w_goto X0 hx (hb hby d2_135) (by decide) (pc' := 139) (by decide) ?_
            exact w_ret_i X0 hx hret hlk (hb hby d2_139) (by decide) (by decide) ⟨congrArg (fun q => some (Value.int (Int32.ofNat q))) (show 2 = own_k B to i from by symm; unfold own_k; exact own_ok2 (by omega)), N0, P0⟩
        · have h21n : ¬ ((own_by B (i + 1)) / 64 * 64) = 128 := fun q => h21 ((own_oeq (a := ((own_by B (i + 1)) / 64 * 64)) (b := 128) (by omega) (by omega)).mpr q)
          refine w_iconst (v := (0 : Int32)) X0 hx (hb hby d2_103) rfl (pc' := 104) rfl ?_
          exact w_ret_i X0 hx hret hlk (hb hby d2_104) (by decide) (by decide) ⟨congrArg (fun q => some (Value.int (Int32.ofNat q))) (show 0 = own_k B to i from by symm; unfold own_k; exact own_ok0 (by omega) (by omega) (by omega) (by omega)), N0, P0⟩
      · have h20n : (to - i) < 2 := (own_olt (a := (to - i)) (b := 2) (by omega) (by omega)).mp h20
        refine w_iconst (v := (0 : Int32)) X0 hx (hb hby d2_78) rfl (pc' := 79) rfl ?_
        exact w_ret_i X0 hx hret hlk (hb hby d2_79) (by decide) (by decide) ⟨congrArg (fun q => some (Value.int (Int32.ofNat q))) (show 0 = own_k B to i from by symm; unfold own_k; exact own_ok0 (by omega) (by omega) (by omega) (by omega)), N0, P0⟩
  · have h0n : (own_by B i) < 128 := (own_olt (a := (own_by B i)) (b := 128) (by omega) (by omega)).mp h0
    refine w_iconst (v := (1 : Int32)) X0 hx (hb hby d2_15) rfl (pc' := 16) rfl ?_
    exact w_ret_i X0 hx hret hlk (hb hby d2_16) (by decide) (by decide) ⟨congrArg (fun q => some (Value.int (Int32.ofNat q))) (show 1 = own_k B to i from by symm; unfold own_k; exact own_ok1 (by omega)), N0, P0⟩
theorem d1_0 : decode method_3_code 0 = .ok (.iload_n 1, 1) := by decide +kernel
theorem d1_1 : decode method_3_code 1 = .ok (.ifCond .lt 8, 3) := by decide +kernel
theorem d1_4 : decode method_3_code 4 = .ok (.iload_n 1, 1) := by decide +kernel
theorem d1_5 : decode method_3_code 5 = .ok (.iload_n 2, 1) := by decide +kernel
theorem d1_6 : decode method_3_code 6 = .ok (.if_icmp .lt 5, 3) := by decide +kernel
theorem d1_9 : decode method_3_code 9 = .ok (.iload_n 1, 1) := by decide +kernel
theorem d1_10 : decode method_3_code 10 = .ok (.ireturn, 1) := by decide +kernel
theorem d1_11 : decode method_3_code 11 = .ok (.aload_n 0, 1) := by decide +kernel
theorem d1_12 : decode method_3_code 12 = .ok (.iload_n 1, 1) := by decide +kernel
theorem d1_13 : decode method_3_code 13 = .ok (.iload_n 2, 1) := by decide +kernel
theorem d1_14 : decode method_3_code 14 = .ok (.invokestatic 19, 3) := by decide +kernel
theorem d1_17 : decode method_3_code 17 = .ok (.istore_n 3, 1) := by decide +kernel
theorem d1_18 : decode method_3_code 18 = .ok (.iload_n 3, 1) := by decide +kernel
theorem d1_19 : decode method_3_code 19 = .ok (.ifCond .ne 8, 3) := by decide +kernel
theorem d1_22 : decode method_3_code 22 = .ok (.bipush (-2), 2) := by decide +kernel
theorem d1_24 : decode method_3_code 24 = .ok (.iload_n 1, 1) := by decide +kernel
theorem d1_25 : decode method_3_code 25 = .ok (.isub, 1) := by decide +kernel
theorem d1_26 : decode method_3_code 26 = .ok (.ireturn, 1) := by decide +kernel
theorem d1_27 : decode method_3_code 27 = .ok (.iload_n 1, 1) := by decide +kernel
theorem d1_28 : decode method_3_code 28 = .ok (.iload_n 3, 1) := by decide +kernel
theorem d1_29 : decode method_3_code 29 = .ok (.iadd, 1) := by decide +kernel
theorem d1_30 : decode method_3_code 30 = .ok (.ireturn, 1) := by decide +kernel
theorem pn1 : plainFor (⟨"com/example/normfeld/normfeld/io/Utf8FirstInvalidPinLaw", "next", "([BII)I"⟩ : MethodName) = true := plainFor_of_name (by first | (simp [plainName, overriddenIn]; done) | decide +kernel)
theorem pd1 : parseMethodDescriptor (⟨"com/example/normfeld/normfeld/io/Utf8FirstInvalidPinLaw", "next", "([BII)I"⟩ : MethodName).desc = some ⟨[(.array .byte), .int, .int], some .int⟩ := by decide +kernel
theorem ef_nxt (m : MethodId) (n0 : Nat) (i : Nat) (to : Nat) : entryFrame m #[.ref (n0 + 0), .int (Int32.ofNat i), .int (Int32.ofNat to)] 4 = mkF m 0 #[.val (.ref (n0 + 0)), .val (.int (Int32.ofNat i)), .val (.int (Int32.ofNat to)), .unset] [] := by first | (simp [entryFrame, mkF, argsToLocals, Value.category]; done) | rfl
def Q_nxt (Z : State) (n0 : Nat) (k0 : ClassId) (B : List Int32) (i : Nat) (to : Nat) (v : Option Value) (h : Heap) (L : List Loc) : Prop := Fr n0 L ∧ HP n0 h [AC k0 (List.map Value.int B)] ∧ ((i < to ∧ own_k B to i = 0 ∧ v = some (.int ((-2 : Int32) - Int32.ofNat i))) ∨ (i < to ∧ ¬ own_k B to i = 0 ∧ v = some (.int (Int32.ofNat (i + own_k B to i)))) ∨ (¬ i < to ∧ v = some (.int (Int32.ofNat i))))
set_option maxRecDepth 65536 in
set_option maxHeartbeats 40000000 in
theorem rm_nxt (l : Launch) (Z : State) (a0 : Array Value) (hw : ∀ d ∈ tables_1, d.before a0 Z = true) (ws : List Jvm.Cond) (n0 : Nat) (k0 : ClassId) (B : List Int32) (i : Nat) (to : Nat) (h0 : Heap) (P0 : HP n0 h0 [AC k0 (List.map Value.int B)]) (hk0 : IsA Z k0 .byte) (hB : B.length = 8) (hit : i ≤ to) (hto : to ≤ 8) :
    MetFree l (⟨"com/example/normfeld/normfeld/io/Utf8FirstInvalidPinLaw", "next", "([BII)I"⟩ : MethodName) (head1 (Jvm.Cond.code (⟨"com/example/normfeld/normfeld/io/Utf8FirstInvalidPinLaw", "next", "([BII)I"⟩ : MethodName) method_3_code 4 (some .int) :: ws) ({ frames := 1, cells := 0, slots := 0, locals := 20 } : Room)) (fun aa U => aa = #[.ref (n0 + 0), .int (Int32.ofNat i), .int (Int32.ofNat to)] ∧ Z.Warmed39 U.vm ∧ U.heap = h0) (fun _ _ _ _ _ => True) (fun _ U o U' => ∃ v L, o = .returned v ∧ Q_nxt Z n0 k0 B i to v U'.heap L ∧ FrameEnd U o U' L ({ frames := 1, cells := 0, slots := 0, locals := 20 } : Room).cells ({ frames := 1, cells := 0, slots := 0, locals := 20 } : Room).slots) := by
  refine own_body pn1 ?_
  intro p e s m below meth c T0 hx hby hml hret hlk hown hnm hZ X0 e0
  subst e0
  have N0 : Fr n0 [] := Fr.nil n0
  refine own_cast (ef_nxt m n0 i to) ?_
  refine w_iloadN X0 hx (hb hby d1_0) rfl (pc' := 1) rfl ?_
  refine w_if_lt X0 hx (hb hby d1_1) (by decide) (pcY := 9) (by decide) (pc' := 4) rfl (fun h0 => absurd ((own_olt (a := i) (b := 0) (by omega) (by omega)).mp h0) (Nat.not_lt_zero _)) (fun h0 => ?_)
  refine w_iloadN X0 hx (hb hby d1_4) rfl (pc' := 5) rfl ?_
  refine w_iloadN X0 hx (hb hby d1_5) rfl (pc' := 6) rfl ?_
  refine w_icmp_lt X0 hx (hb hby d1_6) (by decide) (pcY := 11) (by decide) (pc' := 9) rfl (fun h1 => ?_) (fun h1 => ?_)
  · have h1n : i < to := (own_olt (a := i) (b := to) (by omega) (by omega)).mp h1
    refine w_aloadN X0 hx (hb hby d1_11) rfl rfl (pc' := 12) rfl ?_
    refine w_iloadN X0 hx (hb hby d1_12) rfl (pc' := 13) rfl ?_
    refine w_iloadN X0 hx (hb hby d1_13) rfl (pc' := 14) rfl ?_
    refine own_call (W := 0) X0 hx hZ rfl hown hml.symm (wd6 hw) (wd7 hw) (wd4 hw) (wd8 hw) (rm_seq l Z a0 hw [] n0 k0 B i to _ P0 hk0 hB h1n hto) (by decide) (by decide) (by decide) (by decide) (by decide) (argsL := [.ref (n0 + 0), .int (Int32.ofNat i), .int (Int32.ofNat to)]) (rest := []) pd2 rfl rfl rfl (Nat.le_of_eq rfl) (hb hby d1_14) (pc' := 17) rfl ?_
    intro v1 T1 L1 X1 hq
    obtain ⟨rfl, N1, P1⟩ := hq
    replace N1 := Fr.app N0 N1
    have hkb := own_kb B to i h1n
    refine w_istoreN (l' := #[.val (.ref (n0 + 0)), .val (.int (Int32.ofNat i)), .val (.int (Int32.ofNat to)), .val (.int (Int32.ofNat (own_k B to i)))]) X1 hx (hb hby d1_17) rfl (pc' := 18) rfl ?_
    refine w_iloadN X1 hx (hb hby d1_18) rfl (pc' := 19) rfl ?_
    refine w_if_ne X1 hx (hb hby d1_19) (by decide) (pcY := 27) (by decide) (pc' := 22) rfl (fun h2 => ?_) (fun h2 => ?_)
    · have h2n : ¬ (own_k B to i) = 0 := fun q => h2 ((own_oeq (a := (own_k B to i)) (b := 0) (by omega) (by omega)).mpr q)
      refine w_iloadN X1 hx (hb hby d1_27) rfl (pc' := 28) rfl ?_
      refine w_iloadN X1 hx (hb hby d1_28) rfl (pc' := 29) rfl ?_
      refine w_iadd X1 hx (hb hby d1_29) (pc' := 30) rfl ?_
      refine w_eqI (z := (Int32.ofNat (i + (own_k B to i)))) (own_oadd i (own_k B to i)) ?_
      exact w_ret_i X1 hx hret hlk (hb hby d1_30) (by decide) (by decide) ⟨N1, P1, Or.inr (Or.inl ⟨h1n, h2n, rfl⟩)⟩
    · have h2n : (own_k B to i) = 0 := (own_oeq (a := (own_k B to i)) (b := 0) (by omega) (by omega)).mp h2
      refine w_bipush (v := (-2 : Int32)) X1 hx (hb hby d1_22) rfl (pc' := 24) rfl ?_
      refine w_iloadN X1 hx (hb hby d1_24) rfl (pc' := 25) rfl ?_
      refine w_isub X1 hx (hb hby d1_25) (pc' := 26) rfl ?_
      exact w_ret_i X1 hx hret hlk (hb hby d1_26) (by decide) (by decide) ⟨N1, P1, Or.inl ⟨h1n, h2n, rfl⟩⟩
  · have h1n : ¬ i < to := fun q => h1 ((own_olt (a := i) (b := to) (by omega) (by omega)).mpr q)
    refine w_iloadN X0 hx (hb hby d1_9) rfl (pc' := 10) rfl ?_
    exact w_ret_i X0 hx hret hlk (hb hby d1_10) (by decide) (by decide) ⟨N0, P0, Or.inr (Or.inr ⟨h1n, rfl⟩)⟩
theorem ef_nxn (m : MethodId) (n0 : Nat) (ss : Int32) (to : Nat) : entryFrame m #[.ref (n0 + 0), .int ss, .int (Int32.ofNat to)] 4 = mkF m 0 #[.val (.ref (n0 + 0)), .val (.int ss), .val (.int (Int32.ofNat to)), .unset] [] := by first | (simp [entryFrame, mkF, argsToLocals, Value.category]; done) | rfl
def Q_nxn (Z : State) (n0 : Nat) (k0 : ClassId) (B : List Int32) (ss : Int32) (to : Nat) (v : Option Value) (h : Heap) (L : List Loc) : Prop := v = some (.int ss) ∧ Fr n0 L ∧ HP n0 h [AC k0 (List.map Value.int B)]
set_option maxRecDepth 65536 in
set_option maxHeartbeats 40000000 in
theorem rm_nxn (l : Launch) (Z : State) (a0 : Array Value) (hw : ∀ d ∈ tables_1, d.before a0 Z = true) (ws : List Jvm.Cond) (n0 : Nat) (k0 : ClassId) (B : List Int32) (ss : Int32) (to : Nat) (h0 : Heap) (P0 : HP n0 h0 [AC k0 (List.map Value.int B)]) (hss : ss < 0) :
    MetFree l (⟨"com/example/normfeld/normfeld/io/Utf8FirstInvalidPinLaw", "next", "([BII)I"⟩ : MethodName) (head1 (Jvm.Cond.code (⟨"com/example/normfeld/normfeld/io/Utf8FirstInvalidPinLaw", "next", "([BII)I"⟩ : MethodName) method_3_code 4 (some .int) :: ws) ({ frames := 0, cells := 0, slots := 0, locals := 0 } : Room)) (fun aa U => aa = #[.ref (n0 + 0), .int ss, .int (Int32.ofNat to)] ∧ Z.Warmed39 U.vm ∧ U.heap = h0) (fun _ _ _ _ _ => True) (fun _ U o U' => ∃ v L, o = .returned v ∧ Q_nxn Z n0 k0 B ss to v U'.heap L ∧ FrameEnd U o U' L ({ frames := 0, cells := 0, slots := 0, locals := 0 } : Room).cells ({ frames := 0, cells := 0, slots := 0, locals := 0 } : Room).slots) := by
  refine own_body pn1 ?_
  intro p e s m below meth c T0 hx hby hml hret hlk hown hnm hZ X0 e0
  subst e0
  have N0 : Fr n0 [] := Fr.nil n0
  refine own_cast (ef_nxn m n0 ss to) ?_
  refine w_iloadN X0 hx (hb hby d1_0) rfl (pc' := 1) rfl ?_
  refine w_if_lt X0 hx (hb hby d1_1) (by decide) (pcY := 9) (by decide) (pc' := 4) rfl (fun h0 => ?_) (fun h0 => absurd hss h0)
  refine w_iloadN X0 hx (hb hby d1_9) rfl (pc' := 10) rfl ?_
  exact w_ret_i X0 hx hret hlk (hb hby d1_10) (by decide) (by decide) ⟨rfl, N0, P0⟩
theorem d3_0 : decode prog_96_method_2_code 0 = .ok (.iload_n 1, 1) := by decide +kernel
theorem d3_1 : decode prog_96_method_2_code 1 = .ok (.istore_n 3, 1) := by decide +kernel
theorem d3_2 : decode prog_96_method_2_code 2 = .ok (.iload_n 3, 1) := by decide +kernel
theorem d3_3 : decode prog_96_method_2_code 3 = .ok (.iload_n 2, 1) := by decide +kernel
theorem d3_4 : decode prog_96_method_2_code 4 = .ok (.if_icmp .ge 241, 3) := by decide +kernel
theorem d3_7 : decode prog_96_method_2_code 7 = .ok (.aload_n 0, 1) := by decide +kernel
theorem d3_8 : decode prog_96_method_2_code 8 = .ok (.iload_n 3, 1) := by decide +kernel
theorem d3_9 : decode prog_96_method_2_code 9 = .ok (.baload, 1) := by decide +kernel
theorem d3_10 : decode prog_96_method_2_code 10 = .ok (.sipush 255, 3) := by decide +kernel
theorem d3_13 : decode prog_96_method_2_code 13 = .ok (.iand, 1) := by decide +kernel
theorem d3_14 : decode prog_96_method_2_code 14 = .ok (.istore 4, 2) := by decide +kernel
theorem d3_16 : decode prog_96_method_2_code 16 = .ok (.iload 4, 2) := by decide +kernel
theorem d3_18 : decode prog_96_method_2_code 18 = .ok (.sipush 128, 3) := by decide +kernel
theorem d3_21 : decode prog_96_method_2_code 21 = .ok (.if_icmp .ge 9, 3) := by decide +kernel
theorem d3_24 : decode prog_96_method_2_code 24 = .ok (.iinc 3 1, 3) := by decide +kernel
theorem d3_27 : decode prog_96_method_2_code 27 = .ok (.goto (-25), 3) := by decide +kernel
theorem d3_30 : decode prog_96_method_2_code 30 = .ok (.sipush 128, 3) := by decide +kernel
theorem d3_33 : decode prog_96_method_2_code 33 = .ok (.istore 6, 2) := by decide +kernel
theorem d3_35 : decode prog_96_method_2_code 35 = .ok (.sipush 191, 3) := by decide +kernel
theorem d3_38 : decode prog_96_method_2_code 38 = .ok (.istore 7, 2) := by decide +kernel
theorem d3_40 : decode prog_96_method_2_code 40 = .ok (.iload 4, 2) := by decide +kernel
theorem d3_42 : decode prog_96_method_2_code 42 = .ok (.sipush 194, 3) := by decide +kernel
theorem d3_45 : decode prog_96_method_2_code 45 = .ok (.if_icmp .lt 17, 3) := by decide +kernel
theorem d3_48 : decode prog_96_method_2_code 48 = .ok (.iload 4, 2) := by decide +kernel
theorem d3_50 : decode prog_96_method_2_code 50 = .ok (.sipush 223, 3) := by decide +kernel
theorem d3_53 : decode prog_96_method_2_code 53 = .ok (.if_icmp .gt 9, 3) := by decide +kernel
theorem d3_56 : decode prog_96_method_2_code 56 = .ok (.iconst 2, 1) := by decide +kernel
theorem d3_57 : decode prog_96_method_2_code 57 = .ok (.istore 5, 2) := by decide +kernel
theorem d3_59 : decode prog_96_method_2_code 59 = .ok (.goto 107, 3) := by decide +kernel
theorem d3_62 : decode prog_96_method_2_code 62 = .ok (.iload 4, 2) := by decide +kernel
theorem d3_64 : decode prog_96_method_2_code 64 = .ok (.sipush 224, 3) := by decide +kernel
theorem d3_67 : decode prog_96_method_2_code 67 = .ok (.if_icmp .lt 46, 3) := by decide +kernel
theorem d3_70 : decode prog_96_method_2_code 70 = .ok (.iload 4, 2) := by decide +kernel
theorem d3_72 : decode prog_96_method_2_code 72 = .ok (.sipush 239, 3) := by decide +kernel
theorem d3_75 : decode prog_96_method_2_code 75 = .ok (.if_icmp .gt 38, 3) := by decide +kernel
theorem d3_78 : decode prog_96_method_2_code 78 = .ok (.iconst 3, 1) := by decide +kernel
theorem d3_79 : decode prog_96_method_2_code 79 = .ok (.istore 5, 2) := by decide +kernel
theorem d3_81 : decode prog_96_method_2_code 81 = .ok (.iload 4, 2) := by decide +kernel
theorem d3_83 : decode prog_96_method_2_code 83 = .ok (.sipush 224, 3) := by decide +kernel
theorem d3_86 : decode prog_96_method_2_code 86 = .ok (.if_icmp .ne 11, 3) := by decide +kernel
theorem d3_89 : decode prog_96_method_2_code 89 = .ok (.sipush 160, 3) := by decide +kernel
theorem d3_92 : decode prog_96_method_2_code 92 = .ok (.istore 6, 2) := by decide +kernel
theorem d3_94 : decode prog_96_method_2_code 94 = .ok (.goto 72, 3) := by decide +kernel
theorem d3_97 : decode prog_96_method_2_code 97 = .ok (.iload 4, 2) := by decide +kernel
theorem d3_99 : decode prog_96_method_2_code 99 = .ok (.sipush 237, 3) := by decide +kernel
theorem d3_102 : decode prog_96_method_2_code 102 = .ok (.if_icmp .ne 64, 3) := by decide +kernel
theorem d3_105 : decode prog_96_method_2_code 105 = .ok (.sipush 159, 3) := by decide +kernel
theorem d3_108 : decode prog_96_method_2_code 108 = .ok (.istore 7, 2) := by decide +kernel
theorem d3_110 : decode prog_96_method_2_code 110 = .ok (.goto 56, 3) := by decide +kernel
theorem d3_113 : decode prog_96_method_2_code 113 = .ok (.iload 4, 2) := by decide +kernel
theorem d3_115 : decode prog_96_method_2_code 115 = .ok (.sipush 240, 3) := by decide +kernel
theorem d3_118 : decode prog_96_method_2_code 118 = .ok (.if_icmp .lt 46, 3) := by decide +kernel
theorem d3_121 : decode prog_96_method_2_code 121 = .ok (.iload 4, 2) := by decide +kernel
theorem d3_123 : decode prog_96_method_2_code 123 = .ok (.sipush 244, 3) := by decide +kernel
theorem d3_126 : decode prog_96_method_2_code 126 = .ok (.if_icmp .gt 38, 3) := by decide +kernel
theorem d3_129 : decode prog_96_method_2_code 129 = .ok (.iconst 4, 1) := by decide +kernel
theorem d3_130 : decode prog_96_method_2_code 130 = .ok (.istore 5, 2) := by decide +kernel
theorem d3_132 : decode prog_96_method_2_code 132 = .ok (.iload 4, 2) := by decide +kernel
theorem d3_134 : decode prog_96_method_2_code 134 = .ok (.sipush 240, 3) := by decide +kernel
theorem d3_137 : decode prog_96_method_2_code 137 = .ok (.if_icmp .ne 11, 3) := by decide +kernel
theorem d3_140 : decode prog_96_method_2_code 140 = .ok (.sipush 144, 3) := by decide +kernel
theorem d3_143 : decode prog_96_method_2_code 143 = .ok (.istore 6, 2) := by decide +kernel
theorem d3_145 : decode prog_96_method_2_code 145 = .ok (.goto 21, 3) := by decide +kernel
theorem d3_148 : decode prog_96_method_2_code 148 = .ok (.iload 4, 2) := by decide +kernel
theorem d3_150 : decode prog_96_method_2_code 150 = .ok (.sipush 244, 3) := by decide +kernel
theorem d3_153 : decode prog_96_method_2_code 153 = .ok (.if_icmp .ne 13, 3) := by decide +kernel
theorem d3_156 : decode prog_96_method_2_code 156 = .ok (.sipush 143, 3) := by decide +kernel
theorem d3_159 : decode prog_96_method_2_code 159 = .ok (.istore 7, 2) := by decide +kernel
theorem d3_161 : decode prog_96_method_2_code 161 = .ok (.goto 5, 3) := by decide +kernel
theorem d3_164 : decode prog_96_method_2_code 164 = .ok (.iload_n 3, 1) := by decide +kernel
theorem d3_165 : decode prog_96_method_2_code 165 = .ok (.ireturn, 1) := by decide +kernel
theorem d3_166 : decode prog_96_method_2_code 166 = .ok (.iload_n 2, 1) := by decide +kernel
theorem d3_167 : decode prog_96_method_2_code 167 = .ok (.iload_n 3, 1) := by decide +kernel
theorem d3_168 : decode prog_96_method_2_code 168 = .ok (.isub, 1) := by decide +kernel
theorem d3_169 : decode prog_96_method_2_code 169 = .ok (.iload 5, 2) := by decide +kernel
theorem d3_171 : decode prog_96_method_2_code 171 = .ok (.if_icmp .ge 5, 3) := by decide +kernel
theorem d3_174 : decode prog_96_method_2_code 174 = .ok (.iload_n 3, 1) := by decide +kernel
theorem d3_175 : decode prog_96_method_2_code 175 = .ok (.ireturn, 1) := by decide +kernel
theorem d3_176 : decode prog_96_method_2_code 176 = .ok (.aload_n 0, 1) := by decide +kernel
theorem d3_177 : decode prog_96_method_2_code 177 = .ok (.iload_n 3, 1) := by decide +kernel
theorem d3_178 : decode prog_96_method_2_code 178 = .ok (.iconst 1, 1) := by decide +kernel
theorem d3_179 : decode prog_96_method_2_code 179 = .ok (.iadd, 1) := by decide +kernel
theorem d3_180 : decode prog_96_method_2_code 180 = .ok (.baload, 1) := by decide +kernel
theorem d3_181 : decode prog_96_method_2_code 181 = .ok (.sipush 255, 3) := by decide +kernel
theorem d3_184 : decode prog_96_method_2_code 184 = .ok (.iand, 1) := by decide +kernel
theorem d3_185 : decode prog_96_method_2_code 185 = .ok (.istore 8, 2) := by decide +kernel
theorem d3_187 : decode prog_96_method_2_code 187 = .ok (.iload 8, 2) := by decide +kernel
theorem d3_189 : decode prog_96_method_2_code 189 = .ok (.iload 6, 2) := by decide +kernel
theorem d3_191 : decode prog_96_method_2_code 191 = .ok (.if_icmp .lt 10, 3) := by decide +kernel
theorem d3_194 : decode prog_96_method_2_code 194 = .ok (.iload 8, 2) := by decide +kernel
theorem d3_196 : decode prog_96_method_2_code 196 = .ok (.iload 7, 2) := by decide +kernel
theorem d3_198 : decode prog_96_method_2_code 198 = .ok (.if_icmp .le 5, 3) := by decide +kernel
theorem d3_201 : decode prog_96_method_2_code 201 = .ok (.iload_n 3, 1) := by decide +kernel
theorem d3_202 : decode prog_96_method_2_code 202 = .ok (.ireturn, 1) := by decide +kernel
theorem d3_203 : decode prog_96_method_2_code 203 = .ok (.iconst 2, 1) := by decide +kernel
theorem d3_204 : decode prog_96_method_2_code 204 = .ok (.istore 9, 2) := by decide +kernel
theorem d3_206 : decode prog_96_method_2_code 206 = .ok (.iload 9, 2) := by decide +kernel
theorem d3_208 : decode prog_96_method_2_code 208 = .ok (.iload 5, 2) := by decide +kernel
theorem d3_210 : decode prog_96_method_2_code 210 = .ok (.if_icmp .ge 27, 3) := by decide +kernel
theorem d3_213 : decode prog_96_method_2_code 213 = .ok (.aload_n 0, 1) := by decide +kernel
theorem d3_214 : decode prog_96_method_2_code 214 = .ok (.iload_n 3, 1) := by decide +kernel
theorem d3_215 : decode prog_96_method_2_code 215 = .ok (.iload 9, 2) := by decide +kernel
theorem d3_217 : decode prog_96_method_2_code 217 = .ok (.iadd, 1) := by decide +kernel
theorem d3_218 : decode prog_96_method_2_code 218 = .ok (.baload, 1) := by decide +kernel
theorem d3_219 : decode prog_96_method_2_code 219 = .ok (.sipush 192, 3) := by decide +kernel
theorem d3_222 : decode prog_96_method_2_code 222 = .ok (.iand, 1) := by decide +kernel
theorem d3_223 : decode prog_96_method_2_code 223 = .ok (.sipush 128, 3) := by decide +kernel
theorem d3_226 : decode prog_96_method_2_code 226 = .ok (.if_icmp .eq 5, 3) := by decide +kernel
theorem d3_229 : decode prog_96_method_2_code 229 = .ok (.iload_n 3, 1) := by decide +kernel
theorem d3_230 : decode prog_96_method_2_code 230 = .ok (.ireturn, 1) := by decide +kernel
theorem d3_231 : decode prog_96_method_2_code 231 = .ok (.iinc 9 1, 3) := by decide +kernel
theorem d3_234 : decode prog_96_method_2_code 234 = .ok (.goto (-28), 3) := by decide +kernel
theorem d3_237 : decode prog_96_method_2_code 237 = .ok (.iload_n 3, 1) := by decide +kernel
theorem d3_238 : decode prog_96_method_2_code 238 = .ok (.iload 5, 2) := by decide +kernel
theorem d3_240 : decode prog_96_method_2_code 240 = .ok (.iadd, 1) := by decide +kernel
theorem d3_241 : decode prog_96_method_2_code 241 = .ok (.istore_n 3, 1) := by decide +kernel
theorem d3_242 : decode prog_96_method_2_code 242 = .ok (.goto (-240), 3) := by decide +kernel
theorem d3_245 : decode prog_96_method_2_code 245 = .ok (.iconst (-1), 1) := by decide +kernel
theorem d3_246 : decode prog_96_method_2_code 246 = .ok (.ireturn, 1) := by decide +kernel
theorem pn3 : plainFor (⟨"com/example/normfeld/normfeld/io/Utf8", "firstInvalid", "([BII)I"⟩ : MethodName) = true := plainFor_of_name (by first | (simp [plainName, overriddenIn]; done) | decide +kernel)
theorem pd3 : parseMethodDescriptor (⟨"com/example/normfeld/normfeld/io/Utf8", "firstInvalid", "([BII)I"⟩ : MethodName).desc = some ⟨[(.array .byte), .int, .int], some .int⟩ := by decide +kernel
theorem ef_fin (m : MethodId) (n0 : Nat) (fr : Nat) (to : Nat) : entryFrame m #[.ref (n0 + 0), .int (Int32.ofNat fr), .int (Int32.ofNat to)] 10 = mkF m 0 #[.val (.ref (n0 + 0)), .val (.int (Int32.ofNat fr)), .val (.int (Int32.ofNat to)), .unset, .unset, .unset, .unset, .unset, .unset, .unset] [] := by first | (simp [entryFrame, mkF, argsToLocals, Value.category]; done) | rfl
def Q_fin (Z : State) (n0 : Nat) (k0 : ClassId) (B : List Int32) (fr : Nat) (to : Nat) (v : Option Value) (h : Heap) (L : List Loc) : Prop := v = some (.int (own_fi B to 9 fr)) ∧ Fr n0 L ∧ HP n0 h [AC k0 (List.map Value.int B)]
set_option maxRecDepth 65536 in
set_option maxHeartbeats 40000000 in
theorem rm_fin (l : Launch) (Z : State) (a0 : Array Value) (hw : ∀ d ∈ tables_1, d.before a0 Z = true) (ws : List Jvm.Cond) (n0 : Nat) (k0 : ClassId) (B : List Int32) (fr : Nat) (to : Nat) (h0 : Heap) (P0 : HP n0 h0 [AC k0 (List.map Value.int B)]) (hk0 : IsA Z k0 .byte) (hB : B.length = 8) (hft : fr ≤ to) (hto : to ≤ 8) :
    MetFree l (⟨"com/example/normfeld/normfeld/io/Utf8", "firstInvalid", "([BII)I"⟩ : MethodName) (head1 (Jvm.Cond.code (⟨"com/example/normfeld/normfeld/io/Utf8", "firstInvalid", "([BII)I"⟩ : MethodName) prog_96_method_2_code 10 (some .int) :: ws) ({ frames := 0, cells := 0, slots := 0, locals := 0 } : Room)) (fun aa U => aa = #[.ref (n0 + 0), .int (Int32.ofNat fr), .int (Int32.ofNat to)] ∧ Z.Warmed39 U.vm ∧ U.heap = h0) (fun _ _ _ _ _ => True) (fun _ U o U' => ∃ v L, o = .returned v ∧ Q_fin Z n0 k0 B fr to v U'.heap L ∧ FrameEnd U o U' L ({ frames := 0, cells := 0, slots := 0, locals := 0 } : Room).cells ({ frames := 0, cells := 0, slots := 0, locals := 0 } : Room).slots) := by
  refine own_body pn3 ?_
  intro p e s m below meth c T0 hx hby hml hret hlk hown hnm hZ X0 e0
  subst e0
  have N0 : Fr n0 [] := Fr.nil n0
  refine own_cast (ef_fin m n0 fr to) ?_
  have J2 : ∀ (f i : Nat) (s4 s5 s6 s7 s8 s9 : Slot) (T1 : State) (L1 : List Loc), One s4 → One s5 → One s6 → One s7 → One s8 → One s9 → to - i < f → i ≤ to → own_fi B to f i = own_fi B to 9 fr → Fr n0 L1 → Stand p l e ({ frames := 0, cells := 0, slots := 0, locals := 0 } : Room) s m #[.ref (n0 + 0), .int (Int32.ofNat fr), .int (Int32.ofNat to)] below meth c T1 L1 0 0 → HP n0 T1.heap [AC k0 (List.map Value.int B)] → Wp p e s below ({ frames := 0, cells := 0, slots := 0, locals := 0 } : Room).cells ({ frames := 0, cells := 0, slots := 0, locals := 0 } : Room).slots (Q_fin Z n0 k0 B fr to) T1 (mkF m 2 #[.val (.ref (n0 + 0)), .val (.int (Int32.ofNat fr)), .val (.int (Int32.ofNat to)), .val (.int (Int32.ofNat i)), s4, s5, s6, s7, s8, s9] []) := by
    intro f
    induction f with
    | zero => intro i s4 s5 s6 s7 s8 s9 T1 L1 hs4 hs5 hs6 hs7 hs8 hs9 h; omega
    | succ f ih =>
      intro i s4 s5 s6 s7 s8 s9 T1 L1 hs4 hs5 hs6 hs7 hs8 hs9 hf hit hv N1 X1 P1
      have hb0 := own_byl B i
      have hb1 := own_byl B (i + 1)
      have hb2 := own_byl B (i + 2)
      have hb3 := own_byl B (i + 3)
      refine w_iloadN X1 hx (hb hby d3_2) rfl (pc' := 3) rfl ?_
      refine w_iloadN X1 hx (hb hby d3_3) rfl (pc' := 4) rfl ?_
      refine w_icmp_ge X1 hx (hb hby d3_4) (by decide) (pcY := 245) (by decide) (pc' := 7) rfl (fun h0 => ?_) (fun h0 => ?_)
      · have h0n : ¬ i < to := fun q => h0 ((own_olt (a := i) (b := to) (by omega) (by omega)).mpr q)
        refine w_iconst (v := (-1 : Int32)) X1 hx (hb hby d3_245) rfl (pc' := 246) rfl ?_
        exact w_ret_i X1 hx hret hlk (hb hby d3_246) (by decide) (by decide) ⟨by rw [← hv, own_fi, if_neg h0n], N1, P1⟩
      · have h0n : i < to := (own_olt (a := i) (b := to) (by omega) (by omega)).mp h0
        refine w_aloadN X1 hx (hb hby d3_7) rfl rfl (pc' := 8) rfl ?_
        refine w_iloadN X1 hx (hb hby d3_8) rfl (pc' := 9) rfl ?_
        refine w_baloadL (i := 0) (jn := i) X1 hx hZ P1 rfl hk0 (hb hby d3_9) (own_oN (by omega)) (own_llt hB (by omega)) (pc' := 10) rfl ?_
        refine w_sipush (v := (255 : Int32)) X1 hx (hb hby d3_10) rfl (pc' := 13) rfl ?_
        refine w_iand X1 hx (hb hby d3_13) (pc' := 14) rfl ?_
        refine w_eqI (z := (Int32.ofNat (own_by B i))) (own_bye _ _) ?_
        refine w_istore (l' := #[.val (.ref (n0 + 0)), .val (.int (Int32.ofNat fr)), .val (.int (Int32.ofNat to)), .val (.int (Int32.ofNat i)), .val (.int (Int32.ofNat (own_by B i))), s5, s6, s7, s8, s9]) X1 hx (hb hby d3_14) (XS.store1 rfl hs4 rfl) (pc' := 16) rfl ?_
        refine w_iload X1 hx (hb hby d3_16) rfl (pc' := 18) rfl ?_
        refine w_sipush (v := (128 : Int32)) X1 hx (hb hby d3_18) rfl (pc' := 21) rfl ?_
        refine w_icmp_ge X1 hx (hb hby d3_21) (by decide) (pcY := 30) (by decide) (pc' := 24) rfl (fun h1 => ?_) (fun h1 => ?_)
        · have h1n : ¬ (own_by B i) < 128 := fun q => h1 ((own_olt (a := (own_by B i)) (b := 128) (by omega) (by omega)).mpr q)
          refine w_sipush (v := (128 : Int32)) X1 hx (hb hby d3_30) rfl (pc' := 33) rfl ?_
          refine w_istore (l' := #[.val (.ref (n0 + 0)), .val (.int (Int32.ofNat fr)), .val (.int (Int32.ofNat to)), .val (.int (Int32.ofNat i)), .val (.int (Int32.ofNat (own_by B i))), s5, .val (.int (128 : Int32)), s7, s8, s9]) X1 hx (hb hby d3_33) (XS.store1 rfl hs6 rfl) (pc' := 35) rfl ?_
          refine w_sipush (v := (191 : Int32)) X1 hx (hb hby d3_35) rfl (pc' := 38) rfl ?_
          refine w_istore (l' := #[.val (.ref (n0 + 0)), .val (.int (Int32.ofNat fr)), .val (.int (Int32.ofNat to)), .val (.int (Int32.ofNat i)), .val (.int (Int32.ofNat (own_by B i))), s5, .val (.int (128 : Int32)), .val (.int (191 : Int32)), s8, s9]) X1 hx (hb hby d3_38) (XS.store1 rfl hs7 rfl) (pc' := 40) rfl ?_
          refine w_iload X1 hx (hb hby d3_40) rfl (pc' := 42) rfl ?_
          refine w_sipush (v := (194 : Int32)) X1 hx (hb hby d3_42) rfl (pc' := 45) rfl ?_
          refine w_icmp_lt X1 hx (hb hby d3_45) (by decide) (pcY := 62) (by decide) (pc' := 48) rfl (fun h2 => ?_) (fun h2 => ?_)
          · have h2n : (own_by B i) < 194 := (own_olt (a := (own_by B i)) (b := 194) (by omega) (by omega)).mp h2
            refine w_iload X1 hx (hb hby d3_62) rfl (pc' := 64) rfl ?_
            refine w_sipush (v := (224 : Int32)) X1 hx (hb hby d3_64) rfl (pc' := 67) rfl ?_
            refine w_icmp_lt X1 hx (hb hby d3_67) (by decide) (pcY := 113) (by decide) (pc' := 70) rfl (fun h3 => ?_) (fun h3 => ?_)
            · have h3n : (own_by B i) < 224 := (own_olt (a := (own_by B i)) (b := 224) (by omega) (by omega)).mp h3
              refine w_iload X1 hx (hb hby d3_113) rfl (pc' := 115) rfl ?_
              refine w_sipush (v := (240 : Int32)) X1 hx (hb hby d3_115) rfl (pc' := 118) rfl ?_
              refine w_icmp_lt X1 hx (hb hby d3_118) (by decide) (pcY := 164) (by decide) (pc' := 121) rfl (fun h4 => ?_) (fun h4 => ?_)
              · have h4n : (own_by B i) < 240 := (own_olt (a := (own_by B i)) (b := 240) (by omega) (by omega)).mp h4
                refine w_iloadN X1 hx (hb hby d3_164) rfl (pc' := 165) rfl ?_
                exact w_ret_i X1 hx hret hlk (hb hby d3_165) (by decide) (by decide) ⟨by rw [← hv, own_fi, if_pos h0n, if_pos (show own_k B to i = 0 from by unfold own_k; exact own_ok0 (by omega) (by omega) (by omega) (by omega))], N1, P1⟩
              · have h4n : ¬ (own_by B i) < 240 := fun q => h4 ((own_olt (a := (own_by B i)) (b := 240) (by omega) (by omega)).mpr q)
                refine w_iload X1 hx (hb hby d3_121) rfl (pc' := 123) rfl ?_
                refine w_sipush (v := (244 : Int32)) X1 hx (hb hby d3_123) rfl (pc' := 126) rfl ?_
                refine w_icmp_gt X1 hx (hb hby d3_126) (by decide) (pcY := 164) (by decide) (pc' := 129) rfl (fun h5 => ?_) (fun h5 => ?_)
                · have h5n : 244 < (own_by B i) := (own_olt (a := 244) (b := (own_by B i)) (by omega) (by omega)).mp h5
                  refine w_iloadN X1 hx (hb hby d3_164) rfl (pc' := 165) rfl ?_
                  exact w_ret_i X1 hx hret hlk (hb hby d3_165) (by decide) (by decide) ⟨by rw [← hv, own_fi, if_pos h0n, if_pos (show own_k B to i = 0 from by unfold own_k; exact own_ok0 (by omega) (by omega) (by omega) (by omega))], N1, P1⟩
                · have h5n : ¬ 244 < (own_by B i) := fun q => h5 ((own_olt (a := 244) (b := (own_by B i)) (by omega) (by omega)).mpr q)
                  refine w_iconst (v := (4 : Int32)) X1 hx (hb hby d3_129) rfl (pc' := 130) rfl ?_
                  refine w_istore (l' := #[.val (.ref (n0 + 0)), .val (.int (Int32.ofNat fr)), .val (.int (Int32.ofNat to)), .val (.int (Int32.ofNat i)), .val (.int (Int32.ofNat (own_by B i))), .val (.int (4 : Int32)), .val (.int (128 : Int32)), .val (.int (191 : Int32)), s8, s9]) X1 hx (hb hby d3_130) (XS.store1 rfl hs5 rfl) (pc' := 132) rfl ?_
                  refine w_iload X1 hx (hb hby d3_132) rfl (pc' := 134) rfl ?_
                  refine w_sipush (v := (240 : Int32)) X1 hx (hb hby d3_134) rfl (pc' := 137) rfl ?_
                  refine w_icmp_ne X1 hx (hb hby d3_137) (by decide) (pcY := 148) (by decide) (pc' := 140) rfl (fun h6 => ?_) (fun h6 => ?_)
                  · have h6n : ¬ (own_by B i) = 240 := fun q => h6 ((own_oeq (a := (own_by B i)) (b := 240) (by omega) (by omega)).mpr q)
                    refine w_iload X1 hx (hb hby d3_148) rfl (pc' := 150) rfl ?_
                    refine w_sipush (v := (244 : Int32)) X1 hx (hb hby d3_150) rfl (pc' := 153) rfl ?_
                    refine w_icmp_ne X1 hx (hb hby d3_153) (by decide) (pcY := 166) (by decide) (pc' := 156) rfl (fun h7 => ?_) (fun h7 => ?_)
                    · have h7n : ¬ (own_by B i) = 244 := fun q => h7 ((own_oeq (a := (own_by B i)) (b := 244) (by omega) (by omega)).mpr q)
                      refine w_iloadN X1 hx (hb hby d3_166) rfl (pc' := 167) rfl ?_
                      refine w_iloadN X1 hx (hb hby d3_167) rfl (pc' := 168) rfl ?_
                      refine w_isub X1 hx (hb hby d3_168) (pc' := 169) rfl ?_
                      refine w_eqI (z := (Int32.ofNat (to - i))) (own_osub (a := to) (b := i) (by omega)) ?_
                      refine w_iload X1 hx (hb hby d3_169) rfl (pc' := 171) rfl ?_
                      refine w_icmp_ge X1 hx (hb hby d3_171) (by decide) (pcY := 176) (by decide) (pc' := 174) rfl (fun h8 => ?_) (fun h8 => ?_)
                      · have h8n : ¬ (to - i) < 4 := fun q => h8 ((own_olt (a := (to - i)) (b := 4) (by omega) (by omega)).mpr q)
                        refine w_aloadN X1 hx (hb hby d3_176) rfl rfl (pc' := 177) rfl ?_
                        refine w_iloadN X1 hx (hb hby d3_177) rfl (pc' := 178) rfl ?_
                        refine w_iconst (v := (1 : Int32)) X1 hx (hb hby d3_178) rfl (pc' := 179) rfl ?_
                        refine w_iadd X1 hx (hb hby d3_179) (pc' := 180) rfl ?_
                        refine w_eqI (z := (Int32.ofNat (i + 1))) (own_oadd i 1) ?_
                        refine w_baloadL (i := 0) (jn := (i + 1)) X1 hx hZ P1 rfl hk0 (hb hby d3_180) (own_oN (by omega)) (own_llt hB (by omega)) (pc' := 181) rfl ?_
                        refine w_sipush (v := (255 : Int32)) X1 hx (hb hby d3_181) rfl (pc' := 184) rfl ?_
                        refine w_iand X1 hx (hb hby d3_184) (pc' := 185) rfl ?_
                        refine w_eqI (z := (Int32.ofNat (own_by B (i + 1)))) (own_bye _ _) ?_
                        refine w_istore (l' := #[.val (.ref (n0 + 0)), .val (.int (Int32.ofNat fr)), .val (.int (Int32.ofNat to)), .val (.int (Int32.ofNat i)), .val (.int (Int32.ofNat (own_by B i))), .val (.int (4 : Int32)), .val (.int (128 : Int32)), .val (.int (191 : Int32)), .val (.int (Int32.ofNat (own_by B (i + 1)))), s9]) X1 hx (hb hby d3_185) (XS.store1 rfl hs8 rfl) (pc' := 187) rfl ?_
                        refine w_iload X1 hx (hb hby d3_187) rfl (pc' := 189) rfl ?_
                        refine w_iload X1 hx (hb hby d3_189) rfl (pc' := 191) rfl ?_
                        refine w_icmp_lt X1 hx (hb hby d3_191) (by decide) (pcY := 201) (by decide) (pc' := 194) rfl (fun h9 => ?_) (fun h9 => ?_)
                        · have h9n : (own_by B (i + 1)) < 128 := (own_olt (a := (own_by B (i + 1))) (b := 128) (by omega) (by omega)).mp h9
                          refine w_iloadN X1 hx (hb hby d3_201) rfl (pc' := 202) rfl ?_
                          exact w_ret_i X1 hx hret hlk (hb hby d3_202) (by decide) (by decide) ⟨by rw [← hv, own_fi, if_pos h0n, if_pos (show own_k B to i = 0 from by unfold own_k; exact own_ok0 (by omega) (by omega) (by omega) (by omega))], N1, P1⟩
                        · have h9n : ¬ (own_by B (i + 1)) < 128 := fun q => h9 ((own_olt (a := (own_by B (i + 1))) (b := 128) (by omega) (by omega)).mpr q)
                          refine w_iload X1 hx (hb hby d3_194) rfl (pc' := 196) rfl ?_
                          refine w_iload X1 hx (hb hby d3_196) rfl (pc' := 198) rfl ?_
                          refine w_icmp_le X1 hx (hb hby d3_198) (by decide) (pcY := 203) (by decide) (pc' := 201) rfl (fun h10 => ?_) (fun h10 => ?_)
                          · have h10n : ¬ 191 < (own_by B (i + 1)) := fun q => h10 ((own_olt (a := 191) (b := (own_by B (i + 1))) (by omega) (by omega)).mpr q)
                            refine w_iconst (v := (2 : Int32)) X1 hx (hb hby d3_203) rfl (pc' := 204) rfl ?_
                            refine w_istore (l' := #[.val (.ref (n0 + 0)), .val (.int (Int32.ofNat fr)), .val (.int (Int32.ofNat to)), .val (.int (Int32.ofNat i)), .val (.int (Int32.ofNat (own_by B i))), .val (.int (4 : Int32)), .val (.int (128 : Int32)), .val (.int (191 : Int32)), .val (.int (Int32.ofNat (own_by B (i + 1)))), .val (.int (2 : Int32))]) X1 hx (hb hby d3_204) (XS.store1 rfl hs9 rfl) (pc' := 206) rfl ?_
                            refine w_iload X1 hx (hb hby d3_206) rfl (pc' := 208) rfl ?_
                            refine w_iload X1 hx (hb hby d3_208) rfl (pc' := 210) rfl ?_
                            refine w_icmp_ge X1 hx (hb hby d3_210) (by decide) (pcY := 237) (by decide) (pc' := 213) rfl (fun h11 => absurd h11 (by decide)) (fun h11 => ?_)
                            refine w_aloadN X1 hx (hb hby d3_213) rfl rfl (pc' := 214) rfl ?_
                            refine w_iloadN X1 hx (hb hby d3_214) rfl (pc' := 215) rfl ?_
                            refine w_iload X1 hx (hb hby d3_215) rfl (pc' := 217) rfl ?_
                            refine w_iadd X1 hx (hb hby d3_217) (pc' := 218) rfl ?_
                            refine w_eqI (z := (Int32.ofNat (i + 2))) (own_oadd i 2) ?_
                            refine w_baloadL (i := 0) (jn := (i + 2)) X1 hx hZ P1 rfl hk0 (hb hby d3_218) (own_oN (by omega)) (own_llt hB (by omega)) (pc' := 219) rfl ?_
                            refine w_sipush (v := (192 : Int32)) X1 hx (hb hby d3_219) rfl (pc' := 222) rfl ?_
                            refine w_iand X1 hx (hb hby d3_222) (pc' := 223) rfl ?_
                            refine w_eqI (z := (Int32.ofNat (own_by B (i + 2) / 64 * 64))) (own_byc _ _) ?_
                            refine w_sipush (v := (128 : Int32)) X1 hx (hb hby d3_223) rfl (pc' := 226) rfl ?_
                            refine w_icmp_eq X1 hx (hb hby d3_226) (by decide) (pcY := 231) (by decide) (pc' := 229) rfl (fun h12 => ?_) (fun h12 => ?_)
                            · have h12n : (own_by B (i + 2) / 64 * 64) = 128 := (own_oeq (a := (own_by B (i + 2) / 64 * 64)) (b := 128) (by omega) (by omega)).mp h12
                              refine w_iincE (z := (3 : Int32)) (l' := #[.val (.ref (n0 + 0)), .val (.int (Int32.ofNat fr)), .val (.int (Int32.ofNat to)), .val (.int (Int32.ofNat i)), .val (.int (Int32.ofNat (own_by B i))), .val (.int (4 : Int32)), .val (.int (128 : Int32)), .val (.int (191 : Int32)), .val (.int (Int32.ofNat (own_by B (i + 1)))), .val (.int (3 : Int32))]) X1 hx (hb hby d3_231) rfl (by decide) rfl (pc' := 234) rfl ?_
                              refine w_goto X1 hx (hb hby d3_234) (by decide) (pc' := 206) (by decide) ?_
                              refine w_iload X1 hx (hb hby d3_206) rfl (pc' := 208) rfl ?_
                              refine w_iload X1 hx (hb hby d3_208) rfl (pc' := 210) rfl ?_
                              refine w_icmp_ge X1 hx (hb hby d3_210) (by decide) (pcY := 237) (by decide) (pc' := 213) rfl (fun h13 => absurd h13 (by decide)) (fun h13 => ?_)
                              refine w_aloadN X1 hx (hb hby d3_213) rfl rfl (pc' := 214) rfl ?_
                              refine w_iloadN X1 hx (hb hby d3_214) rfl (pc' := 215) rfl ?_
                              refine w_iload X1 hx (hb hby d3_215) rfl (pc' := 217) rfl ?_
                              refine w_iadd X1 hx (hb hby d3_217) (pc' := 218) rfl ?_
                              refine w_eqI (z := (Int32.ofNat (i + 3))) (own_oadd i 3) ?_
                              refine w_baloadL (i := 0) (jn := (i + 3)) X1 hx hZ P1 rfl hk0 (hb hby d3_218) (own_oN (by omega)) (own_llt hB (by omega)) (pc' := 219) rfl ?_
                              refine w_sipush (v := (192 : Int32)) X1 hx (hb hby d3_219) rfl (pc' := 222) rfl ?_
                              refine w_iand X1 hx (hb hby d3_222) (pc' := 223) rfl ?_
                              refine w_eqI (z := (Int32.ofNat (own_by B (i + 3) / 64 * 64))) (own_byc _ _) ?_
                              refine w_sipush (v := (128 : Int32)) X1 hx (hb hby d3_223) rfl (pc' := 226) rfl ?_
                              refine w_icmp_eq X1 hx (hb hby d3_226) (by decide) (pcY := 231) (by decide) (pc' := 229) rfl (fun h14 => ?_) (fun h14 => ?_)
                              · have h14n : (own_by B (i + 3) / 64 * 64) = 128 := (own_oeq (a := (own_by B (i + 3) / 64 * 64)) (b := 128) (by omega) (by omega)).mp h14
                                refine w_iincE (z := (4 : Int32)) (l' := #[.val (.ref (n0 + 0)), .val (.int (Int32.ofNat fr)), .val (.int (Int32.ofNat to)), .val (.int (Int32.ofNat i)), .val (.int (Int32.ofNat (own_by B i))), .val (.int (4 : Int32)), .val (.int (128 : Int32)), .val (.int (191 : Int32)), .val (.int (Int32.ofNat (own_by B (i + 1)))), .val (.int (4 : Int32))]) X1 hx (hb hby d3_231) rfl (by decide) rfl (pc' := 234) rfl ?_
                                refine w_goto X1 hx (hb hby d3_234) (by decide) (pc' := 206) (by decide) ?_
                                refine w_iload X1 hx (hb hby d3_206) rfl (pc' := 208) rfl ?_
                                refine w_iload X1 hx (hb hby d3_208) rfl (pc' := 210) rfl ?_
                                refine w_icmp_ge X1 hx (hb hby d3_210) (by decide) (pcY := 237) (by decide) (pc' := 213) rfl (fun h15 => ?_) (fun h15 => absurd h15 (by decide))
                                refine w_iloadN X1 hx (hb hby d3_237) rfl (pc' := 238) rfl ?_
                                refine w_iload X1 hx (hb hby d3_238) rfl (pc' := 240) rfl ?_
                                refine w_iadd X1 hx (hb hby d3_240) (pc' := 241) rfl ?_
                                refine w_eqI (z := (Int32.ofNat (i + 4))) (own_oadd i 4) ?_
                                refine w_istoreN (l' := #[.val (.ref (n0 + 0)), .val (.int (Int32.ofNat fr)), .val (.int (Int32.ofNat to)), .val (.int (Int32.ofNat (i + 4))), .val (.int (Int32.ofNat (own_by B i))), .val (.int (4 : Int32)), .val (.int (128 : Int32)), .val (.int (191 : Int32)), .val (.int (Int32.ofNat (own_by B (i + 1)))), .val (.int (4 : Int32))]) X1 hx (hb hby d3_241) rfl (pc' := 242) rfl ?_
                                refine w_goto X1 hx (hb hby d3_242) (by decide) (pc' := 2) (by decide) ?_
                                have ek : own_k B to i = 4 := by unfold own_k; exact own_ok4 (by omega)
                                exact ih (i + 4) _ _ _ _ _ _ T1 L1 (One.val rfl) (One.val rfl) (One.val rfl) (One.val rfl) (One.val rfl) (One.val rfl) (by omega) (by omega) (by rw [← hv, own_fi, if_pos h0n, if_neg (by rw [ek]; decide), ek]) N1 X1 P1
                              · have h14n : ¬ (own_by B (i + 3) / 64 * 64) = 128 := fun q => h14 ((own_oeq (a := (own_by B (i + 3) / 64 * 64)) (b := 128) (by omega) (by omega)).mpr q)
                                refine w_iloadN X1 hx (hb hby d3_229) rfl (pc' := 230) rfl ?_
                                exact w_ret_i X1 hx hret hlk (hb hby d3_230) (by decide) (by decide) ⟨by rw [← hv, own_fi, if_pos h0n, if_pos (show own_k B to i = 0 from by unfold own_k; exact own_ok0 (by omega) (by omega) (by omega) (by omega))], N1, P1⟩
                            · have h12n : ¬ (own_by B (i + 2) / 64 * 64) = 128 := fun q => h12 ((own_oeq (a := (own_by B (i + 2) / 64 * 64)) (b := 128) (by omega) (by omega)).mpr q)
                              refine w_iloadN X1 hx (hb hby d3_229) rfl (pc' := 230) rfl ?_
                              exact w_ret_i X1 hx hret hlk (hb hby d3_230) (by decide) (by decide) ⟨by rw [← hv, own_fi, if_pos h0n, if_pos (show own_k B to i = 0 from by unfold own_k; exact own_ok0 (by omega) (by omega) (by omega) (by omega))], N1, P1⟩
                          · have h10n : 191 < (own_by B (i + 1)) := (own_olt (a := 191) (b := (own_by B (i + 1))) (by omega) (by omega)).mp h10
                            refine w_iloadN X1 hx (hb hby d3_201) rfl (pc' := 202) rfl ?_
                            exact w_ret_i X1 hx hret hlk (hb hby d3_202) (by decide) (by decide) ⟨by rw [← hv, own_fi, if_pos h0n, if_pos (show own_k B to i = 0 from by unfold own_k; exact own_ok0 (by omega) (by omega) (by omega) (by omega))], N1, P1⟩
                      · have h8n : (to - i) < 4 := (own_olt (a := (to - i)) (b := 4) (by omega) (by omega)).mp h8
                        refine w_iloadN X1 hx (hb hby d3_174) rfl (pc' := 175) rfl ?_
                        exact w_ret_i X1 hx hret hlk (hb hby d3_175) (by decide) (by decide) ⟨by rw [← hv, own_fi, if_pos h0n, if_pos (show own_k B to i = 0 from by unfold own_k; exact own_ok0 (by omega) (by omega) (by omega) (by omega))], N1, P1⟩
                    · have h7n : (own_by B i) = 244 := (own_oeq (a := (own_by B i)) (b := 244) (by omega) (by omega)).mp h7
                      refine w_sipush (v := (143 : Int32)) X1 hx (hb hby d3_156) rfl (pc' := 159) rfl ?_
                      refine w_istore (l' := #[.val (.ref (n0 + 0)), .val (.int (Int32.ofNat fr)), .val (.int (Int32.ofNat to)), .val (.int (Int32.ofNat i)), .val (.int (Int32.ofNat (own_by B i))), .val (.int (4 : Int32)), .val (.int (128 : Int32)), .val (.int (143 : Int32)), s8, s9]) X1 hx (hb hby d3_159) rfl (pc' := 161) rfl ?_
                      refine w_goto X1 hx (hb hby d3_161) (by decide) (pc' := 166) (by decide) ?_
                      refine w_iloadN X1 hx (hb hby d3_166) rfl (pc' := 167) rfl ?_
                      refine w_iloadN X1 hx (hb hby d3_167) rfl (pc' := 168) rfl ?_
                      refine w_isub X1 hx (hb hby d3_168) (pc' := 169) rfl ?_
                      refine w_eqI (z := (Int32.ofNat (to - i))) (own_osub (a := to) (b := i) (by omega)) ?_
                      refine w_iload X1 hx (hb hby d3_169) rfl (pc' := 171) rfl ?_
                      refine w_icmp_ge X1 hx (hb hby d3_171) (by decide) (pcY := 176) (by decide) (pc' := 174) rfl (fun h16 => ?_) (fun h16 => ?_)
                      · have h16n : ¬ (to - i) < 4 := fun q => h16 ((own_olt (a := (to - i)) (b := 4) (by omega) (by omega)).mpr q)
                        refine w_aloadN X1 hx (hb hby d3_176) rfl rfl (pc' := 177) rfl ?_
                        refine w_iloadN X1 hx (hb hby d3_177) rfl (pc' := 178) rfl ?_
                        refine w_iconst (v := (1 : Int32)) X1 hx (hb hby d3_178) rfl (pc' := 179) rfl ?_
                        refine w_iadd X1 hx (hb hby d3_179) (pc' := 180) rfl ?_
                        refine w_eqI (z := (Int32.ofNat (i + 1))) (own_oadd i 1) ?_
                        refine w_baloadL (i := 0) (jn := (i + 1)) X1 hx hZ P1 rfl hk0 (hb hby d3_180) (own_oN (by omega)) (own_llt hB (by omega)) (pc' := 181) rfl ?_
                        refine w_sipush (v := (255 : Int32)) X1 hx (hb hby d3_181) rfl (pc' := 184) rfl ?_
                        refine w_iand X1 hx (hb hby d3_184) (pc' := 185) rfl ?_
                        refine w_eqI (z := (Int32.ofNat (own_by B (i + 1)))) (own_bye _ _) ?_
                        refine w_istore (l' := #[.val (.ref (n0 + 0)), .val (.int (Int32.ofNat fr)), .val (.int (Int32.ofNat to)), .val (.int (Int32.ofNat i)), .val (.int (Int32.ofNat (own_by B i))), .val (.int (4 : Int32)), .val (.int (128 : Int32)), .val (.int (143 : Int32)), .val (.int (Int32.ofNat (own_by B (i + 1)))), s9]) X1 hx (hb hby d3_185) (XS.store1 rfl hs8 rfl) (pc' := 187) rfl ?_
                        refine w_iload X1 hx (hb hby d3_187) rfl (pc' := 189) rfl ?_
                        refine w_iload X1 hx (hb hby d3_189) rfl (pc' := 191) rfl ?_
                        refine w_icmp_lt X1 hx (hb hby d3_191) (by decide) (pcY := 201) (by decide) (pc' := 194) rfl (fun h17 => ?_) (fun h17 => ?_)
                        · have h17n : (own_by B (i + 1)) < 128 := (own_olt (a := (own_by B (i + 1))) (b := 128) (by omega) (by omega)).mp h17
                          refine w_iloadN X1 hx (hb hby d3_201) rfl (pc' := 202) rfl ?_
                          exact w_ret_i X1 hx hret hlk (hb hby d3_202) (by decide) (by decide) ⟨by rw [← hv, own_fi, if_pos h0n, if_pos (show own_k B to i = 0 from by unfold own_k; exact own_ok0 (by omega) (by omega) (by omega) (by omega))], N1, P1⟩
                        · have h17n : ¬ (own_by B (i + 1)) < 128 := fun q => h17 ((own_olt (a := (own_by B (i + 1))) (b := 128) (by omega) (by omega)).mpr q)
                          refine w_iload X1 hx (hb hby d3_194) rfl (pc' := 196) rfl ?_
                          refine w_iload X1 hx (hb hby d3_196) rfl (pc' := 198) rfl ?_
                          refine w_icmp_le X1 hx (hb hby d3_198) (by decide) (pcY := 203) (by decide) (pc' := 201) rfl (fun h18 => ?_) (fun h18 => ?_)
                          · have h18n : ¬ 143 < (own_by B (i + 1)) := fun q => h18 ((own_olt (a := 143) (b := (own_by B (i + 1))) (by omega) (by omega)).mpr q)
                            refine w_iconst (v := (2 : Int32)) X1 hx (hb hby d3_203) rfl (pc' := 204) rfl ?_
                            refine w_istore (l' := #[.val (.ref (n0 + 0)), .val (.int (Int32.ofNat fr)), .val (.int (Int32.ofNat to)), .val (.int (Int32.ofNat i)), .val (.int (Int32.ofNat (own_by B i))), .val (.int (4 : Int32)), .val (.int (128 : Int32)), .val (.int (143 : Int32)), .val (.int (Int32.ofNat (own_by B (i + 1)))), .val (.int (2 : Int32))]) X1 hx (hb hby d3_204) (XS.store1 rfl hs9 rfl) (pc' := 206) rfl ?_
                            refine w_iload X1 hx (hb hby d3_206) rfl (pc' := 208) rfl ?_
                            refine w_iload X1 hx (hb hby d3_208) rfl (pc' := 210) rfl ?_
                            refine w_icmp_ge X1 hx (hb hby d3_210) (by decide) (pcY := 237) (by decide) (pc' := 213) rfl (fun h19 => absurd h19 (by decide)) (fun h19 => ?_)
                            refine w_aloadN X1 hx (hb hby d3_213) rfl rfl (pc' := 214) rfl ?_
                            refine w_iloadN X1 hx (hb hby d3_214) rfl (pc' := 215) rfl ?_
                            refine w_iload X1 hx (hb hby d3_215) rfl (pc' := 217) rfl ?_
                            refine w_iadd X1 hx (hb hby d3_217) (pc' := 218) rfl ?_
                            refine w_eqI (z := (Int32.ofNat (i + 2))) (own_oadd i 2) ?_
                            refine w_baloadL (i := 0) (jn := (i + 2)) X1 hx hZ P1 rfl hk0 (hb hby d3_218) (own_oN (by omega)) (own_llt hB (by omega)) (pc' := 219) rfl ?_
                            refine w_sipush (v := (192 : Int32)) X1 hx (hb hby d3_219) rfl (pc' := 222) rfl ?_
                            refine w_iand X1 hx (hb hby d3_222) (pc' := 223) rfl ?_
                            refine w_eqI (z := (Int32.ofNat (own_by B (i + 2) / 64 * 64))) (own_byc _ _) ?_
                            refine w_sipush (v := (128 : Int32)) X1 hx (hb hby d3_223) rfl (pc' := 226) rfl ?_
                            refine w_icmp_eq X1 hx (hb hby d3_226) (by decide) (pcY := 231) (by decide) (pc' := 229) rfl (fun h20 => ?_) (fun h20 => ?_)
                            · have h20n : (own_by B (i + 2) / 64 * 64) = 128 := (own_oeq (a := (own_by B (i + 2) / 64 * 64)) (b := 128) (by omega) (by omega)).mp h20
                              refine w_iincE (z := (3 : Int32)) (l' := #[.val (.ref (n0 + 0)), .val (.int (Int32.ofNat fr)), .val (.int (Int32.ofNat to)), .val (.int (Int32.ofNat i)), .val (.int (Int32.ofNat (own_by B i))), .val (.int (4 : Int32)), .val (.int (128 : Int32)), .val (.int (143 : Int32)), .val (.int (Int32.ofNat (own_by B (i + 1)))), .val (.int (3 : Int32))]) X1 hx (hb hby d3_231) rfl (by decide) rfl (pc' := 234) rfl ?_
                              refine w_goto X1 hx (hb hby d3_234) (by decide) (pc' := 206) (by decide) ?_
                              refine w_iload X1 hx (hb hby d3_206) rfl (pc' := 208) rfl ?_
                              refine w_iload X1 hx (hb hby d3_208) rfl (pc' := 210) rfl ?_
                              refine w_icmp_ge X1 hx (hb hby d3_210) (by decide) (pcY := 237) (by decide) (pc' := 213) rfl (fun h21 => absurd h21 (by decide)) (fun h21 => ?_)
                              refine w_aloadN X1 hx (hb hby d3_213) rfl rfl (pc' := 214) rfl ?_
                              refine w_iloadN X1 hx (hb hby d3_214) rfl (pc' := 215) rfl ?_
                              refine w_iload X1 hx (hb hby d3_215) rfl (pc' := 217) rfl ?_
                              refine w_iadd X1 hx (hb hby d3_217) (pc' := 218) rfl ?_
                              refine w_eqI (z := (Int32.ofNat (i + 3))) (own_oadd i 3) ?_
                              refine w_baloadL (i := 0) (jn := (i + 3)) X1 hx hZ P1 rfl hk0 (hb hby d3_218) (own_oN (by omega)) (own_llt hB (by omega)) (pc' := 219) rfl ?_
                              refine w_sipush (v := (192 : Int32)) X1 hx (hb hby d3_219) rfl (pc' := 222) rfl ?_
                              refine w_iand X1 hx (hb hby d3_222) (pc' := 223) rfl ?_
                              refine w_eqI (z := (Int32.ofNat (own_by B (i + 3) / 64 * 64))) (own_byc _ _) ?_
                              refine w_sipush (v := (128 : Int32)) X1 hx (hb hby d3_223) rfl (pc' := 226) rfl ?_
                              refine w_icmp_eq X1 hx (hb hby d3_226) (by decide) (pcY := 231) (by decide) (pc' := 229) rfl (fun h22 => ?_) (fun h22 => ?_)
                              · have h22n : (own_by B (i + 3) / 64 * 64) = 128 := (own_oeq (a := (own_by B (i + 3) / 64 * 64)) (b := 128) (by omega) (by omega)).mp h22
                                refine w_iincE (z := (4 : Int32)) (l' := #[.val (.ref (n0 + 0)), .val (.int (Int32.ofNat fr)), .val (.int (Int32.ofNat to)), .val (.int (Int32.ofNat i)), .val (.int (Int32.ofNat (own_by B i))), .val (.int (4 : Int32)), .val (.int (128 : Int32)), .val (.int (143 : Int32)), .val (.int (Int32.ofNat (own_by B (i + 1)))), .val (.int (4 : Int32))]) X1 hx (hb hby d3_231) rfl (by decide) rfl (pc' := 234) rfl ?_
                                refine w_goto X1 hx (hb hby d3_234) (by decide) (pc' := 206) (by decide) ?_
                                refine w_iload X1 hx (hb hby d3_206) rfl (pc' := 208) rfl ?_
                                refine w_iload X1 hx (hb hby d3_208) rfl (pc' := 210) rfl ?_
                                refine w_icmp_ge X1 hx (hb hby d3_210) (by decide) (pcY := 237) (by decide) (pc' := 213) rfl (fun h23 => ?_) (fun h23 => absurd h23 (by decide))
                                refine w_iloadN X1 hx (hb hby d3_237) rfl (pc' := 238) rfl ?_
                                refine w_iload X1 hx (hb hby d3_238) rfl (pc' := 240) rfl ?_
                                refine w_iadd X1 hx (hb hby d3_240) (pc' := 241) rfl ?_
                                refine w_eqI (z := (Int32.ofNat (i + 4))) (own_oadd i 4) ?_
                                refine w_istoreN (l' := #[.val (.ref (n0 + 0)), .val (.int (Int32.ofNat fr)), .val (.int (Int32.ofNat to)), .val (.int (Int32.ofNat (i + 4))), .val (.int (Int32.ofNat (own_by B i))), .val (.int (4 : Int32)), .val (.int (128 : Int32)), .val (.int (143 : Int32)), .val (.int (Int32.ofNat (own_by B (i + 1)))), .val (.int (4 : Int32))]) X1 hx (hb hby d3_241) rfl (pc' := 242) rfl ?_
                                refine w_goto X1 hx (hb hby d3_242) (by decide) (pc' := 2) (by decide) ?_
                                have ek : own_k B to i = 4 := by unfold own_k; exact own_ok4 (by omega)
                                exact ih (i + 4) _ _ _ _ _ _ T1 L1 (One.val rfl) (One.val rfl) (One.val rfl) (One.val rfl) (One.val rfl) (One.val rfl) (by omega) (by omega) (by rw [← hv, own_fi, if_pos h0n, if_neg (by rw [ek]; decide), ek]) N1 X1 P1
                              · have h22n : ¬ (own_by B (i + 3) / 64 * 64) = 128 := fun q => h22 ((own_oeq (a := (own_by B (i + 3) / 64 * 64)) (b := 128) (by omega) (by omega)).mpr q)
                                refine w_iloadN X1 hx (hb hby d3_229) rfl (pc' := 230) rfl ?_
                                exact w_ret_i X1 hx hret hlk (hb hby d3_230) (by decide) (by decide) ⟨by rw [← hv, own_fi, if_pos h0n, if_pos (show own_k B to i = 0 from by unfold own_k; exact own_ok0 (by omega) (by omega) (by omega) (by omega))], N1, P1⟩
                            · have h20n : ¬ (own_by B (i + 2) / 64 * 64) = 128 := fun q => h20 ((own_oeq (a := (own_by B (i + 2) / 64 * 64)) (b := 128) (by omega) (by omega)).mpr q)
                              refine w_iloadN X1 hx (hb hby d3_229) rfl (pc' := 230) rfl ?_
                              exact w_ret_i X1 hx hret hlk (hb hby d3_230) (by decide) (by decide) ⟨by rw [← hv, own_fi, if_pos h0n, if_pos (show own_k B to i = 0 from by unfold own_k; exact own_ok0 (by omega) (by omega) (by omega) (by omega))], N1, P1⟩
                          · have h18n : 143 < (own_by B (i + 1)) := (own_olt (a := 143) (b := (own_by B (i + 1))) (by omega) (by omega)).mp h18
                            refine w_iloadN X1 hx (hb hby d3_201) rfl (pc' := 202) rfl ?_
                            exact w_ret_i X1 hx hret hlk (hb hby d3_202) (by decide) (by decide) ⟨by rw [← hv, own_fi, if_pos h0n, if_pos (show own_k B to i = 0 from by unfold own_k; exact own_ok0 (by omega) (by omega) (by omega) (by omega))], N1, P1⟩
                      · have h16n : (to - i) < 4 := (own_olt (a := (to - i)) (b := 4) (by omega) (by omega)).mp h16
                        refine w_iloadN X1 hx (hb hby d3_174) rfl (pc' := 175) rfl ?_
                        exact w_ret_i X1 hx hret hlk (hb hby d3_175) (by decide) (by decide) ⟨by rw [← hv, own_fi, if_pos h0n, if_pos (show own_k B to i = 0 from by unfold own_k; exact own_ok0 (by omega) (by omega) (by omega) (by omega))], N1, P1⟩
                  · have h6n : (own_by B i) = 240 := (own_oeq (a := (own_by B i)) (b := 240) (by omega) (by omega)).mp h6
                    refine w_sipush (v := (144 : Int32)) X1 hx (hb hby d3_140) rfl (pc' := 143) rfl ?_
                    refine w_istore (l' := #[.val (.ref (n0 + 0)), .val (.int (Int32.ofNat fr)), .val (.int (Int32.ofNat to)), .val (.int (Int32.ofNat i)), .val (.int (Int32.ofNat (own_by B i))), .val (.int (4 : Int32)), .val (.int (144 : Int32)), .val (.int (191 : Int32)), s8, s9]) X1 hx (hb hby d3_143) rfl (pc' := 145) rfl ?_
                    refine w_goto X1 hx (hb hby d3_145) (by decide) (pc' := 166) (by decide) ?_
                    refine w_iloadN X1 hx (hb hby d3_166) rfl (pc' := 167) rfl ?_
                    refine w_iloadN X1 hx (hb hby d3_167) rfl (pc' := 168) rfl ?_
                    refine w_isub X1 hx (hb hby d3_168) (pc' := 169) rfl ?_
                    refine w_eqI (z := (Int32.ofNat (to - i))) (own_osub (a := to) (b := i) (by omega)) ?_
                    refine w_iload X1 hx (hb hby d3_169) rfl (pc' := 171) rfl ?_
                    refine w_icmp_ge X1 hx (hb hby d3_171) (by decide) (pcY := 176) (by decide) (pc' := 174) rfl (fun h24 => ?_) (fun h24 => ?_)
                    · have h24n : ¬ (to - i) < 4 := fun q => h24 ((own_olt (a := (to - i)) (b := 4) (by omega) (by omega)).mpr q)
                      refine w_aloadN X1 hx (hb hby d3_176) rfl rfl (pc' := 177) rfl ?_
                      refine w_iloadN X1 hx (hb hby d3_177) rfl (pc' := 178) rfl ?_
                      refine w_iconst (v := (1 : Int32)) X1 hx (hb hby d3_178) rfl (pc' := 179) rfl ?_
                      refine w_iadd X1 hx (hb hby d3_179) (pc' := 180) rfl ?_
                      refine w_eqI (z := (Int32.ofNat (i + 1))) (own_oadd i 1) ?_
                      refine w_baloadL (i := 0) (jn := (i + 1)) X1 hx hZ P1 rfl hk0 (hb hby d3_180) (own_oN (by omega)) (own_llt hB (by omega)) (pc' := 181) rfl ?_
                      refine w_sipush (v := (255 : Int32)) X1 hx (hb hby d3_181) rfl (pc' := 184) rfl ?_
                      refine w_iand X1 hx (hb hby d3_184) (pc' := 185) rfl ?_
                      refine w_eqI (z := (Int32.ofNat (own_by B (i + 1)))) (own_bye _ _) ?_
                      refine w_istore (l' := #[.val (.ref (n0 + 0)), .val (.int (Int32.ofNat fr)), .val (.int (Int32.ofNat to)), .val (.int (Int32.ofNat i)), .val (.int (Int32.ofNat (own_by B i))), .val (.int (4 : Int32)), .val (.int (144 : Int32)), .val (.int (191 : Int32)), .val (.int (Int32.ofNat (own_by B (i + 1)))), s9]) X1 hx (hb hby d3_185) (XS.store1 rfl hs8 rfl) (pc' := 187) rfl ?_
                      refine w_iload X1 hx (hb hby d3_187) rfl (pc' := 189) rfl ?_
                      refine w_iload X1 hx (hb hby d3_189) rfl (pc' := 191) rfl ?_
                      refine w_icmp_lt X1 hx (hb hby d3_191) (by decide) (pcY := 201) (by decide) (pc' := 194) rfl (fun h25 => ?_) (fun h25 => ?_)
                      · have h25n : (own_by B (i + 1)) < 144 := (own_olt (a := (own_by B (i + 1))) (b := 144) (by omega) (by omega)).mp h25
                        refine w_iloadN X1 hx (hb hby d3_201) rfl (pc' := 202) rfl ?_
                        exact w_ret_i X1 hx hret hlk (hb hby d3_202) (by decide) (by decide) ⟨by rw [← hv, own_fi, if_pos h0n, if_pos (show own_k B to i = 0 from by unfold own_k; exact own_ok0 (by omega) (by omega) (by omega) (by omega))], N1, P1⟩
                      · have h25n : ¬ (own_by B (i + 1)) < 144 := fun q => h25 ((own_olt (a := (own_by B (i + 1))) (b := 144) (by omega) (by omega)).mpr q)
                        refine w_iload X1 hx (hb hby d3_194) rfl (pc' := 196) rfl ?_
                        refine w_iload X1 hx (hb hby d3_196) rfl (pc' := 198) rfl ?_
                        refine w_icmp_le X1 hx (hb hby d3_198) (by decide) (pcY := 203) (by decide) (pc' := 201) rfl (fun h26 => ?_) (fun h26 => ?_)
                        · have h26n : ¬ 191 < (own_by B (i + 1)) := fun q => h26 ((own_olt (a := 191) (b := (own_by B (i + 1))) (by omega) (by omega)).mpr q)
                          refine w_iconst (v := (2 : Int32)) X1 hx (hb hby d3_203) rfl (pc' := 204) rfl ?_
                          refine w_istore (l' := #[.val (.ref (n0 + 0)), .val (.int (Int32.ofNat fr)), .val (.int (Int32.ofNat to)), .val (.int (Int32.ofNat i)), .val (.int (Int32.ofNat (own_by B i))), .val (.int (4 : Int32)), .val (.int (144 : Int32)), .val (.int (191 : Int32)), .val (.int (Int32.ofNat (own_by B (i + 1)))), .val (.int (2 : Int32))]) X1 hx (hb hby d3_204) (XS.store1 rfl hs9 rfl) (pc' := 206) rfl ?_
                          refine w_iload X1 hx (hb hby d3_206) rfl (pc' := 208) rfl ?_
                          refine w_iload X1 hx (hb hby d3_208) rfl (pc' := 210) rfl ?_
                          refine w_icmp_ge X1 hx (hb hby d3_210) (by decide) (pcY := 237) (by decide) (pc' := 213) rfl (fun h27 => absurd h27 (by decide)) (fun h27 => ?_)
                          refine w_aloadN X1 hx (hb hby d3_213) rfl rfl (pc' := 214) rfl ?_
                          refine w_iloadN X1 hx (hb hby d3_214) rfl (pc' := 215) rfl ?_
                          refine w_iload X1 hx (hb hby d3_215) rfl (pc' := 217) rfl ?_
                          refine w_iadd X1 hx (hb hby d3_217) (pc' := 218) rfl ?_
                          refine w_eqI (z := (Int32.ofNat (i + 2))) (own_oadd i 2) ?_
                          refine w_baloadL (i := 0) (jn := (i + 2)) X1 hx hZ P1 rfl hk0 (hb hby d3_218) (own_oN (by omega)) (own_llt hB (by omega)) (pc' := 219) rfl ?_
                          refine w_sipush (v := (192 : Int32)) X1 hx (hb hby d3_219) rfl (pc' := 222) rfl ?_
                          refine w_iand X1 hx (hb hby d3_222) (pc' := 223) rfl ?_
                          refine w_eqI (z := (Int32.ofNat (own_by B (i + 2) / 64 * 64))) (own_byc _ _) ?_
                          refine w_sipush (v := (128 : Int32)) X1 hx (hb hby d3_223) rfl (pc' := 226) rfl ?_
                          refine w_icmp_eq X1 hx (hb hby d3_226) (by decide) (pcY := 231) (by decide) (pc' := 229) rfl (fun h28 => ?_) (fun h28 => ?_)
                          · have h28n : (own_by B (i + 2) / 64 * 64) = 128 := (own_oeq (a := (own_by B (i + 2) / 64 * 64)) (b := 128) (by omega) (by omega)).mp h28
                            refine w_iincE (z := (3 : Int32)) (l' := #[.val (.ref (n0 + 0)), .val (.int (Int32.ofNat fr)), .val (.int (Int32.ofNat to)), .val (.int (Int32.ofNat i)), .val (.int (Int32.ofNat (own_by B i))), .val (.int (4 : Int32)), .val (.int (144 : Int32)), .val (.int (191 : Int32)), .val (.int (Int32.ofNat (own_by B (i + 1)))), .val (.int (3 : Int32))]) X1 hx (hb hby d3_231) rfl (by decide) rfl (pc' := 234) rfl ?_
                            refine w_goto X1 hx (hb hby d3_234) (by decide) (pc' := 206) (by decide) ?_
                            refine w_iload X1 hx (hb hby d3_206) rfl (pc' := 208) rfl ?_
                            refine w_iload X1 hx (hb hby d3_208) rfl (pc' := 210) rfl ?_
                            refine w_icmp_ge X1 hx (hb hby d3_210) (by decide) (pcY := 237) (by decide) (pc' := 213) rfl (fun h29 => absurd h29 (by decide)) (fun h29 => ?_)
                            refine w_aloadN X1 hx (hb hby d3_213) rfl rfl (pc' := 214) rfl ?_
                            refine w_iloadN X1 hx (hb hby d3_214) rfl (pc' := 215) rfl ?_
                            refine w_iload X1 hx (hb hby d3_215) rfl (pc' := 217) rfl ?_
                            refine w_iadd X1 hx (hb hby d3_217) (pc' := 218) rfl ?_
                            refine w_eqI (z := (Int32.ofNat (i + 3))) (own_oadd i 3) ?_
                            refine w_baloadL (i := 0) (jn := (i + 3)) X1 hx hZ P1 rfl hk0 (hb hby d3_218) (own_oN (by omega)) (own_llt hB (by omega)) (pc' := 219) rfl ?_
                            refine w_sipush (v := (192 : Int32)) X1 hx (hb hby d3_219) rfl (pc' := 222) rfl ?_
                            refine w_iand X1 hx (hb hby d3_222) (pc' := 223) rfl ?_
                            refine w_eqI (z := (Int32.ofNat (own_by B (i + 3) / 64 * 64))) (own_byc _ _) ?_
                            refine w_sipush (v := (128 : Int32)) X1 hx (hb hby d3_223) rfl (pc' := 226) rfl ?_
                            refine w_icmp_eq X1 hx (hb hby d3_226) (by decide) (pcY := 231) (by decide) (pc' := 229) rfl (fun h30 => ?_) (fun h30 => ?_)
                            · have h30n : (own_by B (i + 3) / 64 * 64) = 128 := (own_oeq (a := (own_by B (i + 3) / 64 * 64)) (b := 128) (by omega) (by omega)).mp h30
                              refine w_iincE (z := (4 : Int32)) (l' := #[.val (.ref (n0 + 0)), .val (.int (Int32.ofNat fr)), .val (.int (Int32.ofNat to)), .val (.int (Int32.ofNat i)), .val (.int (Int32.ofNat (own_by B i))), .val (.int (4 : Int32)), .val (.int (144 : Int32)), .val (.int (191 : Int32)), .val (.int (Int32.ofNat (own_by B (i + 1)))), .val (.int (4 : Int32))]) X1 hx (hb hby d3_231) rfl (by decide) rfl (pc' := 234) rfl ?_
                              refine w_goto X1 hx (hb hby d3_234) (by decide) (pc' := 206) (by decide) ?_
                              refine w_iload X1 hx (hb hby d3_206) rfl (pc' := 208) rfl ?_
                              refine w_iload X1 hx (hb hby d3_208) rfl (pc' := 210) rfl ?_
                              refine w_icmp_ge X1 hx (hb hby d3_210) (by decide) (pcY := 237) (by decide) (pc' := 213) rfl (fun h31 => ?_) (fun h31 => absurd h31 (by decide))
                              refine w_iloadN X1 hx (hb hby d3_237) rfl (pc' := 238) rfl ?_
                              refine w_iload X1 hx (hb hby d3_238) rfl (pc' := 240) rfl ?_
                              refine w_iadd X1 hx (hb hby d3_240) (pc' := 241) rfl ?_
                              refine w_eqI (z := (Int32.ofNat (i + 4))) (own_oadd i 4) ?_
                              refine w_istoreN (l' := #[.val (.ref (n0 + 0)), .val (.int (Int32.ofNat fr)), .val (.int (Int32.ofNat to)), .val (.int (Int32.ofNat (i + 4))), .val (.int (Int32.ofNat (own_by B i))), .val (.int (4 : Int32)), .val (.int (144 : Int32)), .val (.int (191 : Int32)), .val (.int (Int32.ofNat (own_by B (i + 1)))), .val (.int (4 : Int32))]) X1 hx (hb hby d3_241) rfl (pc' := 242) rfl ?_
                              refine w_goto X1 hx (hb hby d3_242) (by decide) (pc' := 2) (by decide) ?_
                              have ek : own_k B to i = 4 := by unfold own_k; exact own_ok4 (by omega)
                              exact ih (i + 4) _ _ _ _ _ _ T1 L1 (One.val rfl) (One.val rfl) (One.val rfl) (One.val rfl) (One.val rfl) (One.val rfl) (by omega) (by omega) (by rw [← hv, own_fi, if_pos h0n, if_neg (by rw [ek]; decide), ek]) N1 X1 P1
                            · have h30n : ¬ (own_by B (i + 3) / 64 * 64) = 128 := fun q => h30 ((own_oeq (a := (own_by B (i + 3) / 64 * 64)) (b := 128) (by omega) (by omega)).mpr q)
                              refine w_iloadN X1 hx (hb hby d3_229) rfl (pc' := 230) rfl ?_
                              exact w_ret_i X1 hx hret hlk (hb hby d3_230) (by decide) (by decide) ⟨by rw [← hv, own_fi, if_pos h0n, if_pos (show own_k B to i = 0 from by unfold own_k; exact own_ok0 (by omega) (by omega) (by omega) (by omega))], N1, P1⟩
                          · have h28n : ¬ (own_by B (i + 2) / 64 * 64) = 128 := fun q => h28 ((own_oeq (a := (own_by B (i + 2) / 64 * 64)) (b := 128) (by omega) (by omega)).mpr q)
                            refine w_iloadN X1 hx (hb hby d3_229) rfl (pc' := 230) rfl ?_
                            exact w_ret_i X1 hx hret hlk (hb hby d3_230) (by decide) (by decide) ⟨by rw [← hv, own_fi, if_pos h0n, if_pos (show own_k B to i = 0 from by unfold own_k; exact own_ok0 (by omega) (by omega) (by omega) (by omega))], N1, P1⟩
                        · have h26n : 191 < (own_by B (i + 1)) := (own_olt (a := 191) (b := (own_by B (i + 1))) (by omega) (by omega)).mp h26
                          refine w_iloadN X1 hx (hb hby d3_201) rfl (pc' := 202) rfl ?_
                          exact w_ret_i X1 hx hret hlk (hb hby d3_202) (by decide) (by decide) ⟨by rw [← hv, own_fi, if_pos h0n, if_pos (show own_k B to i = 0 from by unfold own_k; exact own_ok0 (by omega) (by omega) (by omega) (by omega))], N1, P1⟩
                    · have h24n : (to - i) < 4 := (own_olt (a := (to - i)) (b := 4) (by omega) (by omega)).mp h24
                      refine w_iloadN X1 hx (hb hby d3_174) rfl (pc' := 175) rfl ?_
                      exact w_ret_i X1 hx hret hlk (hb hby d3_175) (by decide) (by decide) ⟨by rw [← hv, own_fi, if_pos h0n, if_pos (show own_k B to i = 0 from by unfold own_k; exact own_ok0 (by omega) (by omega) (by omega) (by omega))], N1, P1⟩
            · have h3n : ¬ (own_by B i) < 224 := fun q => h3 ((own_olt (a := (own_by B i)) (b := 224) (by omega) (by omega)).mpr q)
              refine w_iload X1 hx (hb hby d3_70) rfl (pc' := 72) rfl ?_
              refine w_sipush (v := (239 : Int32)) X1 hx (hb hby d3_72) rfl (pc' := 75) rfl ?_
              refine w_icmp_gt X1 hx (hb hby d3_75) (by decide) (pcY := 113) (by decide) (pc' := 78) rfl (fun h32 => ?_) (fun h32 => ?_)
              · have h32n : 239 < (own_by B i) := (own_olt (a := 239) (b := (own_by B i)) (by omega) (by omega)).mp h32
                refine w_iload X1 hx (hb hby d3_113) rfl (pc' := 115) rfl ?_
                refine w_sipush (v := (240 : Int32)) X1 hx (hb hby d3_115) rfl (pc' := 118) rfl ?_
                refine w_icmp_lt X1 hx (hb hby d3_118) (by decide) (pcY := 164) (by decide) (pc' := 121) rfl (fun h33 => ?_) (fun h33 => ?_)
                · have h33n : (own_by B i) < 240 := (own_olt (a := (own_by B i)) (b := 240) (by omega) (by omega)).mp h33
                  refine w_iloadN X1 hx (hb hby d3_164) rfl (pc' := 165) rfl ?_
                  exact w_ret_i X1 hx hret hlk (hb hby d3_165) (by decide) (by decide) ⟨by rw [← hv, own_fi, if_pos h0n, if_pos (show own_k B to i = 0 from by unfold own_k; exact own_ok0 (by omega) (by omega) (by omega) (by omega))], N1, P1⟩
                · have h33n : ¬ (own_by B i) < 240 := fun q => h33 ((own_olt (a := (own_by B i)) (b := 240) (by omega) (by omega)).mpr q)
                  refine w_iload X1 hx (hb hby d3_121) rfl (pc' := 123) rfl ?_
                  refine w_sipush (v := (244 : Int32)) X1 hx (hb hby d3_123) rfl (pc' := 126) rfl ?_
                  refine w_icmp_gt X1 hx (hb hby d3_126) (by decide) (pcY := 164) (by decide) (pc' := 129) rfl (fun h34 => ?_) (fun h34 => ?_)
                  · have h34n : 244 < (own_by B i) := (own_olt (a := 244) (b := (own_by B i)) (by omega) (by omega)).mp h34
                    refine w_iloadN X1 hx (hb hby d3_164) rfl (pc' := 165) rfl ?_
                    exact w_ret_i X1 hx hret hlk (hb hby d3_165) (by decide) (by decide) ⟨by rw [← hv, own_fi, if_pos h0n, if_pos (show own_k B to i = 0 from by unfold own_k; exact own_ok0 (by omega) (by omega) (by omega) (by omega))], N1, P1⟩
                  · have h34n : ¬ 244 < (own_by B i) := fun q => h34 ((own_olt (a := 244) (b := (own_by B i)) (by omega) (by omega)).mpr q)
                    refine w_iconst (v := (4 : Int32)) X1 hx (hb hby d3_129) rfl (pc' := 130) rfl ?_
                    refine w_istore (l' := #[.val (.ref (n0 + 0)), .val (.int (Int32.ofNat fr)), .val (.int (Int32.ofNat to)), .val (.int (Int32.ofNat i)), .val (.int (Int32.ofNat (own_by B i))), .val (.int (4 : Int32)), .val (.int (128 : Int32)), .val (.int (191 : Int32)), s8, s9]) X1 hx (hb hby d3_130) (XS.store1 rfl hs5 rfl) (pc' := 132) rfl ?_
                    refine w_iload X1 hx (hb hby d3_132) rfl (pc' := 134) rfl ?_
                    refine w_sipush (v := (240 : Int32)) X1 hx (hb hby d3_134) rfl (pc' := 137) rfl ?_
                    refine w_icmp_ne X1 hx (hb hby d3_137) (by decide) (pcY := 148) (by decide) (pc' := 140) rfl (fun h35 => ?_) (fun h35 => ?_)
                    · have h35n : ¬ (own_by B i) = 240 := fun q => h35 ((own_oeq (a := (own_by B i)) (b := 240) (by omega) (by omega)).mpr q)
                      refine w_iload X1 hx (hb hby d3_148) rfl (pc' := 150) rfl ?_
                      refine w_sipush (v := (244 : Int32)) X1 hx (hb hby d3_150) rfl (pc' := 153) rfl ?_
                      refine w_icmp_ne X1 hx (hb hby d3_153) (by decide) (pcY := 166) (by decide) (pc' := 156) rfl (fun h36 => ?_) (fun h36 => ?_)
                      · have h36n : ¬ (own_by B i) = 244 := fun q => h36 ((own_oeq (a := (own_by B i)) (b := 244) (by omega) (by omega)).mpr q)
                        refine w_iloadN X1 hx (hb hby d3_166) rfl (pc' := 167) rfl ?_
                        refine w_iloadN X1 hx (hb hby d3_167) rfl (pc' := 168) rfl ?_
                        refine w_isub X1 hx (hb hby d3_168) (pc' := 169) rfl ?_
                        refine w_eqI (z := (Int32.ofNat (to - i))) (own_osub (a := to) (b := i) (by omega)) ?_
                        refine w_iload X1 hx (hb hby d3_169) rfl (pc' := 171) rfl ?_
                        refine w_icmp_ge X1 hx (hb hby d3_171) (by decide) (pcY := 176) (by decide) (pc' := 174) rfl (fun h37 => ?_) (fun h37 => ?_)
                        · have h37n : ¬ (to - i) < 4 := fun q => h37 ((own_olt (a := (to - i)) (b := 4) (by omega) (by omega)).mpr q)
                          refine w_aloadN X1 hx (hb hby d3_176) rfl rfl (pc' := 177) rfl ?_
                          refine w_iloadN X1 hx (hb hby d3_177) rfl (pc' := 178) rfl ?_
                          refine w_iconst (v := (1 : Int32)) X1 hx (hb hby d3_178) rfl (pc' := 179) rfl ?_
                          refine w_iadd X1 hx (hb hby d3_179) (pc' := 180) rfl ?_
                          refine w_eqI (z := (Int32.ofNat (i + 1))) (own_oadd i 1) ?_
                          refine w_baloadL (i := 0) (jn := (i + 1)) X1 hx hZ P1 rfl hk0 (hb hby d3_180) (own_oN (by omega)) (own_llt hB (by omega)) (pc' := 181) rfl ?_
                          refine w_sipush (v := (255 : Int32)) X1 hx (hb hby d3_181) rfl (pc' := 184) rfl ?_
                          refine w_iand X1 hx (hb hby d3_184) (pc' := 185) rfl ?_
                          refine w_eqI (z := (Int32.ofNat (own_by B (i + 1)))) (own_bye _ _) ?_
                          refine w_istore (l' := #[.val (.ref (n0 + 0)), .val (.int (Int32.ofNat fr)), .val (.int (Int32.ofNat to)), .val (.int (Int32.ofNat i)), .val (.int (Int32.ofNat (own_by B i))), .val (.int (4 : Int32)), .val (.int (128 : Int32)), .val (.int (191 : Int32)), .val (.int (Int32.ofNat (own_by B (i + 1)))), s9]) X1 hx (hb hby d3_185) (XS.store1 rfl hs8 rfl) (pc' := 187) rfl ?_
                          refine w_iload X1 hx (hb hby d3_187) rfl (pc' := 189) rfl ?_
                          refine w_iload X1 hx (hb hby d3_189) rfl (pc' := 191) rfl ?_
                          refine w_icmp_lt X1 hx (hb hby d3_191) (by decide) (pcY := 201) (by decide) (pc' := 194) rfl (fun h38 => ?_) (fun h38 => ?_)
                          · have h38n : (own_by B (i + 1)) < 128 := (own_olt (a := (own_by B (i + 1))) (b := 128) (by omega) (by omega)).mp h38
                            refine w_iloadN X1 hx (hb hby d3_201) rfl (pc' := 202) rfl ?_
                            exact w_ret_i X1 hx hret hlk (hb hby d3_202) (by decide) (by decide) ⟨by rw [← hv, own_fi, if_pos h0n, if_pos (show own_k B to i = 0 from by unfold own_k; exact own_ok0 (by omega) (by omega) (by omega) (by omega))], N1, P1⟩
                          · have h38n : ¬ (own_by B (i + 1)) < 128 := fun q => h38 ((own_olt (a := (own_by B (i + 1))) (b := 128) (by omega) (by omega)).mpr q)
                            refine w_iload X1 hx (hb hby d3_194) rfl (pc' := 196) rfl ?_
                            refine w_iload X1 hx (hb hby d3_196) rfl (pc' := 198) rfl ?_
                            refine w_icmp_le X1 hx (hb hby d3_198) (by decide) (pcY := 203) (by decide) (pc' := 201) rfl (fun h39 => ?_) (fun h39 => ?_)
                            · have h39n : ¬ 191 < (own_by B (i + 1)) := fun q => h39 ((own_olt (a := 191) (b := (own_by B (i + 1))) (by omega) (by omega)).mpr q)
                              refine w_iconst (v := (2 : Int32)) X1 hx (hb hby d3_203) rfl (pc' := 204) rfl ?_
                              refine w_istore (l' := #[.val (.ref (n0 + 0)), .val (.int (Int32.ofNat fr)), .val (.int (Int32.ofNat to)), .val (.int (Int32.ofNat i)), .val (.int (Int32.ofNat (own_by B i))), .val (.int (4 : Int32)), .val (.int (128 : Int32)), .val (.int (191 : Int32)), .val (.int (Int32.ofNat (own_by B (i + 1)))), .val (.int (2 : Int32))]) X1 hx (hb hby d3_204) (XS.store1 rfl hs9 rfl) (pc' := 206) rfl ?_
                              refine w_iload X1 hx (hb hby d3_206) rfl (pc' := 208) rfl ?_
                              refine w_iload X1 hx (hb hby d3_208) rfl (pc' := 210) rfl ?_
                              refine w_icmp_ge X1 hx (hb hby d3_210) (by decide) (pcY := 237) (by decide) (pc' := 213) rfl (fun h40 => absurd h40 (by decide)) (fun h40 => ?_)
                              refine w_aloadN X1 hx (hb hby d3_213) rfl rfl (pc' := 214) rfl ?_
                              refine w_iloadN X1 hx (hb hby d3_214) rfl (pc' := 215) rfl ?_
                              refine w_iload X1 hx (hb hby d3_215) rfl (pc' := 217) rfl ?_
                              refine w_iadd X1 hx (hb hby d3_217) (pc' := 218) rfl ?_
                              refine w_eqI (z := (Int32.ofNat (i + 2))) (own_oadd i 2) ?_
                              refine w_baloadL (i := 0) (jn := (i + 2)) X1 hx hZ P1 rfl hk0 (hb hby d3_218) (own_oN (by omega)) (own_llt hB (by omega)) (pc' := 219) rfl ?_
                              refine w_sipush (v := (192 : Int32)) X1 hx (hb hby d3_219) rfl (pc' := 222) rfl ?_
                              refine w_iand X1 hx (hb hby d3_222) (pc' := 223) rfl ?_
                              refine w_eqI (z := (Int32.ofNat (own_by B (i + 2) / 64 * 64))) (own_byc _ _) ?_
                              refine w_sipush (v := (128 : Int32)) X1 hx (hb hby d3_223) rfl (pc' := 226) rfl ?_
                              refine w_icmp_eq X1 hx (hb hby d3_226) (by decide) (pcY := 231) (by decide) (pc' := 229) rfl (fun h41 => ?_) (fun h41 => ?_)
                              · have h41n : (own_by B (i + 2) / 64 * 64) = 128 := (own_oeq (a := (own_by B (i + 2) / 64 * 64)) (b := 128) (by omega) (by omega)).mp h41
                                refine w_iincE (z := (3 : Int32)) (l' := #[.val (.ref (n0 + 0)), .val (.int (Int32.ofNat fr)), .val (.int (Int32.ofNat to)), .val (.int (Int32.ofNat i)), .val (.int (Int32.ofNat (own_by B i))), .val (.int (4 : Int32)), .val (.int (128 : Int32)), .val (.int (191 : Int32)), .val (.int (Int32.ofNat (own_by B (i + 1)))), .val (.int (3 : Int32))]) X1 hx (hb hby d3_231) rfl (by decide) rfl (pc' := 234) rfl ?_
                                refine w_goto X1 hx (hb hby d3_234) (by decide) (pc' := 206) (by decide) ?_
                                refine w_iload X1 hx (hb hby d3_206) rfl (pc' := 208) rfl ?_
                                refine w_iload X1 hx (hb hby d3_208) rfl (pc' := 210) rfl ?_
                                refine w_icmp_ge X1 hx (hb hby d3_210) (by decide) (pcY := 237) (by decide) (pc' := 213) rfl (fun h42 => absurd h42 (by decide)) (fun h42 => ?_)
                                refine w_aloadN X1 hx (hb hby d3_213) rfl rfl (pc' := 214) rfl ?_
                                refine w_iloadN X1 hx (hb hby d3_214) rfl (pc' := 215) rfl ?_
                                refine w_iload X1 hx (hb hby d3_215) rfl (pc' := 217) rfl ?_
                                refine w_iadd X1 hx (hb hby d3_217) (pc' := 218) rfl ?_
                                refine w_eqI (z := (Int32.ofNat (i + 3))) (own_oadd i 3) ?_
                                refine w_baloadL (i := 0) (jn := (i + 3)) X1 hx hZ P1 rfl hk0 (hb hby d3_218) (own_oN (by omega)) (own_llt hB (by omega)) (pc' := 219) rfl ?_
                                refine w_sipush (v := (192 : Int32)) X1 hx (hb hby d3_219) rfl (pc' := 222) rfl ?_
                                refine w_iand X1 hx (hb hby d3_222) (pc' := 223) rfl ?_
                                refine w_eqI (z := (Int32.ofNat (own_by B (i + 3) / 64 * 64))) (own_byc _ _) ?_
                                refine w_sipush (v := (128 : Int32)) X1 hx (hb hby d3_223) rfl (pc' := 226) rfl ?_
                                refine w_icmp_eq X1 hx (hb hby d3_226) (by decide) (pcY := 231) (by decide) (pc' := 229) rfl (fun h43 => ?_) (fun h43 => ?_)
                                · have h43n : (own_by B (i + 3) / 64 * 64) = 128 := (own_oeq (a := (own_by B (i + 3) / 64 * 64)) (b := 128) (by omega) (by omega)).mp h43
                                  refine w_iincE (z := (4 : Int32)) (l' := #[.val (.ref (n0 + 0)), .val (.int (Int32.ofNat fr)), .val (.int (Int32.ofNat to)), .val (.int (Int32.ofNat i)), .val (.int (Int32.ofNat (own_by B i))), .val (.int (4 : Int32)), .val (.int (128 : Int32)), .val (.int (191 : Int32)), .val (.int (Int32.ofNat (own_by B (i + 1)))), .val (.int (4 : Int32))]) X1 hx (hb hby d3_231) rfl (by decide) rfl (pc' := 234) rfl ?_
                                  refine w_goto X1 hx (hb hby d3_234) (by decide) (pc' := 206) (by decide) ?_
                                  refine w_iload X1 hx (hb hby d3_206) rfl (pc' := 208) rfl ?_
                                  refine w_iload X1 hx (hb hby d3_208) rfl (pc' := 210) rfl ?_
                                  refine w_icmp_ge X1 hx (hb hby d3_210) (by decide) (pcY := 237) (by decide) (pc' := 213) rfl (fun h44 => ?_) (fun h44 => absurd h44 (by decide))
                                  refine w_iloadN X1 hx (hb hby d3_237) rfl (pc' := 238) rfl ?_
                                  refine w_iload X1 hx (hb hby d3_238) rfl (pc' := 240) rfl ?_
                                  refine w_iadd X1 hx (hb hby d3_240) (pc' := 241) rfl ?_
                                  refine w_eqI (z := (Int32.ofNat (i + 4))) (own_oadd i 4) ?_
                                  refine w_istoreN (l' := #[.val (.ref (n0 + 0)), .val (.int (Int32.ofNat fr)), .val (.int (Int32.ofNat to)), .val (.int (Int32.ofNat (i + 4))), .val (.int (Int32.ofNat (own_by B i))), .val (.int (4 : Int32)), .val (.int (128 : Int32)), .val (.int (191 : Int32)), .val (.int (Int32.ofNat (own_by B (i + 1)))), .val (.int (4 : Int32))]) X1 hx (hb hby d3_241) rfl (pc' := 242) rfl ?_
                                  refine w_goto X1 hx (hb hby d3_242) (by decide) (pc' := 2) (by decide) ?_
                                  have ek : own_k B to i = 4 := by unfold own_k; exact own_ok4 (by omega)
                                  exact ih (i + 4) _ _ _ _ _ _ T1 L1 (One.val rfl) (One.val rfl) (One.val rfl) (One.val rfl) (One.val rfl) (One.val rfl) (by omega) (by omega) (by rw [← hv, own_fi, if_pos h0n, if_neg (by rw [ek]; decide), ek]) N1 X1 P1
                                · have h43n : ¬ (own_by B (i + 3) / 64 * 64) = 128 := fun q => h43 ((own_oeq (a := (own_by B (i + 3) / 64 * 64)) (b := 128) (by omega) (by omega)).mpr q)
                                  refine w_iloadN X1 hx (hb hby d3_229) rfl (pc' := 230) rfl ?_
                                  exact w_ret_i X1 hx hret hlk (hb hby d3_230) (by decide) (by decide) ⟨by rw [← hv, own_fi, if_pos h0n, if_pos (show own_k B to i = 0 from by unfold own_k; exact own_ok0 (by omega) (by omega) (by omega) (by omega))], N1, P1⟩
                              · have h41n : ¬ (own_by B (i + 2) / 64 * 64) = 128 := fun q => h41 ((own_oeq (a := (own_by B (i + 2) / 64 * 64)) (b := 128) (by omega) (by omega)).mpr q)
                                refine w_iloadN X1 hx (hb hby d3_229) rfl (pc' := 230) rfl ?_
                                exact w_ret_i X1 hx hret hlk (hb hby d3_230) (by decide) (by decide) ⟨by rw [← hv, own_fi, if_pos h0n, if_pos (show own_k B to i = 0 from by unfold own_k; exact own_ok0 (by omega) (by omega) (by omega) (by omega))], N1, P1⟩
                            · have h39n : 191 < (own_by B (i + 1)) := (own_olt (a := 191) (b := (own_by B (i + 1))) (by omega) (by omega)).mp h39
                              refine w_iloadN X1 hx (hb hby d3_201) rfl (pc' := 202) rfl ?_
                              exact w_ret_i X1 hx hret hlk (hb hby d3_202) (by decide) (by decide) ⟨by rw [← hv, own_fi, if_pos h0n, if_pos (show own_k B to i = 0 from by unfold own_k; exact own_ok0 (by omega) (by omega) (by omega) (by omega))], N1, P1⟩
                        · have h37n : (to - i) < 4 := (own_olt (a := (to - i)) (b := 4) (by omega) (by omega)).mp h37
                          refine w_iloadN X1 hx (hb hby d3_174) rfl (pc' := 175) rfl ?_
                          exact w_ret_i X1 hx hret hlk (hb hby d3_175) (by decide) (by decide) ⟨by rw [← hv, own_fi, if_pos h0n, if_pos (show own_k B to i = 0 from by unfold own_k; exact own_ok0 (by omega) (by omega) (by omega) (by omega))], N1, P1⟩
                      · have h36n : (own_by B i) = 244 := (own_oeq (a := (own_by B i)) (b := 244) (by omega) (by omega)).mp h36
                        refine w_sipush (v := (143 : Int32)) X1 hx (hb hby d3_156) rfl (pc' := 159) rfl ?_
                        refine w_istore (l' := #[.val (.ref (n0 + 0)), .val (.int (Int32.ofNat fr)), .val (.int (Int32.ofNat to)), .val (.int (Int32.ofNat i)), .val (.int (Int32.ofNat (own_by B i))), .val (.int (4 : Int32)), .val (.int (128 : Int32)), .val (.int (143 : Int32)), s8, s9]) X1 hx (hb hby d3_159) rfl (pc' := 161) rfl ?_
                        refine w_goto X1 hx (hb hby d3_161) (by decide) (pc' := 166) (by decide) ?_
                        refine w_iloadN X1 hx (hb hby d3_166) rfl (pc' := 167) rfl ?_
                        refine w_iloadN X1 hx (hb hby d3_167) rfl (pc' := 168) rfl ?_
                        refine w_isub X1 hx (hb hby d3_168) (pc' := 169) rfl ?_
                        refine w_eqI (z := (Int32.ofNat (to - i))) (own_osub (a := to) (b := i) (by omega)) ?_
                        refine w_iload X1 hx (hb hby d3_169) rfl (pc' := 171) rfl ?_
                        refine w_icmp_ge X1 hx (hb hby d3_171) (by decide) (pcY := 176) (by decide) (pc' := 174) rfl (fun h45 => ?_) (fun h45 => ?_)
                        · have h45n : ¬ (to - i) < 4 := fun q => h45 ((own_olt (a := (to - i)) (b := 4) (by omega) (by omega)).mpr q)
                          refine w_aloadN X1 hx (hb hby d3_176) rfl rfl (pc' := 177) rfl ?_
                          refine w_iloadN X1 hx (hb hby d3_177) rfl (pc' := 178) rfl ?_
                          refine w_iconst (v := (1 : Int32)) X1 hx (hb hby d3_178) rfl (pc' := 179) rfl ?_
                          refine w_iadd X1 hx (hb hby d3_179) (pc' := 180) rfl ?_
                          refine w_eqI (z := (Int32.ofNat (i + 1))) (own_oadd i 1) ?_
                          refine w_baloadL (i := 0) (jn := (i + 1)) X1 hx hZ P1 rfl hk0 (hb hby d3_180) (own_oN (by omega)) (own_llt hB (by omega)) (pc' := 181) rfl ?_
                          refine w_sipush (v := (255 : Int32)) X1 hx (hb hby d3_181) rfl (pc' := 184) rfl ?_
                          refine w_iand X1 hx (hb hby d3_184) (pc' := 185) rfl ?_
                          refine w_eqI (z := (Int32.ofNat (own_by B (i + 1)))) (own_bye _ _) ?_
                          refine w_istore (l' := #[.val (.ref (n0 + 0)), .val (.int (Int32.ofNat fr)), .val (.int (Int32.ofNat to)), .val (.int (Int32.ofNat i)), .val (.int (Int32.ofNat (own_by B i))), .val (.int (4 : Int32)), .val (.int (128 : Int32)), .val (.int (143 : Int32)), .val (.int (Int32.ofNat (own_by B (i + 1)))), s9]) X1 hx (hb hby d3_185) (XS.store1 rfl hs8 rfl) (pc' := 187) rfl ?_
                          refine w_iload X1 hx (hb hby d3_187) rfl (pc' := 189) rfl ?_
                          refine w_iload X1 hx (hb hby d3_189) rfl (pc' := 191) rfl ?_
                          refine w_icmp_lt X1 hx (hb hby d3_191) (by decide) (pcY := 201) (by decide) (pc' := 194) rfl (fun h46 => ?_) (fun h46 => ?_)
                          · have h46n : (own_by B (i + 1)) < 128 := (own_olt (a := (own_by B (i + 1))) (b := 128) (by omega) (by omega)).mp h46
                            refine w_iloadN X1 hx (hb hby d3_201) rfl (pc' := 202) rfl ?_
                            exact w_ret_i X1 hx hret hlk (hb hby d3_202) (by decide) (by decide) ⟨by rw [← hv, own_fi, if_pos h0n, if_pos (show own_k B to i = 0 from by unfold own_k; exact own_ok0 (by omega) (by omega) (by omega) (by omega))], N1, P1⟩
                          · have h46n : ¬ (own_by B (i + 1)) < 128 := fun q => h46 ((own_olt (a := (own_by B (i + 1))) (b := 128) (by omega) (by omega)).mpr q)
                            refine w_iload X1 hx (hb hby d3_194) rfl (pc' := 196) rfl ?_
                            refine w_iload X1 hx (hb hby d3_196) rfl (pc' := 198) rfl ?_
                            refine w_icmp_le X1 hx (hb hby d3_198) (by decide) (pcY := 203) (by decide) (pc' := 201) rfl (fun h47 => ?_) (fun h47 => ?_)
                            · have h47n : ¬ 143 < (own_by B (i + 1)) := fun q => h47 ((own_olt (a := 143) (b := (own_by B (i + 1))) (by omega) (by omega)).mpr q)
                              refine w_iconst (v := (2 : Int32)) X1 hx (hb hby d3_203) rfl (pc' := 204) rfl ?_
                              refine w_istore (l' := #[.val (.ref (n0 + 0)), .val (.int (Int32.ofNat fr)), .val (.int (Int32.ofNat to)), .val (.int (Int32.ofNat i)), .val (.int (Int32.ofNat (own_by B i))), .val (.int (4 : Int32)), .val (.int (128 : Int32)), .val (.int (143 : Int32)), .val (.int (Int32.ofNat (own_by B (i + 1)))), .val (.int (2 : Int32))]) X1 hx (hb hby d3_204) (XS.store1 rfl hs9 rfl) (pc' := 206) rfl ?_
                              refine w_iload X1 hx (hb hby d3_206) rfl (pc' := 208) rfl ?_
                              refine w_iload X1 hx (hb hby d3_208) rfl (pc' := 210) rfl ?_
                              refine w_icmp_ge X1 hx (hb hby d3_210) (by decide) (pcY := 237) (by decide) (pc' := 213) rfl (fun h48 => absurd h48 (by decide)) (fun h48 => ?_)
                              refine w_aloadN X1 hx (hb hby d3_213) rfl rfl (pc' := 214) rfl ?_
                              refine w_iloadN X1 hx (hb hby d3_214) rfl (pc' := 215) rfl ?_
                              refine w_iload X1 hx (hb hby d3_215) rfl (pc' := 217) rfl ?_
                              refine w_iadd X1 hx (hb hby d3_217) (pc' := 218) rfl ?_
                              refine w_eqI (z := (Int32.ofNat (i + 2))) (own_oadd i 2) ?_
                              refine w_baloadL (i := 0) (jn := (i + 2)) X1 hx hZ P1 rfl hk0 (hb hby d3_218) (own_oN (by omega)) (own_llt hB (by omega)) (pc' := 219) rfl ?_
                              refine w_sipush (v := (192 : Int32)) X1 hx (hb hby d3_219) rfl (pc' := 222) rfl ?_
                              refine w_iand X1 hx (hb hby d3_222) (pc' := 223) rfl ?_
                              refine w_eqI (z := (Int32.ofNat (own_by B (i + 2) / 64 * 64))) (own_byc _ _) ?_
                              refine w_sipush (v := (128 : Int32)) X1 hx (hb hby d3_223) rfl (pc' := 226) rfl ?_
                              refine w_icmp_eq X1 hx (hb hby d3_226) (by decide) (pcY := 231) (by decide) (pc' := 229) rfl (fun h49 => ?_) (fun h49 => ?_)
                              · have h49n : (own_by B (i + 2) / 64 * 64) = 128 := (own_oeq (a := (own_by B (i + 2) / 64 * 64)) (b := 128) (by omega) (by omega)).mp h49
                                refine w_iincE (z := (3 : Int32)) (l' := #[.val (.ref (n0 + 0)), .val (.int (Int32.ofNat fr)), .val (.int (Int32.ofNat to)), .val (.int (Int32.ofNat i)), .val (.int (Int32.ofNat (own_by B i))), .val (.int (4 : Int32)), .val (.int (128 : Int32)), .val (.int (143 : Int32)), .val (.int (Int32.ofNat (own_by B (i + 1)))), .val (.int (3 : Int32))]) X1 hx (hb hby d3_231) rfl (by decide) rfl (pc' := 234) rfl ?_
                                refine w_goto X1 hx (hb hby d3_234) (by decide) (pc' := 206) (by decide) ?_
                                refine w_iload X1 hx (hb hby d3_206) rfl (pc' := 208) rfl ?_
                                refine w_iload X1 hx (hb hby d3_208) rfl (pc' := 210) rfl ?_
                                refine w_icmp_ge X1 hx (hb hby d3_210) (by decide) (pcY := 237) (by decide) (pc' := 213) rfl (fun h50 => absurd h50 (by decide)) (fun h50 => ?_)
                                refine w_aloadN X1 hx (hb hby d3_213) rfl rfl (pc' := 214) rfl ?_
                                refine w_iloadN X1 hx (hb hby d3_214) rfl (pc' := 215) rfl ?_
                                refine w_iload X1 hx (hb hby d3_215) rfl (pc' := 217) rfl ?_
                                refine w_iadd X1 hx (hb hby d3_217) (pc' := 218) rfl ?_
                                refine w_eqI (z := (Int32.ofNat (i + 3))) (own_oadd i 3) ?_
                                refine w_baloadL (i := 0) (jn := (i + 3)) X1 hx hZ P1 rfl hk0 (hb hby d3_218) (own_oN (by omega)) (own_llt hB (by omega)) (pc' := 219) rfl ?_
                                refine w_sipush (v := (192 : Int32)) X1 hx (hb hby d3_219) rfl (pc' := 222) rfl ?_
                                refine w_iand X1 hx (hb hby d3_222) (pc' := 223) rfl ?_
                                refine w_eqI (z := (Int32.ofNat (own_by B (i + 3) / 64 * 64))) (own_byc _ _) ?_
                                refine w_sipush (v := (128 : Int32)) X1 hx (hb hby d3_223) rfl (pc' := 226) rfl ?_
                                refine w_icmp_eq X1 hx (hb hby d3_226) (by decide) (pcY := 231) (by decide) (pc' := 229) rfl (fun h51 => ?_) (fun h51 => ?_)
                                · have h51n : (own_by B (i + 3) / 64 * 64) = 128 := (own_oeq (a := (own_by B (i + 3) / 64 * 64)) (b := 128) (by omega) (by omega)).mp h51
                                  refine w_iincE (z := (4 : Int32)) (l' := #[.val (.ref (n0 + 0)), .val (.int (Int32.ofNat fr)), .val (.int (Int32.ofNat to)), .val (.int (Int32.ofNat i)), .val (.int (Int32.ofNat (own_by B i))), .val (.int (4 : Int32)), .val (.int (128 : Int32)), .val (.int (143 : Int32)), .val (.int (Int32.ofNat (own_by B (i + 1)))), .val (.int (4 : Int32))]) X1 hx (hb hby d3_231) rfl (by decide) rfl (pc' := 234) rfl ?_
                                  refine w_goto X1 hx (hb hby d3_234) (by decide) (pc' := 206) (by decide) ?_
                                  refine w_iload X1 hx (hb hby d3_206) rfl (pc' := 208) rfl ?_
                                  refine w_iload X1 hx (hb hby d3_208) rfl (pc' := 210) rfl ?_
                                  refine w_icmp_ge X1 hx (hb hby d3_210) (by decide) (pcY := 237) (by decide) (pc' := 213) rfl (fun h52 => ?_) (fun h52 => absurd h52 (by decide))
                                  refine w_iloadN X1 hx (hb hby d3_237) rfl (pc' := 238) rfl ?_
                                  refine w_iload X1 hx (hb hby d3_238) rfl (pc' := 240) rfl ?_
                                  refine w_iadd X1 hx (hb hby d3_240) (pc' := 241) rfl ?_
                                  refine w_eqI (z := (Int32.ofNat (i + 4))) (own_oadd i 4) ?_
                                  refine w_istoreN (l' := #[.val (.ref (n0 + 0)), .val (.int (Int32.ofNat fr)), .val (.int (Int32.ofNat to)), .val (.int (Int32.ofNat (i + 4))), .val (.int (Int32.ofNat (own_by B i))), .val (.int (4 : Int32)), .val (.int (128 : Int32)), .val (.int (143 : Int32)), .val (.int (Int32.ofNat (own_by B (i + 1)))), .val (.int (4 : Int32))]) X1 hx (hb hby d3_241) rfl (pc' := 242) rfl ?_
                                  refine w_goto X1 hx (hb hby d3_242) (by decide) (pc' := 2) (by decide) ?_
                                  have ek : own_k B to i = 4 := by unfold own_k; exact own_ok4 (by omega)
                                  exact ih (i + 4) _ _ _ _ _ _ T1 L1 (One.val rfl) (One.val rfl) (One.val rfl) (One.val rfl) (One.val rfl) (One.val rfl) (by omega) (by omega) (by rw [← hv, own_fi, if_pos h0n, if_neg (by rw [ek]; decide), ek]) N1 X1 P1
                                · have h51n : ¬ (own_by B (i + 3) / 64 * 64) = 128 := fun q => h51 ((own_oeq (a := (own_by B (i + 3) / 64 * 64)) (b := 128) (by omega) (by omega)).mpr q)
                                  refine w_iloadN X1 hx (hb hby d3_229) rfl (pc' := 230) rfl ?_
                                  exact w_ret_i X1 hx hret hlk (hb hby d3_230) (by decide) (by decide) ⟨by rw [← hv, own_fi, if_pos h0n, if_pos (show own_k B to i = 0 from by unfold own_k; exact own_ok0 (by omega) (by omega) (by omega) (by omega))], N1, P1⟩
                              · have h49n : ¬ (own_by B (i + 2) / 64 * 64) = 128 := fun q => h49 ((own_oeq (a := (own_by B (i + 2) / 64 * 64)) (b := 128) (by omega) (by omega)).mpr q)
                                refine w_iloadN X1 hx (hb hby d3_229) rfl (pc' := 230) rfl ?_
                                exact w_ret_i X1 hx hret hlk (hb hby d3_230) (by decide) (by decide) ⟨by rw [← hv, own_fi, if_pos h0n, if_pos (show own_k B to i = 0 from by unfold own_k; exact own_ok0 (by omega) (by omega) (by omega) (by omega))], N1, P1⟩
                            · have h47n : 143 < (own_by B (i + 1)) := (own_olt (a := 143) (b := (own_by B (i + 1))) (by omega) (by omega)).mp h47
                              refine w_iloadN X1 hx (hb hby d3_201) rfl (pc' := 202) rfl ?_
                              exact w_ret_i X1 hx hret hlk (hb hby d3_202) (by decide) (by decide) ⟨by rw [← hv, own_fi, if_pos h0n, if_pos (show own_k B to i = 0 from by unfold own_k; exact own_ok0 (by omega) (by omega) (by omega) (by omega))], N1, P1⟩
                        · have h45n : (to - i) < 4 := (own_olt (a := (to - i)) (b := 4) (by omega) (by omega)).mp h45
                          refine w_iloadN X1 hx (hb hby d3_174) rfl (pc' := 175) rfl ?_
                          exact w_ret_i X1 hx hret hlk (hb hby d3_175) (by decide) (by decide) ⟨by rw [← hv, own_fi, if_pos h0n, if_pos (show own_k B to i = 0 from by unfold own_k; exact own_ok0 (by omega) (by omega) (by omega) (by omega))], N1, P1⟩
                    · have h35n : (own_by B i) = 240 := (own_oeq (a := (own_by B i)) (b := 240) (by omega) (by omega)).mp h35
                      refine w_sipush (v := (144 : Int32)) X1 hx (hb hby d3_140) rfl (pc' := 143) rfl ?_
                      refine w_istore (l' := #[.val (.ref (n0 + 0)), .val (.int (Int32.ofNat fr)), .val (.int (Int32.ofNat to)), .val (.int (Int32.ofNat i)), .val (.int (Int32.ofNat (own_by B i))), .val (.int (4 : Int32)), .val (.int (144 : Int32)), .val (.int (191 : Int32)), s8, s9]) X1 hx (hb hby d3_143) rfl (pc' := 145) rfl ?_
                      refine w_goto X1 hx (hb hby d3_145) (by decide) (pc' := 166) (by decide) ?_
                      refine w_iloadN X1 hx (hb hby d3_166) rfl (pc' := 167) rfl ?_
                      refine w_iloadN X1 hx (hb hby d3_167) rfl (pc' := 168) rfl ?_
                      refine w_isub X1 hx (hb hby d3_168) (pc' := 169) rfl ?_
                      refine w_eqI (z := (Int32.ofNat (to - i))) (own_osub (a := to) (b := i) (by omega)) ?_
                      refine w_iload X1 hx (hb hby d3_169) rfl (pc' := 171) rfl ?_
                      refine w_icmp_ge X1 hx (hb hby d3_171) (by decide) (pcY := 176) (by decide) (pc' := 174) rfl (fun h53 => ?_) (fun h53 => ?_)
                      · have h53n : ¬ (to - i) < 4 := fun q => h53 ((own_olt (a := (to - i)) (b := 4) (by omega) (by omega)).mpr q)
                        refine w_aloadN X1 hx (hb hby d3_176) rfl rfl (pc' := 177) rfl ?_
                        refine w_iloadN X1 hx (hb hby d3_177) rfl (pc' := 178) rfl ?_
                        refine w_iconst (v := (1 : Int32)) X1 hx (hb hby d3_178) rfl (pc' := 179) rfl ?_
                        refine w_iadd X1 hx (hb hby d3_179) (pc' := 180) rfl ?_
                        refine w_eqI (z := (Int32.ofNat (i + 1))) (own_oadd i 1) ?_
                        refine w_baloadL (i := 0) (jn := (i + 1)) X1 hx hZ P1 rfl hk0 (hb hby d3_180) (own_oN (by omega)) (own_llt hB (by omega)) (pc' := 181) rfl ?_
                        refine w_sipush (v := (255 : Int32)) X1 hx (hb hby d3_181) rfl (pc' := 184) rfl ?_
                        refine w_iand X1 hx (hb hby d3_184) (pc' := 185) rfl ?_
                        refine w_eqI (z := (Int32.ofNat (own_by B (i + 1)))) (own_bye _ _) ?_
                        refine w_istore (l' := #[.val (.ref (n0 + 0)), .val (.int (Int32.ofNat fr)), .val (.int (Int32.ofNat to)), .val (.int (Int32.ofNat i)), .val (.int (Int32.ofNat (own_by B i))), .val (.int (4 : Int32)), .val (.int (144 : Int32)), .val (.int (191 : Int32)), .val (.int (Int32.ofNat (own_by B (i + 1)))), s9]) X1 hx (hb hby d3_185) (XS.store1 rfl hs8 rfl) (pc' := 187) rfl ?_
                        refine w_iload X1 hx (hb hby d3_187) rfl (pc' := 189) rfl ?_
                        refine w_iload X1 hx (hb hby d3_189) rfl (pc' := 191) rfl ?_
                        refine w_icmp_lt X1 hx (hb hby d3_191) (by decide) (pcY := 201) (by decide) (pc' := 194) rfl (fun h54 => ?_) (fun h54 => ?_)
                        · have h54n : (own_by B (i + 1)) < 144 := (own_olt (a := (own_by B (i + 1))) (b := 144) (by omega) (by omega)).mp h54
                          refine w_iloadN X1 hx (hb hby d3_201) rfl (pc' := 202) rfl ?_
                          exact w_ret_i X1 hx hret hlk (hb hby d3_202) (by decide) (by decide) ⟨by rw [← hv, own_fi, if_pos h0n, if_pos (show own_k B to i = 0 from by unfold own_k; exact own_ok0 (by omega) (by omega) (by omega) (by omega))], N1, P1⟩
                        · have h54n : ¬ (own_by B (i + 1)) < 144 := fun q => h54 ((own_olt (a := (own_by B (i + 1))) (b := 144) (by omega) (by omega)).mpr q)
                          refine w_iload X1 hx (hb hby d3_194) rfl (pc' := 196) rfl ?_
                          refine w_iload X1 hx (hb hby d3_196) rfl (pc' := 198) rfl ?_
                          refine w_icmp_le X1 hx (hb hby d3_198) (by decide) (pcY := 203) (by decide) (pc' := 201) rfl (fun h55 => ?_) (fun h55 => ?_)
                          · have h55n : ¬ 191 < (own_by B (i + 1)) := fun q => h55 ((own_olt (a := 191) (b := (own_by B (i + 1))) (by omega) (by omega)).mpr q)
                            refine w_iconst (v := (2 : Int32)) X1 hx (hb hby d3_203) rfl (pc' := 204) rfl ?_
                            refine w_istore (l' := #[.val (.ref (n0 + 0)), .val (.int (Int32.ofNat fr)), .val (.int (Int32.ofNat to)), .val (.int (Int32.ofNat i)), .val (.int (Int32.ofNat (own_by B i))), .val (.int (4 : Int32)), .val (.int (144 : Int32)), .val (.int (191 : Int32)), .val (.int (Int32.ofNat (own_by B (i + 1)))), .val (.int (2 : Int32))]) X1 hx (hb hby d3_204) (XS.store1 rfl hs9 rfl) (pc' := 206) rfl ?_
                            refine w_iload X1 hx (hb hby d3_206) rfl (pc' := 208) rfl ?_
                            refine w_iload X1 hx (hb hby d3_208) rfl (pc' := 210) rfl ?_
                            refine w_icmp_ge X1 hx (hb hby d3_210) (by decide) (pcY := 237) (by decide) (pc' := 213) rfl (fun h56 => absurd h56 (by decide)) (fun h56 => ?_)
                            refine w_aloadN X1 hx (hb hby d3_213) rfl rfl (pc' := 214) rfl ?_
                            refine w_iloadN X1 hx (hb hby d3_214) rfl (pc' := 215) rfl ?_
                            refine w_iload X1 hx (hb hby d3_215) rfl (pc' := 217) rfl ?_
                            refine w_iadd X1 hx (hb hby d3_217) (pc' := 218) rfl ?_
                            refine w_eqI (z := (Int32.ofNat (i + 2))) (own_oadd i 2) ?_
                            refine w_baloadL (i := 0) (jn := (i + 2)) X1 hx hZ P1 rfl hk0 (hb hby d3_218) (own_oN (by omega)) (own_llt hB (by omega)) (pc' := 219) rfl ?_
                            refine w_sipush (v := (192 : Int32)) X1 hx (hb hby d3_219) rfl (pc' := 222) rfl ?_
                            refine w_iand X1 hx (hb hby d3_222) (pc' := 223) rfl ?_
                            refine w_eqI (z := (Int32.ofNat (own_by B (i + 2) / 64 * 64))) (own_byc _ _) ?_
                            refine w_sipush (v := (128 : Int32)) X1 hx (hb hby d3_223) rfl (pc' := 226) rfl ?_
                            refine w_icmp_eq X1 hx (hb hby d3_226) (by decide) (pcY := 231) (by decide) (pc' := 229) rfl (fun h57 => ?_) (fun h57 => ?_)
                            · have h57n : (own_by B (i + 2) / 64 * 64) = 128 := (own_oeq (a := (own_by B (i + 2) / 64 * 64)) (b := 128) (by omega) (by omega)).mp h57
                              refine w_iincE (z := (3 : Int32)) (l' := #[.val (.ref (n0 + 0)), .val (.int (Int32.ofNat fr)), .val (.int (Int32.ofNat to)), .val (.int (Int32.ofNat i)), .val (.int (Int32.ofNat (own_by B i))), .val (.int (4 : Int32)), .val (.int (144 : Int32)), .val (.int (191 : Int32)), .val (.int (Int32.ofNat (own_by B (i + 1)))), .val (.int (3 : Int32))]) X1 hx (hb hby d3_231) rfl (by decide) rfl (pc' := 234) rfl ?_
                              refine w_goto X1 hx (hb hby d3_234) (by decide) (pc' := 206) (by decide) ?_
                              refine w_iload X1 hx (hb hby d3_206) rfl (pc' := 208) rfl ?_
                              refine w_iload X1 hx (hb hby d3_208) rfl (pc' := 210) rfl ?_
                              refine w_icmp_ge X1 hx (hb hby d3_210) (by decide) (pcY := 237) (by decide) (pc' := 213) rfl (fun h58 => absurd h58 (by decide)) (fun h58 => ?_)
                              refine w_aloadN X1 hx (hb hby d3_213) rfl rfl (pc' := 214) rfl ?_
                              refine w_iloadN X1 hx (hb hby d3_214) rfl (pc' := 215) rfl ?_
                              refine w_iload X1 hx (hb hby d3_215) rfl (pc' := 217) rfl ?_
                              refine w_iadd X1 hx (hb hby d3_217) (pc' := 218) rfl ?_
                              refine w_eqI (z := (Int32.ofNat (i + 3))) (own_oadd i 3) ?_
                              refine w_baloadL (i := 0) (jn := (i + 3)) X1 hx hZ P1 rfl hk0 (hb hby d3_218) (own_oN (by omega)) (own_llt hB (by omega)) (pc' := 219) rfl ?_
                              refine w_sipush (v := (192 : Int32)) X1 hx (hb hby d3_219) rfl (pc' := 222) rfl ?_
                              refine w_iand X1 hx (hb hby d3_222) (pc' := 223) rfl ?_
                              refine w_eqI (z := (Int32.ofNat (own_by B (i + 3) / 64 * 64))) (own_byc _ _) ?_
                              refine w_sipush (v := (128 : Int32)) X1 hx (hb hby d3_223) rfl (pc' := 226) rfl ?_
                              refine w_icmp_eq X1 hx (hb hby d3_226) (by decide) (pcY := 231) (by decide) (pc' := 229) rfl (fun h59 => ?_) (fun h59 => ?_)
                              · have h59n : (own_by B (i + 3) / 64 * 64) = 128 := (own_oeq (a := (own_by B (i + 3) / 64 * 64)) (b := 128) (by omega) (by omega)).mp h59
                                refine w_iincE (z := (4 : Int32)) (l' := #[.val (.ref (n0 + 0)), .val (.int (Int32.ofNat fr)), .val (.int (Int32.ofNat to)), .val (.int (Int32.ofNat i)), .val (.int (Int32.ofNat (own_by B i))), .val (.int (4 : Int32)), .val (.int (144 : Int32)), .val (.int (191 : Int32)), .val (.int (Int32.ofNat (own_by B (i + 1)))), .val (.int (4 : Int32))]) X1 hx (hb hby d3_231) rfl (by decide) rfl (pc' := 234) rfl ?_
                                refine w_goto X1 hx (hb hby d3_234) (by decide) (pc' := 206) (by decide) ?_
                                refine w_iload X1 hx (hb hby d3_206) rfl (pc' := 208) rfl ?_
                                refine w_iload X1 hx (hb hby d3_208) rfl (pc' := 210) rfl ?_
                                refine w_icmp_ge X1 hx (hb hby d3_210) (by decide) (pcY := 237) (by decide) (pc' := 213) rfl (fun h60 => ?_) (fun h60 => absurd h60 (by decide))
                                refine w_iloadN X1 hx (hb hby d3_237) rfl (pc' := 238) rfl ?_
                                refine w_iload X1 hx (hb hby d3_238) rfl (pc' := 240) rfl ?_
                                refine w_iadd X1 hx (hb hby d3_240) (pc' := 241) rfl ?_
                                refine w_eqI (z := (Int32.ofNat (i + 4))) (own_oadd i 4) ?_
                                refine w_istoreN (l' := #[.val (.ref (n0 + 0)), .val (.int (Int32.ofNat fr)), .val (.int (Int32.ofNat to)), .val (.int (Int32.ofNat (i + 4))), .val (.int (Int32.ofNat (own_by B i))), .val (.int (4 : Int32)), .val (.int (144 : Int32)), .val (.int (191 : Int32)), .val (.int (Int32.ofNat (own_by B (i + 1)))), .val (.int (4 : Int32))]) X1 hx (hb hby d3_241) rfl (pc' := 242) rfl ?_
                                refine w_goto X1 hx (hb hby d3_242) (by decide) (pc' := 2) (by decide) ?_
                                have ek : own_k B to i = 4 := by unfold own_k; exact own_ok4 (by omega)
                                exact ih (i + 4) _ _ _ _ _ _ T1 L1 (One.val rfl) (One.val rfl) (One.val rfl) (One.val rfl) (One.val rfl) (One.val rfl) (by omega) (by omega) (by rw [← hv, own_fi, if_pos h0n, if_neg (by rw [ek]; decide), ek]) N1 X1 P1
                              · have h59n : ¬ (own_by B (i + 3) / 64 * 64) = 128 := fun q => h59 ((own_oeq (a := (own_by B (i + 3) / 64 * 64)) (b := 128) (by omega) (by omega)).mpr q)
                                refine w_iloadN X1 hx (hb hby d3_229) rfl (pc' := 230) rfl ?_
                                exact w_ret_i X1 hx hret hlk (hb hby d3_230) (by decide) (by decide) ⟨by rw [← hv, own_fi, if_pos h0n, if_pos (show own_k B to i = 0 from by unfold own_k; exact own_ok0 (by omega) (by omega) (by omega) (by omega))], N1, P1⟩
                            · have h57n : ¬ (own_by B (i + 2) / 64 * 64) = 128 := fun q => h57 ((own_oeq (a := (own_by B (i + 2) / 64 * 64)) (b := 128) (by omega) (by omega)).mpr q)
                              refine w_iloadN X1 hx (hb hby d3_229) rfl (pc' := 230) rfl ?_
                              exact w_ret_i X1 hx hret hlk (hb hby d3_230) (by decide) (by decide) ⟨by rw [← hv, own_fi, if_pos h0n, if_pos (show own_k B to i = 0 from by unfold own_k; exact own_ok0 (by omega) (by omega) (by omega) (by omega))], N1, P1⟩
                          · have h55n : 191 < (own_by B (i + 1)) := (own_olt (a := 191) (b := (own_by B (i + 1))) (by omega) (by omega)).mp h55
                            refine w_iloadN X1 hx (hb hby d3_201) rfl (pc' := 202) rfl ?_
                            exact w_ret_i X1 hx hret hlk (hb hby d3_202) (by decide) (by decide) ⟨by rw [← hv, own_fi, if_pos h0n, if_pos (show own_k B to i = 0 from by unfold own_k; exact own_ok0 (by omega) (by omega) (by omega) (by omega))], N1, P1⟩
                      · have h53n : (to - i) < 4 := (own_olt (a := (to - i)) (b := 4) (by omega) (by omega)).mp h53
                        refine w_iloadN X1 hx (hb hby d3_174) rfl (pc' := 175) rfl ?_
                        exact w_ret_i X1 hx hret hlk (hb hby d3_175) (by decide) (by decide) ⟨by rw [← hv, own_fi, if_pos h0n, if_pos (show own_k B to i = 0 from by unfold own_k; exact own_ok0 (by omega) (by omega) (by omega) (by omega))], N1, P1⟩
              · have h32n : ¬ 239 < (own_by B i) := fun q => h32 ((own_olt (a := 239) (b := (own_by B i)) (by omega) (by omega)).mpr q)
                refine w_iconst (v := (3 : Int32)) X1 hx (hb hby d3_78) rfl (pc' := 79) rfl ?_
                refine w_istore (l' := #[.val (.ref (n0 + 0)), .val (.int (Int32.ofNat fr)), .val (.int (Int32.ofNat to)), .val (.int (Int32.ofNat i)), .val (.int (Int32.ofNat (own_by B i))), .val (.int (3 : Int32)), .val (.int (128 : Int32)), .val (.int (191 : Int32)), s8, s9]) X1 hx (hb hby d3_79) (XS.store1 rfl hs5 rfl) (pc' := 81) rfl ?_
                refine w_iload X1 hx (hb hby d3_81) rfl (pc' := 83) rfl ?_
                refine w_sipush (v := (224 : Int32)) X1 hx (hb hby d3_83) rfl (pc' := 86) rfl ?_
                refine w_icmp_ne X1 hx (hb hby d3_86) (by decide) (pcY := 97) (by decide) (pc' := 89) rfl (fun h61 => ?_) (fun h61 => ?_)
                · have h61n : ¬ (own_by B i) = 224 := fun q => h61 ((own_oeq (a := (own_by B i)) (b := 224) (by omega) (by omega)).mpr q)
                  refine w_iload X1 hx (hb hby d3_97) rfl (pc' := 99) rfl ?_
                  refine w_sipush (v := (237 : Int32)) X1 hx (hb hby d3_99) rfl (pc' := 102) rfl ?_
                  refine w_icmp_ne X1 hx (hb hby d3_102) (by decide) (pcY := 166) (by decide) (pc' := 105) rfl (fun h62 => ?_) (fun h62 => ?_)
                  · have h62n : ¬ (own_by B i) = 237 := fun q => h62 ((own_oeq (a := (own_by B i)) (b := 237) (by omega) (by omega)).mpr q)
                    refine w_iloadN X1 hx (hb hby d3_166) rfl (pc' := 167) rfl ?_
                    refine w_iloadN X1 hx (hb hby d3_167) rfl (pc' := 168) rfl ?_
                    refine w_isub X1 hx (hb hby d3_168) (pc' := 169) rfl ?_
                    refine w_eqI (z := (Int32.ofNat (to - i))) (own_osub (a := to) (b := i) (by omega)) ?_
                    refine w_iload X1 hx (hb hby d3_169) rfl (pc' := 171) rfl ?_
                    refine w_icmp_ge X1 hx (hb hby d3_171) (by decide) (pcY := 176) (by decide) (pc' := 174) rfl (fun h63 => ?_) (fun h63 => ?_)
                    · have h63n : ¬ (to - i) < 3 := fun q => h63 ((own_olt (a := (to - i)) (b := 3) (by omega) (by omega)).mpr q)
                      refine w_aloadN X1 hx (hb hby d3_176) rfl rfl (pc' := 177) rfl ?_
                      refine w_iloadN X1 hx (hb hby d3_177) rfl (pc' := 178) rfl ?_
                      refine w_iconst (v := (1 : Int32)) X1 hx (hb hby d3_178) rfl (pc' := 179) rfl ?_
                      refine w_iadd X1 hx (hb hby d3_179) (pc' := 180) rfl ?_
                      refine w_eqI (z := (Int32.ofNat (i + 1))) (own_oadd i 1) ?_
                      refine w_baloadL (i := 0) (jn := (i + 1)) X1 hx hZ P1 rfl hk0 (hb hby d3_180) (own_oN (by omega)) (own_llt hB (by omega)) (pc' := 181) rfl ?_
                      refine w_sipush (v := (255 : Int32)) X1 hx (hb hby d3_181) rfl (pc' := 184) rfl ?_
                      refine w_iand X1 hx (hb hby d3_184) (pc' := 185) rfl ?_
                      refine w_eqI (z := (Int32.ofNat (own_by B (i + 1)))) (own_bye _ _) ?_
                      refine w_istore (l' := #[.val (.ref (n0 + 0)), .val (.int (Int32.ofNat fr)), .val (.int (Int32.ofNat to)), .val (.int (Int32.ofNat i)), .val (.int (Int32.ofNat (own_by B i))), .val (.int (3 : Int32)), .val (.int (128 : Int32)), .val (.int (191 : Int32)), .val (.int (Int32.ofNat (own_by B (i + 1)))), s9]) X1 hx (hb hby d3_185) (XS.store1 rfl hs8 rfl) (pc' := 187) rfl ?_
                      refine w_iload X1 hx (hb hby d3_187) rfl (pc' := 189) rfl ?_
                      refine w_iload X1 hx (hb hby d3_189) rfl (pc' := 191) rfl ?_
                      refine w_icmp_lt X1 hx (hb hby d3_191) (by decide) (pcY := 201) (by decide) (pc' := 194) rfl (fun h64 => ?_) (fun h64 => ?_)
                      · have h64n : (own_by B (i + 1)) < 128 := (own_olt (a := (own_by B (i + 1))) (b := 128) (by omega) (by omega)).mp h64
                        refine w_iloadN X1 hx (hb hby d3_201) rfl (pc' := 202) rfl ?_
                        exact w_ret_i X1 hx hret hlk (hb hby d3_202) (by decide) (by decide) ⟨by rw [← hv, own_fi, if_pos h0n, if_pos (show own_k B to i = 0 from by unfold own_k; exact own_ok0 (by omega) (by omega) (by omega) (by omega))], N1, P1⟩
                      · have h64n : ¬ (own_by B (i + 1)) < 128 := fun q => h64 ((own_olt (a := (own_by B (i + 1))) (b := 128) (by omega) (by omega)).mpr q)
                        refine w_iload X1 hx (hb hby d3_194) rfl (pc' := 196) rfl ?_
                        refine w_iload X1 hx (hb hby d3_196) rfl (pc' := 198) rfl ?_
                        refine w_icmp_le X1 hx (hb hby d3_198) (by decide) (pcY := 203) (by decide) (pc' := 201) rfl (fun h65 => ?_) (fun h65 => ?_)
                        · have h65n : ¬ 191 < (own_by B (i + 1)) := fun q => h65 ((own_olt (a := 191) (b := (own_by B (i + 1))) (by omega) (by omega)).mpr q)
                          refine w_iconst (v := (2 : Int32)) X1 hx (hb hby d3_203) rfl (pc' := 204) rfl ?_
                          refine w_istore (l' := #[.val (.ref (n0 + 0)), .val (.int (Int32.ofNat fr)), .val (.int (Int32.ofNat to)), .val (.int (Int32.ofNat i)), .val (.int (Int32.ofNat (own_by B i))), .val (.int (3 : Int32)), .val (.int (128 : Int32)), .val (.int (191 : Int32)), .val (.int (Int32.ofNat (own_by B (i + 1)))), .val (.int (2 : Int32))]) X1 hx (hb hby d3_204) (XS.store1 rfl hs9 rfl) (pc' := 206) rfl ?_
                          refine w_iload X1 hx (hb hby d3_206) rfl (pc' := 208) rfl ?_
                          refine w_iload X1 hx (hb hby d3_208) rfl (pc' := 210) rfl ?_
                          refine w_icmp_ge X1 hx (hb hby d3_210) (by decide) (pcY := 237) (by decide) (pc' := 213) rfl (fun h66 => absurd h66 (by decide)) (fun h66 => ?_)
                          refine w_aloadN X1 hx (hb hby d3_213) rfl rfl (pc' := 214) rfl ?_
                          refine w_iloadN X1 hx (hb hby d3_214) rfl (pc' := 215) rfl ?_
                          refine w_iload X1 hx (hb hby d3_215) rfl (pc' := 217) rfl ?_
                          refine w_iadd X1 hx (hb hby d3_217) (pc' := 218) rfl ?_
                          refine w_eqI (z := (Int32.ofNat (i + 2))) (own_oadd i 2) ?_
                          refine w_baloadL (i := 0) (jn := (i + 2)) X1 hx hZ P1 rfl hk0 (hb hby d3_218) (own_oN (by omega)) (own_llt hB (by omega)) (pc' := 219) rfl ?_
                          refine w_sipush (v := (192 : Int32)) X1 hx (hb hby d3_219) rfl (pc' := 222) rfl ?_
                          refine w_iand X1 hx (hb hby d3_222) (pc' := 223) rfl ?_
                          refine w_eqI (z := (Int32.ofNat (own_by B (i + 2) / 64 * 64))) (own_byc _ _) ?_
                          refine w_sipush (v := (128 : Int32)) X1 hx (hb hby d3_223) rfl (pc' := 226) rfl ?_
                          refine w_icmp_eq X1 hx (hb hby d3_226) (by decide) (pcY := 231) (by decide) (pc' := 229) rfl (fun h67 => ?_) (fun h67 => ?_)
                          · have h67n : (own_by B (i + 2) / 64 * 64) = 128 := (own_oeq (a := (own_by B (i + 2) / 64 * 64)) (b := 128) (by omega) (by omega)).mp h67
                            refine w_iincE (z := (3 : Int32)) (l' := #[.val (.ref (n0 + 0)), .val (.int (Int32.ofNat fr)), .val (.int (Int32.ofNat to)), .val (.int (Int32.ofNat i)), .val (.int (Int32.ofNat (own_by B i))), .val (.int (3 : Int32)), .val (.int (128 : Int32)), .val (.int (191 : Int32)), .val (.int (Int32.ofNat (own_by B (i + 1)))), .val (.int (3 : Int32))]) X1 hx (hb hby d3_231) rfl (by decide) rfl (pc' := 234) rfl ?_
                            refine w_goto X1 hx (hb hby d3_234) (by decide) (pc' := 206) (by decide) ?_
                            refine w_iload X1 hx (hb hby d3_206) rfl (pc' := 208) rfl ?_
                            refine w_iload X1 hx (hb hby d3_208) rfl (pc' := 210) rfl ?_
                            refine w_icmp_ge X1 hx (hb hby d3_210) (by decide) (pcY := 237) (by decide) (pc' := 213) rfl (fun h68 => ?_) (fun h68 => absurd h68 (by decide))
                            refine w_iloadN X1 hx (hb hby d3_237) rfl (pc' := 238) rfl ?_
                            refine w_iload X1 hx (hb hby d3_238) rfl (pc' := 240) rfl ?_
                            refine w_iadd X1 hx (hb hby d3_240) (pc' := 241) rfl ?_
                            refine w_eqI (z := (Int32.ofNat (i + 3))) (own_oadd i 3) ?_
                            refine w_istoreN (l' := #[.val (.ref (n0 + 0)), .val (.int (Int32.ofNat fr)), .val (.int (Int32.ofNat to)), .val (.int (Int32.ofNat (i + 3))), .val (.int (Int32.ofNat (own_by B i))), .val (.int (3 : Int32)), .val (.int (128 : Int32)), .val (.int (191 : Int32)), .val (.int (Int32.ofNat (own_by B (i + 1)))), .val (.int (3 : Int32))]) X1 hx (hb hby d3_241) rfl (pc' := 242) rfl ?_
                            refine w_goto X1 hx (hb hby d3_242) (by decide) (pc' := 2) (by decide) ?_
                            have ek : own_k B to i = 3 := by unfold own_k; exact own_ok3 (by omega)
                            exact ih (i + 3) _ _ _ _ _ _ T1 L1 (One.val rfl) (One.val rfl) (One.val rfl) (One.val rfl) (One.val rfl) (One.val rfl) (by omega) (by omega) (by rw [← hv, own_fi, if_pos h0n, if_neg (by rw [ek]; decide), ek]) N1 X1 P1
                          · have h67n : ¬ (own_by B (i + 2) / 64 * 64) = 128 := fun q => h67 ((own_oeq (a := (own_by B (i + 2) / 64 * 64)) (b := 128) (by omega) (by omega)).mpr q)
                            refine w_iloadN X1 hx (hb hby d3_229) rfl (pc' := 230) rfl ?_
                            exact w_ret_i X1 hx hret hlk (hb hby d3_230) (by decide) (by decide) ⟨by rw [← hv, own_fi, if_pos h0n, if_pos (show own_k B to i = 0 from by unfold own_k; exact own_ok0 (by omega) (by omega) (by omega) (by omega))], N1, P1⟩
                        · have h65n : 191 < (own_by B (i + 1)) := (own_olt (a := 191) (b := (own_by B (i + 1))) (by omega) (by omega)).mp h65
                          refine w_iloadN X1 hx (hb hby d3_201) rfl (pc' := 202) rfl ?_
                          exact w_ret_i X1 hx hret hlk (hb hby d3_202) (by decide) (by decide) ⟨by rw [← hv, own_fi, if_pos h0n, if_pos (show own_k B to i = 0 from by unfold own_k; exact own_ok0 (by omega) (by omega) (by omega) (by omega))], N1, P1⟩
                    · have h63n : (to - i) < 3 := (own_olt (a := (to - i)) (b := 3) (by omega) (by omega)).mp h63
                      refine w_iloadN X1 hx (hb hby d3_174) rfl (pc' := 175) rfl ?_
                      exact w_ret_i X1 hx hret hlk (hb hby d3_175) (by decide) (by decide) ⟨by rw [← hv, own_fi, if_pos h0n, if_pos (show own_k B to i = 0 from by unfold own_k; exact own_ok0 (by omega) (by omega) (by omega) (by omega))], N1, P1⟩
                  · have h62n : (own_by B i) = 237 := (own_oeq (a := (own_by B i)) (b := 237) (by omega) (by omega)).mp h62
                    refine w_sipush (v := (159 : Int32)) X1 hx (hb hby d3_105) rfl (pc' := 108) rfl ?_
                    refine w_istore (l' := #[.val (.ref (n0 + 0)), .val (.int (Int32.ofNat fr)), .val (.int (Int32.ofNat to)), .val (.int (Int32.ofNat i)), .val (.int (Int32.ofNat (own_by B i))), .val (.int (3 : Int32)), .val (.int (128 : Int32)), .val (.int (159 : Int32)), s8, s9]) X1 hx (hb hby d3_108) rfl (pc' := 110) rfl ?_
                    refine w_goto X1 hx (hb hby d3_110) (by decide) (pc' := 166) (by decide) ?_
                    refine w_iloadN X1 hx (hb hby d3_166) rfl (pc' := 167) rfl ?_
                    refine w_iloadN X1 hx (hb hby d3_167) rfl (pc' := 168) rfl ?_
                    refine w_isub X1 hx (hb hby d3_168) (pc' := 169) rfl ?_
                    refine w_eqI (z := (Int32.ofNat (to - i))) (own_osub (a := to) (b := i) (by omega)) ?_
                    refine w_iload X1 hx (hb hby d3_169) rfl (pc' := 171) rfl ?_
                    refine w_icmp_ge X1 hx (hb hby d3_171) (by decide) (pcY := 176) (by decide) (pc' := 174) rfl (fun h69 => ?_) (fun h69 => ?_)
                    · have h69n : ¬ (to - i) < 3 := fun q => h69 ((own_olt (a := (to - i)) (b := 3) (by omega) (by omega)).mpr q)
                      refine w_aloadN X1 hx (hb hby d3_176) rfl rfl (pc' := 177) rfl ?_
                      refine w_iloadN X1 hx (hb hby d3_177) rfl (pc' := 178) rfl ?_
                      refine w_iconst (v := (1 : Int32)) X1 hx (hb hby d3_178) rfl (pc' := 179) rfl ?_
                      refine w_iadd X1 hx (hb hby d3_179) (pc' := 180) rfl ?_
                      refine w_eqI (z := (Int32.ofNat (i + 1))) (own_oadd i 1) ?_
                      refine w_baloadL (i := 0) (jn := (i + 1)) X1 hx hZ P1 rfl hk0 (hb hby d3_180) (own_oN (by omega)) (own_llt hB (by omega)) (pc' := 181) rfl ?_
                      refine w_sipush (v := (255 : Int32)) X1 hx (hb hby d3_181) rfl (pc' := 184) rfl ?_
                      refine w_iand X1 hx (hb hby d3_184) (pc' := 185) rfl ?_
                      refine w_eqI (z := (Int32.ofNat (own_by B (i + 1)))) (own_bye _ _) ?_
                      refine w_istore (l' := #[.val (.ref (n0 + 0)), .val (.int (Int32.ofNat fr)), .val (.int (Int32.ofNat to)), .val (.int (Int32.ofNat i)), .val (.int (Int32.ofNat (own_by B i))), .val (.int (3 : Int32)), .val (.int (128 : Int32)), .val (.int (159 : Int32)), .val (.int (Int32.ofNat (own_by B (i + 1)))), s9]) X1 hx (hb hby d3_185) (XS.store1 rfl hs8 rfl) (pc' := 187) rfl ?_
                      refine w_iload X1 hx (hb hby d3_187) rfl (pc' := 189) rfl ?_
                      refine w_iload X1 hx (hb hby d3_189) rfl (pc' := 191) rfl ?_
                      refine w_icmp_lt X1 hx (hb hby d3_191) (by decide) (pcY := 201) (by decide) (pc' := 194) rfl (fun h70 => ?_) (fun h70 => ?_)
                      · have h70n : (own_by B (i + 1)) < 128 := (own_olt (a := (own_by B (i + 1))) (b := 128) (by omega) (by omega)).mp h70
                        refine w_iloadN X1 hx (hb hby d3_201) rfl (pc' := 202) rfl ?_
                        exact w_ret_i X1 hx hret hlk (hb hby d3_202) (by decide) (by decide) ⟨by rw [← hv, own_fi, if_pos h0n, if_pos (show own_k B to i = 0 from by unfold own_k; exact own_ok0 (by omega) (by omega) (by omega) (by omega))], N1, P1⟩
                      · have h70n : ¬ (own_by B (i + 1)) < 128 := fun q => h70 ((own_olt (a := (own_by B (i + 1))) (b := 128) (by omega) (by omega)).mpr q)
                        refine w_iload X1 hx (hb hby d3_194) rfl (pc' := 196) rfl ?_
                        refine w_iload X1 hx (hb hby d3_196) rfl (pc' := 198) rfl ?_
                        refine w_icmp_le X1 hx (hb hby d3_198) (by decide) (pcY := 203) (by decide) (pc' := 201) rfl (fun h71 => ?_) (fun h71 => ?_)
                        · have h71n : ¬ 159 < (own_by B (i + 1)) := fun q => h71 ((own_olt (a := 159) (b := (own_by B (i + 1))) (by omega) (by omega)).mpr q)
                          refine w_iconst (v := (2 : Int32)) X1 hx (hb hby d3_203) rfl (pc' := 204) rfl ?_
                          refine w_istore (l' := #[.val (.ref (n0 + 0)), .val (.int (Int32.ofNat fr)), .val (.int (Int32.ofNat to)), .val (.int (Int32.ofNat i)), .val (.int (Int32.ofNat (own_by B i))), .val (.int (3 : Int32)), .val (.int (128 : Int32)), .val (.int (159 : Int32)), .val (.int (Int32.ofNat (own_by B (i + 1)))), .val (.int (2 : Int32))]) X1 hx (hb hby d3_204) (XS.store1 rfl hs9 rfl) (pc' := 206) rfl ?_
                          refine w_iload X1 hx (hb hby d3_206) rfl (pc' := 208) rfl ?_
                          refine w_iload X1 hx (hb hby d3_208) rfl (pc' := 210) rfl ?_
                          refine w_icmp_ge X1 hx (hb hby d3_210) (by decide) (pcY := 237) (by decide) (pc' := 213) rfl (fun h72 => absurd h72 (by decide)) (fun h72 => ?_)
                          refine w_aloadN X1 hx (hb hby d3_213) rfl rfl (pc' := 214) rfl ?_
                          refine w_iloadN X1 hx (hb hby d3_214) rfl (pc' := 215) rfl ?_
                          refine w_iload X1 hx (hb hby d3_215) rfl (pc' := 217) rfl ?_
                          refine w_iadd X1 hx (hb hby d3_217) (pc' := 218) rfl ?_
                          refine w_eqI (z := (Int32.ofNat (i + 2))) (own_oadd i 2) ?_
                          refine w_baloadL (i := 0) (jn := (i + 2)) X1 hx hZ P1 rfl hk0 (hb hby d3_218) (own_oN (by omega)) (own_llt hB (by omega)) (pc' := 219) rfl ?_
                          refine w_sipush (v := (192 : Int32)) X1 hx (hb hby d3_219) rfl (pc' := 222) rfl ?_
                          refine w_iand X1 hx (hb hby d3_222) (pc' := 223) rfl ?_
                          refine w_eqI (z := (Int32.ofNat (own_by B (i + 2) / 64 * 64))) (own_byc _ _) ?_
                          refine w_sipush (v := (128 : Int32)) X1 hx (hb hby d3_223) rfl (pc' := 226) rfl ?_
                          refine w_icmp_eq X1 hx (hb hby d3_226) (by decide) (pcY := 231) (by decide) (pc' := 229) rfl (fun h73 => ?_) (fun h73 => ?_)
                          · have h73n : (own_by B (i + 2) / 64 * 64) = 128 := (own_oeq (a := (own_by B (i + 2) / 64 * 64)) (b := 128) (by omega) (by omega)).mp h73
                            refine w_iincE (z := (3 : Int32)) (l' := #[.val (.ref (n0 + 0)), .val (.int (Int32.ofNat fr)), .val (.int (Int32.ofNat to)), .val (.int (Int32.ofNat i)), .val (.int (Int32.ofNat (own_by B i))), .val (.int (3 : Int32)), .val (.int (128 : Int32)), .val (.int (159 : Int32)), .val (.int (Int32.ofNat (own_by B (i + 1)))), .val (.int (3 : Int32))]) X1 hx (hb hby d3_231) rfl (by decide) rfl (pc' := 234) rfl ?_
                            refine w_goto X1 hx (hb hby d3_234) (by decide) (pc' := 206) (by decide) ?_
                            refine w_iload X1 hx (hb hby d3_206) rfl (pc' := 208) rfl ?_
                            refine w_iload X1 hx (hb hby d3_208) rfl (pc' := 210) rfl ?_
                            refine w_icmp_ge X1 hx (hb hby d3_210) (by decide) (pcY := 237) (by decide) (pc' := 213) rfl (fun h74 => ?_) (fun h74 => absurd h74 (by decide))
                            refine w_iloadN X1 hx (hb hby d3_237) rfl (pc' := 238) rfl ?_
                            refine w_iload X1 hx (hb hby d3_238) rfl (pc' := 240) rfl ?_
                            refine w_iadd X1 hx (hb hby d3_240) (pc' := 241) rfl ?_
                            refine w_eqI (z := (Int32.ofNat (i + 3))) (own_oadd i 3) ?_
                            refine w_istoreN (l' := #[.val (.ref (n0 + 0)), .val (.int (Int32.ofNat fr)), .val (.int (Int32.ofNat to)), .val (.int (Int32.ofNat (i + 3))), .val (.int (Int32.ofNat (own_by B i))), .val (.int (3 : Int32)), .val (.int (128 : Int32)), .val (.int (159 : Int32)), .val (.int (Int32.ofNat (own_by B (i + 1)))), .val (.int (3 : Int32))]) X1 hx (hb hby d3_241) rfl (pc' := 242) rfl ?_
                            refine w_goto X1 hx (hb hby d3_242) (by decide) (pc' := 2) (by decide) ?_
                            have ek : own_k B to i = 3 := by unfold own_k; exact own_ok3 (by omega)
                            exact ih (i + 3) _ _ _ _ _ _ T1 L1 (One.val rfl) (One.val rfl) (One.val rfl) (One.val rfl) (One.val rfl) (One.val rfl) (by omega) (by omega) (by rw [← hv, own_fi, if_pos h0n, if_neg (by rw [ek]; decide), ek]) N1 X1 P1
                          · have h73n : ¬ (own_by B (i + 2) / 64 * 64) = 128 := fun q => h73 ((own_oeq (a := (own_by B (i + 2) / 64 * 64)) (b := 128) (by omega) (by omega)).mpr q)
                            refine w_iloadN X1 hx (hb hby d3_229) rfl (pc' := 230) rfl ?_
                            exact w_ret_i X1 hx hret hlk (hb hby d3_230) (by decide) (by decide) ⟨by rw [← hv, own_fi, if_pos h0n, if_pos (show own_k B to i = 0 from by unfold own_k; exact own_ok0 (by omega) (by omega) (by omega) (by omega))], N1, P1⟩
                        · have h71n : 159 < (own_by B (i + 1)) := (own_olt (a := 159) (b := (own_by B (i + 1))) (by omega) (by omega)).mp h71
                          refine w_iloadN X1 hx (hb hby d3_201) rfl (pc' := 202) rfl ?_
                          exact w_ret_i X1 hx hret hlk (hb hby d3_202) (by decide) (by decide) ⟨by rw [← hv, own_fi, if_pos h0n, if_pos (show own_k B to i = 0 from by unfold own_k; exact own_ok0 (by omega) (by omega) (by omega) (by omega))], N1, P1⟩
                    · have h69n : (to - i) < 3 := (own_olt (a := (to - i)) (b := 3) (by omega) (by omega)).mp h69
                      refine w_iloadN X1 hx (hb hby d3_174) rfl (pc' := 175) rfl ?_
                      exact w_ret_i X1 hx hret hlk (hb hby d3_175) (by decide) (by decide) ⟨by rw [← hv, own_fi, if_pos h0n, if_pos (show own_k B to i = 0 from by unfold own_k; exact own_ok0 (by omega) (by omega) (by omega) (by omega))], N1, P1⟩
                · have h61n : (own_by B i) = 224 := (own_oeq (a := (own_by B i)) (b := 224) (by omega) (by omega)).mp h61
                  refine w_sipush (v := (160 : Int32)) X1 hx (hb hby d3_89) rfl (pc' := 92) rfl ?_
                  refine w_istore (l' := #[.val (.ref (n0 + 0)), .val (.int (Int32.ofNat fr)), .val (.int (Int32.ofNat to)), .val (.int (Int32.ofNat i)), .val (.int (Int32.ofNat (own_by B i))), .val (.int (3 : Int32)), .val (.int (160 : Int32)), .val (.int (191 : Int32)), s8, s9]) X1 hx (hb hby d3_92) rfl (pc' := 94) rfl ?_
                  refine w_goto X1 hx (hb hby d3_94) (by decide) (pc' := 166) (by decide) ?_
                  refine w_iloadN X1 hx (hb hby d3_166) rfl (pc' := 167) rfl ?_
                  refine w_iloadN X1 hx (hb hby d3_167) rfl (pc' := 168) rfl ?_
                  refine w_isub X1 hx (hb hby d3_168) (pc' := 169) rfl ?_
                  refine w_eqI (z := (Int32.ofNat (to - i))) (own_osub (a := to) (b := i) (by omega)) ?_
                  refine w_iload X1 hx (hb hby d3_169) rfl (pc' := 171) rfl ?_
                  refine w_icmp_ge X1 hx (hb hby d3_171) (by decide) (pcY := 176) (by decide) (pc' := 174) rfl (fun h75 => ?_) (fun h75 => ?_)
                  · have h75n : ¬ (to - i) < 3 := fun q => h75 ((own_olt (a := (to - i)) (b := 3) (by omega) (by omega)).mpr q)
                    refine w_aloadN X1 hx (hb hby d3_176) rfl rfl (pc' := 177) rfl ?_
                    refine w_iloadN X1 hx (hb hby d3_177) rfl (pc' := 178) rfl ?_
                    refine w_iconst (v := (1 : Int32)) X1 hx (hb hby d3_178) rfl (pc' := 179) rfl ?_
                    refine w_iadd X1 hx (hb hby d3_179) (pc' := 180) rfl ?_
                    refine w_eqI (z := (Int32.ofNat (i + 1))) (own_oadd i 1) ?_
                    refine w_baloadL (i := 0) (jn := (i + 1)) X1 hx hZ P1 rfl hk0 (hb hby d3_180) (own_oN (by omega)) (own_llt hB (by omega)) (pc' := 181) rfl ?_
                    refine w_sipush (v := (255 : Int32)) X1 hx (hb hby d3_181) rfl (pc' := 184) rfl ?_
                    refine w_iand X1 hx (hb hby d3_184) (pc' := 185) rfl ?_
                    refine w_eqI (z := (Int32.ofNat (own_by B (i + 1)))) (own_bye _ _) ?_
                    refine w_istore (l' := #[.val (.ref (n0 + 0)), .val (.int (Int32.ofNat fr)), .val (.int (Int32.ofNat to)), .val (.int (Int32.ofNat i)), .val (.int (Int32.ofNat (own_by B i))), .val (.int (3 : Int32)), .val (.int (160 : Int32)), .val (.int (191 : Int32)), .val (.int (Int32.ofNat (own_by B (i + 1)))), s9]) X1 hx (hb hby d3_185) (XS.store1 rfl hs8 rfl) (pc' := 187) rfl ?_
                    refine w_iload X1 hx (hb hby d3_187) rfl (pc' := 189) rfl ?_
                    refine w_iload X1 hx (hb hby d3_189) rfl (pc' := 191) rfl ?_
                    refine w_icmp_lt X1 hx (hb hby d3_191) (by decide) (pcY := 201) (by decide) (pc' := 194) rfl (fun h76 => ?_) (fun h76 => ?_)
                    · have h76n : (own_by B (i + 1)) < 160 := (own_olt (a := (own_by B (i + 1))) (b := 160) (by omega) (by omega)).mp h76
                      refine w_iloadN X1 hx (hb hby d3_201) rfl (pc' := 202) rfl ?_
                      exact w_ret_i X1 hx hret hlk (hb hby d3_202) (by decide) (by decide) ⟨by rw [← hv, own_fi, if_pos h0n, if_pos (show own_k B to i = 0 from by unfold own_k; exact own_ok0 (by omega) (by omega) (by omega) (by omega))], N1, P1⟩
                    · have h76n : ¬ (own_by B (i + 1)) < 160 := fun q => h76 ((own_olt (a := (own_by B (i + 1))) (b := 160) (by omega) (by omega)).mpr q)
                      refine w_iload X1 hx (hb hby d3_194) rfl (pc' := 196) rfl ?_
                      refine w_iload X1 hx (hb hby d3_196) rfl (pc' := 198) rfl ?_
                      refine w_icmp_le X1 hx (hb hby d3_198) (by decide) (pcY := 203) (by decide) (pc' := 201) rfl (fun h77 => ?_) (fun h77 => ?_)
                      · have h77n : ¬ 191 < (own_by B (i + 1)) := fun q => h77 ((own_olt (a := 191) (b := (own_by B (i + 1))) (by omega) (by omega)).mpr q)
                        refine w_iconst (v := (2 : Int32)) X1 hx (hb hby d3_203) rfl (pc' := 204) rfl ?_
                        refine w_istore (l' := #[.val (.ref (n0 + 0)), .val (.int (Int32.ofNat fr)), .val (.int (Int32.ofNat to)), .val (.int (Int32.ofNat i)), .val (.int (Int32.ofNat (own_by B i))), .val (.int (3 : Int32)), .val (.int (160 : Int32)), .val (.int (191 : Int32)), .val (.int (Int32.ofNat (own_by B (i + 1)))), .val (.int (2 : Int32))]) X1 hx (hb hby d3_204) (XS.store1 rfl hs9 rfl) (pc' := 206) rfl ?_
                        refine w_iload X1 hx (hb hby d3_206) rfl (pc' := 208) rfl ?_
                        refine w_iload X1 hx (hb hby d3_208) rfl (pc' := 210) rfl ?_
                        refine w_icmp_ge X1 hx (hb hby d3_210) (by decide) (pcY := 237) (by decide) (pc' := 213) rfl (fun h78 => absurd h78 (by decide)) (fun h78 => ?_)
                        refine w_aloadN X1 hx (hb hby d3_213) rfl rfl (pc' := 214) rfl ?_
                        refine w_iloadN X1 hx (hb hby d3_214) rfl (pc' := 215) rfl ?_
                        refine w_iload X1 hx (hb hby d3_215) rfl (pc' := 217) rfl ?_
                        refine w_iadd X1 hx (hb hby d3_217) (pc' := 218) rfl ?_
                        refine w_eqI (z := (Int32.ofNat (i + 2))) (own_oadd i 2) ?_
                        refine w_baloadL (i := 0) (jn := (i + 2)) X1 hx hZ P1 rfl hk0 (hb hby d3_218) (own_oN (by omega)) (own_llt hB (by omega)) (pc' := 219) rfl ?_
                        refine w_sipush (v := (192 : Int32)) X1 hx (hb hby d3_219) rfl (pc' := 222) rfl ?_
                        refine w_iand X1 hx (hb hby d3_222) (pc' := 223) rfl ?_
                        refine w_eqI (z := (Int32.ofNat (own_by B (i + 2) / 64 * 64))) (own_byc _ _) ?_
                        refine w_sipush (v := (128 : Int32)) X1 hx (hb hby d3_223) rfl (pc' := 226) rfl ?_
                        refine w_icmp_eq X1 hx (hb hby d3_226) (by decide) (pcY := 231) (by decide) (pc' := 229) rfl (fun h79 => ?_) (fun h79 => ?_)
                        · have h79n : (own_by B (i + 2) / 64 * 64) = 128 := (own_oeq (a := (own_by B (i + 2) / 64 * 64)) (b := 128) (by omega) (by omega)).mp h79
                          refine w_iincE (z := (3 : Int32)) (l' := #[.val (.ref (n0 + 0)), .val (.int (Int32.ofNat fr)), .val (.int (Int32.ofNat to)), .val (.int (Int32.ofNat i)), .val (.int (Int32.ofNat (own_by B i))), .val (.int (3 : Int32)), .val (.int (160 : Int32)), .val (.int (191 : Int32)), .val (.int (Int32.ofNat (own_by B (i + 1)))), .val (.int (3 : Int32))]) X1 hx (hb hby d3_231) rfl (by decide) rfl (pc' := 234) rfl ?_
                          refine w_goto X1 hx (hb hby d3_234) (by decide) (pc' := 206) (by decide) ?_
                          refine w_iload X1 hx (hb hby d3_206) rfl (pc' := 208) rfl ?_
                          refine w_iload X1 hx (hb hby d3_208) rfl (pc' := 210) rfl ?_
                          refine w_icmp_ge X1 hx (hb hby d3_210) (by decide) (pcY := 237) (by decide) (pc' := 213) rfl (fun h80 => ?_) (fun h80 => absurd h80 (by decide))
                          refine w_iloadN X1 hx (hb hby d3_237) rfl (pc' := 238) rfl ?_
                          refine w_iload X1 hx (hb hby d3_238) rfl (pc' := 240) rfl ?_
                          refine w_iadd X1 hx (hb hby d3_240) (pc' := 241) rfl ?_
                          refine w_eqI (z := (Int32.ofNat (i + 3))) (own_oadd i 3) ?_
                          refine w_istoreN (l' := #[.val (.ref (n0 + 0)), .val (.int (Int32.ofNat fr)), .val (.int (Int32.ofNat to)), .val (.int (Int32.ofNat (i + 3))), .val (.int (Int32.ofNat (own_by B i))), .val (.int (3 : Int32)), .val (.int (160 : Int32)), .val (.int (191 : Int32)), .val (.int (Int32.ofNat (own_by B (i + 1)))), .val (.int (3 : Int32))]) X1 hx (hb hby d3_241) rfl (pc' := 242) rfl ?_
                          refine w_goto X1 hx (hb hby d3_242) (by decide) (pc' := 2) (by decide) ?_
                          have ek : own_k B to i = 3 := by unfold own_k; exact own_ok3 (by omega)
                          exact ih (i + 3) _ _ _ _ _ _ T1 L1 (One.val rfl) (One.val rfl) (One.val rfl) (One.val rfl) (One.val rfl) (One.val rfl) (by omega) (by omega) (by rw [← hv, own_fi, if_pos h0n, if_neg (by rw [ek]; decide), ek]) N1 X1 P1
                        · have h79n : ¬ (own_by B (i + 2) / 64 * 64) = 128 := fun q => h79 ((own_oeq (a := (own_by B (i + 2) / 64 * 64)) (b := 128) (by omega) (by omega)).mpr q)
                          refine w_iloadN X1 hx (hb hby d3_229) rfl (pc' := 230) rfl ?_
                          exact w_ret_i X1 hx hret hlk (hb hby d3_230) (by decide) (by decide) ⟨by rw [← hv, own_fi, if_pos h0n, if_pos (show own_k B to i = 0 from by unfold own_k; exact own_ok0 (by omega) (by omega) (by omega) (by omega))], N1, P1⟩
                      · have h77n : 191 < (own_by B (i + 1)) := (own_olt (a := 191) (b := (own_by B (i + 1))) (by omega) (by omega)).mp h77
                        refine w_iloadN X1 hx (hb hby d3_201) rfl (pc' := 202) rfl ?_
                        exact w_ret_i X1 hx hret hlk (hb hby d3_202) (by decide) (by decide) ⟨by rw [← hv, own_fi, if_pos h0n, if_pos (show own_k B to i = 0 from by unfold own_k; exact own_ok0 (by omega) (by omega) (by omega) (by omega))], N1, P1⟩
                  · have h75n : (to - i) < 3 := (own_olt (a := (to - i)) (b := 3) (by omega) (by omega)).mp h75
                    refine w_iloadN X1 hx (hb hby d3_174) rfl (pc' := 175) rfl ?_
                    exact w_ret_i X1 hx hret hlk (hb hby d3_175) (by decide) (by decide) ⟨by rw [← hv, own_fi, if_pos h0n, if_pos (show own_k B to i = 0 from by unfold own_k; exact own_ok0 (by omega) (by omega) (by omega) (by omega))], N1, P1⟩
          · have h2n : ¬ (own_by B i) < 194 := fun q => h2 ((own_olt (a := (own_by B i)) (b := 194) (by omega) (by omega)).mpr q)
            refine w_iload X1 hx (hb hby d3_48) rfl (pc' := 50) rfl ?_
            refine w_sipush (v := (223 : Int32)) X1 hx (hb hby d3_50) rfl (pc' := 53) rfl ?_
            refine w_icmp_gt X1 hx (hb hby d3_53) (by decide) (pcY := 62) (by decide) (pc' := 56) rfl (fun h81 => ?_) (fun h81 => ?_)
            · have h81n : 223 < (own_by B i) := (own_olt (a := 223) (b := (own_by B i)) (by omega) (by omega)).mp h81
              refine w_iload X1 hx (hb hby d3_62) rfl (pc' := 64) rfl ?_
              refine w_sipush (v := (224 : Int32)) X1 hx (hb hby d3_64) rfl (pc' := 67) rfl ?_
              refine w_icmp_lt X1 hx (hb hby d3_67) (by decide) (pcY := 113) (by decide) (pc' := 70) rfl (fun h82 => ?_) (fun h82 => ?_)
              · have h82n : (own_by B i) < 224 := (own_olt (a := (own_by B i)) (b := 224) (by omega) (by omega)).mp h82
                refine w_iload X1 hx (hb hby d3_113) rfl (pc' := 115) rfl ?_
                refine w_sipush (v := (240 : Int32)) X1 hx (hb hby d3_115) rfl (pc' := 118) rfl ?_
                refine w_icmp_lt X1 hx (hb hby d3_118) (by decide) (pcY := 164) (by decide) (pc' := 121) rfl (fun h83 => ?_) (fun h83 => ?_)
                · have h83n : (own_by B i) < 240 := (own_olt (a := (own_by B i)) (b := 240) (by omega) (by omega)).mp h83
                  refine w_iloadN X1 hx (hb hby d3_164) rfl (pc' := 165) rfl ?_
                  exact w_ret_i X1 hx hret hlk (hb hby d3_165) (by decide) (by decide) ⟨by rw [← hv, own_fi, if_pos h0n, if_pos (show own_k B to i = 0 from by unfold own_k; exact own_ok0 (by omega) (by omega) (by omega) (by omega))], N1, P1⟩
                · have h83n : ¬ (own_by B i) < 240 := fun q => h83 ((own_olt (a := (own_by B i)) (b := 240) (by omega) (by omega)).mpr q)
                  refine w_iload X1 hx (hb hby d3_121) rfl (pc' := 123) rfl ?_
                  refine w_sipush (v := (244 : Int32)) X1 hx (hb hby d3_123) rfl (pc' := 126) rfl ?_
                  refine w_icmp_gt X1 hx (hb hby d3_126) (by decide) (pcY := 164) (by decide) (pc' := 129) rfl (fun h84 => ?_) (fun h84 => ?_)
                  · have h84n : 244 < (own_by B i) := (own_olt (a := 244) (b := (own_by B i)) (by omega) (by omega)).mp h84
                    refine w_iloadN X1 hx (hb hby d3_164) rfl (pc' := 165) rfl ?_
                    exact w_ret_i X1 hx hret hlk (hb hby d3_165) (by decide) (by decide) ⟨by rw [← hv, own_fi, if_pos h0n, if_pos (show own_k B to i = 0 from by unfold own_k; exact own_ok0 (by omega) (by omega) (by omega) (by omega))], N1, P1⟩
                  · have h84n : ¬ 244 < (own_by B i) := fun q => h84 ((own_olt (a := 244) (b := (own_by B i)) (by omega) (by omega)).mpr q)
                    refine w_iconst (v := (4 : Int32)) X1 hx (hb hby d3_129) rfl (pc' := 130) rfl ?_
                    refine w_istore (l' := #[.val (.ref (n0 + 0)), .val (.int (Int32.ofNat fr)), .val (.int (Int32.ofNat to)), .val (.int (Int32.ofNat i)), .val (.int (Int32.ofNat (own_by B i))), .val (.int (4 : Int32)), .val (.int (128 : Int32)), .val (.int (191 : Int32)), s8, s9]) X1 hx (hb hby d3_130) (XS.store1 rfl hs5 rfl) (pc' := 132) rfl ?_
                    refine w_iload X1 hx (hb hby d3_132) rfl (pc' := 134) rfl ?_
                    refine w_sipush (v := (240 : Int32)) X1 hx (hb hby d3_134) rfl (pc' := 137) rfl ?_
                    refine w_icmp_ne X1 hx (hb hby d3_137) (by decide) (pcY := 148) (by decide) (pc' := 140) rfl (fun h85 => ?_) (fun h85 => ?_)
                    · have h85n : ¬ (own_by B i) = 240 := fun q => h85 ((own_oeq (a := (own_by B i)) (b := 240) (by omega) (by omega)).mpr q)
                      refine w_iload X1 hx (hb hby d3_148) rfl (pc' := 150) rfl ?_
                      refine w_sipush (v := (244 : Int32)) X1 hx (hb hby d3_150) rfl (pc' := 153) rfl ?_
                      refine w_icmp_ne X1 hx (hb hby d3_153) (by decide) (pcY := 166) (by decide) (pc' := 156) rfl (fun h86 => ?_) (fun h86 => ?_)
                      · have h86n : ¬ (own_by B i) = 244 := fun q => h86 ((own_oeq (a := (own_by B i)) (b := 244) (by omega) (by omega)).mpr q)
                        refine w_iloadN X1 hx (hb hby d3_166) rfl (pc' := 167) rfl ?_
                        refine w_iloadN X1 hx (hb hby d3_167) rfl (pc' := 168) rfl ?_
                        refine w_isub X1 hx (hb hby d3_168) (pc' := 169) rfl ?_
                        refine w_eqI (z := (Int32.ofNat (to - i))) (own_osub (a := to) (b := i) (by omega)) ?_
                        refine w_iload X1 hx (hb hby d3_169) rfl (pc' := 171) rfl ?_
                        refine w_icmp_ge X1 hx (hb hby d3_171) (by decide) (pcY := 176) (by decide) (pc' := 174) rfl (fun h87 => ?_) (fun h87 => ?_)
                        · have h87n : ¬ (to - i) < 4 := fun q => h87 ((own_olt (a := (to - i)) (b := 4) (by omega) (by omega)).mpr q)
                          refine w_aloadN X1 hx (hb hby d3_176) rfl rfl (pc' := 177) rfl ?_
                          refine w_iloadN X1 hx (hb hby d3_177) rfl (pc' := 178) rfl ?_
                          refine w_iconst (v := (1 : Int32)) X1 hx (hb hby d3_178) rfl (pc' := 179) rfl ?_
                          refine w_iadd X1 hx (hb hby d3_179) (pc' := 180) rfl ?_
                          refine w_eqI (z := (Int32.ofNat (i + 1))) (own_oadd i 1) ?_
                          refine w_baloadL (i := 0) (jn := (i + 1)) X1 hx hZ P1 rfl hk0 (hb hby d3_180) (own_oN (by omega)) (own_llt hB (by omega)) (pc' := 181) rfl ?_
                          refine w_sipush (v := (255 : Int32)) X1 hx (hb hby d3_181) rfl (pc' := 184) rfl ?_
                          refine w_iand X1 hx (hb hby d3_184) (pc' := 185) rfl ?_
                          refine w_eqI (z := (Int32.ofNat (own_by B (i + 1)))) (own_bye _ _) ?_
                          refine w_istore (l' := #[.val (.ref (n0 + 0)), .val (.int (Int32.ofNat fr)), .val (.int (Int32.ofNat to)), .val (.int (Int32.ofNat i)), .val (.int (Int32.ofNat (own_by B i))), .val (.int (4 : Int32)), .val (.int (128 : Int32)), .val (.int (191 : Int32)), .val (.int (Int32.ofNat (own_by B (i + 1)))), s9]) X1 hx (hb hby d3_185) (XS.store1 rfl hs8 rfl) (pc' := 187) rfl ?_
                          refine w_iload X1 hx (hb hby d3_187) rfl (pc' := 189) rfl ?_
                          refine w_iload X1 hx (hb hby d3_189) rfl (pc' := 191) rfl ?_
                          refine w_icmp_lt X1 hx (hb hby d3_191) (by decide) (pcY := 201) (by decide) (pc' := 194) rfl (fun h88 => ?_) (fun h88 => ?_)
                          · have h88n : (own_by B (i + 1)) < 128 := (own_olt (a := (own_by B (i + 1))) (b := 128) (by omega) (by omega)).mp h88
                            refine w_iloadN X1 hx (hb hby d3_201) rfl (pc' := 202) rfl ?_
                            exact w_ret_i X1 hx hret hlk (hb hby d3_202) (by decide) (by decide) ⟨by rw [← hv, own_fi, if_pos h0n, if_pos (show own_k B to i = 0 from by unfold own_k; exact own_ok0 (by omega) (by omega) (by omega) (by omega))], N1, P1⟩
                          · have h88n : ¬ (own_by B (i + 1)) < 128 := fun q => h88 ((own_olt (a := (own_by B (i + 1))) (b := 128) (by omega) (by omega)).mpr q)
                            refine w_iload X1 hx (hb hby d3_194) rfl (pc' := 196) rfl ?_
                            refine w_iload X1 hx (hb hby d3_196) rfl (pc' := 198) rfl ?_
                            refine w_icmp_le X1 hx (hb hby d3_198) (by decide) (pcY := 203) (by decide) (pc' := 201) rfl (fun h89 => ?_) (fun h89 => ?_)
                            · have h89n : ¬ 191 < (own_by B (i + 1)) := fun q => h89 ((own_olt (a := 191) (b := (own_by B (i + 1))) (by omega) (by omega)).mpr q)
                              refine w_iconst (v := (2 : Int32)) X1 hx (hb hby d3_203) rfl (pc' := 204) rfl ?_
                              refine w_istore (l' := #[.val (.ref (n0 + 0)), .val (.int (Int32.ofNat fr)), .val (.int (Int32.ofNat to)), .val (.int (Int32.ofNat i)), .val (.int (Int32.ofNat (own_by B i))), .val (.int (4 : Int32)), .val (.int (128 : Int32)), .val (.int (191 : Int32)), .val (.int (Int32.ofNat (own_by B (i + 1)))), .val (.int (2 : Int32))]) X1 hx (hb hby d3_204) (XS.store1 rfl hs9 rfl) (pc' := 206) rfl ?_
                              refine w_iload X1 hx (hb hby d3_206) rfl (pc' := 208) rfl ?_
                              refine w_iload X1 hx (hb hby d3_208) rfl (pc' := 210) rfl ?_
                              refine w_icmp_ge X1 hx (hb hby d3_210) (by decide) (pcY := 237) (by decide) (pc' := 213) rfl (fun h90 => absurd h90 (by decide)) (fun h90 => ?_)
                              refine w_aloadN X1 hx (hb hby d3_213) rfl rfl (pc' := 214) rfl ?_
                              refine w_iloadN X1 hx (hb hby d3_214) rfl (pc' := 215) rfl ?_
                              refine w_iload X1 hx (hb hby d3_215) rfl (pc' := 217) rfl ?_
                              refine w_iadd X1 hx (hb hby d3_217) (pc' := 218) rfl ?_
                              refine w_eqI (z := (Int32.ofNat (i + 2))) (own_oadd i 2) ?_
                              refine w_baloadL (i := 0) (jn := (i + 2)) X1 hx hZ P1 rfl hk0 (hb hby d3_218) (own_oN (by omega)) (own_llt hB (by omega)) (pc' := 219) rfl ?_
                              refine w_sipush (v := (192 : Int32)) X1 hx (hb hby d3_219) rfl (pc' := 222) rfl ?_
                              refine w_iand X1 hx (hb hby d3_222) (pc' := 223) rfl ?_
                              refine w_eqI (z := (Int32.ofNat (own_by B (i + 2) / 64 * 64))) (own_byc _ _) ?_
                              refine w_sipush (v := (128 : Int32)) X1 hx (hb hby d3_223) rfl (pc' := 226) rfl ?_
                              refine w_icmp_eq X1 hx (hb hby d3_226) (by decide) (pcY := 231) (by decide) (pc' := 229) rfl (fun h91 => ?_) (fun h91 => ?_)
                              · have h91n : (own_by B (i + 2) / 64 * 64) = 128 := (own_oeq (a := (own_by B (i + 2) / 64 * 64)) (b := 128) (by omega) (by omega)).mp h91
                                refine w_iincE (z := (3 : Int32)) (l' := #[.val (.ref (n0 + 0)), .val (.int (Int32.ofNat fr)), .val (.int (Int32.ofNat to)), .val (.int (Int32.ofNat i)), .val (.int (Int32.ofNat (own_by B i))), .val (.int (4 : Int32)), .val (.int (128 : Int32)), .val (.int (191 : Int32)), .val (.int (Int32.ofNat (own_by B (i + 1)))), .val (.int (3 : Int32))]) X1 hx (hb hby d3_231) rfl (by decide) rfl (pc' := 234) rfl ?_
                                refine w_goto X1 hx (hb hby d3_234) (by decide) (pc' := 206) (by decide) ?_
                                refine w_iload X1 hx (hb hby d3_206) rfl (pc' := 208) rfl ?_
                                refine w_iload X1 hx (hb hby d3_208) rfl (pc' := 210) rfl ?_
                                refine w_icmp_ge X1 hx (hb hby d3_210) (by decide) (pcY := 237) (by decide) (pc' := 213) rfl (fun h92 => absurd h92 (by decide)) (fun h92 => ?_)
                                refine w_aloadN X1 hx (hb hby d3_213) rfl rfl (pc' := 214) rfl ?_
                                refine w_iloadN X1 hx (hb hby d3_214) rfl (pc' := 215) rfl ?_
                                refine w_iload X1 hx (hb hby d3_215) rfl (pc' := 217) rfl ?_
                                refine w_iadd X1 hx (hb hby d3_217) (pc' := 218) rfl ?_
                                refine w_eqI (z := (Int32.ofNat (i + 3))) (own_oadd i 3) ?_
                                refine w_baloadL (i := 0) (jn := (i + 3)) X1 hx hZ P1 rfl hk0 (hb hby d3_218) (own_oN (by omega)) (own_llt hB (by omega)) (pc' := 219) rfl ?_
                                refine w_sipush (v := (192 : Int32)) X1 hx (hb hby d3_219) rfl (pc' := 222) rfl ?_
                                refine w_iand X1 hx (hb hby d3_222) (pc' := 223) rfl ?_
                                refine w_eqI (z := (Int32.ofNat (own_by B (i + 3) / 64 * 64))) (own_byc _ _) ?_
                                refine w_sipush (v := (128 : Int32)) X1 hx (hb hby d3_223) rfl (pc' := 226) rfl ?_
                                refine w_icmp_eq X1 hx (hb hby d3_226) (by decide) (pcY := 231) (by decide) (pc' := 229) rfl (fun h93 => ?_) (fun h93 => ?_)
                                · have h93n : (own_by B (i + 3) / 64 * 64) = 128 := (own_oeq (a := (own_by B (i + 3) / 64 * 64)) (b := 128) (by omega) (by omega)).mp h93
                                  refine w_iincE (z := (4 : Int32)) (l' := #[.val (.ref (n0 + 0)), .val (.int (Int32.ofNat fr)), .val (.int (Int32.ofNat to)), .val (.int (Int32.ofNat i)), .val (.int (Int32.ofNat (own_by B i))), .val (.int (4 : Int32)), .val (.int (128 : Int32)), .val (.int (191 : Int32)), .val (.int (Int32.ofNat (own_by B (i + 1)))), .val (.int (4 : Int32))]) X1 hx (hb hby d3_231) rfl (by decide) rfl (pc' := 234) rfl ?_
                                  refine w_goto X1 hx (hb hby d3_234) (by decide) (pc' := 206) (by decide) ?_
                                  refine w_iload X1 hx (hb hby d3_206) rfl (pc' := 208) rfl ?_
                                  refine w_iload X1 hx (hb hby d3_208) rfl (pc' := 210) rfl ?_
                                  refine w_icmp_ge X1 hx (hb hby d3_210) (by decide) (pcY := 237) (by decide) (pc' := 213) rfl (fun h94 => ?_) (fun h94 => absurd h94 (by decide))
                                  refine w_iloadN X1 hx (hb hby d3_237) rfl (pc' := 238) rfl ?_
                                  refine w_iload X1 hx (hb hby d3_238) rfl (pc' := 240) rfl ?_
                                  refine w_iadd X1 hx (hb hby d3_240) (pc' := 241) rfl ?_
                                  refine w_eqI (z := (Int32.ofNat (i + 4))) (own_oadd i 4) ?_
                                  refine w_istoreN (l' := #[.val (.ref (n0 + 0)), .val (.int (Int32.ofNat fr)), .val (.int (Int32.ofNat to)), .val (.int (Int32.ofNat (i + 4))), .val (.int (Int32.ofNat (own_by B i))), .val (.int (4 : Int32)), .val (.int (128 : Int32)), .val (.int (191 : Int32)), .val (.int (Int32.ofNat (own_by B (i + 1)))), .val (.int (4 : Int32))]) X1 hx (hb hby d3_241) rfl (pc' := 242) rfl ?_
                                  refine w_goto X1 hx (hb hby d3_242) (by decide) (pc' := 2) (by decide) ?_
                                  have ek : own_k B to i = 4 := by unfold own_k; exact own_ok4 (by omega)
                                  exact ih (i + 4) _ _ _ _ _ _ T1 L1 (One.val rfl) (One.val rfl) (One.val rfl) (One.val rfl) (One.val rfl) (One.val rfl) (by omega) (by omega) (by rw [← hv, own_fi, if_pos h0n, if_neg (by rw [ek]; decide), ek]) N1 X1 P1
                                · have h93n : ¬ (own_by B (i + 3) / 64 * 64) = 128 := fun q => h93 ((own_oeq (a := (own_by B (i + 3) / 64 * 64)) (b := 128) (by omega) (by omega)).mpr q)
                                  refine w_iloadN X1 hx (hb hby d3_229) rfl (pc' := 230) rfl ?_
                                  exact w_ret_i X1 hx hret hlk (hb hby d3_230) (by decide) (by decide) ⟨by rw [← hv, own_fi, if_pos h0n, if_pos (show own_k B to i = 0 from by unfold own_k; exact own_ok0 (by omega) (by omega) (by omega) (by omega))], N1, P1⟩
                              · have h91n : ¬ (own_by B (i + 2) / 64 * 64) = 128 := fun q => h91 ((own_oeq (a := (own_by B (i + 2) / 64 * 64)) (b := 128) (by omega) (by omega)).mpr q)
                                refine w_iloadN X1 hx (hb hby d3_229) rfl (pc' := 230) rfl ?_
                                exact w_ret_i X1 hx hret hlk (hb hby d3_230) (by decide) (by decide) ⟨by rw [← hv, own_fi, if_pos h0n, if_pos (show own_k B to i = 0 from by unfold own_k; exact own_ok0 (by omega) (by omega) (by omega) (by omega))], N1, P1⟩
                            · have h89n : 191 < (own_by B (i + 1)) := (own_olt (a := 191) (b := (own_by B (i + 1))) (by omega) (by omega)).mp h89
                              refine w_iloadN X1 hx (hb hby d3_201) rfl (pc' := 202) rfl ?_
                              exact w_ret_i X1 hx hret hlk (hb hby d3_202) (by decide) (by decide) ⟨by rw [← hv, own_fi, if_pos h0n, if_pos (show own_k B to i = 0 from by unfold own_k; exact own_ok0 (by omega) (by omega) (by omega) (by omega))], N1, P1⟩
                        · have h87n : (to - i) < 4 := (own_olt (a := (to - i)) (b := 4) (by omega) (by omega)).mp h87
                          refine w_iloadN X1 hx (hb hby d3_174) rfl (pc' := 175) rfl ?_
                          exact w_ret_i X1 hx hret hlk (hb hby d3_175) (by decide) (by decide) ⟨by rw [← hv, own_fi, if_pos h0n, if_pos (show own_k B to i = 0 from by unfold own_k; exact own_ok0 (by omega) (by omega) (by omega) (by omega))], N1, P1⟩
                      · have h86n : (own_by B i) = 244 := (own_oeq (a := (own_by B i)) (b := 244) (by omega) (by omega)).mp h86
                        refine w_sipush (v := (143 : Int32)) X1 hx (hb hby d3_156) rfl (pc' := 159) rfl ?_
                        refine w_istore (l' := #[.val (.ref (n0 + 0)), .val (.int (Int32.ofNat fr)), .val (.int (Int32.ofNat to)), .val (.int (Int32.ofNat i)), .val (.int (Int32.ofNat (own_by B i))), .val (.int (4 : Int32)), .val (.int (128 : Int32)), .val (.int (143 : Int32)), s8, s9]) X1 hx (hb hby d3_159) rfl (pc' := 161) rfl ?_
                        refine w_goto X1 hx (hb hby d3_161) (by decide) (pc' := 166) (by decide) ?_
                        refine w_iloadN X1 hx (hb hby d3_166) rfl (pc' := 167) rfl ?_
                        refine w_iloadN X1 hx (hb hby d3_167) rfl (pc' := 168) rfl ?_
                        refine w_isub X1 hx (hb hby d3_168) (pc' := 169) rfl ?_
                        refine w_eqI (z := (Int32.ofNat (to - i))) (own_osub (a := to) (b := i) (by omega)) ?_
                        refine w_iload X1 hx (hb hby d3_169) rfl (pc' := 171) rfl ?_
                        refine w_icmp_ge X1 hx (hb hby d3_171) (by decide) (pcY := 176) (by decide) (pc' := 174) rfl (fun h95 => ?_) (fun h95 => ?_)
                        · have h95n : ¬ (to - i) < 4 := fun q => h95 ((own_olt (a := (to - i)) (b := 4) (by omega) (by omega)).mpr q)
                          refine w_aloadN X1 hx (hb hby d3_176) rfl rfl (pc' := 177) rfl ?_
                          refine w_iloadN X1 hx (hb hby d3_177) rfl (pc' := 178) rfl ?_
                          refine w_iconst (v := (1 : Int32)) X1 hx (hb hby d3_178) rfl (pc' := 179) rfl ?_
                          refine w_iadd X1 hx (hb hby d3_179) (pc' := 180) rfl ?_
                          refine w_eqI (z := (Int32.ofNat (i + 1))) (own_oadd i 1) ?_
                          refine w_baloadL (i := 0) (jn := (i + 1)) X1 hx hZ P1 rfl hk0 (hb hby d3_180) (own_oN (by omega)) (own_llt hB (by omega)) (pc' := 181) rfl ?_
                          refine w_sipush (v := (255 : Int32)) X1 hx (hb hby d3_181) rfl (pc' := 184) rfl ?_
                          refine w_iand X1 hx (hb hby d3_184) (pc' := 185) rfl ?_
                          refine w_eqI (z := (Int32.ofNat (own_by B (i + 1)))) (own_bye _ _) ?_
                          refine w_istore (l' := #[.val (.ref (n0 + 0)), .val (.int (Int32.ofNat fr)), .val (.int (Int32.ofNat to)), .val (.int (Int32.ofNat i)), .val (.int (Int32.ofNat (own_by B i))), .val (.int (4 : Int32)), .val (.int (128 : Int32)), .val (.int (143 : Int32)), .val (.int (Int32.ofNat (own_by B (i + 1)))), s9]) X1 hx (hb hby d3_185) (XS.store1 rfl hs8 rfl) (pc' := 187) rfl ?_
                          refine w_iload X1 hx (hb hby d3_187) rfl (pc' := 189) rfl ?_
                          refine w_iload X1 hx (hb hby d3_189) rfl (pc' := 191) rfl ?_
                          refine w_icmp_lt X1 hx (hb hby d3_191) (by decide) (pcY := 201) (by decide) (pc' := 194) rfl (fun h96 => ?_) (fun h96 => ?_)
                          · have h96n : (own_by B (i + 1)) < 128 := (own_olt (a := (own_by B (i + 1))) (b := 128) (by omega) (by omega)).mp h96
                            refine w_iloadN X1 hx (hb hby d3_201) rfl (pc' := 202) rfl ?_
                            exact w_ret_i X1 hx hret hlk (hb hby d3_202) (by decide) (by decide) ⟨by rw [← hv, own_fi, if_pos h0n, if_pos (show own_k B to i = 0 from by unfold own_k; exact own_ok0 (by omega) (by omega) (by omega) (by omega))], N1, P1⟩
                          · have h96n : ¬ (own_by B (i + 1)) < 128 := fun q => h96 ((own_olt (a := (own_by B (i + 1))) (b := 128) (by omega) (by omega)).mpr q)
                            refine w_iload X1 hx (hb hby d3_194) rfl (pc' := 196) rfl ?_
                            refine w_iload X1 hx (hb hby d3_196) rfl (pc' := 198) rfl ?_
                            refine w_icmp_le X1 hx (hb hby d3_198) (by decide) (pcY := 203) (by decide) (pc' := 201) rfl (fun h97 => ?_) (fun h97 => ?_)
                            · have h97n : ¬ 143 < (own_by B (i + 1)) := fun q => h97 ((own_olt (a := 143) (b := (own_by B (i + 1))) (by omega) (by omega)).mpr q)
                              refine w_iconst (v := (2 : Int32)) X1 hx (hb hby d3_203) rfl (pc' := 204) rfl ?_
                              refine w_istore (l' := #[.val (.ref (n0 + 0)), .val (.int (Int32.ofNat fr)), .val (.int (Int32.ofNat to)), .val (.int (Int32.ofNat i)), .val (.int (Int32.ofNat (own_by B i))), .val (.int (4 : Int32)), .val (.int (128 : Int32)), .val (.int (143 : Int32)), .val (.int (Int32.ofNat (own_by B (i + 1)))), .val (.int (2 : Int32))]) X1 hx (hb hby d3_204) (XS.store1 rfl hs9 rfl) (pc' := 206) rfl ?_
                              refine w_iload X1 hx (hb hby d3_206) rfl (pc' := 208) rfl ?_
                              refine w_iload X1 hx (hb hby d3_208) rfl (pc' := 210) rfl ?_
                              refine w_icmp_ge X1 hx (hb hby d3_210) (by decide) (pcY := 237) (by decide) (pc' := 213) rfl (fun h98 => absurd h98 (by decide)) (fun h98 => ?_)
                              refine w_aloadN X1 hx (hb hby d3_213) rfl rfl (pc' := 214) rfl ?_
                              refine w_iloadN X1 hx (hb hby d3_214) rfl (pc' := 215) rfl ?_
                              refine w_iload X1 hx (hb hby d3_215) rfl (pc' := 217) rfl ?_
                              refine w_iadd X1 hx (hb hby d3_217) (pc' := 218) rfl ?_
                              refine w_eqI (z := (Int32.ofNat (i + 2))) (own_oadd i 2) ?_
                              refine w_baloadL (i := 0) (jn := (i + 2)) X1 hx hZ P1 rfl hk0 (hb hby d3_218) (own_oN (by omega)) (own_llt hB (by omega)) (pc' := 219) rfl ?_
                              refine w_sipush (v := (192 : Int32)) X1 hx (hb hby d3_219) rfl (pc' := 222) rfl ?_
                              refine w_iand X1 hx (hb hby d3_222) (pc' := 223) rfl ?_
                              refine w_eqI (z := (Int32.ofNat (own_by B (i + 2) / 64 * 64))) (own_byc _ _) ?_
                              refine w_sipush (v := (128 : Int32)) X1 hx (hb hby d3_223) rfl (pc' := 226) rfl ?_
                              refine w_icmp_eq X1 hx (hb hby d3_226) (by decide) (pcY := 231) (by decide) (pc' := 229) rfl (fun h99 => ?_) (fun h99 => ?_)
                              · have h99n : (own_by B (i + 2) / 64 * 64) = 128 := (own_oeq (a := (own_by B (i + 2) / 64 * 64)) (b := 128) (by omega) (by omega)).mp h99
                                refine w_iincE (z := (3 : Int32)) (l' := #[.val (.ref (n0 + 0)), .val (.int (Int32.ofNat fr)), .val (.int (Int32.ofNat to)), .val (.int (Int32.ofNat i)), .val (.int (Int32.ofNat (own_by B i))), .val (.int (4 : Int32)), .val (.int (128 : Int32)), .val (.int (143 : Int32)), .val (.int (Int32.ofNat (own_by B (i + 1)))), .val (.int (3 : Int32))]) X1 hx (hb hby d3_231) rfl (by decide) rfl (pc' := 234) rfl ?_
                                refine w_goto X1 hx (hb hby d3_234) (by decide) (pc' := 206) (by decide) ?_
                                refine w_iload X1 hx (hb hby d3_206) rfl (pc' := 208) rfl ?_
                                refine w_iload X1 hx (hb hby d3_208) rfl (pc' := 210) rfl ?_
                                refine w_icmp_ge X1 hx (hb hby d3_210) (by decide) (pcY := 237) (by decide) (pc' := 213) rfl (fun h100 => absurd h100 (by decide)) (fun h100 => ?_)
                                refine w_aloadN X1 hx (hb hby d3_213) rfl rfl (pc' := 214) rfl ?_
                                refine w_iloadN X1 hx (hb hby d3_214) rfl (pc' := 215) rfl ?_
                                refine w_iload X1 hx (hb hby d3_215) rfl (pc' := 217) rfl ?_
                                refine w_iadd X1 hx (hb hby d3_217) (pc' := 218) rfl ?_
                                refine w_eqI (z := (Int32.ofNat (i + 3))) (own_oadd i 3) ?_
                                refine w_baloadL (i := 0) (jn := (i + 3)) X1 hx hZ P1 rfl hk0 (hb hby d3_218) (own_oN (by omega)) (own_llt hB (by omega)) (pc' := 219) rfl ?_
                                refine w_sipush (v := (192 : Int32)) X1 hx (hb hby d3_219) rfl (pc' := 222) rfl ?_
                                refine w_iand X1 hx (hb hby d3_222) (pc' := 223) rfl ?_
                                refine w_eqI (z := (Int32.ofNat (own_by B (i + 3) / 64 * 64))) (own_byc _ _) ?_
                                refine w_sipush (v := (128 : Int32)) X1 hx (hb hby d3_223) rfl (pc' := 226) rfl ?_
                                refine w_icmp_eq X1 hx (hb hby d3_226) (by decide) (pcY := 231) (by decide) (pc' := 229) rfl (fun h101 => ?_) (fun h101 => ?_)
                                · have h101n : (own_by B (i + 3) / 64 * 64) = 128 := (own_oeq (a := (own_by B (i + 3) / 64 * 64)) (b := 128) (by omega) (by omega)).mp h101
                                  refine w_iincE (z := (4 : Int32)) (l' := #[.val (.ref (n0 + 0)), .val (.int (Int32.ofNat fr)), .val (.int (Int32.ofNat to)), .val (.int (Int32.ofNat i)), .val (.int (Int32.ofNat (own_by B i))), .val (.int (4 : Int32)), .val (.int (128 : Int32)), .val (.int (143 : Int32)), .val (.int (Int32.ofNat (own_by B (i + 1)))), .val (.int (4 : Int32))]) X1 hx (hb hby d3_231) rfl (by decide) rfl (pc' := 234) rfl ?_
                                  refine w_goto X1 hx (hb hby d3_234) (by decide) (pc' := 206) (by decide) ?_
                                  refine w_iload X1 hx (hb hby d3_206) rfl (pc' := 208) rfl ?_
                                  refine w_iload X1 hx (hb hby d3_208) rfl (pc' := 210) rfl ?_
                                  refine w_icmp_ge X1 hx (hb hby d3_210) (by decide) (pcY := 237) (by decide) (pc' := 213) rfl (fun h102 => ?_) (fun h102 => absurd h102 (by decide))
                                  refine w_iloadN X1 hx (hb hby d3_237) rfl (pc' := 238) rfl ?_
                                  refine w_iload X1 hx (hb hby d3_238) rfl (pc' := 240) rfl ?_
                                  refine w_iadd X1 hx (hb hby d3_240) (pc' := 241) rfl ?_
                                  refine w_eqI (z := (Int32.ofNat (i + 4))) (own_oadd i 4) ?_
                                  refine w_istoreN (l' := #[.val (.ref (n0 + 0)), .val (.int (Int32.ofNat fr)), .val (.int (Int32.ofNat to)), .val (.int (Int32.ofNat (i + 4))), .val (.int (Int32.ofNat (own_by B i))), .val (.int (4 : Int32)), .val (.int (128 : Int32)), .val (.int (143 : Int32)), .val (.int (Int32.ofNat (own_by B (i + 1)))), .val (.int (4 : Int32))]) X1 hx (hb hby d3_241) rfl (pc' := 242) rfl ?_
                                  refine w_goto X1 hx (hb hby d3_242) (by decide) (pc' := 2) (by decide) ?_
                                  have ek : own_k B to i = 4 := by unfold own_k; exact own_ok4 (by omega)
                                  exact ih (i + 4) _ _ _ _ _ _ T1 L1 (One.val rfl) (One.val rfl) (One.val rfl) (One.val rfl) (One.val rfl) (One.val rfl) (by omega) (by omega) (by rw [← hv, own_fi, if_pos h0n, if_neg (by rw [ek]; decide), ek]) N1 X1 P1
                                · have h101n : ¬ (own_by B (i + 3) / 64 * 64) = 128 := fun q => h101 ((own_oeq (a := (own_by B (i + 3) / 64 * 64)) (b := 128) (by omega) (by omega)).mpr q)
                                  refine w_iloadN X1 hx (hb hby d3_229) rfl (pc' := 230) rfl ?_
                                  exact w_ret_i X1 hx hret hlk (hb hby d3_230) (by decide) (by decide) ⟨by rw [← hv, own_fi, if_pos h0n, if_pos (show own_k B to i = 0 from by unfold own_k; exact own_ok0 (by omega) (by omega) (by omega) (by omega))], N1, P1⟩
                              · have h99n : ¬ (own_by B (i + 2) / 64 * 64) = 128 := fun q => h99 ((own_oeq (a := (own_by B (i + 2) / 64 * 64)) (b := 128) (by omega) (by omega)).mpr q)
                                refine w_iloadN X1 hx (hb hby d3_229) rfl (pc' := 230) rfl ?_
                                exact w_ret_i X1 hx hret hlk (hb hby d3_230) (by decide) (by decide) ⟨by rw [← hv, own_fi, if_pos h0n, if_pos (show own_k B to i = 0 from by unfold own_k; exact own_ok0 (by omega) (by omega) (by omega) (by omega))], N1, P1⟩
                            · have h97n : 143 < (own_by B (i + 1)) := (own_olt (a := 143) (b := (own_by B (i + 1))) (by omega) (by omega)).mp h97
                              refine w_iloadN X1 hx (hb hby d3_201) rfl (pc' := 202) rfl ?_
                              exact w_ret_i X1 hx hret hlk (hb hby d3_202) (by decide) (by decide) ⟨by rw [← hv, own_fi, if_pos h0n, if_pos (show own_k B to i = 0 from by unfold own_k; exact own_ok0 (by omega) (by omega) (by omega) (by omega))], N1, P1⟩
                        · have h95n : (to - i) < 4 := (own_olt (a := (to - i)) (b := 4) (by omega) (by omega)).mp h95
                          refine w_iloadN X1 hx (hb hby d3_174) rfl (pc' := 175) rfl ?_
                          exact w_ret_i X1 hx hret hlk (hb hby d3_175) (by decide) (by decide) ⟨by rw [← hv, own_fi, if_pos h0n, if_pos (show own_k B to i = 0 from by unfold own_k; exact own_ok0 (by omega) (by omega) (by omega) (by omega))], N1, P1⟩
                    · have h85n : (own_by B i) = 240 := (own_oeq (a := (own_by B i)) (b := 240) (by omega) (by omega)).mp h85
                      refine w_sipush (v := (144 : Int32)) X1 hx (hb hby d3_140) rfl (pc' := 143) rfl ?_
                      refine w_istore (l' := #[.val (.ref (n0 + 0)), .val (.int (Int32.ofNat fr)), .val (.int (Int32.ofNat to)), .val (.int (Int32.ofNat i)), .val (.int (Int32.ofNat (own_by B i))), .val (.int (4 : Int32)), .val (.int (144 : Int32)), .val (.int (191 : Int32)), s8, s9]) X1 hx (hb hby d3_143) rfl (pc' := 145) rfl ?_
                      refine w_goto X1 hx (hb hby d3_145) (by decide) (pc' := 166) (by decide) ?_
                      refine w_iloadN X1 hx (hb hby d3_166) rfl (pc' := 167) rfl ?_
                      refine w_iloadN X1 hx (hb hby d3_167) rfl (pc' := 168) rfl ?_
                      refine w_isub X1 hx (hb hby d3_168) (pc' := 169) rfl ?_
                      refine w_eqI (z := (Int32.ofNat (to - i))) (own_osub (a := to) (b := i) (by omega)) ?_
                      refine w_iload X1 hx (hb hby d3_169) rfl (pc' := 171) rfl ?_
                      refine w_icmp_ge X1 hx (hb hby d3_171) (by decide) (pcY := 176) (by decide) (pc' := 174) rfl (fun h103 => ?_) (fun h103 => ?_)
                      · have h103n : ¬ (to - i) < 4 := fun q => h103 ((own_olt (a := (to - i)) (b := 4) (by omega) (by omega)).mpr q)
                        refine w_aloadN X1 hx (hb hby d3_176) rfl rfl (pc' := 177) rfl ?_
                        refine w_iloadN X1 hx (hb hby d3_177) rfl (pc' := 178) rfl ?_
                        refine w_iconst (v := (1 : Int32)) X1 hx (hb hby d3_178) rfl (pc' := 179) rfl ?_
                        refine w_iadd X1 hx (hb hby d3_179) (pc' := 180) rfl ?_
                        refine w_eqI (z := (Int32.ofNat (i + 1))) (own_oadd i 1) ?_
                        refine w_baloadL (i := 0) (jn := (i + 1)) X1 hx hZ P1 rfl hk0 (hb hby d3_180) (own_oN (by omega)) (own_llt hB (by omega)) (pc' := 181) rfl ?_
                        refine w_sipush (v := (255 : Int32)) X1 hx (hb hby d3_181) rfl (pc' := 184) rfl ?_
                        refine w_iand X1 hx (hb hby d3_184) (pc' := 185) rfl ?_
                        refine w_eqI (z := (Int32.ofNat (own_by B (i + 1)))) (own_bye _ _) ?_
                        refine w_istore (l' := #[.val (.ref (n0 + 0)), .val (.int (Int32.ofNat fr)), .val (.int (Int32.ofNat to)), .val (.int (Int32.ofNat i)), .val (.int (Int32.ofNat (own_by B i))), .val (.int (4 : Int32)), .val (.int (144 : Int32)), .val (.int (191 : Int32)), .val (.int (Int32.ofNat (own_by B (i + 1)))), s9]) X1 hx (hb hby d3_185) (XS.store1 rfl hs8 rfl) (pc' := 187) rfl ?_
                        refine w_iload X1 hx (hb hby d3_187) rfl (pc' := 189) rfl ?_
                        refine w_iload X1 hx (hb hby d3_189) rfl (pc' := 191) rfl ?_
                        refine w_icmp_lt X1 hx (hb hby d3_191) (by decide) (pcY := 201) (by decide) (pc' := 194) rfl (fun h104 => ?_) (fun h104 => ?_)
                        · have h104n : (own_by B (i + 1)) < 144 := (own_olt (a := (own_by B (i + 1))) (b := 144) (by omega) (by omega)).mp h104
                          refine w_iloadN X1 hx (hb hby d3_201) rfl (pc' := 202) rfl ?_
                          exact w_ret_i X1 hx hret hlk (hb hby d3_202) (by decide) (by decide) ⟨by rw [← hv, own_fi, if_pos h0n, if_pos (show own_k B to i = 0 from by unfold own_k; exact own_ok0 (by omega) (by omega) (by omega) (by omega))], N1, P1⟩
                        · have h104n : ¬ (own_by B (i + 1)) < 144 := fun q => h104 ((own_olt (a := (own_by B (i + 1))) (b := 144) (by omega) (by omega)).mpr q)
                          refine w_iload X1 hx (hb hby d3_194) rfl (pc' := 196) rfl ?_
                          refine w_iload X1 hx (hb hby d3_196) rfl (pc' := 198) rfl ?_
                          refine w_icmp_le X1 hx (hb hby d3_198) (by decide) (pcY := 203) (by decide) (pc' := 201) rfl (fun h105 => ?_) (fun h105 => ?_)
                          · have h105n : ¬ 191 < (own_by B (i + 1)) := fun q => h105 ((own_olt (a := 191) (b := (own_by B (i + 1))) (by omega) (by omega)).mpr q)
                            refine w_iconst (v := (2 : Int32)) X1 hx (hb hby d3_203) rfl (pc' := 204) rfl ?_
                            refine w_istore (l' := #[.val (.ref (n0 + 0)), .val (.int (Int32.ofNat fr)), .val (.int (Int32.ofNat to)), .val (.int (Int32.ofNat i)), .val (.int (Int32.ofNat (own_by B i))), .val (.int (4 : Int32)), .val (.int (144 : Int32)), .val (.int (191 : Int32)), .val (.int (Int32.ofNat (own_by B (i + 1)))), .val (.int (2 : Int32))]) X1 hx (hb hby d3_204) (XS.store1 rfl hs9 rfl) (pc' := 206) rfl ?_
                            refine w_iload X1 hx (hb hby d3_206) rfl (pc' := 208) rfl ?_
                            refine w_iload X1 hx (hb hby d3_208) rfl (pc' := 210) rfl ?_
                            refine w_icmp_ge X1 hx (hb hby d3_210) (by decide) (pcY := 237) (by decide) (pc' := 213) rfl (fun h106 => absurd h106 (by decide)) (fun h106 => ?_)
                            refine w_aloadN X1 hx (hb hby d3_213) rfl rfl (pc' := 214) rfl ?_
                            refine w_iloadN X1 hx (hb hby d3_214) rfl (pc' := 215) rfl ?_
                            refine w_iload X1 hx (hb hby d3_215) rfl (pc' := 217) rfl ?_
                            refine w_iadd X1 hx (hb hby d3_217) (pc' := 218) rfl ?_
                            refine w_eqI (z := (Int32.ofNat (i + 2))) (own_oadd i 2) ?_
                            refine w_baloadL (i := 0) (jn := (i + 2)) X1 hx hZ P1 rfl hk0 (hb hby d3_218) (own_oN (by omega)) (own_llt hB (by omega)) (pc' := 219) rfl ?_
                            refine w_sipush (v := (192 : Int32)) X1 hx (hb hby d3_219) rfl (pc' := 222) rfl ?_
                            refine w_iand X1 hx (hb hby d3_222) (pc' := 223) rfl ?_
                            refine w_eqI (z := (Int32.ofNat (own_by B (i + 2) / 64 * 64))) (own_byc _ _) ?_
                            refine w_sipush (v := (128 : Int32)) X1 hx (hb hby d3_223) rfl (pc' := 226) rfl ?_
                            refine w_icmp_eq X1 hx (hb hby d3_226) (by decide) (pcY := 231) (by decide) (pc' := 229) rfl (fun h107 => ?_) (fun h107 => ?_)
                            · have h107n : (own_by B (i + 2) / 64 * 64) = 128 := (own_oeq (a := (own_by B (i + 2) / 64 * 64)) (b := 128) (by omega) (by omega)).mp h107
                              refine w_iincE (z := (3 : Int32)) (l' := #[.val (.ref (n0 + 0)), .val (.int (Int32.ofNat fr)), .val (.int (Int32.ofNat to)), .val (.int (Int32.ofNat i)), .val (.int (Int32.ofNat (own_by B i))), .val (.int (4 : Int32)), .val (.int (144 : Int32)), .val (.int (191 : Int32)), .val (.int (Int32.ofNat (own_by B (i + 1)))), .val (.int (3 : Int32))]) X1 hx (hb hby d3_231) rfl (by decide) rfl (pc' := 234) rfl ?_
                              refine w_goto X1 hx (hb hby d3_234) (by decide) (pc' := 206) (by decide) ?_
                              refine w_iload X1 hx (hb hby d3_206) rfl (pc' := 208) rfl ?_
                              refine w_iload X1 hx (hb hby d3_208) rfl (pc' := 210) rfl ?_
                              refine w_icmp_ge X1 hx (hb hby d3_210) (by decide) (pcY := 237) (by decide) (pc' := 213) rfl (fun h108 => absurd h108 (by decide)) (fun h108 => ?_)
                              refine w_aloadN X1 hx (hb hby d3_213) rfl rfl (pc' := 214) rfl ?_
                              refine w_iloadN X1 hx (hb hby d3_214) rfl (pc' := 215) rfl ?_
                              refine w_iload X1 hx (hb hby d3_215) rfl (pc' := 217) rfl ?_
                              refine w_iadd X1 hx (hb hby d3_217) (pc' := 218) rfl ?_
                              refine w_eqI (z := (Int32.ofNat (i + 3))) (own_oadd i 3) ?_
                              refine w_baloadL (i := 0) (jn := (i + 3)) X1 hx hZ P1 rfl hk0 (hb hby d3_218) (own_oN (by omega)) (own_llt hB (by omega)) (pc' := 219) rfl ?_
                              refine w_sipush (v := (192 : Int32)) X1 hx (hb hby d3_219) rfl (pc' := 222) rfl ?_
                              refine w_iand X1 hx (hb hby d3_222) (pc' := 223) rfl ?_
                              refine w_eqI (z := (Int32.ofNat (own_by B (i + 3) / 64 * 64))) (own_byc _ _) ?_
                              refine w_sipush (v := (128 : Int32)) X1 hx (hb hby d3_223) rfl (pc' := 226) rfl ?_
                              refine w_icmp_eq X1 hx (hb hby d3_226) (by decide) (pcY := 231) (by decide) (pc' := 229) rfl (fun h109 => ?_) (fun h109 => ?_)
                              · have h109n : (own_by B (i + 3) / 64 * 64) = 128 := (own_oeq (a := (own_by B (i + 3) / 64 * 64)) (b := 128) (by omega) (by omega)).mp h109
                                refine w_iincE (z := (4 : Int32)) (l' := #[.val (.ref (n0 + 0)), .val (.int (Int32.ofNat fr)), .val (.int (Int32.ofNat to)), .val (.int (Int32.ofNat i)), .val (.int (Int32.ofNat (own_by B i))), .val (.int (4 : Int32)), .val (.int (144 : Int32)), .val (.int (191 : Int32)), .val (.int (Int32.ofNat (own_by B (i + 1)))), .val (.int (4 : Int32))]) X1 hx (hb hby d3_231) rfl (by decide) rfl (pc' := 234) rfl ?_
                                refine w_goto X1 hx (hb hby d3_234) (by decide) (pc' := 206) (by decide) ?_
                                refine w_iload X1 hx (hb hby d3_206) rfl (pc' := 208) rfl ?_
                                refine w_iload X1 hx (hb hby d3_208) rfl (pc' := 210) rfl ?_
                                refine w_icmp_ge X1 hx (hb hby d3_210) (by decide) (pcY := 237) (by decide) (pc' := 213) rfl (fun h110 => ?_) (fun h110 => absurd h110 (by decide))
                                refine w_iloadN X1 hx (hb hby d3_237) rfl (pc' := 238) rfl ?_
                                refine w_iload X1 hx (hb hby d3_238) rfl (pc' := 240) rfl ?_
                                refine w_iadd X1 hx (hb hby d3_240) (pc' := 241) rfl ?_
                                refine w_eqI (z := (Int32.ofNat (i + 4))) (own_oadd i 4) ?_
                                refine w_istoreN (l' := #[.val (.ref (n0 + 0)), .val (.int (Int32.ofNat fr)), .val (.int (Int32.ofNat to)), .val (.int (Int32.ofNat (i + 4))), .val (.int (Int32.ofNat (own_by B i))), .val (.int (4 : Int32)), .val (.int (144 : Int32)), .val (.int (191 : Int32)), .val (.int (Int32.ofNat (own_by B (i + 1)))), .val (.int (4 : Int32))]) X1 hx (hb hby d3_241) rfl (pc' := 242) rfl ?_
                                refine w_goto X1 hx (hb hby d3_242) (by decide) (pc' := 2) (by decide) ?_
                                have ek : own_k B to i = 4 := by unfold own_k; exact own_ok4 (by omega)
                                exact ih (i + 4) _ _ _ _ _ _ T1 L1 (One.val rfl) (One.val rfl) (One.val rfl) (One.val rfl) (One.val rfl) (One.val rfl) (by omega) (by omega) (by rw [← hv, own_fi, if_pos h0n, if_neg (by rw [ek]; decide), ek]) N1 X1 P1
                              · have h109n : ¬ (own_by B (i + 3) / 64 * 64) = 128 := fun q => h109 ((own_oeq (a := (own_by B (i + 3) / 64 * 64)) (b := 128) (by omega) (by omega)).mpr q)
                                refine w_iloadN X1 hx (hb hby d3_229) rfl (pc' := 230) rfl ?_
                                exact w_ret_i X1 hx hret hlk (hb hby d3_230) (by decide) (by decide) ⟨by rw [← hv, own_fi, if_pos h0n, if_pos (show own_k B to i = 0 from by unfold own_k; exact own_ok0 (by omega) (by omega) (by omega) (by omega))], N1, P1⟩
                            · have h107n : ¬ (own_by B (i + 2) / 64 * 64) = 128 := fun q => h107 ((own_oeq (a := (own_by B (i + 2) / 64 * 64)) (b := 128) (by omega) (by omega)).mpr q)
                              refine w_iloadN X1 hx (hb hby d3_229) rfl (pc' := 230) rfl ?_
                              exact w_ret_i X1 hx hret hlk (hb hby d3_230) (by decide) (by decide) ⟨by rw [← hv, own_fi, if_pos h0n, if_pos (show own_k B to i = 0 from by unfold own_k; exact own_ok0 (by omega) (by omega) (by omega) (by omega))], N1, P1⟩
                          · have h105n : 191 < (own_by B (i + 1)) := (own_olt (a := 191) (b := (own_by B (i + 1))) (by omega) (by omega)).mp h105
                            refine w_iloadN X1 hx (hb hby d3_201) rfl (pc' := 202) rfl ?_
                            exact w_ret_i X1 hx hret hlk (hb hby d3_202) (by decide) (by decide) ⟨by rw [← hv, own_fi, if_pos h0n, if_pos (show own_k B to i = 0 from by unfold own_k; exact own_ok0 (by omega) (by omega) (by omega) (by omega))], N1, P1⟩
                      · have h103n : (to - i) < 4 := (own_olt (a := (to - i)) (b := 4) (by omega) (by omega)).mp h103
                        refine w_iloadN X1 hx (hb hby d3_174) rfl (pc' := 175) rfl ?_
                        exact w_ret_i X1 hx hret hlk (hb hby d3_175) (by decide) (by decide) ⟨by rw [← hv, own_fi, if_pos h0n, if_pos (show own_k B to i = 0 from by unfold own_k; exact own_ok0 (by omega) (by omega) (by omega) (by omega))], N1, P1⟩
              · have h82n : ¬ (own_by B i) < 224 := fun q => h82 ((own_olt (a := (own_by B i)) (b := 224) (by omega) (by omega)).mpr q)
                refine w_iload X1 hx (hb hby d3_70) rfl (pc' := 72) rfl ?_
                refine w_sipush (v := (239 : Int32)) X1 hx (hb hby d3_72) rfl (pc' := 75) rfl ?_
                refine w_icmp_gt X1 hx (hb hby d3_75) (by decide) (pcY := 113) (by decide) (pc' := 78) rfl (fun h111 => ?_) (fun h111 => ?_)
                · have h111n : 239 < (own_by B i) := (own_olt (a := 239) (b := (own_by B i)) (by omega) (by omega)).mp h111
                  refine w_iload X1 hx (hb hby d3_113) rfl (pc' := 115) rfl ?_
                  refine w_sipush (v := (240 : Int32)) X1 hx (hb hby d3_115) rfl (pc' := 118) rfl ?_
                  refine w_icmp_lt X1 hx (hb hby d3_118) (by decide) (pcY := 164) (by decide) (pc' := 121) rfl (fun h112 => ?_) (fun h112 => ?_)
                  · have h112n : (own_by B i) < 240 := (own_olt (a := (own_by B i)) (b := 240) (by omega) (by omega)).mp h112
                    refine w_iloadN X1 hx (hb hby d3_164) rfl (pc' := 165) rfl ?_
                    exact w_ret_i X1 hx hret hlk (hb hby d3_165) (by decide) (by decide) ⟨by rw [← hv, own_fi, if_pos h0n, if_pos (show own_k B to i = 0 from by unfold own_k; exact own_ok0 (by omega) (by omega) (by omega) (by omega))], N1, P1⟩
                  · have h112n : ¬ (own_by B i) < 240 := fun q => h112 ((own_olt (a := (own_by B i)) (b := 240) (by omega) (by omega)).mpr q)
                    refine w_iload X1 hx (hb hby d3_121) rfl (pc' := 123) rfl ?_
                    refine w_sipush (v := (244 : Int32)) X1 hx (hb hby d3_123) rfl (pc' := 126) rfl ?_
                    refine w_icmp_gt X1 hx (hb hby d3_126) (by decide) (pcY := 164) (by decide) (pc' := 129) rfl (fun h113 => ?_) (fun h113 => ?_)
                    · have h113n : 244 < (own_by B i) := (own_olt (a := 244) (b := (own_by B i)) (by omega) (by omega)).mp h113
                      refine w_iloadN X1 hx (hb hby d3_164) rfl (pc' := 165) rfl ?_
                      exact w_ret_i X1 hx hret hlk (hb hby d3_165) (by decide) (by decide) ⟨by rw [← hv, own_fi, if_pos h0n, if_pos (show own_k B to i = 0 from by unfold own_k; exact own_ok0 (by omega) (by omega) (by omega) (by omega))], N1, P1⟩
                    · have h113n : ¬ 244 < (own_by B i) := fun q => h113 ((own_olt (a := 244) (b := (own_by B i)) (by omega) (by omega)).mpr q)
                      refine w_iconst (v := (4 : Int32)) X1 hx (hb hby d3_129) rfl (pc' := 130) rfl ?_
                      refine w_istore (l' := #[.val (.ref (n0 + 0)), .val (.int (Int32.ofNat fr)), .val (.int (Int32.ofNat to)), .val (.int (Int32.ofNat i)), .val (.int (Int32.ofNat (own_by B i))), .val (.int (4 : Int32)), .val (.int (128 : Int32)), .val (.int (191 : Int32)), s8, s9]) X1 hx (hb hby d3_130) (XS.store1 rfl hs5 rfl) (pc' := 132) rfl ?_
                      refine w_iload X1 hx (hb hby d3_132) rfl (pc' := 134) rfl ?_
                      refine w_sipush (v := (240 : Int32)) X1 hx (hb hby d3_134) rfl (pc' := 137) rfl ?_
                      refine w_icmp_ne X1 hx (hb hby d3_137) (by decide) (pcY := 148) (by decide) (pc' := 140) rfl (fun h114 => ?_) (fun h114 => ?_)
                      · have h114n : ¬ (own_by B i) = 240 := fun q => h114 ((own_oeq (a := (own_by B i)) (b := 240) (by omega) (by omega)).mpr q)
                        refine w_iload X1 hx (hb hby d3_148) rfl (pc' := 150) rfl ?_
                        refine w_sipush (v := (244 : Int32)) X1 hx (hb hby d3_150) rfl (pc' := 153) rfl ?_
                        refine w_icmp_ne X1 hx (hb hby d3_153) (by decide) (pcY := 166) (by decide) (pc' := 156) rfl (fun h115 => ?_) (fun h115 => ?_)
                        · have h115n : ¬ (own_by B i) = 244 := fun q => h115 ((own_oeq (a := (own_by B i)) (b := 244) (by omega) (by omega)).mpr q)
                          refine w_iloadN X1 hx (hb hby d3_166) rfl (pc' := 167) rfl ?_
                          refine w_iloadN X1 hx (hb hby d3_167) rfl (pc' := 168) rfl ?_
                          refine w_isub X1 hx (hb hby d3_168) (pc' := 169) rfl ?_
                          refine w_eqI (z := (Int32.ofNat (to - i))) (own_osub (a := to) (b := i) (by omega)) ?_
                          refine w_iload X1 hx (hb hby d3_169) rfl (pc' := 171) rfl ?_
                          refine w_icmp_ge X1 hx (hb hby d3_171) (by decide) (pcY := 176) (by decide) (pc' := 174) rfl (fun h116 => ?_) (fun h116 => ?_)
                          · have h116n : ¬ (to - i) < 4 := fun q => h116 ((own_olt (a := (to - i)) (b := 4) (by omega) (by omega)).mpr q)
                            refine w_aloadN X1 hx (hb hby d3_176) rfl rfl (pc' := 177) rfl ?_
                            refine w_iloadN X1 hx (hb hby d3_177) rfl (pc' := 178) rfl ?_
                            refine w_iconst (v := (1 : Int32)) X1 hx (hb hby d3_178) rfl (pc' := 179) rfl ?_
                            refine w_iadd X1 hx (hb hby d3_179) (pc' := 180) rfl ?_
                            refine w_eqI (z := (Int32.ofNat (i + 1))) (own_oadd i 1) ?_
                            refine w_baloadL (i := 0) (jn := (i + 1)) X1 hx hZ P1 rfl hk0 (hb hby d3_180) (own_oN (by omega)) (own_llt hB (by omega)) (pc' := 181) rfl ?_
                            refine w_sipush (v := (255 : Int32)) X1 hx (hb hby d3_181) rfl (pc' := 184) rfl ?_
                            refine w_iand X1 hx (hb hby d3_184) (pc' := 185) rfl ?_
                            refine w_eqI (z := (Int32.ofNat (own_by B (i + 1)))) (own_bye _ _) ?_
                            refine w_istore (l' := #[.val (.ref (n0 + 0)), .val (.int (Int32.ofNat fr)), .val (.int (Int32.ofNat to)), .val (.int (Int32.ofNat i)), .val (.int (Int32.ofNat (own_by B i))), .val (.int (4 : Int32)), .val (.int (128 : Int32)), .val (.int (191 : Int32)), .val (.int (Int32.ofNat (own_by B (i + 1)))), s9]) X1 hx (hb hby d3_185) (XS.store1 rfl hs8 rfl) (pc' := 187) rfl ?_
                            refine w_iload X1 hx (hb hby d3_187) rfl (pc' := 189) rfl ?_
                            refine w_iload X1 hx (hb hby d3_189) rfl (pc' := 191) rfl ?_
                            refine w_icmp_lt X1 hx (hb hby d3_191) (by decide) (pcY := 201) (by decide) (pc' := 194) rfl (fun h117 => ?_) (fun h117 => ?_)
                            · have h117n : (own_by B (i + 1)) < 128 := (own_olt (a := (own_by B (i + 1))) (b := 128) (by omega) (by omega)).mp h117
                              refine w_iloadN X1 hx (hb hby d3_201) rfl (pc' := 202) rfl ?_
                              exact w_ret_i X1 hx hret hlk (hb hby d3_202) (by decide) (by decide) ⟨by rw [← hv, own_fi, if_pos h0n, if_pos (show own_k B to i = 0 from by unfold own_k; exact own_ok0 (by omega) (by omega) (by omega) (by omega))], N1, P1⟩
                            · have h117n : ¬ (own_by B (i + 1)) < 128 := fun q => h117 ((own_olt (a := (own_by B (i + 1))) (b := 128) (by omega) (by omega)).mpr q)
                              refine w_iload X1 hx (hb hby d3_194) rfl (pc' := 196) rfl ?_
                              refine w_iload X1 hx (hb hby d3_196) rfl (pc' := 198) rfl ?_
                              refine w_icmp_le X1 hx (hb hby d3_198) (by decide) (pcY := 203) (by decide) (pc' := 201) rfl (fun h118 => ?_) (fun h118 => ?_)
                              · have h118n : ¬ 191 < (own_by B (i + 1)) := fun q => h118 ((own_olt (a := 191) (b := (own_by B (i + 1))) (by omega) (by omega)).mpr q)
                                refine w_iconst (v := (2 : Int32)) X1 hx (hb hby d3_203) rfl (pc' := 204) rfl ?_
                                refine w_istore (l' := #[.val (.ref (n0 + 0)), .val (.int (Int32.ofNat fr)), .val (.int (Int32.ofNat to)), .val (.int (Int32.ofNat i)), .val (.int (Int32.ofNat (own_by B i))), .val (.int (4 : Int32)), .val (.int (128 : Int32)), .val (.int (191 : Int32)), .val (.int (Int32.ofNat (own_by B (i + 1)))), .val (.int (2 : Int32))]) X1 hx (hb hby d3_204) (XS.store1 rfl hs9 rfl) (pc' := 206) rfl ?_
                                refine w_iload X1 hx (hb hby d3_206) rfl (pc' := 208) rfl ?_
                                refine w_iload X1 hx (hb hby d3_208) rfl (pc' := 210) rfl ?_
                                refine w_icmp_ge X1 hx (hb hby d3_210) (by decide) (pcY := 237) (by decide) (pc' := 213) rfl (fun h119 => absurd h119 (by decide)) (fun h119 => ?_)
                                refine w_aloadN X1 hx (hb hby d3_213) rfl rfl (pc' := 214) rfl ?_
                                refine w_iloadN X1 hx (hb hby d3_214) rfl (pc' := 215) rfl ?_
                                refine w_iload X1 hx (hb hby d3_215) rfl (pc' := 217) rfl ?_
                                refine w_iadd X1 hx (hb hby d3_217) (pc' := 218) rfl ?_
                                refine w_eqI (z := (Int32.ofNat (i + 2))) (own_oadd i 2) ?_
                                refine w_baloadL (i := 0) (jn := (i + 2)) X1 hx hZ P1 rfl hk0 (hb hby d3_218) (own_oN (by omega)) (own_llt hB (by omega)) (pc' := 219) rfl ?_
                                refine w_sipush (v := (192 : Int32)) X1 hx (hb hby d3_219) rfl (pc' := 222) rfl ?_
                                refine w_iand X1 hx (hb hby d3_222) (pc' := 223) rfl ?_
                                refine w_eqI (z := (Int32.ofNat (own_by B (i + 2) / 64 * 64))) (own_byc _ _) ?_
                                refine w_sipush (v := (128 : Int32)) X1 hx (hb hby d3_223) rfl (pc' := 226) rfl ?_
                                refine w_icmp_eq X1 hx (hb hby d3_226) (by decide) (pcY := 231) (by decide) (pc' := 229) rfl (fun h120 => ?_) (fun h120 => ?_)
                                · have h120n : (own_by B (i + 2) / 64 * 64) = 128 := (own_oeq (a := (own_by B (i + 2) / 64 * 64)) (b := 128) (by omega) (by omega)).mp h120
                                  refine w_iincE (z := (3 : Int32)) (l' := #[.val (.ref (n0 + 0)), .val (.int (Int32.ofNat fr)), .val (.int (Int32.ofNat to)), .val (.int (Int32.ofNat i)), .val (.int (Int32.ofNat (own_by B i))), .val (.int (4 : Int32)), .val (.int (128 : Int32)), .val (.int (191 : Int32)), .val (.int (Int32.ofNat (own_by B (i + 1)))), .val (.int (3 : Int32))]) X1 hx (hb hby d3_231) rfl (by decide) rfl (pc' := 234) rfl ?_
                                  refine w_goto X1 hx (hb hby d3_234) (by decide) (pc' := 206) (by decide) ?_
                                  refine w_iload X1 hx (hb hby d3_206) rfl (pc' := 208) rfl ?_
                                  refine w_iload X1 hx (hb hby d3_208) rfl (pc' := 210) rfl ?_
                                  refine w_icmp_ge X1 hx (hb hby d3_210) (by decide) (pcY := 237) (by decide) (pc' := 213) rfl (fun h121 => absurd h121 (by decide)) (fun h121 => ?_)
                                  refine w_aloadN X1 hx (hb hby d3_213) rfl rfl (pc' := 214) rfl ?_
                                  refine w_iloadN X1 hx (hb hby d3_214) rfl (pc' := 215) rfl ?_
                                  refine w_iload X1 hx (hb hby d3_215) rfl (pc' := 217) rfl ?_
                                  refine w_iadd X1 hx (hb hby d3_217) (pc' := 218) rfl ?_
                                  refine w_eqI (z := (Int32.ofNat (i + 3))) (own_oadd i 3) ?_
                                  refine w_baloadL (i := 0) (jn := (i + 3)) X1 hx hZ P1 rfl hk0 (hb hby d3_218) (own_oN (by omega)) (own_llt hB (by omega)) (pc' := 219) rfl ?_
                                  refine w_sipush (v := (192 : Int32)) X1 hx (hb hby d3_219) rfl (pc' := 222) rfl ?_
                                  refine w_iand X1 hx (hb hby d3_222) (pc' := 223) rfl ?_
                                  refine w_eqI (z := (Int32.ofNat (own_by B (i + 3) / 64 * 64))) (own_byc _ _) ?_
                                  refine w_sipush (v := (128 : Int32)) X1 hx (hb hby d3_223) rfl (pc' := 226) rfl ?_
                                  refine w_icmp_eq X1 hx (hb hby d3_226) (by decide) (pcY := 231) (by decide) (pc' := 229) rfl (fun h122 => ?_) (fun h122 => ?_)
                                  · have h122n : (own_by B (i + 3) / 64 * 64) = 128 := (own_oeq (a := (own_by B (i + 3) / 64 * 64)) (b := 128) (by omega) (by omega)).mp h122
                                    refine w_iincE (z := (4 : Int32)) (l' := #[.val (.ref (n0 + 0)), .val (.int (Int32.ofNat fr)), .val (.int (Int32.ofNat to)), .val (.int (Int32.ofNat i)), .val (.int (Int32.ofNat (own_by B i))), .val (.int (4 : Int32)), .val (.int (128 : Int32)), .val (.int (191 : Int32)), .val (.int (Int32.ofNat (own_by B (i + 1)))), .val (.int (4 : Int32))]) X1 hx (hb hby d3_231) rfl (by decide) rfl (pc' := 234) rfl ?_
                                    refine w_goto X1 hx (hb hby d3_234) (by decide) (pc' := 206) (by decide) ?_
                                    refine w_iload X1 hx (hb hby d3_206) rfl (pc' := 208) rfl ?_
                                    refine w_iload X1 hx (hb hby d3_208) rfl (pc' := 210) rfl ?_
                                    refine w_icmp_ge X1 hx (hb hby d3_210) (by decide) (pcY := 237) (by decide) (pc' := 213) rfl (fun h123 => ?_) (fun h123 => absurd h123 (by decide))
                                    refine w_iloadN X1 hx (hb hby d3_237) rfl (pc' := 238) rfl ?_
                                    refine w_iload X1 hx (hb hby d3_238) rfl (pc' := 240) rfl ?_
                                    refine w_iadd X1 hx (hb hby d3_240) (pc' := 241) rfl ?_
                                    refine w_eqI (z := (Int32.ofNat (i + 4))) (own_oadd i 4) ?_
                                    refine w_istoreN (l' := #[.val (.ref (n0 + 0)), .val (.int (Int32.ofNat fr)), .val (.int (Int32.ofNat to)), .val (.int (Int32.ofNat (i + 4))), .val (.int (Int32.ofNat (own_by B i))), .val (.int (4 : Int32)), .val (.int (128 : Int32)), .val (.int (191 : Int32)), .val (.int (Int32.ofNat (own_by B (i + 1)))), .val (.int (4 : Int32))]) X1 hx (hb hby d3_241) rfl (pc' := 242) rfl ?_
                                    refine w_goto X1 hx (hb hby d3_242) (by decide) (pc' := 2) (by decide) ?_
                                    have ek : own_k B to i = 4 := by unfold own_k; exact own_ok4 (by omega)
                                    exact ih (i + 4) _ _ _ _ _ _ T1 L1 (One.val rfl) (One.val rfl) (One.val rfl) (One.val rfl) (One.val rfl) (One.val rfl) (by omega) (by omega) (by rw [← hv, own_fi, if_pos h0n, if_neg (by rw [ek]; decide), ek]) N1 X1 P1
                                  · have h122n : ¬ (own_by B (i + 3) / 64 * 64) = 128 := fun q => h122 ((own_oeq (a := (own_by B (i + 3) / 64 * 64)) (b := 128) (by omega) (by omega)).mpr q)
                                    refine w_iloadN X1 hx (hb hby d3_229) rfl (pc' := 230) rfl ?_
                                    exact w_ret_i X1 hx hret hlk (hb hby d3_230) (by decide) (by decide) ⟨by rw [← hv, own_fi, if_pos h0n, if_pos (show own_k B to i = 0 from by unfold own_k; exact own_ok0 (by omega) (by omega) (by omega) (by omega))], N1, P1⟩
                                · have h120n : ¬ (own_by B (i + 2) / 64 * 64) = 128 := fun q => h120 ((own_oeq (a := (own_by B (i + 2) / 64 * 64)) (b := 128) (by omega) (by omega)).mpr q)
                                  refine w_iloadN X1 hx (hb hby d3_229) rfl (pc' := 230) rfl ?_
                                  exact w_ret_i X1 hx hret hlk (hb hby d3_230) (by decide) (by decide) ⟨by rw [← hv, own_fi, if_pos h0n, if_pos (show own_k B to i = 0 from by unfold own_k; exact own_ok0 (by omega) (by omega) (by omega) (by omega))], N1, P1⟩
                              · have h118n : 191 < (own_by B (i + 1)) := (own_olt (a := 191) (b := (own_by B (i + 1))) (by omega) (by omega)).mp h118
                                refine w_iloadN X1 hx (hb hby d3_201) rfl (pc' := 202) rfl ?_
                                exact w_ret_i X1 hx hret hlk (hb hby d3_202) (by decide) (by decide) ⟨by rw [← hv, own_fi, if_pos h0n, if_pos (show own_k B to i = 0 from by unfold own_k; exact own_ok0 (by omega) (by omega) (by omega) (by omega))], N1, P1⟩
                          · have h116n : (to - i) < 4 := (own_olt (a := (to - i)) (b := 4) (by omega) (by omega)).mp h116
                            refine w_iloadN X1 hx (hb hby d3_174) rfl (pc' := 175) rfl ?_
                            exact w_ret_i X1 hx hret hlk (hb hby d3_175) (by decide) (by decide) ⟨by rw [← hv, own_fi, if_pos h0n, if_pos (show own_k B to i = 0 from by unfold own_k; exact own_ok0 (by omega) (by omega) (by omega) (by omega))], N1, P1⟩
                        · have h115n : (own_by B i) = 244 := (own_oeq (a := (own_by B i)) (b := 244) (by omega) (by omega)).mp h115
                          refine w_sipush (v := (143 : Int32)) X1 hx (hb hby d3_156) rfl (pc' := 159) rfl ?_
                          refine w_istore (l' := #[.val (.ref (n0 + 0)), .val (.int (Int32.ofNat fr)), .val (.int (Int32.ofNat to)), .val (.int (Int32.ofNat i)), .val (.int (Int32.ofNat (own_by B i))), .val (.int (4 : Int32)), .val (.int (128 : Int32)), .val (.int (143 : Int32)), s8, s9]) X1 hx (hb hby d3_159) rfl (pc' := 161) rfl ?_
                          refine w_goto X1 hx (hb hby d3_161) (by decide) (pc' := 166) (by decide) ?_
                          refine w_iloadN X1 hx (hb hby d3_166) rfl (pc' := 167) rfl ?_
                          refine w_iloadN X1 hx (hb hby d3_167) rfl (pc' := 168) rfl ?_
                          refine w_isub X1 hx (hb hby d3_168) (pc' := 169) rfl ?_
                          refine w_eqI (z := (Int32.ofNat (to - i))) (own_osub (a := to) (b := i) (by omega)) ?_
                          refine w_iload X1 hx (hb hby d3_169) rfl (pc' := 171) rfl ?_
                          refine w_icmp_ge X1 hx (hb hby d3_171) (by decide) (pcY := 176) (by decide) (pc' := 174) rfl (fun h124 => ?_) (fun h124 => ?_)
                          · have h124n : ¬ (to - i) < 4 := fun q => h124 ((own_olt (a := (to - i)) (b := 4) (by omega) (by omega)).mpr q)
                            refine w_aloadN X1 hx (hb hby d3_176) rfl rfl (pc' := 177) rfl ?_
                            refine w_iloadN X1 hx (hb hby d3_177) rfl (pc' := 178) rfl ?_
                            refine w_iconst (v := (1 : Int32)) X1 hx (hb hby d3_178) rfl (pc' := 179) rfl ?_
                            refine w_iadd X1 hx (hb hby d3_179) (pc' := 180) rfl ?_
                            refine w_eqI (z := (Int32.ofNat (i + 1))) (own_oadd i 1) ?_
                            refine w_baloadL (i := 0) (jn := (i + 1)) X1 hx hZ P1 rfl hk0 (hb hby d3_180) (own_oN (by omega)) (own_llt hB (by omega)) (pc' := 181) rfl ?_
                            refine w_sipush (v := (255 : Int32)) X1 hx (hb hby d3_181) rfl (pc' := 184) rfl ?_
                            refine w_iand X1 hx (hb hby d3_184) (pc' := 185) rfl ?_
                            refine w_eqI (z := (Int32.ofNat (own_by B (i + 1)))) (own_bye _ _) ?_
                            refine w_istore (l' := #[.val (.ref (n0 + 0)), .val (.int (Int32.ofNat fr)), .val (.int (Int32.ofNat to)), .val (.int (Int32.ofNat i)), .val (.int (Int32.ofNat (own_by B i))), .val (.int (4 : Int32)), .val (.int (128 : Int32)), .val (.int (143 : Int32)), .val (.int (Int32.ofNat (own_by B (i + 1)))), s9]) X1 hx (hb hby d3_185) (XS.store1 rfl hs8 rfl) (pc' := 187) rfl ?_
                            refine w_iload X1 hx (hb hby d3_187) rfl (pc' := 189) rfl ?_
                            refine w_iload X1 hx (hb hby d3_189) rfl (pc' := 191) rfl ?_
                            refine w_icmp_lt X1 hx (hb hby d3_191) (by decide) (pcY := 201) (by decide) (pc' := 194) rfl (fun h125 => ?_) (fun h125 => ?_)
                            · have h125n : (own_by B (i + 1)) < 128 := (own_olt (a := (own_by B (i + 1))) (b := 128) (by omega) (by omega)).mp h125
                              refine w_iloadN X1 hx (hb hby d3_201) rfl (pc' := 202) rfl ?_
                              exact w_ret_i X1 hx hret hlk (hb hby d3_202) (by decide) (by decide) ⟨by rw [← hv, own_fi, if_pos h0n, if_pos (show own_k B to i = 0 from by unfold own_k; exact own_ok0 (by omega) (by omega) (by omega) (by omega))], N1, P1⟩
                            · have h125n : ¬ (own_by B (i + 1)) < 128 := fun q => h125 ((own_olt (a := (own_by B (i + 1))) (b := 128) (by omega) (by omega)).mpr q)
                              refine w_iload X1 hx (hb hby d3_194) rfl (pc' := 196) rfl ?_
                              refine w_iload X1 hx (hb hby d3_196) rfl (pc' := 198) rfl ?_
                              refine w_icmp_le X1 hx (hb hby d3_198) (by decide) (pcY := 203) (by decide) (pc' := 201) rfl (fun h126 => ?_) (fun h126 => ?_)
                              · have h126n : ¬ 143 < (own_by B (i + 1)) := fun q => h126 ((own_olt (a := 143) (b := (own_by B (i + 1))) (by omega) (by omega)).mpr q)
                                refine w_iconst (v := (2 : Int32)) X1 hx (hb hby d3_203) rfl (pc' := 204) rfl ?_
                                refine w_istore (l' := #[.val (.ref (n0 + 0)), .val (.int (Int32.ofNat fr)), .val (.int (Int32.ofNat to)), .val (.int (Int32.ofNat i)), .val (.int (Int32.ofNat (own_by B i))), .val (.int (4 : Int32)), .val (.int (128 : Int32)), .val (.int (143 : Int32)), .val (.int (Int32.ofNat (own_by B (i + 1)))), .val (.int (2 : Int32))]) X1 hx (hb hby d3_204) (XS.store1 rfl hs9 rfl) (pc' := 206) rfl ?_
                                refine w_iload X1 hx (hb hby d3_206) rfl (pc' := 208) rfl ?_
                                refine w_iload X1 hx (hb hby d3_208) rfl (pc' := 210) rfl ?_
                                refine w_icmp_ge X1 hx (hb hby d3_210) (by decide) (pcY := 237) (by decide) (pc' := 213) rfl (fun h127 => absurd h127 (by decide)) (fun h127 => ?_)
                                refine w_aloadN X1 hx (hb hby d3_213) rfl rfl (pc' := 214) rfl ?_
                                refine w_iloadN X1 hx (hb hby d3_214) rfl (pc' := 215) rfl ?_
                                refine w_iload X1 hx (hb hby d3_215) rfl (pc' := 217) rfl ?_
                                refine w_iadd X1 hx (hb hby d3_217) (pc' := 218) rfl ?_
                                refine w_eqI (z := (Int32.ofNat (i + 2))) (own_oadd i 2) ?_
                                refine w_baloadL (i := 0) (jn := (i + 2)) X1 hx hZ P1 rfl hk0 (hb hby d3_218) (own_oN (by omega)) (own_llt hB (by omega)) (pc' := 219) rfl ?_
                                refine w_sipush (v := (192 : Int32)) X1 hx (hb hby d3_219) rfl (pc' := 222) rfl ?_
                                refine w_iand X1 hx (hb hby d3_222) (pc' := 223) rfl ?_
                                refine w_eqI (z := (Int32.ofNat (own_by B (i + 2) / 64 * 64))) (own_byc _ _) ?_
                                refine w_sipush (v := (128 : Int32)) X1 hx (hb hby d3_223) rfl (pc' := 226) rfl ?_
                                refine w_icmp_eq X1 hx (hb hby d3_226) (by decide) (pcY := 231) (by decide) (pc' := 229) rfl (fun h128 => ?_) (fun h128 => ?_)
                                · have h128n : (own_by B (i + 2) / 64 * 64) = 128 := (own_oeq (a := (own_by B (i + 2) / 64 * 64)) (b := 128) (by omega) (by omega)).mp h128
                                  refine w_iincE (z := (3 : Int32)) (l' := #[.val (.ref (n0 + 0)), .val (.int (Int32.ofNat fr)), .val (.int (Int32.ofNat to)), .val (.int (Int32.ofNat i)), .val (.int (Int32.ofNat (own_by B i))), .val (.int (4 : Int32)), .val (.int (128 : Int32)), .val (.int (143 : Int32)), .val (.int (Int32.ofNat (own_by B (i + 1)))), .val (.int (3 : Int32))]) X1 hx (hb hby d3_231) rfl (by decide) rfl (pc' := 234) rfl ?_
                                  refine w_goto X1 hx (hb hby d3_234) (by decide) (pc' := 206) (by decide) ?_
                                  refine w_iload X1 hx (hb hby d3_206) rfl (pc' := 208) rfl ?_
                                  refine w_iload X1 hx (hb hby d3_208) rfl (pc' := 210) rfl ?_
                                  refine w_icmp_ge X1 hx (hb hby d3_210) (by decide) (pcY := 237) (by decide) (pc' := 213) rfl (fun h129 => absurd h129 (by decide)) (fun h129 => ?_)
                                  refine w_aloadN X1 hx (hb hby d3_213) rfl rfl (pc' := 214) rfl ?_
                                  refine w_iloadN X1 hx (hb hby d3_214) rfl (pc' := 215) rfl ?_
                                  refine w_iload X1 hx (hb hby d3_215) rfl (pc' := 217) rfl ?_
                                  refine w_iadd X1 hx (hb hby d3_217) (pc' := 218) rfl ?_
                                  refine w_eqI (z := (Int32.ofNat (i + 3))) (own_oadd i 3) ?_
                                  refine w_baloadL (i := 0) (jn := (i + 3)) X1 hx hZ P1 rfl hk0 (hb hby d3_218) (own_oN (by omega)) (own_llt hB (by omega)) (pc' := 219) rfl ?_
                                  refine w_sipush (v := (192 : Int32)) X1 hx (hb hby d3_219) rfl (pc' := 222) rfl ?_
                                  refine w_iand X1 hx (hb hby d3_222) (pc' := 223) rfl ?_
                                  refine w_eqI (z := (Int32.ofNat (own_by B (i + 3) / 64 * 64))) (own_byc _ _) ?_
                                  refine w_sipush (v := (128 : Int32)) X1 hx (hb hby d3_223) rfl (pc' := 226) rfl ?_
                                  refine w_icmp_eq X1 hx (hb hby d3_226) (by decide) (pcY := 231) (by decide) (pc' := 229) rfl (fun h130 => ?_) (fun h130 => ?_)
                                  · have h130n : (own_by B (i + 3) / 64 * 64) = 128 := (own_oeq (a := (own_by B (i + 3) / 64 * 64)) (b := 128) (by omega) (by omega)).mp h130
                                    refine w_iincE (z := (4 : Int32)) (l' := #[.val (.ref (n0 + 0)), .val (.int (Int32.ofNat fr)), .val (.int (Int32.ofNat to)), .val (.int (Int32.ofNat i)), .val (.int (Int32.ofNat (own_by B i))), .val (.int (4 : Int32)), .val (.int (128 : Int32)), .val (.int (143 : Int32)), .val (.int (Int32.ofNat (own_by B (i + 1)))), .val (.int (4 : Int32))]) X1 hx (hb hby d3_231) rfl (by decide) rfl (pc' := 234) rfl ?_
                                    refine w_goto X1 hx (hb hby d3_234) (by decide) (pc' := 206) (by decide) ?_
                                    refine w_iload X1 hx (hb hby d3_206) rfl (pc' := 208) rfl ?_
                                    refine w_iload X1 hx (hb hby d3_208) rfl (pc' := 210) rfl ?_
                                    refine w_icmp_ge X1 hx (hb hby d3_210) (by decide) (pcY := 237) (by decide) (pc' := 213) rfl (fun h131 => ?_) (fun h131 => absurd h131 (by decide))
                                    refine w_iloadN X1 hx (hb hby d3_237) rfl (pc' := 238) rfl ?_
                                    refine w_iload X1 hx (hb hby d3_238) rfl (pc' := 240) rfl ?_
                                    refine w_iadd X1 hx (hb hby d3_240) (pc' := 241) rfl ?_
                                    refine w_eqI (z := (Int32.ofNat (i + 4))) (own_oadd i 4) ?_
                                    refine w_istoreN (l' := #[.val (.ref (n0 + 0)), .val (.int (Int32.ofNat fr)), .val (.int (Int32.ofNat to)), .val (.int (Int32.ofNat (i + 4))), .val (.int (Int32.ofNat (own_by B i))), .val (.int (4 : Int32)), .val (.int (128 : Int32)), .val (.int (143 : Int32)), .val (.int (Int32.ofNat (own_by B (i + 1)))), .val (.int (4 : Int32))]) X1 hx (hb hby d3_241) rfl (pc' := 242) rfl ?_
                                    refine w_goto X1 hx (hb hby d3_242) (by decide) (pc' := 2) (by decide) ?_
                                    have ek : own_k B to i = 4 := by unfold own_k; exact own_ok4 (by omega)
                                    exact ih (i + 4) _ _ _ _ _ _ T1 L1 (One.val rfl) (One.val rfl) (One.val rfl) (One.val rfl) (One.val rfl) (One.val rfl) (by omega) (by omega) (by rw [← hv, own_fi, if_pos h0n, if_neg (by rw [ek]; decide), ek]) N1 X1 P1
                                  · have h130n : ¬ (own_by B (i + 3) / 64 * 64) = 128 := fun q => h130 ((own_oeq (a := (own_by B (i + 3) / 64 * 64)) (b := 128) (by omega) (by omega)).mpr q)
                                    refine w_iloadN X1 hx (hb hby d3_229) rfl (pc' := 230) rfl ?_
                                    exact w_ret_i X1 hx hret hlk (hb hby d3_230) (by decide) (by decide) ⟨by rw [← hv, own_fi, if_pos h0n, if_pos (show own_k B to i = 0 from by unfold own_k; exact own_ok0 (by omega) (by omega) (by omega) (by omega))], N1, P1⟩
                                · have h128n : ¬ (own_by B (i + 2) / 64 * 64) = 128 := fun q => h128 ((own_oeq (a := (own_by B (i + 2) / 64 * 64)) (b := 128) (by omega) (by omega)).mpr q)
                                  refine w_iloadN X1 hx (hb hby d3_229) rfl (pc' := 230) rfl ?_
                                  exact w_ret_i X1 hx hret hlk (hb hby d3_230) (by decide) (by decide) ⟨by rw [← hv, own_fi, if_pos h0n, if_pos (show own_k B to i = 0 from by unfold own_k; exact own_ok0 (by omega) (by omega) (by omega) (by omega))], N1, P1⟩
                              · have h126n : 143 < (own_by B (i + 1)) := (own_olt (a := 143) (b := (own_by B (i + 1))) (by omega) (by omega)).mp h126
                                refine w_iloadN X1 hx (hb hby d3_201) rfl (pc' := 202) rfl ?_
                                exact w_ret_i X1 hx hret hlk (hb hby d3_202) (by decide) (by decide) ⟨by rw [← hv, own_fi, if_pos h0n, if_pos (show own_k B to i = 0 from by unfold own_k; exact own_ok0 (by omega) (by omega) (by omega) (by omega))], N1, P1⟩
                          · have h124n : (to - i) < 4 := (own_olt (a := (to - i)) (b := 4) (by omega) (by omega)).mp h124
                            refine w_iloadN X1 hx (hb hby d3_174) rfl (pc' := 175) rfl ?_
                            exact w_ret_i X1 hx hret hlk (hb hby d3_175) (by decide) (by decide) ⟨by rw [← hv, own_fi, if_pos h0n, if_pos (show own_k B to i = 0 from by unfold own_k; exact own_ok0 (by omega) (by omega) (by omega) (by omega))], N1, P1⟩
                      · have h114n : (own_by B i) = 240 := (own_oeq (a := (own_by B i)) (b := 240) (by omega) (by omega)).mp h114
                        refine w_sipush (v := (144 : Int32)) X1 hx (hb hby d3_140) rfl (pc' := 143) rfl ?_
                        refine w_istore (l' := #[.val (.ref (n0 + 0)), .val (.int (Int32.ofNat fr)), .val (.int (Int32.ofNat to)), .val (.int (Int32.ofNat i)), .val (.int (Int32.ofNat (own_by B i))), .val (.int (4 : Int32)), .val (.int (144 : Int32)), .val (.int (191 : Int32)), s8, s9]) X1 hx (hb hby d3_143) rfl (pc' := 145) rfl ?_
                        refine w_goto X1 hx (hb hby d3_145) (by decide) (pc' := 166) (by decide) ?_
                        refine w_iloadN X1 hx (hb hby d3_166) rfl (pc' := 167) rfl ?_
                        refine w_iloadN X1 hx (hb hby d3_167) rfl (pc' := 168) rfl ?_
                        refine w_isub X1 hx (hb hby d3_168) (pc' := 169) rfl ?_
                        refine w_eqI (z := (Int32.ofNat (to - i))) (own_osub (a := to) (b := i) (by omega)) ?_
                        refine w_iload X1 hx (hb hby d3_169) rfl (pc' := 171) rfl ?_
                        refine w_icmp_ge X1 hx (hb hby d3_171) (by decide) (pcY := 176) (by decide) (pc' := 174) rfl (fun h132 => ?_) (fun h132 => ?_)
                        · have h132n : ¬ (to - i) < 4 := fun q => h132 ((own_olt (a := (to - i)) (b := 4) (by omega) (by omega)).mpr q)
                          refine w_aloadN X1 hx (hb hby d3_176) rfl rfl (pc' := 177) rfl ?_
                          refine w_iloadN X1 hx (hb hby d3_177) rfl (pc' := 178) rfl ?_
                          refine w_iconst (v := (1 : Int32)) X1 hx (hb hby d3_178) rfl (pc' := 179) rfl ?_
                          refine w_iadd X1 hx (hb hby d3_179) (pc' := 180) rfl ?_
                          refine w_eqI (z := (Int32.ofNat (i + 1))) (own_oadd i 1) ?_
                          refine w_baloadL (i := 0) (jn := (i + 1)) X1 hx hZ P1 rfl hk0 (hb hby d3_180) (own_oN (by omega)) (own_llt hB (by omega)) (pc' := 181) rfl ?_
                          refine w_sipush (v := (255 : Int32)) X1 hx (hb hby d3_181) rfl (pc' := 184) rfl ?_
                          refine w_iand X1 hx (hb hby d3_184) (pc' := 185) rfl ?_
                          refine w_eqI (z := (Int32.ofNat (own_by B (i + 1)))) (own_bye _ _) ?_
                          refine w_istore (l' := #[.val (.ref (n0 + 0)), .val (.int (Int32.ofNat fr)), .val (.int (Int32.ofNat to)), .val (.int (Int32.ofNat i)), .val (.int (Int32.ofNat (own_by B i))), .val (.int (4 : Int32)), .val (.int (144 : Int32)), .val (.int (191 : Int32)), .val (.int (Int32.ofNat (own_by B (i + 1)))), s9]) X1 hx (hb hby d3_185) (XS.store1 rfl hs8 rfl) (pc' := 187) rfl ?_
                          refine w_iload X1 hx (hb hby d3_187) rfl (pc' := 189) rfl ?_
                          refine w_iload X1 hx (hb hby d3_189) rfl (pc' := 191) rfl ?_
                          refine w_icmp_lt X1 hx (hb hby d3_191) (by decide) (pcY := 201) (by decide) (pc' := 194) rfl (fun h133 => ?_) (fun h133 => ?_)
                          · have h133n : (own_by B (i + 1)) < 144 := (own_olt (a := (own_by B (i + 1))) (b := 144) (by omega) (by omega)).mp h133
                            refine w_iloadN X1 hx (hb hby d3_201) rfl (pc' := 202) rfl ?_
                            exact w_ret_i X1 hx hret hlk (hb hby d3_202) (by decide) (by decide) ⟨by rw [← hv, own_fi, if_pos h0n, if_pos (show own_k B to i = 0 from by unfold own_k; exact own_ok0 (by omega) (by omega) (by omega) (by omega))], N1, P1⟩
                          · have h133n : ¬ (own_by B (i + 1)) < 144 := fun q => h133 ((own_olt (a := (own_by B (i + 1))) (b := 144) (by omega) (by omega)).mpr q)
                            refine w_iload X1 hx (hb hby d3_194) rfl (pc' := 196) rfl ?_
                            refine w_iload X1 hx (hb hby d3_196) rfl (pc' := 198) rfl ?_
                            refine w_icmp_le X1 hx (hb hby d3_198) (by decide) (pcY := 203) (by decide) (pc' := 201) rfl (fun h134 => ?_) (fun h134 => ?_)
                            · have h134n : ¬ 191 < (own_by B (i + 1)) := fun q => h134 ((own_olt (a := 191) (b := (own_by B (i + 1))) (by omega) (by omega)).mpr q)
                              refine w_iconst (v := (2 : Int32)) X1 hx (hb hby d3_203) rfl (pc' := 204) rfl ?_
                              refine w_istore (l' := #[.val (.ref (n0 + 0)), .val (.int (Int32.ofNat fr)), .val (.int (Int32.ofNat to)), .val (.int (Int32.ofNat i)), .val (.int (Int32.ofNat (own_by B i))), .val (.int (4 : Int32)), .val (.int (144 : Int32)), .val (.int (191 : Int32)), .val (.int (Int32.ofNat (own_by B (i + 1)))), .val (.int (2 : Int32))]) X1 hx (hb hby d3_204) (XS.store1 rfl hs9 rfl) (pc' := 206) rfl ?_
                              refine w_iload X1 hx (hb hby d3_206) rfl (pc' := 208) rfl ?_
                              refine w_iload X1 hx (hb hby d3_208) rfl (pc' := 210) rfl ?_
                              refine w_icmp_ge X1 hx (hb hby d3_210) (by decide) (pcY := 237) (by decide) (pc' := 213) rfl (fun h135 => absurd h135 (by decide)) (fun h135 => ?_)
                              refine w_aloadN X1 hx (hb hby d3_213) rfl rfl (pc' := 214) rfl ?_
                              refine w_iloadN X1 hx (hb hby d3_214) rfl (pc' := 215) rfl ?_
                              refine w_iload X1 hx (hb hby d3_215) rfl (pc' := 217) rfl ?_
                              refine w_iadd X1 hx (hb hby d3_217) (pc' := 218) rfl ?_
                              refine w_eqI (z := (Int32.ofNat (i + 2))) (own_oadd i 2) ?_
                              refine w_baloadL (i := 0) (jn := (i + 2)) X1 hx hZ P1 rfl hk0 (hb hby d3_218) (own_oN (by omega)) (own_llt hB (by omega)) (pc' := 219) rfl ?_
                              refine w_sipush (v := (192 : Int32)) X1 hx (hb hby d3_219) rfl (pc' := 222) rfl ?_
                              refine w_iand X1 hx (hb hby d3_222) (pc' := 223) rfl ?_
                              refine w_eqI (z := (Int32.ofNat (own_by B (i + 2) / 64 * 64))) (own_byc _ _) ?_
                              refine w_sipush (v := (128 : Int32)) X1 hx (hb hby d3_223) rfl (pc' := 226) rfl ?_
                              refine w_icmp_eq X1 hx (hb hby d3_226) (by decide) (pcY := 231) (by decide) (pc' := 229) rfl (fun h136 => ?_) (fun h136 => ?_)
                              · have h136n : (own_by B (i + 2) / 64 * 64) = 128 := (own_oeq (a := (own_by B (i + 2) / 64 * 64)) (b := 128) (by omega) (by omega)).mp h136
                                refine w_iincE (z := (3 : Int32)) (l' := #[.val (.ref (n0 + 0)), .val (.int (Int32.ofNat fr)), .val (.int (Int32.ofNat to)), .val (.int (Int32.ofNat i)), .val (.int (Int32.ofNat (own_by B i))), .val (.int (4 : Int32)), .val (.int (144 : Int32)), .val (.int (191 : Int32)), .val (.int (Int32.ofNat (own_by B (i + 1)))), .val (.int (3 : Int32))]) X1 hx (hb hby d3_231) rfl (by decide) rfl (pc' := 234) rfl ?_
                                refine w_goto X1 hx (hb hby d3_234) (by decide) (pc' := 206) (by decide) ?_
                                refine w_iload X1 hx (hb hby d3_206) rfl (pc' := 208) rfl ?_
                                refine w_iload X1 hx (hb hby d3_208) rfl (pc' := 210) rfl ?_
                                refine w_icmp_ge X1 hx (hb hby d3_210) (by decide) (pcY := 237) (by decide) (pc' := 213) rfl (fun h137 => absurd h137 (by decide)) (fun h137 => ?_)
                                refine w_aloadN X1 hx (hb hby d3_213) rfl rfl (pc' := 214) rfl ?_
                                refine w_iloadN X1 hx (hb hby d3_214) rfl (pc' := 215) rfl ?_
                                refine w_iload X1 hx (hb hby d3_215) rfl (pc' := 217) rfl ?_
                                refine w_iadd X1 hx (hb hby d3_217) (pc' := 218) rfl ?_
                                refine w_eqI (z := (Int32.ofNat (i + 3))) (own_oadd i 3) ?_
                                refine w_baloadL (i := 0) (jn := (i + 3)) X1 hx hZ P1 rfl hk0 (hb hby d3_218) (own_oN (by omega)) (own_llt hB (by omega)) (pc' := 219) rfl ?_
                                refine w_sipush (v := (192 : Int32)) X1 hx (hb hby d3_219) rfl (pc' := 222) rfl ?_
                                refine w_iand X1 hx (hb hby d3_222) (pc' := 223) rfl ?_
                                refine w_eqI (z := (Int32.ofNat (own_by B (i + 3) / 64 * 64))) (own_byc _ _) ?_
                                refine w_sipush (v := (128 : Int32)) X1 hx (hb hby d3_223) rfl (pc' := 226) rfl ?_
                                refine w_icmp_eq X1 hx (hb hby d3_226) (by decide) (pcY := 231) (by decide) (pc' := 229) rfl (fun h138 => ?_) (fun h138 => ?_)
                                · have h138n : (own_by B (i + 3) / 64 * 64) = 128 := (own_oeq (a := (own_by B (i + 3) / 64 * 64)) (b := 128) (by omega) (by omega)).mp h138
                                  refine w_iincE (z := (4 : Int32)) (l' := #[.val (.ref (n0 + 0)), .val (.int (Int32.ofNat fr)), .val (.int (Int32.ofNat to)), .val (.int (Int32.ofNat i)), .val (.int (Int32.ofNat (own_by B i))), .val (.int (4 : Int32)), .val (.int (144 : Int32)), .val (.int (191 : Int32)), .val (.int (Int32.ofNat (own_by B (i + 1)))), .val (.int (4 : Int32))]) X1 hx (hb hby d3_231) rfl (by decide) rfl (pc' := 234) rfl ?_
                                  refine w_goto X1 hx (hb hby d3_234) (by decide) (pc' := 206) (by decide) ?_
                                  refine w_iload X1 hx (hb hby d3_206) rfl (pc' := 208) rfl ?_
                                  refine w_iload X1 hx (hb hby d3_208) rfl (pc' := 210) rfl ?_
                                  refine w_icmp_ge X1 hx (hb hby d3_210) (by decide) (pcY := 237) (by decide) (pc' := 213) rfl (fun h139 => ?_) (fun h139 => absurd h139 (by decide))
                                  refine w_iloadN X1 hx (hb hby d3_237) rfl (pc' := 238) rfl ?_
                                  refine w_iload X1 hx (hb hby d3_238) rfl (pc' := 240) rfl ?_
                                  refine w_iadd X1 hx (hb hby d3_240) (pc' := 241) rfl ?_
                                  refine w_eqI (z := (Int32.ofNat (i + 4))) (own_oadd i 4) ?_
                                  refine w_istoreN (l' := #[.val (.ref (n0 + 0)), .val (.int (Int32.ofNat fr)), .val (.int (Int32.ofNat to)), .val (.int (Int32.ofNat (i + 4))), .val (.int (Int32.ofNat (own_by B i))), .val (.int (4 : Int32)), .val (.int (144 : Int32)), .val (.int (191 : Int32)), .val (.int (Int32.ofNat (own_by B (i + 1)))), .val (.int (4 : Int32))]) X1 hx (hb hby d3_241) rfl (pc' := 242) rfl ?_
                                  refine w_goto X1 hx (hb hby d3_242) (by decide) (pc' := 2) (by decide) ?_
                                  have ek : own_k B to i = 4 := by unfold own_k; exact own_ok4 (by omega)
                                  exact ih (i + 4) _ _ _ _ _ _ T1 L1 (One.val rfl) (One.val rfl) (One.val rfl) (One.val rfl) (One.val rfl) (One.val rfl) (by omega) (by omega) (by rw [← hv, own_fi, if_pos h0n, if_neg (by rw [ek]; decide), ek]) N1 X1 P1
                                · have h138n : ¬ (own_by B (i + 3) / 64 * 64) = 128 := fun q => h138 ((own_oeq (a := (own_by B (i + 3) / 64 * 64)) (b := 128) (by omega) (by omega)).mpr q)
                                  refine w_iloadN X1 hx (hb hby d3_229) rfl (pc' := 230) rfl ?_
                                  exact w_ret_i X1 hx hret hlk (hb hby d3_230) (by decide) (by decide) ⟨by rw [← hv, own_fi, if_pos h0n, if_pos (show own_k B to i = 0 from by unfold own_k; exact own_ok0 (by omega) (by omega) (by omega) (by omega))], N1, P1⟩
                              · have h136n : ¬ (own_by B (i + 2) / 64 * 64) = 128 := fun q => h136 ((own_oeq (a := (own_by B (i + 2) / 64 * 64)) (b := 128) (by omega) (by omega)).mpr q)
                                refine w_iloadN X1 hx (hb hby d3_229) rfl (pc' := 230) rfl ?_
                                exact w_ret_i X1 hx hret hlk (hb hby d3_230) (by decide) (by decide) ⟨by rw [← hv, own_fi, if_pos h0n, if_pos (show own_k B to i = 0 from by unfold own_k; exact own_ok0 (by omega) (by omega) (by omega) (by omega))], N1, P1⟩
                            · have h134n : 191 < (own_by B (i + 1)) := (own_olt (a := 191) (b := (own_by B (i + 1))) (by omega) (by omega)).mp h134
                              refine w_iloadN X1 hx (hb hby d3_201) rfl (pc' := 202) rfl ?_
                              exact w_ret_i X1 hx hret hlk (hb hby d3_202) (by decide) (by decide) ⟨by rw [← hv, own_fi, if_pos h0n, if_pos (show own_k B to i = 0 from by unfold own_k; exact own_ok0 (by omega) (by omega) (by omega) (by omega))], N1, P1⟩
                        · have h132n : (to - i) < 4 := (own_olt (a := (to - i)) (b := 4) (by omega) (by omega)).mp h132
                          refine w_iloadN X1 hx (hb hby d3_174) rfl (pc' := 175) rfl ?_
                          exact w_ret_i X1 hx hret hlk (hb hby d3_175) (by decide) (by decide) ⟨by rw [← hv, own_fi, if_pos h0n, if_pos (show own_k B to i = 0 from by unfold own_k; exact own_ok0 (by omega) (by omega) (by omega) (by omega))], N1, P1⟩
                · have h111n : ¬ 239 < (own_by B i) := fun q => h111 ((own_olt (a := 239) (b := (own_by B i)) (by omega) (by omega)).mpr q)
                  refine w_iconst (v := (3 : Int32)) X1 hx (hb hby d3_78) rfl (pc' := 79) rfl ?_
                  refine w_istore (l' := #[.val (.ref (n0 + 0)), .val (.int (Int32.ofNat fr)), .val (.int (Int32.ofNat to)), .val (.int (Int32.ofNat i)), .val (.int (Int32.ofNat (own_by B i))), .val (.int (3 : Int32)), .val (.int (128 : Int32)), .val (.int (191 : Int32)), s8, s9]) X1 hx (hb hby d3_79) (XS.store1 rfl hs5 rfl) (pc' := 81) rfl ?_
                  refine w_iload X1 hx (hb hby d3_81) rfl (pc' := 83) rfl ?_
                  refine w_sipush (v := (224 : Int32)) X1 hx (hb hby d3_83) rfl (pc' := 86) rfl ?_
                  refine w_icmp_ne X1 hx (hb hby d3_86) (by decide) (pcY := 97) (by decide) (pc' := 89) rfl (fun h140 => ?_) (fun h140 => ?_)
                  · have h140n : ¬ (own_by B i) = 224 := fun q => h140 ((own_oeq (a := (own_by B i)) (b := 224) (by omega) (by omega)).mpr q)
                    refine w_iload X1 hx (hb hby d3_97) rfl (pc' := 99) rfl ?_
                    refine w_sipush (v := (237 : Int32)) X1 hx (hb hby d3_99) rfl (pc' := 102) rfl ?_
                    refine w_icmp_ne X1 hx (hb hby d3_102) (by decide) (pcY := 166) (by decide) (pc' := 105) rfl (fun h141 => ?_) (fun h141 => ?_)
                    · have h141n : ¬ (own_by B i) = 237 := fun q => h141 ((own_oeq (a := (own_by B i)) (b := 237) (by omega) (by omega)).mpr q)
                      refine w_iloadN X1 hx (hb hby d3_166) rfl (pc' := 167) rfl ?_
                      refine w_iloadN X1 hx (hb hby d3_167) rfl (pc' := 168) rfl ?_
                      refine w_isub X1 hx (hb hby d3_168) (pc' := 169) rfl ?_
                      refine w_eqI (z := (Int32.ofNat (to - i))) (own_osub (a := to) (b := i) (by omega)) ?_
                      refine w_iload X1 hx (hb hby d3_169) rfl (pc' := 171) rfl ?_
                      refine w_icmp_ge X1 hx (hb hby d3_171) (by decide) (pcY := 176) (by decide) (pc' := 174) rfl (fun h142 => ?_) (fun h142 => ?_)
                      · have h142n : ¬ (to - i) < 3 := fun q => h142 ((own_olt (a := (to - i)) (b := 3) (by omega) (by omega)).mpr q)
                        refine w_aloadN X1 hx (hb hby d3_176) rfl rfl (pc' := 177) rfl ?_
                        refine w_iloadN X1 hx (hb hby d3_177) rfl (pc' := 178) rfl ?_
                        refine w_iconst (v := (1 : Int32)) X1 hx (hb hby d3_178) rfl (pc' := 179) rfl ?_
                        refine w_iadd X1 hx (hb hby d3_179) (pc' := 180) rfl ?_
                        refine w_eqI (z := (Int32.ofNat (i + 1))) (own_oadd i 1) ?_
                        refine w_baloadL (i := 0) (jn := (i + 1)) X1 hx hZ P1 rfl hk0 (hb hby d3_180) (own_oN (by omega)) (own_llt hB (by omega)) (pc' := 181) rfl ?_
                        refine w_sipush (v := (255 : Int32)) X1 hx (hb hby d3_181) rfl (pc' := 184) rfl ?_
                        refine w_iand X1 hx (hb hby d3_184) (pc' := 185) rfl ?_
                        refine w_eqI (z := (Int32.ofNat (own_by B (i + 1)))) (own_bye _ _) ?_
                        refine w_istore (l' := #[.val (.ref (n0 + 0)), .val (.int (Int32.ofNat fr)), .val (.int (Int32.ofNat to)), .val (.int (Int32.ofNat i)), .val (.int (Int32.ofNat (own_by B i))), .val (.int (3 : Int32)), .val (.int (128 : Int32)), .val (.int (191 : Int32)), .val (.int (Int32.ofNat (own_by B (i + 1)))), s9]) X1 hx (hb hby d3_185) (XS.store1 rfl hs8 rfl) (pc' := 187) rfl ?_
                        refine w_iload X1 hx (hb hby d3_187) rfl (pc' := 189) rfl ?_
                        refine w_iload X1 hx (hb hby d3_189) rfl (pc' := 191) rfl ?_
                        refine w_icmp_lt X1 hx (hb hby d3_191) (by decide) (pcY := 201) (by decide) (pc' := 194) rfl (fun h143 => ?_) (fun h143 => ?_)
                        · have h143n : (own_by B (i + 1)) < 128 := (own_olt (a := (own_by B (i + 1))) (b := 128) (by omega) (by omega)).mp h143
                          refine w_iloadN X1 hx (hb hby d3_201) rfl (pc' := 202) rfl ?_
                          exact w_ret_i X1 hx hret hlk (hb hby d3_202) (by decide) (by decide) ⟨by rw [← hv, own_fi, if_pos h0n, if_pos (show own_k B to i = 0 from by unfold own_k; exact own_ok0 (by omega) (by omega) (by omega) (by omega))], N1, P1⟩
                        · have h143n : ¬ (own_by B (i + 1)) < 128 := fun q => h143 ((own_olt (a := (own_by B (i + 1))) (b := 128) (by omega) (by omega)).mpr q)
                          refine w_iload X1 hx (hb hby d3_194) rfl (pc' := 196) rfl ?_
                          refine w_iload X1 hx (hb hby d3_196) rfl (pc' := 198) rfl ?_
                          refine w_icmp_le X1 hx (hb hby d3_198) (by decide) (pcY := 203) (by decide) (pc' := 201) rfl (fun h144 => ?_) (fun h144 => ?_)
                          · have h144n : ¬ 191 < (own_by B (i + 1)) := fun q => h144 ((own_olt (a := 191) (b := (own_by B (i + 1))) (by omega) (by omega)).mpr q)
                            refine w_iconst (v := (2 : Int32)) X1 hx (hb hby d3_203) rfl (pc' := 204) rfl ?_
                            refine w_istore (l' := #[.val (.ref (n0 + 0)), .val (.int (Int32.ofNat fr)), .val (.int (Int32.ofNat to)), .val (.int (Int32.ofNat i)), .val (.int (Int32.ofNat (own_by B i))), .val (.int (3 : Int32)), .val (.int (128 : Int32)), .val (.int (191 : Int32)), .val (.int (Int32.ofNat (own_by B (i + 1)))), .val (.int (2 : Int32))]) X1 hx (hb hby d3_204) (XS.store1 rfl hs9 rfl) (pc' := 206) rfl ?_
                            refine w_iload X1 hx (hb hby d3_206) rfl (pc' := 208) rfl ?_
                            refine w_iload X1 hx (hb hby d3_208) rfl (pc' := 210) rfl ?_
                            refine w_icmp_ge X1 hx (hb hby d3_210) (by decide) (pcY := 237) (by decide) (pc' := 213) rfl (fun h145 => absurd h145 (by decide)) (fun h145 => ?_)
                            refine w_aloadN X1 hx (hb hby d3_213) rfl rfl (pc' := 214) rfl ?_
                            refine w_iloadN X1 hx (hb hby d3_214) rfl (pc' := 215) rfl ?_
                            refine w_iload X1 hx (hb hby d3_215) rfl (pc' := 217) rfl ?_
                            refine w_iadd X1 hx (hb hby d3_217) (pc' := 218) rfl ?_
                            refine w_eqI (z := (Int32.ofNat (i + 2))) (own_oadd i 2) ?_
                            refine w_baloadL (i := 0) (jn := (i + 2)) X1 hx hZ P1 rfl hk0 (hb hby d3_218) (own_oN (by omega)) (own_llt hB (by omega)) (pc' := 219) rfl ?_
                            refine w_sipush (v := (192 : Int32)) X1 hx (hb hby d3_219) rfl (pc' := 222) rfl ?_
                            refine w_iand X1 hx (hb hby d3_222) (pc' := 223) rfl ?_
                            refine w_eqI (z := (Int32.ofNat (own_by B (i + 2) / 64 * 64))) (own_byc _ _) ?_
                            refine w_sipush (v := (128 : Int32)) X1 hx (hb hby d3_223) rfl (pc' := 226) rfl ?_
                            refine w_icmp_eq X1 hx (hb hby d3_226) (by decide) (pcY := 231) (by decide) (pc' := 229) rfl (fun h146 => ?_) (fun h146 => ?_)
                            · have h146n : (own_by B (i + 2) / 64 * 64) = 128 := (own_oeq (a := (own_by B (i + 2) / 64 * 64)) (b := 128) (by omega) (by omega)).mp h146
                              refine w_iincE (z := (3 : Int32)) (l' := #[.val (.ref (n0 + 0)), .val (.int (Int32.ofNat fr)), .val (.int (Int32.ofNat to)), .val (.int (Int32.ofNat i)), .val (.int (Int32.ofNat (own_by B i))), .val (.int (3 : Int32)), .val (.int (128 : Int32)), .val (.int (191 : Int32)), .val (.int (Int32.ofNat (own_by B (i + 1)))), .val (.int (3 : Int32))]) X1 hx (hb hby d3_231) rfl (by decide) rfl (pc' := 234) rfl ?_
                              refine w_goto X1 hx (hb hby d3_234) (by decide) (pc' := 206) (by decide) ?_
                              refine w_iload X1 hx (hb hby d3_206) rfl (pc' := 208) rfl ?_
                              refine w_iload X1 hx (hb hby d3_208) rfl (pc' := 210) rfl ?_
                              refine w_icmp_ge X1 hx (hb hby d3_210) (by decide) (pcY := 237) (by decide) (pc' := 213) rfl (fun h147 => ?_) (fun h147 => absurd h147 (by decide))
                              refine w_iloadN X1 hx (hb hby d3_237) rfl (pc' := 238) rfl ?_
                              refine w_iload X1 hx (hb hby d3_238) rfl (pc' := 240) rfl ?_
                              refine w_iadd X1 hx (hb hby d3_240) (pc' := 241) rfl ?_
                              refine w_eqI (z := (Int32.ofNat (i + 3))) (own_oadd i 3) ?_
                              refine w_istoreN (l' := #[.val (.ref (n0 + 0)), .val (.int (Int32.ofNat fr)), .val (.int (Int32.ofNat to)), .val (.int (Int32.ofNat (i + 3))), .val (.int (Int32.ofNat (own_by B i))), .val (.int (3 : Int32)), .val (.int (128 : Int32)), .val (.int (191 : Int32)), .val (.int (Int32.ofNat (own_by B (i + 1)))), .val (.int (3 : Int32))]) X1 hx (hb hby d3_241) rfl (pc' := 242) rfl ?_
                              refine w_goto X1 hx (hb hby d3_242) (by decide) (pc' := 2) (by decide) ?_
                              have ek : own_k B to i = 3 := by unfold own_k; exact own_ok3 (by omega)
                              exact ih (i + 3) _ _ _ _ _ _ T1 L1 (One.val rfl) (One.val rfl) (One.val rfl) (One.val rfl) (One.val rfl) (One.val rfl) (by omega) (by omega) (by rw [← hv, own_fi, if_pos h0n, if_neg (by rw [ek]; decide), ek]) N1 X1 P1
                            · have h146n : ¬ (own_by B (i + 2) / 64 * 64) = 128 := fun q => h146 ((own_oeq (a := (own_by B (i + 2) / 64 * 64)) (b := 128) (by omega) (by omega)).mpr q)
                              refine w_iloadN X1 hx (hb hby d3_229) rfl (pc' := 230) rfl ?_
                              exact w_ret_i X1 hx hret hlk (hb hby d3_230) (by decide) (by decide) ⟨by rw [← hv, own_fi, if_pos h0n, if_pos (show own_k B to i = 0 from by unfold own_k; exact own_ok0 (by omega) (by omega) (by omega) (by omega))], N1, P1⟩
                          · have h144n : 191 < (own_by B (i + 1)) := (own_olt (a := 191) (b := (own_by B (i + 1))) (by omega) (by omega)).mp h144
                            refine w_iloadN X1 hx (hb hby d3_201) rfl (pc' := 202) rfl ?_
                            exact w_ret_i X1 hx hret hlk (hb hby d3_202) (by decide) (by decide) ⟨by rw [← hv, own_fi, if_pos h0n, if_pos (show own_k B to i = 0 from by unfold own_k; exact own_ok0 (by omega) (by omega) (by omega) (by omega))], N1, P1⟩
                      · have h142n : (to - i) < 3 := (own_olt (a := (to - i)) (b := 3) (by omega) (by omega)).mp h142
                        refine w_iloadN X1 hx (hb hby d3_174) rfl (pc' := 175) rfl ?_
                        exact w_ret_i X1 hx hret hlk (hb hby d3_175) (by decide) (by decide) ⟨by rw [← hv, own_fi, if_pos h0n, if_pos (show own_k B to i = 0 from by unfold own_k; exact own_ok0 (by omega) (by omega) (by omega) (by omega))], N1, P1⟩
                    · have h141n : (own_by B i) = 237 := (own_oeq (a := (own_by B i)) (b := 237) (by omega) (by omega)).mp h141
                      refine w_sipush (v := (159 : Int32)) X1 hx (hb hby d3_105) rfl (pc' := 108) rfl ?_
                      refine w_istore (l' := #[.val (.ref (n0 + 0)), .val (.int (Int32.ofNat fr)), .val (.int (Int32.ofNat to)), .val (.int (Int32.ofNat i)), .val (.int (Int32.ofNat (own_by B i))), .val (.int (3 : Int32)), .val (.int (128 : Int32)), .val (.int (159 : Int32)), s8, s9]) X1 hx (hb hby d3_108) rfl (pc' := 110) rfl ?_
                      refine w_goto X1 hx (hb hby d3_110) (by decide) (pc' := 166) (by decide) ?_
                      refine w_iloadN X1 hx (hb hby d3_166) rfl (pc' := 167) rfl ?_
                      refine w_iloadN X1 hx (hb hby d3_167) rfl (pc' := 168) rfl ?_
                      refine w_isub X1 hx (hb hby d3_168) (pc' := 169) rfl ?_
                      refine w_eqI (z := (Int32.ofNat (to - i))) (own_osub (a := to) (b := i) (by omega)) ?_
                      refine w_iload X1 hx (hb hby d3_169) rfl (pc' := 171) rfl ?_
                      refine w_icmp_ge X1 hx (hb hby d3_171) (by decide) (pcY := 176) (by decide) (pc' := 174) rfl (fun h148 => ?_) (fun h148 => ?_)
                      · have h148n : ¬ (to - i) < 3 := fun q => h148 ((own_olt (a := (to - i)) (b := 3) (by omega) (by omega)).mpr q)
                        refine w_aloadN X1 hx (hb hby d3_176) rfl rfl (pc' := 177) rfl ?_
                        refine w_iloadN X1 hx (hb hby d3_177) rfl (pc' := 178) rfl ?_
                        refine w_iconst (v := (1 : Int32)) X1 hx (hb hby d3_178) rfl (pc' := 179) rfl ?_
                        refine w_iadd X1 hx (hb hby d3_179) (pc' := 180) rfl ?_
                        refine w_eqI (z := (Int32.ofNat (i + 1))) (own_oadd i 1) ?_
                        refine w_baloadL (i := 0) (jn := (i + 1)) X1 hx hZ P1 rfl hk0 (hb hby d3_180) (own_oN (by omega)) (own_llt hB (by omega)) (pc' := 181) rfl ?_
                        refine w_sipush (v := (255 : Int32)) X1 hx (hb hby d3_181) rfl (pc' := 184) rfl ?_
                        refine w_iand X1 hx (hb hby d3_184) (pc' := 185) rfl ?_
                        refine w_eqI (z := (Int32.ofNat (own_by B (i + 1)))) (own_bye _ _) ?_
                        refine w_istore (l' := #[.val (.ref (n0 + 0)), .val (.int (Int32.ofNat fr)), .val (.int (Int32.ofNat to)), .val (.int (Int32.ofNat i)), .val (.int (Int32.ofNat (own_by B i))), .val (.int (3 : Int32)), .val (.int (128 : Int32)), .val (.int (159 : Int32)), .val (.int (Int32.ofNat (own_by B (i + 1)))), s9]) X1 hx (hb hby d3_185) (XS.store1 rfl hs8 rfl) (pc' := 187) rfl ?_
                        refine w_iload X1 hx (hb hby d3_187) rfl (pc' := 189) rfl ?_
                        refine w_iload X1 hx (hb hby d3_189) rfl (pc' := 191) rfl ?_
                        refine w_icmp_lt X1 hx (hb hby d3_191) (by decide) (pcY := 201) (by decide) (pc' := 194) rfl (fun h149 => ?_) (fun h149 => ?_)
                        · have h149n : (own_by B (i + 1)) < 128 := (own_olt (a := (own_by B (i + 1))) (b := 128) (by omega) (by omega)).mp h149
                          refine w_iloadN X1 hx (hb hby d3_201) rfl (pc' := 202) rfl ?_
                          exact w_ret_i X1 hx hret hlk (hb hby d3_202) (by decide) (by decide) ⟨by rw [← hv, own_fi, if_pos h0n, if_pos (show own_k B to i = 0 from by unfold own_k; exact own_ok0 (by omega) (by omega) (by omega) (by omega))], N1, P1⟩
                        · have h149n : ¬ (own_by B (i + 1)) < 128 := fun q => h149 ((own_olt (a := (own_by B (i + 1))) (b := 128) (by omega) (by omega)).mpr q)
                          refine w_iload X1 hx (hb hby d3_194) rfl (pc' := 196) rfl ?_
                          refine w_iload X1 hx (hb hby d3_196) rfl (pc' := 198) rfl ?_
                          refine w_icmp_le X1 hx (hb hby d3_198) (by decide) (pcY := 203) (by decide) (pc' := 201) rfl (fun h150 => ?_) (fun h150 => ?_)
                          · have h150n : ¬ 159 < (own_by B (i + 1)) := fun q => h150 ((own_olt (a := 159) (b := (own_by B (i + 1))) (by omega) (by omega)).mpr q)
                            refine w_iconst (v := (2 : Int32)) X1 hx (hb hby d3_203) rfl (pc' := 204) rfl ?_
                            refine w_istore (l' := #[.val (.ref (n0 + 0)), .val (.int (Int32.ofNat fr)), .val (.int (Int32.ofNat to)), .val (.int (Int32.ofNat i)), .val (.int (Int32.ofNat (own_by B i))), .val (.int (3 : Int32)), .val (.int (128 : Int32)), .val (.int (159 : Int32)), .val (.int (Int32.ofNat (own_by B (i + 1)))), .val (.int (2 : Int32))]) X1 hx (hb hby d3_204) (XS.store1 rfl hs9 rfl) (pc' := 206) rfl ?_
                            refine w_iload X1 hx (hb hby d3_206) rfl (pc' := 208) rfl ?_
                            refine w_iload X1 hx (hb hby d3_208) rfl (pc' := 210) rfl ?_
                            refine w_icmp_ge X1 hx (hb hby d3_210) (by decide) (pcY := 237) (by decide) (pc' := 213) rfl (fun h151 => absurd h151 (by decide)) (fun h151 => ?_)
                            refine w_aloadN X1 hx (hb hby d3_213) rfl rfl (pc' := 214) rfl ?_
                            refine w_iloadN X1 hx (hb hby d3_214) rfl (pc' := 215) rfl ?_
                            refine w_iload X1 hx (hb hby d3_215) rfl (pc' := 217) rfl ?_
                            refine w_iadd X1 hx (hb hby d3_217) (pc' := 218) rfl ?_
                            refine w_eqI (z := (Int32.ofNat (i + 2))) (own_oadd i 2) ?_
                            refine w_baloadL (i := 0) (jn := (i + 2)) X1 hx hZ P1 rfl hk0 (hb hby d3_218) (own_oN (by omega)) (own_llt hB (by omega)) (pc' := 219) rfl ?_
                            refine w_sipush (v := (192 : Int32)) X1 hx (hb hby d3_219) rfl (pc' := 222) rfl ?_
                            refine w_iand X1 hx (hb hby d3_222) (pc' := 223) rfl ?_
                            refine w_eqI (z := (Int32.ofNat (own_by B (i + 2) / 64 * 64))) (own_byc _ _) ?_
                            refine w_sipush (v := (128 : Int32)) X1 hx (hb hby d3_223) rfl (pc' := 226) rfl ?_
                            refine w_icmp_eq X1 hx (hb hby d3_226) (by decide) (pcY := 231) (by decide) (pc' := 229) rfl (fun h152 => ?_) (fun h152 => ?_)
                            · have h152n : (own_by B (i + 2) / 64 * 64) = 128 := (own_oeq (a := (own_by B (i + 2) / 64 * 64)) (b := 128) (by omega) (by omega)).mp h152
                              refine w_iincE (z := (3 : Int32)) (l' := #[.val (.ref (n0 + 0)), .val (.int (Int32.ofNat fr)), .val (.int (Int32.ofNat to)), .val (.int (Int32.ofNat i)), .val (.int (Int32.ofNat (own_by B i))), .val (.int (3 : Int32)), .val (.int (128 : Int32)), .val (.int (159 : Int32)), .val (.int (Int32.ofNat (own_by B (i + 1)))), .val (.int (3 : Int32))]) X1 hx (hb hby d3_231) rfl (by decide) rfl (pc' := 234) rfl ?_
                              refine w_goto X1 hx (hb hby d3_234) (by decide) (pc' := 206) (by decide) ?_
                              refine w_iload X1 hx (hb hby d3_206) rfl (pc' := 208) rfl ?_
                              refine w_iload X1 hx (hb hby d3_208) rfl (pc' := 210) rfl ?_
                              refine w_icmp_ge X1 hx (hb hby d3_210) (by decide) (pcY := 237) (by decide) (pc' := 213) rfl (fun h153 => ?_) (fun h153 => absurd h153 (by decide))
                              refine w_iloadN X1 hx (hb hby d3_237) rfl (pc' := 238) rfl ?_
                              refine w_iload X1 hx (hb hby d3_238) rfl (pc' := 240) rfl ?_
                              refine w_iadd X1 hx (hb hby d3_240) (pc' := 241) rfl ?_
                              refine w_eqI (z := (Int32.ofNat (i + 3))) (own_oadd i 3) ?_
                              refine w_istoreN (l' := #[.val (.ref (n0 + 0)), .val (.int (Int32.ofNat fr)), .val (.int (Int32.ofNat to)), .val (.int (Int32.ofNat (i + 3))), .val (.int (Int32.ofNat (own_by B i))), .val (.int (3 : Int32)), .val (.int (128 : Int32)), .val (.int (159 : Int32)), .val (.int (Int32.ofNat (own_by B (i + 1)))), .val (.int (3 : Int32))]) X1 hx (hb hby d3_241) rfl (pc' := 242) rfl ?_
                              refine w_goto X1 hx (hb hby d3_242) (by decide) (pc' := 2) (by decide) ?_
                              have ek : own_k B to i = 3 := by unfold own_k; exact own_ok3 (by omega)
                              exact ih (i + 3) _ _ _ _ _ _ T1 L1 (One.val rfl) (One.val rfl) (One.val rfl) (One.val rfl) (One.val rfl) (One.val rfl) (by omega) (by omega) (by rw [← hv, own_fi, if_pos h0n, if_neg (by rw [ek]; decide), ek]) N1 X1 P1
                            · have h152n : ¬ (own_by B (i + 2) / 64 * 64) = 128 := fun q => h152 ((own_oeq (a := (own_by B (i + 2) / 64 * 64)) (b := 128) (by omega) (by omega)).mpr q)
                              refine w_iloadN X1 hx (hb hby d3_229) rfl (pc' := 230) rfl ?_
                              exact w_ret_i X1 hx hret hlk (hb hby d3_230) (by decide) (by decide) ⟨by rw [← hv, own_fi, if_pos h0n, if_pos (show own_k B to i = 0 from by unfold own_k; exact own_ok0 (by omega) (by omega) (by omega) (by omega))], N1, P1⟩
                          · have h150n : 159 < (own_by B (i + 1)) := (own_olt (a := 159) (b := (own_by B (i + 1))) (by omega) (by omega)).mp h150
                            refine w_iloadN X1 hx (hb hby d3_201) rfl (pc' := 202) rfl ?_
                            exact w_ret_i X1 hx hret hlk (hb hby d3_202) (by decide) (by decide) ⟨by rw [← hv, own_fi, if_pos h0n, if_pos (show own_k B to i = 0 from by unfold own_k; exact own_ok0 (by omega) (by omega) (by omega) (by omega))], N1, P1⟩
                      · have h148n : (to - i) < 3 := (own_olt (a := (to - i)) (b := 3) (by omega) (by omega)).mp h148
                        refine w_iloadN X1 hx (hb hby d3_174) rfl (pc' := 175) rfl ?_
                        exact w_ret_i X1 hx hret hlk (hb hby d3_175) (by decide) (by decide) ⟨by rw [← hv, own_fi, if_pos h0n, if_pos (show own_k B to i = 0 from by unfold own_k; exact own_ok0 (by omega) (by omega) (by omega) (by omega))], N1, P1⟩
                  · have h140n : (own_by B i) = 224 := (own_oeq (a := (own_by B i)) (b := 224) (by omega) (by omega)).mp h140
                    refine w_sipush (v := (160 : Int32)) X1 hx (hb hby d3_89) rfl (pc' := 92) rfl ?_
                    refine w_istore (l' := #[.val (.ref (n0 + 0)), .val (.int (Int32.ofNat fr)), .val (.int (Int32.ofNat to)), .val (.int (Int32.ofNat i)), .val (.int (Int32.ofNat (own_by B i))), .val (.int (3 : Int32)), .val (.int (160 : Int32)), .val (.int (191 : Int32)), s8, s9]) X1 hx (hb hby d3_92) rfl (pc' := 94) rfl ?_
                    refine w_goto X1 hx (hb hby d3_94) (by decide) (pc' := 166) (by decide) ?_
                    refine w_iloadN X1 hx (hb hby d3_166) rfl (pc' := 167) rfl ?_
                    refine w_iloadN X1 hx (hb hby d3_167) rfl (pc' := 168) rfl ?_
                    refine w_isub X1 hx (hb hby d3_168) (pc' := 169) rfl ?_
                    refine w_eqI (z := (Int32.ofNat (to - i))) (own_osub (a := to) (b := i) (by omega)) ?_
                    refine w_iload X1 hx (hb hby d3_169) rfl (pc' := 171) rfl ?_
                    refine w_icmp_ge X1 hx (hb hby d3_171) (by decide) (pcY := 176) (by decide) (pc' := 174) rfl (fun h154 => ?_) (fun h154 => ?_)
                    · have h154n : ¬ (to - i) < 3 := fun q => h154 ((own_olt (a := (to - i)) (b := 3) (by omega) (by omega)).mpr q)
                      refine w_aloadN X1 hx (hb hby d3_176) rfl rfl (pc' := 177) rfl ?_
                      refine w_iloadN X1 hx (hb hby d3_177) rfl (pc' := 178) rfl ?_
                      refine w_iconst (v := (1 : Int32)) X1 hx (hb hby d3_178) rfl (pc' := 179) rfl ?_
                      refine w_iadd X1 hx (hb hby d3_179) (pc' := 180) rfl ?_
                      refine w_eqI (z := (Int32.ofNat (i + 1))) (own_oadd i 1) ?_
                      refine w_baloadL (i := 0) (jn := (i + 1)) X1 hx hZ P1 rfl hk0 (hb hby d3_180) (own_oN (by omega)) (own_llt hB (by omega)) (pc' := 181) rfl ?_
                      refine w_sipush (v := (255 : Int32)) X1 hx (hb hby d3_181) rfl (pc' := 184) rfl ?_
                      refine w_iand X1 hx (hb hby d3_184) (pc' := 185) rfl ?_
                      refine w_eqI (z := (Int32.ofNat (own_by B (i + 1)))) (own_bye _ _) ?_
                      refine w_istore (l' := #[.val (.ref (n0 + 0)), .val (.int (Int32.ofNat fr)), .val (.int (Int32.ofNat to)), .val (.int (Int32.ofNat i)), .val (.int (Int32.ofNat (own_by B i))), .val (.int (3 : Int32)), .val (.int (160 : Int32)), .val (.int (191 : Int32)), .val (.int (Int32.ofNat (own_by B (i + 1)))), s9]) X1 hx (hb hby d3_185) (XS.store1 rfl hs8 rfl) (pc' := 187) rfl ?_
                      refine w_iload X1 hx (hb hby d3_187) rfl (pc' := 189) rfl ?_
                      refine w_iload X1 hx (hb hby d3_189) rfl (pc' := 191) rfl ?_
                      refine w_icmp_lt X1 hx (hb hby d3_191) (by decide) (pcY := 201) (by decide) (pc' := 194) rfl (fun h155 => ?_) (fun h155 => ?_)
                      · have h155n : (own_by B (i + 1)) < 160 := (own_olt (a := (own_by B (i + 1))) (b := 160) (by omega) (by omega)).mp h155
                        refine w_iloadN X1 hx (hb hby d3_201) rfl (pc' := 202) rfl ?_
                        exact w_ret_i X1 hx hret hlk (hb hby d3_202) (by decide) (by decide) ⟨by rw [← hv, own_fi, if_pos h0n, if_pos (show own_k B to i = 0 from by unfold own_k; exact own_ok0 (by omega) (by omega) (by omega) (by omega))], N1, P1⟩
                      · have h155n : ¬ (own_by B (i + 1)) < 160 := fun q => h155 ((own_olt (a := (own_by B (i + 1))) (b := 160) (by omega) (by omega)).mpr q)
                        refine w_iload X1 hx (hb hby d3_194) rfl (pc' := 196) rfl ?_
                        refine w_iload X1 hx (hb hby d3_196) rfl (pc' := 198) rfl ?_
                        refine w_icmp_le X1 hx (hb hby d3_198) (by decide) (pcY := 203) (by decide) (pc' := 201) rfl (fun h156 => ?_) (fun h156 => ?_)
                        · have h156n : ¬ 191 < (own_by B (i + 1)) := fun q => h156 ((own_olt (a := 191) (b := (own_by B (i + 1))) (by omega) (by omega)).mpr q)
                          refine w_iconst (v := (2 : Int32)) X1 hx (hb hby d3_203) rfl (pc' := 204) rfl ?_
                          refine w_istore (l' := #[.val (.ref (n0 + 0)), .val (.int (Int32.ofNat fr)), .val (.int (Int32.ofNat to)), .val (.int (Int32.ofNat i)), .val (.int (Int32.ofNat (own_by B i))), .val (.int (3 : Int32)), .val (.int (160 : Int32)), .val (.int (191 : Int32)), .val (.int (Int32.ofNat (own_by B (i + 1)))), .val (.int (2 : Int32))]) X1 hx (hb hby d3_204) (XS.store1 rfl hs9 rfl) (pc' := 206) rfl ?_
                          refine w_iload X1 hx (hb hby d3_206) rfl (pc' := 208) rfl ?_
                          refine w_iload X1 hx (hb hby d3_208) rfl (pc' := 210) rfl ?_
                          refine w_icmp_ge X1 hx (hb hby d3_210) (by decide) (pcY := 237) (by decide) (pc' := 213) rfl (fun h157 => absurd h157 (by decide)) (fun h157 => ?_)
                          refine w_aloadN X1 hx (hb hby d3_213) rfl rfl (pc' := 214) rfl ?_
                          refine w_iloadN X1 hx (hb hby d3_214) rfl (pc' := 215) rfl ?_
                          refine w_iload X1 hx (hb hby d3_215) rfl (pc' := 217) rfl ?_
                          refine w_iadd X1 hx (hb hby d3_217) (pc' := 218) rfl ?_
                          refine w_eqI (z := (Int32.ofNat (i + 2))) (own_oadd i 2) ?_
                          refine w_baloadL (i := 0) (jn := (i + 2)) X1 hx hZ P1 rfl hk0 (hb hby d3_218) (own_oN (by omega)) (own_llt hB (by omega)) (pc' := 219) rfl ?_
                          refine w_sipush (v := (192 : Int32)) X1 hx (hb hby d3_219) rfl (pc' := 222) rfl ?_
                          refine w_iand X1 hx (hb hby d3_222) (pc' := 223) rfl ?_
                          refine w_eqI (z := (Int32.ofNat (own_by B (i + 2) / 64 * 64))) (own_byc _ _) ?_
                          refine w_sipush (v := (128 : Int32)) X1 hx (hb hby d3_223) rfl (pc' := 226) rfl ?_
                          refine w_icmp_eq X1 hx (hb hby d3_226) (by decide) (pcY := 231) (by decide) (pc' := 229) rfl (fun h158 => ?_) (fun h158 => ?_)
                          · have h158n : (own_by B (i + 2) / 64 * 64) = 128 := (own_oeq (a := (own_by B (i + 2) / 64 * 64)) (b := 128) (by omega) (by omega)).mp h158
                            refine w_iincE (z := (3 : Int32)) (l' := #[.val (.ref (n0 + 0)), .val (.int (Int32.ofNat fr)), .val (.int (Int32.ofNat to)), .val (.int (Int32.ofNat i)), .val (.int (Int32.ofNat (own_by B i))), .val (.int (3 : Int32)), .val (.int (160 : Int32)), .val (.int (191 : Int32)), .val (.int (Int32.ofNat (own_by B (i + 1)))), .val (.int (3 : Int32))]) X1 hx (hb hby d3_231) rfl (by decide) rfl (pc' := 234) rfl ?_
                            refine w_goto X1 hx (hb hby d3_234) (by decide) (pc' := 206) (by decide) ?_
                            refine w_iload X1 hx (hb hby d3_206) rfl (pc' := 208) rfl ?_
                            refine w_iload X1 hx (hb hby d3_208) rfl (pc' := 210) rfl ?_
                            refine w_icmp_ge X1 hx (hb hby d3_210) (by decide) (pcY := 237) (by decide) (pc' := 213) rfl (fun h159 => ?_) (fun h159 => absurd h159 (by decide))
                            refine w_iloadN X1 hx (hb hby d3_237) rfl (pc' := 238) rfl ?_
                            refine w_iload X1 hx (hb hby d3_238) rfl (pc' := 240) rfl ?_
                            refine w_iadd X1 hx (hb hby d3_240) (pc' := 241) rfl ?_
                            refine w_eqI (z := (Int32.ofNat (i + 3))) (own_oadd i 3) ?_
                            refine w_istoreN (l' := #[.val (.ref (n0 + 0)), .val (.int (Int32.ofNat fr)), .val (.int (Int32.ofNat to)), .val (.int (Int32.ofNat (i + 3))), .val (.int (Int32.ofNat (own_by B i))), .val (.int (3 : Int32)), .val (.int (160 : Int32)), .val (.int (191 : Int32)), .val (.int (Int32.ofNat (own_by B (i + 1)))), .val (.int (3 : Int32))]) X1 hx (hb hby d3_241) rfl (pc' := 242) rfl ?_
                            refine w_goto X1 hx (hb hby d3_242) (by decide) (pc' := 2) (by decide) ?_
                            have ek : own_k B to i = 3 := by unfold own_k; exact own_ok3 (by omega)
                            exact ih (i + 3) _ _ _ _ _ _ T1 L1 (One.val rfl) (One.val rfl) (One.val rfl) (One.val rfl) (One.val rfl) (One.val rfl) (by omega) (by omega) (by rw [← hv, own_fi, if_pos h0n, if_neg (by rw [ek]; decide), ek]) N1 X1 P1
                          · have h158n : ¬ (own_by B (i + 2) / 64 * 64) = 128 := fun q => h158 ((own_oeq (a := (own_by B (i + 2) / 64 * 64)) (b := 128) (by omega) (by omega)).mpr q)
                            refine w_iloadN X1 hx (hb hby d3_229) rfl (pc' := 230) rfl ?_
                            exact w_ret_i X1 hx hret hlk (hb hby d3_230) (by decide) (by decide) ⟨by rw [← hv, own_fi, if_pos h0n, if_pos (show own_k B to i = 0 from by unfold own_k; exact own_ok0 (by omega) (by omega) (by omega) (by omega))], N1, P1⟩
                        · have h156n : 191 < (own_by B (i + 1)) := (own_olt (a := 191) (b := (own_by B (i + 1))) (by omega) (by omega)).mp h156
                          refine w_iloadN X1 hx (hb hby d3_201) rfl (pc' := 202) rfl ?_
                          exact w_ret_i X1 hx hret hlk (hb hby d3_202) (by decide) (by decide) ⟨by rw [← hv, own_fi, if_pos h0n, if_pos (show own_k B to i = 0 from by unfold own_k; exact own_ok0 (by omega) (by omega) (by omega) (by omega))], N1, P1⟩
                    · have h154n : (to - i) < 3 := (own_olt (a := (to - i)) (b := 3) (by omega) (by omega)).mp h154
                      refine w_iloadN X1 hx (hb hby d3_174) rfl (pc' := 175) rfl ?_
                      exact w_ret_i X1 hx hret hlk (hb hby d3_175) (by decide) (by decide) ⟨by rw [← hv, own_fi, if_pos h0n, if_pos (show own_k B to i = 0 from by unfold own_k; exact own_ok0 (by omega) (by omega) (by omega) (by omega))], N1, P1⟩
            · have h81n : ¬ 223 < (own_by B i) := fun q => h81 ((own_olt (a := 223) (b := (own_by B i)) (by omega) (by omega)).mpr q)
              refine w_iconst (v := (2 : Int32)) X1 hx (hb hby d3_56) rfl (pc' := 57) rfl ?_
              refine w_istore (l' := #[.val (.ref (n0 + 0)), .val (.int (Int32.ofNat fr)), .val (.int (Int32.ofNat to)), .val (.int (Int32.ofNat i)), .val (.int (Int32.ofNat (own_by B i))), .val (.int (2 : Int32)), .val (.int (128 : Int32)), .val (.int (191 : Int32)), s8, s9]) X1 hx (hb hby d3_57) (XS.store1 rfl hs5 rfl) (pc' := 59) rfl ?_
              refine w_goto X1 hx (hb hby d3_59) (by decide) (pc' := 166) (by decide) ?_
              refine w_iloadN X1 hx (hb hby d3_166) rfl (pc' := 167) rfl ?_
              refine w_iloadN X1 hx (hb hby d3_167) rfl (pc' := 168) rfl ?_
              refine w_isub X1 hx (hb hby d3_168) (pc' := 169) rfl ?_
              refine w_eqI (z := (Int32.ofNat (to - i))) (own_osub (a := to) (b := i) (by omega)) ?_
              refine w_iload X1 hx (hb hby d3_169) rfl (pc' := 171) rfl ?_
              refine w_icmp_ge X1 hx (hb hby d3_171) (by decide) (pcY := 176) (by decide) (pc' := 174) rfl (fun h160 => ?_) (fun h160 => ?_)
              · have h160n : ¬ (to - i) < 2 := fun q => h160 ((own_olt (a := (to - i)) (b := 2) (by omega) (by omega)).mpr q)
                refine w_aloadN X1 hx (hb hby d3_176) rfl rfl (pc' := 177) rfl ?_
                refine w_iloadN X1 hx (hb hby d3_177) rfl (pc' := 178) rfl ?_
                refine w_iconst (v := (1 : Int32)) X1 hx (hb hby d3_178) rfl (pc' := 179) rfl ?_
                refine w_iadd X1 hx (hb hby d3_179) (pc' := 180) rfl ?_
                refine w_eqI (z := (Int32.ofNat (i + 1))) (own_oadd i 1) ?_
                refine w_baloadL (i := 0) (jn := (i + 1)) X1 hx hZ P1 rfl hk0 (hb hby d3_180) (own_oN (by omega)) (own_llt hB (by omega)) (pc' := 181) rfl ?_
                refine w_sipush (v := (255 : Int32)) X1 hx (hb hby d3_181) rfl (pc' := 184) rfl ?_
                refine w_iand X1 hx (hb hby d3_184) (pc' := 185) rfl ?_
                refine w_eqI (z := (Int32.ofNat (own_by B (i + 1)))) (own_bye _ _) ?_
                refine w_istore (l' := #[.val (.ref (n0 + 0)), .val (.int (Int32.ofNat fr)), .val (.int (Int32.ofNat to)), .val (.int (Int32.ofNat i)), .val (.int (Int32.ofNat (own_by B i))), .val (.int (2 : Int32)), .val (.int (128 : Int32)), .val (.int (191 : Int32)), .val (.int (Int32.ofNat (own_by B (i + 1)))), s9]) X1 hx (hb hby d3_185) (XS.store1 rfl hs8 rfl) (pc' := 187) rfl ?_
                refine w_iload X1 hx (hb hby d3_187) rfl (pc' := 189) rfl ?_
                refine w_iload X1 hx (hb hby d3_189) rfl (pc' := 191) rfl ?_
                refine w_icmp_lt X1 hx (hb hby d3_191) (by decide) (pcY := 201) (by decide) (pc' := 194) rfl (fun h161 => ?_) (fun h161 => ?_)
                · have h161n : (own_by B (i + 1)) < 128 := (own_olt (a := (own_by B (i + 1))) (b := 128) (by omega) (by omega)).mp h161
                  refine w_iloadN X1 hx (hb hby d3_201) rfl (pc' := 202) rfl ?_
                  exact w_ret_i X1 hx hret hlk (hb hby d3_202) (by decide) (by decide) ⟨by rw [← hv, own_fi, if_pos h0n, if_pos (show own_k B to i = 0 from by unfold own_k; exact own_ok0 (by omega) (by omega) (by omega) (by omega))], N1, P1⟩
                · have h161n : ¬ (own_by B (i + 1)) < 128 := fun q => h161 ((own_olt (a := (own_by B (i + 1))) (b := 128) (by omega) (by omega)).mpr q)
                  refine w_iload X1 hx (hb hby d3_194) rfl (pc' := 196) rfl ?_
                  refine w_iload X1 hx (hb hby d3_196) rfl (pc' := 198) rfl ?_
                  refine w_icmp_le X1 hx (hb hby d3_198) (by decide) (pcY := 203) (by decide) (pc' := 201) rfl (fun h162 => ?_) (fun h162 => ?_)
                  · have h162n : ¬ 191 < (own_by B (i + 1)) := fun q => h162 ((own_olt (a := 191) (b := (own_by B (i + 1))) (by omega) (by omega)).mpr q)
                    refine w_iconst (v := (2 : Int32)) X1 hx (hb hby d3_203) rfl (pc' := 204) rfl ?_
                    refine w_istore (l' := #[.val (.ref (n0 + 0)), .val (.int (Int32.ofNat fr)), .val (.int (Int32.ofNat to)), .val (.int (Int32.ofNat i)), .val (.int (Int32.ofNat (own_by B i))), .val (.int (2 : Int32)), .val (.int (128 : Int32)), .val (.int (191 : Int32)), .val (.int (Int32.ofNat (own_by B (i + 1)))), .val (.int (2 : Int32))]) X1 hx (hb hby d3_204) (XS.store1 rfl hs9 rfl) (pc' := 206) rfl ?_
                    refine w_iload X1 hx (hb hby d3_206) rfl (pc' := 208) rfl ?_
                    refine w_iload X1 hx (hb hby d3_208) rfl (pc' := 210) rfl ?_
                    refine w_icmp_ge X1 hx (hb hby d3_210) (by decide) (pcY := 237) (by decide) (pc' := 213) rfl (fun h163 => ?_) (fun h163 => absurd h163 (by decide))
                    refine w_iloadN X1 hx (hb hby d3_237) rfl (pc' := 238) rfl ?_
                    refine w_iload X1 hx (hb hby d3_238) rfl (pc' := 240) rfl ?_
                    refine w_iadd X1 hx (hb hby d3_240) (pc' := 241) rfl ?_
                    refine w_eqI (z := (Int32.ofNat (i + 2))) (own_oadd i 2) ?_
                    refine w_istoreN (l' := #[.val (.ref (n0 + 0)), .val (.int (Int32.ofNat fr)), .val (.int (Int32.ofNat to)), .val (.int (Int32.ofNat (i + 2))), .val (.int (Int32.ofNat (own_by B i))), .val (.int (2 : Int32)), .val (.int (128 : Int32)), .val (.int (191 : Int32)), .val (.int (Int32.ofNat (own_by B (i + 1)))), .val (.int (2 : Int32))]) X1 hx (hb hby d3_241) rfl (pc' := 242) rfl ?_
                    refine w_goto X1 hx (hb hby d3_242) (by decide) (pc' := 2) (by decide) ?_
                    have ek : own_k B to i = 2 := by unfold own_k; exact own_ok2 (by omega)
                    exact ih (i + 2) _ _ _ _ _ _ T1 L1 (One.val rfl) (One.val rfl) (One.val rfl) (One.val rfl) (One.val rfl) (One.val rfl) (by omega) (by omega) (by rw [← hv, own_fi, if_pos h0n, if_neg (by rw [ek]; decide), ek]) N1 X1 P1
                  · have h162n : 191 < (own_by B (i + 1)) := (own_olt (a := 191) (b := (own_by B (i + 1))) (by omega) (by omega)).mp h162
                    refine w_iloadN X1 hx (hb hby d3_201) rfl (pc' := 202) rfl ?_
                    exact w_ret_i X1 hx hret hlk (hb hby d3_202) (by decide) (by decide) ⟨by rw [← hv, own_fi, if_pos h0n, if_pos (show own_k B to i = 0 from by unfold own_k; exact own_ok0 (by omega) (by omega) (by omega) (by omega))], N1, P1⟩
              · have h160n : (to - i) < 2 := (own_olt (a := (to - i)) (b := 2) (by omega) (by omega)).mp h160
                refine w_iloadN X1 hx (hb hby d3_174) rfl (pc' := 175) rfl ?_
                exact w_ret_i X1 hx hret hlk (hb hby d3_175) (by decide) (by decide) ⟨by rw [← hv, own_fi, if_pos h0n, if_pos (show own_k B to i = 0 from by unfold own_k; exact own_ok0 (by omega) (by omega) (by omega) (by omega))], N1, P1⟩
        · have h1n : (own_by B i) < 128 := (own_olt (a := (own_by B i)) (b := 128) (by omega) (by omega)).mp h1
          refine w_iincE (z := (Int32.ofNat (i + 1))) (l' := #[.val (.ref (n0 + 0)), .val (.int (Int32.ofNat fr)), .val (.int (Int32.ofNat to)), .val (.int (Int32.ofNat (i + 1))), .val (.int (Int32.ofNat (own_by B i))), s5, s6, s7, s8, s9]) X1 hx (hb hby d3_24) rfl (own_oadd i 1) rfl (pc' := 27) rfl ?_
          refine w_goto X1 hx (hb hby d3_27) (by decide) (pc' := 2) (by decide) ?_
          have ek : own_k B to i = 1 := by unfold own_k; exact own_ok1 (by omega)
          exact ih (i + 1) _ s5 s6 s7 s8 s9 T1 L1 (One.val rfl) hs5 hs6 hs7 hs8 hs9 (by omega) (by omega) (by rw [← hv, own_fi, if_pos h0n, if_neg (by rw [ek]; decide), ek]) N1 X1 P1
  refine w_iloadN X0 hx (hb hby d3_0) rfl (pc' := 1) rfl ?_
  refine w_istoreN (l' := #[.val (.ref (n0 + 0)), .val (.int (Int32.ofNat fr)), .val (.int (Int32.ofNat to)), .val (.int (Int32.ofNat fr)), .unset, .unset, .unset, .unset, .unset, .unset]) X0 hx (hb hby d3_1) rfl (pc' := 2) rfl ?_
  exact J2 9 fr .unset .unset .unset .unset .unset .unset T0 [] One.u One.u One.u One.u One.u One.u (by omega) hft rfl N0 X0 P0
theorem pn0 : plainFor (⟨"com/example/normfeld/normfeld/io/Utf8FirstInvalidPinLaw", "law", "(JII)Z"⟩ : MethodName) = true := plainFor_of_name (by first | (simp [plainName, overriddenIn]; done) | decide +kernel)
theorem pd0 : parseMethodDescriptor (⟨"com/example/normfeld/normfeld/io/Utf8FirstInvalidPinLaw", "law", "(JII)Z"⟩ : MethodName).desc = some ⟨[.long, .int, .int], some .boolean⟩ := by decide +kernel
theorem ef0 (m : MethodId) (x0 : Int64) (x1 : Int32) (x2 : Int32) : entryFrame m #[Value.long x0, Value.int x1, Value.int x2] maxLocals = mkF m 0 #[.val (.long x0), .second, .val (.int x1), .val (.int x2), .unset, .unset, .unset, .unset, .unset] [] := by first | (simp [entryFrame, mkF, argsToLocals, Value.category, maxLocals]; done) | rfl
def LawQ (n0 : Nat) (v : Option Value) (h : Heap) (L : List Loc) : Prop := v = some (.int 1) ∧ Fr n0 L
set_option maxRecDepth 65536 in
set_option maxHeartbeats 40000000 in
theorem rm0 (l : Launch) (Z : State) (a0 : Array Value) (hw : ∀ d ∈ tables_1, d.before a0 Z = true) (ws : List Jvm.Cond) (x0 : Int64) (x1 : Int32) (x2 : Int32) (h0 : Heap) (n0 : Nat) (Z0 : h0.size = n0) :
    MetFree l x (head1 (Jvm.Cond.code x code maxLocals ret :: ws) room_1) (fun aa U => aa = #[Value.long x0, Value.int x1, Value.int x2] ∧ Z.Warmed39 U.vm ∧ U.heap = h0) (fun _ _ _ _ _ => True) (fun _ U o U' => ∃ v L, o = .returned v ∧ LawQ n0 v U'.heap L ∧ FrameEnd U o U' L room_1.cells room_1.slots) := by
  refine own_body pn0 ?_
  intro p e s m below meth c T0 hx hby hml hret hlk hown hnm hZ X0 e0
  subst e0 Z0
  have P0 := HP.nil T0.heap
  generalize T0.heap.size = n0 at P0 ⊢
  have N0 : Fr n0 [] := Fr.nil n0
  refine own_cast (ef0 m x0 x1 x2) ?_
  obtain ⟨fr, hfr, efr⟩ := own_rem x1 9 9 (by decide) (by decide)
  refine w_bipush (v := (8 : Int32)) X0 hx (hb hby at_0) rfl (pc' := 2) rfl ?_
  refine w_newarr (N := 8) (j := 0) X0 hx hZ P0 (ty := .byte) rfl (wd0 hw) (hb hby at_2) (by decide) (by decide) (by decide) (by decide) rfl (pc' := 4) rfl ?_
  intro T1 kA1 X1 hkA1 P1
  replace P1 : HP n0 T1.heap [AC kA1 [.int (0 : Int32), .int (0 : Int32), .int (0 : Int32), .int (0 : Int32), .int (0 : Int32), .int (0 : Int32), .int (0 : Int32), .int (0 : Int32)]] := P1
  refine w_astore (l' := #[.val (.long x0), .second, .val (.int x1), .val (.int x2), .val (.ref (n0 + 0)), .unset, .unset, .unset, .unset]) X1 hx (hb hby at_4) rfl rfl (pc' := 6) rfl ?_
  refine w_aload X1 hx (hb hby at_6) rfl rfl (pc' := 8) rfl ?_
  refine w_iconst (v := (0 : Int32)) X1 hx (hb hby at_8) rfl (pc' := 9) rfl ?_
  refine w_lloadN X1 hx (hb hby at_9) rfl (pc' := 10) rfl ?_
  refine w_l2i X1 hx (hb hby at_10) (pc' := 11) rfl ?_
  refine w_i2b X1 hx (hb hby at_11) (pc' := 12) rfl ?_
  obtain ⟨b0, eb0⟩ : ∃ z : Int32, z = nar .byte (Int8.toInt32 (Int32.toInt8 (Int64.toInt32 x0))) := ⟨_, rfl⟩
  refine w_bastoreE (i := 0) (jn := 0) X1 hx hZ N0 P1 rfl hkA1 (hb hby at_12) eb0.symm (by decide) (Nat.le_of_ble_eq_true rfl) (pc' := 13) rfl ?_
  intro T2 L1 N1 X2 P2
  replace P2 : HP n0 T2.heap [AC kA1 [.int b0, .int (0 : Int32), .int (0 : Int32), .int (0 : Int32), .int (0 : Int32), .int (0 : Int32), .int (0 : Int32), .int (0 : Int32)]] := P2
  refine w_aload X2 hx (hb hby at_13) rfl rfl (pc' := 15) rfl ?_
  refine w_iconst (v := (1 : Int32)) X2 hx (hb hby at_15) rfl (pc' := 16) rfl ?_
  refine w_lloadN X2 hx (hb hby at_16) rfl (pc' := 17) rfl ?_
  refine w_bipush (v := (8 : Int32)) X2 hx (hb hby at_17) rfl (pc' := 19) rfl ?_
  refine w_lushr X2 hx (hb hby at_19) (pc' := 20) rfl ?_
  refine w_l2i X2 hx (hb hby at_20) (pc' := 21) rfl ?_
  refine w_i2b X2 hx (hb hby at_21) (pc' := 22) rfl ?_
  obtain ⟨b1, eb1⟩ : ∃ z : Int32, z = nar .byte (Int8.toInt32 (Int32.toInt8 (Int64.toInt32 (XT.ushrL x0 (8 : Int32))))) := ⟨_, rfl⟩
  refine w_bastoreE (i := 0) (jn := 1) X2 hx hZ N1 P2 rfl hkA1 (hb hby at_22) eb1.symm (by decide) (Nat.le_of_ble_eq_true rfl) (pc' := 23) rfl ?_
  intro T3 L2 N2 X3 P3
  replace P3 : HP n0 T3.heap [AC kA1 [.int b0, .int b1, .int (0 : Int32), .int (0 : Int32), .int (0 : Int32), .int (0 : Int32), .int (0 : Int32), .int (0 : Int32)]] := P3
  refine w_aload X3 hx (hb hby at_23) rfl rfl (pc' := 25) rfl ?_
  refine w_iconst (v := (2 : Int32)) X3 hx (hb hby at_25) rfl (pc' := 26) rfl ?_
  refine w_lloadN X3 hx (hb hby at_26) rfl (pc' := 27) rfl ?_
  refine w_bipush (v := (16 : Int32)) X3 hx (hb hby at_27) rfl (pc' := 29) rfl ?_
  refine w_lushr X3 hx (hb hby at_29) (pc' := 30) rfl ?_
  refine w_l2i X3 hx (hb hby at_30) (pc' := 31) rfl ?_
  refine w_i2b X3 hx (hb hby at_31) (pc' := 32) rfl ?_
  obtain ⟨b2, eb2⟩ : ∃ z : Int32, z = nar .byte (Int8.toInt32 (Int32.toInt8 (Int64.toInt32 (XT.ushrL x0 (16 : Int32))))) := ⟨_, rfl⟩
  refine w_bastoreE (i := 0) (jn := 2) X3 hx hZ N2 P3 rfl hkA1 (hb hby at_32) eb2.symm (by decide) (Nat.le_of_ble_eq_true rfl) (pc' := 33) rfl ?_
  intro T4 L3 N3 X4 P4
  replace P4 : HP n0 T4.heap [AC kA1 [.int b0, .int b1, .int b2, .int (0 : Int32), .int (0 : Int32), .int (0 : Int32), .int (0 : Int32), .int (0 : Int32)]] := P4
  refine w_aload X4 hx (hb hby at_33) rfl rfl (pc' := 35) rfl ?_
  refine w_iconst (v := (3 : Int32)) X4 hx (hb hby at_35) rfl (pc' := 36) rfl ?_
  refine w_lloadN X4 hx (hb hby at_36) rfl (pc' := 37) rfl ?_
  refine w_bipush (v := (24 : Int32)) X4 hx (hb hby at_37) rfl (pc' := 39) rfl ?_
  refine w_lushr X4 hx (hb hby at_39) (pc' := 40) rfl ?_
  refine w_l2i X4 hx (hb hby at_40) (pc' := 41) rfl ?_
  refine w_i2b X4 hx (hb hby at_41) (pc' := 42) rfl ?_
  obtain ⟨b3, eb3⟩ : ∃ z : Int32, z = nar .byte (Int8.toInt32 (Int32.toInt8 (Int64.toInt32 (XT.ushrL x0 (24 : Int32))))) := ⟨_, rfl⟩
  refine w_bastoreE (i := 0) (jn := 3) X4 hx hZ N3 P4 rfl hkA1 (hb hby at_42) eb3.symm (by decide) (Nat.le_of_ble_eq_true rfl) (pc' := 43) rfl ?_
  intro T5 L4 N4 X5 P5
  replace P5 : HP n0 T5.heap [AC kA1 [.int b0, .int b1, .int b2, .int b3, .int (0 : Int32), .int (0 : Int32), .int (0 : Int32), .int (0 : Int32)]] := P5
  refine w_aload X5 hx (hb hby at_43) rfl rfl (pc' := 45) rfl ?_
  refine w_iconst (v := (4 : Int32)) X5 hx (hb hby at_45) rfl (pc' := 46) rfl ?_
  refine w_lloadN X5 hx (hb hby at_46) rfl (pc' := 47) rfl ?_
  refine w_bipush (v := (32 : Int32)) X5 hx (hb hby at_47) rfl (pc' := 49) rfl ?_
  refine w_lushr X5 hx (hb hby at_49) (pc' := 50) rfl ?_
  refine w_l2i X5 hx (hb hby at_50) (pc' := 51) rfl ?_
  refine w_i2b X5 hx (hb hby at_51) (pc' := 52) rfl ?_
  obtain ⟨b4, eb4⟩ : ∃ z : Int32, z = nar .byte (Int8.toInt32 (Int32.toInt8 (Int64.toInt32 (XT.ushrL x0 (32 : Int32))))) := ⟨_, rfl⟩
  refine w_bastoreE (i := 0) (jn := 4) X5 hx hZ N4 P5 rfl hkA1 (hb hby at_52) eb4.symm (by decide) (Nat.le_of_ble_eq_true rfl) (pc' := 53) rfl ?_
  intro T6 L5 N5 X6 P6
  replace P6 : HP n0 T6.heap [AC kA1 [.int b0, .int b1, .int b2, .int b3, .int b4, .int (0 : Int32), .int (0 : Int32), .int (0 : Int32)]] := P6
  refine w_aload X6 hx (hb hby at_53) rfl rfl (pc' := 55) rfl ?_
  refine w_iconst (v := (5 : Int32)) X6 hx (hb hby at_55) rfl (pc' := 56) rfl ?_
  refine w_lloadN X6 hx (hb hby at_56) rfl (pc' := 57) rfl ?_
  refine w_bipush (v := (40 : Int32)) X6 hx (hb hby at_57) rfl (pc' := 59) rfl ?_
  refine w_lushr X6 hx (hb hby at_59) (pc' := 60) rfl ?_
  refine w_l2i X6 hx (hb hby at_60) (pc' := 61) rfl ?_
  refine w_i2b X6 hx (hb hby at_61) (pc' := 62) rfl ?_
  obtain ⟨b5, eb5⟩ : ∃ z : Int32, z = nar .byte (Int8.toInt32 (Int32.toInt8 (Int64.toInt32 (XT.ushrL x0 (40 : Int32))))) := ⟨_, rfl⟩
  refine w_bastoreE (i := 0) (jn := 5) X6 hx hZ N5 P6 rfl hkA1 (hb hby at_62) eb5.symm (by decide) (Nat.le_of_ble_eq_true rfl) (pc' := 63) rfl ?_
  intro T7 L6 N6 X7 P7
  replace P7 : HP n0 T7.heap [AC kA1 [.int b0, .int b1, .int b2, .int b3, .int b4, .int b5, .int (0 : Int32), .int (0 : Int32)]] := P7
  refine w_aload X7 hx (hb hby at_63) rfl rfl (pc' := 65) rfl ?_
  refine w_bipush (v := (6 : Int32)) X7 hx (hb hby at_65) rfl (pc' := 67) rfl ?_
  refine w_lloadN X7 hx (hb hby at_67) rfl (pc' := 68) rfl ?_
  refine w_bipush (v := (48 : Int32)) X7 hx (hb hby at_68) rfl (pc' := 70) rfl ?_
  refine w_lushr X7 hx (hb hby at_70) (pc' := 71) rfl ?_
  refine w_l2i X7 hx (hb hby at_71) (pc' := 72) rfl ?_
  refine w_i2b X7 hx (hb hby at_72) (pc' := 73) rfl ?_
  obtain ⟨b6, eb6⟩ : ∃ z : Int32, z = nar .byte (Int8.toInt32 (Int32.toInt8 (Int64.toInt32 (XT.ushrL x0 (48 : Int32))))) := ⟨_, rfl⟩
  refine w_bastoreE (i := 0) (jn := 6) X7 hx hZ N6 P7 rfl hkA1 (hb hby at_73) eb6.symm (by decide) (Nat.le_of_ble_eq_true rfl) (pc' := 74) rfl ?_
  intro T8 L7 N7 X8 P8
  replace P8 : HP n0 T8.heap [AC kA1 [.int b0, .int b1, .int b2, .int b3, .int b4, .int b5, .int b6, .int (0 : Int32)]] := P8
  refine w_aload X8 hx (hb hby at_74) rfl rfl (pc' := 76) rfl ?_
  refine w_bipush (v := (7 : Int32)) X8 hx (hb hby at_76) rfl (pc' := 78) rfl ?_
  refine w_lloadN X8 hx (hb hby at_78) rfl (pc' := 79) rfl ?_
  refine w_bipush (v := (56 : Int32)) X8 hx (hb hby at_79) rfl (pc' := 81) rfl ?_
  refine w_lushr X8 hx (hb hby at_81) (pc' := 82) rfl ?_
  refine w_l2i X8 hx (hb hby at_82) (pc' := 83) rfl ?_
  refine w_i2b X8 hx (hb hby at_83) (pc' := 84) rfl ?_
  obtain ⟨b7, eb7⟩ : ∃ z : Int32, z = nar .byte (Int8.toInt32 (Int32.toInt8 (Int64.toInt32 (XT.ushrL x0 (56 : Int32))))) := ⟨_, rfl⟩
  refine w_bastoreE (i := 0) (jn := 7) X8 hx hZ N7 P8 rfl hkA1 (hb hby at_84) eb7.symm (by decide) (Nat.le_of_ble_eq_true rfl) (pc' := 85) rfl ?_
  intro T9 L8 N8 X9 P9
  replace P9 : HP n0 T9.heap [AC kA1 [.int b0, .int b1, .int b2, .int b3, .int b4, .int b5, .int b6, .int b7]] := P9
  obtain ⟨B, eB⟩ : ∃ B : List Int32, B = [b0, b1, b2, b3, b4, b5, b6, b7] := ⟨_, rfl⟩
  have hB : B.length = 8 := by rw [eB]; rfl
  replace P9 : HP n0 T9.heap [AC kA1 (List.map Value.int B)] := by rw [eB]; exact P9
  refine w_iloadN X9 hx (hb hby at_85) rfl (pc' := 86) rfl ?_
  refine w_ldc X9 hx (hb hby at_86) hown (mvT hZ (wd1 hw)) (pc' := 88) rfl ?_
  refine w_iand X9 hx (hb hby at_88) (pc' := 89) rfl ?_
  refine w_bipush (v := (9 : Int32)) X9 hx (hb hby at_89) rfl (pc' := 91) rfl ?_
  refine w_irem X9 hx (hb hby at_91) (by decide) (pc' := 92) rfl ?_
  refine w_eqI (z := (Int32.ofNat fr)) efr ?_
  refine w_istore (l' := #[.val (.long x0), .second, .val (.int x1), .val (.int x2), .val (.ref (n0 + 0)), .val (.int (Int32.ofNat fr)), .unset, .unset, .unset]) X9 hx (hb hby at_92) rfl (pc' := 94) rfl ?_
  refine w_iload X9 hx (hb hby at_94) rfl (pc' := 96) rfl ?_
  refine w_iloadN X9 hx (hb hby at_96) rfl (pc' := 97) rfl ?_
  refine w_ldc X9 hx (hb hby at_97) hown (mvT hZ (wd1 hw)) (pc' := 99) rfl ?_
  refine w_iand X9 hx (hb hby at_99) (pc' := 100) rfl ?_
  refine w_bipush (v := (9 : Int32)) X9 hx (hb hby at_100) rfl (pc' := 102) rfl ?_
  refine w_iload X9 hx (hb hby at_102) rfl (pc' := 104) rfl ?_
  refine w_isub X9 hx (hb hby at_104) (pc' := 105) rfl ?_
  refine w_eqI (z := (Int32.ofNat (9 - fr))) (own_osub (a := 9) (b := fr) (by omega)) ?_
  refine w_irem X9 hx (hb hby at_105) (own_nz (by omega) (by omega)) (pc' := 106) rfl ?_
  obtain ⟨lq, hlq, elq⟩ := own_rem x2 (Int32.ofNat (9 - fr)) (9 - fr) (own_oN (by omega)) (by omega)
  refine w_eqI elq ?_
  refine w_iadd X9 hx (hb hby at_106) (pc' := 107) rfl ?_
  refine w_eqI (z := (Int32.ofNat (fr + lq))) (own_oadd fr lq) ?_
  refine w_istore (l' := #[.val (.long x0), .second, .val (.int x1), .val (.int x2), .val (.ref (n0 + 0)), .val (.int (Int32.ofNat fr)), .val (.int (Int32.ofNat (fr + lq))), .unset, .unset]) X9 hx (hb hby at_107) rfl (pc' := 109) rfl ?_
  refine w_iload X9 hx (hb hby at_109) rfl (pc' := 111) rfl ?_
  refine w_istore (l' := #[.val (.long x0), .second, .val (.int x1), .val (.int x2), .val (.ref (n0 + 0)), .val (.int (Int32.ofNat fr)), .val (.int (Int32.ofNat (fr + lq))), .val (.int (Int32.ofNat fr)), .unset]) X9 hx (hb hby at_111) rfl (pc' := 113) rfl ?_
  refine w_aload X9 hx (hb hby at_113) rfl rfl (pc' := 115) rfl ?_
  refine w_iload X9 hx (hb hby at_115) rfl (pc' := 117) rfl ?_
  refine w_iload X9 hx (hb hby at_117) rfl (pc' := 119) rfl ?_
  refine own_call (W := 0) X9 hx hZ rfl hown hml.symm (wd2 hw) (wd3 hw) (wd4 hw) (wd5 hw) (rm_nxt l Z a0 hw [] n0 kA1 B fr (fr + lq) _ P9 hkA1 hB (by omega) (by omega)) (by decide) (by decide) (by decide) (by decide) (by decide) (argsL := [.ref (n0 + 0), .int (Int32.ofNat fr), .int (Int32.ofNat (fr + lq))]) (rest := []) pd1 rfl rfl rfl (Nat.le_of_eq rfl) (hb hby at_119) (pc' := 122) rfl ?_
  intro v10 T10 L9 X10 hq
  obtain ⟨N9, P10, hq⟩ := hq
  replace N9 := Fr.app N8 N9
  rcases hq with ⟨ht0, hz0, rfl⟩ | ⟨ht0, hz0, rfl⟩ | ⟨ht0, rfl⟩
  · refine w_istore (l' := #[.val (.long x0), .second, .val (.int x1), .val (.int x2), .val (.ref (n0 + 0)), .val (.int (Int32.ofNat fr)), .val (.int (Int32.ofNat (fr + lq))), .val (.int ((-2 : Int32) - (Int32.ofNat fr))), .unset]) X10 hx (hb hby at_122) rfl (pc' := 124) rfl ?_
    refine w_aload X10 hx (hb hby at_124) rfl rfl (pc' := 126) rfl ?_
    refine w_iload X10 hx (hb hby at_126) rfl (pc' := 128) rfl ?_
    refine w_iload X10 hx (hb hby at_128) rfl (pc' := 130) rfl ?_
    refine own_call (W := 0) X10 hx hZ rfl hown hml.symm (wd2 hw) (wd3 hw) (wd4 hw) (wd5 hw) (rm_nxn l Z a0 hw [] n0 kA1 B ((-2 : Int32) - (Int32.ofNat fr)) (fr + lq) _ P10 (own_neg (by omega))) (by decide) (by decide) (by decide) (by decide) (by decide) (argsL := [.ref (n0 + 0), .int ((-2 : Int32) - (Int32.ofNat fr)), .int (Int32.ofNat (fr + lq))]) (rest := []) pd1 rfl rfl rfl (Nat.le_of_eq rfl) (hb hby at_130) (pc' := 133) rfl ?_
    intro v11 T11 L10 X11 hq
    obtain ⟨rfl, N10, P11⟩ := hq
    replace N10 := Fr.app N9 N10
    refine w_istore (l' := #[.val (.long x0), .second, .val (.int x1), .val (.int x2), .val (.ref (n0 + 0)), .val (.int (Int32.ofNat fr)), .val (.int (Int32.ofNat (fr + lq))), .val (.int ((-2 : Int32) - (Int32.ofNat fr))), .unset]) X11 hx (hb hby at_133) rfl (pc' := 135) rfl ?_
    refine w_aload X11 hx (hb hby at_135) rfl rfl (pc' := 137) rfl ?_
    refine w_iload X11 hx (hb hby at_137) rfl (pc' := 139) rfl ?_
    refine w_iload X11 hx (hb hby at_139) rfl (pc' := 141) rfl ?_
    refine own_call (W := 0) X11 hx hZ rfl hown hml.symm (wd2 hw) (wd3 hw) (wd4 hw) (wd5 hw) (rm_nxn l Z a0 hw [] n0 kA1 B ((-2 : Int32) - (Int32.ofNat fr)) (fr + lq) _ P11 (own_neg (by omega))) (by decide) (by decide) (by decide) (by decide) (by decide) (argsL := [.ref (n0 + 0), .int ((-2 : Int32) - (Int32.ofNat fr)), .int (Int32.ofNat (fr + lq))]) (rest := []) pd1 rfl rfl rfl (Nat.le_of_eq rfl) (hb hby at_141) (pc' := 144) rfl ?_
    intro v12 T12 L11 X12 hq
    obtain ⟨rfl, N11, P12⟩ := hq
    replace N11 := Fr.app N10 N11
    refine w_istore (l' := #[.val (.long x0), .second, .val (.int x1), .val (.int x2), .val (.ref (n0 + 0)), .val (.int (Int32.ofNat fr)), .val (.int (Int32.ofNat (fr + lq))), .val (.int ((-2 : Int32) - (Int32.ofNat fr))), .unset]) X12 hx (hb hby at_144) rfl (pc' := 146) rfl ?_
    refine w_aload X12 hx (hb hby at_146) rfl rfl (pc' := 148) rfl ?_
    refine w_iload X12 hx (hb hby at_148) rfl (pc' := 150) rfl ?_
    refine w_iload X12 hx (hb hby at_150) rfl (pc' := 152) rfl ?_
    refine own_call (W := 0) X12 hx hZ rfl hown hml.symm (wd2 hw) (wd3 hw) (wd4 hw) (wd5 hw) (rm_nxn l Z a0 hw [] n0 kA1 B ((-2 : Int32) - (Int32.ofNat fr)) (fr + lq) _ P12 (own_neg (by omega))) (by decide) (by decide) (by decide) (by decide) (by decide) (argsL := [.ref (n0 + 0), .int ((-2 : Int32) - (Int32.ofNat fr)), .int (Int32.ofNat (fr + lq))]) (rest := []) pd1 rfl rfl rfl (Nat.le_of_eq rfl) (hb hby at_152) (pc' := 155) rfl ?_
    intro v13 T13 L12 X13 hq
    obtain ⟨rfl, N12, P13⟩ := hq
    replace N12 := Fr.app N11 N12
    refine w_istore (l' := #[.val (.long x0), .second, .val (.int x1), .val (.int x2), .val (.ref (n0 + 0)), .val (.int (Int32.ofNat fr)), .val (.int (Int32.ofNat (fr + lq))), .val (.int ((-2 : Int32) - (Int32.ofNat fr))), .unset]) X13 hx (hb hby at_155) rfl (pc' := 157) rfl ?_
    refine w_aload X13 hx (hb hby at_157) rfl rfl (pc' := 159) rfl ?_
    refine w_iload X13 hx (hb hby at_159) rfl (pc' := 161) rfl ?_
    refine w_iload X13 hx (hb hby at_161) rfl (pc' := 163) rfl ?_
    refine own_call (W := 0) X13 hx hZ rfl hown hml.symm (wd2 hw) (wd3 hw) (wd4 hw) (wd5 hw) (rm_nxn l Z a0 hw [] n0 kA1 B ((-2 : Int32) - (Int32.ofNat fr)) (fr + lq) _ P13 (own_neg (by omega))) (by decide) (by decide) (by decide) (by decide) (by decide) (argsL := [.ref (n0 + 0), .int ((-2 : Int32) - (Int32.ofNat fr)), .int (Int32.ofNat (fr + lq))]) (rest := []) pd1 rfl rfl rfl (Nat.le_of_eq rfl) (hb hby at_163) (pc' := 166) rfl ?_
    intro v14 T14 L13 X14 hq
    obtain ⟨rfl, N13, P14⟩ := hq
    replace N13 := Fr.app N12 N13
    refine w_istore (l' := #[.val (.long x0), .second, .val (.int x1), .val (.int x2), .val (.ref (n0 + 0)), .val (.int (Int32.ofNat fr)), .val (.int (Int32.ofNat (fr + lq))), .val (.int ((-2 : Int32) - (Int32.ofNat fr))), .unset]) X14 hx (hb hby at_166) rfl (pc' := 168) rfl ?_
    refine w_aload X14 hx (hb hby at_168) rfl rfl (pc' := 170) rfl ?_
    refine w_iload X14 hx (hb hby at_170) rfl (pc' := 172) rfl ?_
    refine w_iload X14 hx (hb hby at_172) rfl (pc' := 174) rfl ?_
    refine own_call (W := 0) X14 hx hZ rfl hown hml.symm (wd2 hw) (wd3 hw) (wd4 hw) (wd5 hw) (rm_nxn l Z a0 hw [] n0 kA1 B ((-2 : Int32) - (Int32.ofNat fr)) (fr + lq) _ P14 (own_neg (by omega))) (by decide) (by decide) (by decide) (by decide) (by decide) (argsL := [.ref (n0 + 0), .int ((-2 : Int32) - (Int32.ofNat fr)), .int (Int32.ofNat (fr + lq))]) (rest := []) pd1 rfl rfl rfl (Nat.le_of_eq rfl) (hb hby at_174) (pc' := 177) rfl ?_
    intro v15 T15 L14 X15 hq
    obtain ⟨rfl, N14, P15⟩ := hq
    replace N14 := Fr.app N13 N14
    refine w_istore (l' := #[.val (.long x0), .second, .val (.int x1), .val (.int x2), .val (.ref (n0 + 0)), .val (.int (Int32.ofNat fr)), .val (.int (Int32.ofNat (fr + lq))), .val (.int ((-2 : Int32) - (Int32.ofNat fr))), .unset]) X15 hx (hb hby at_177) rfl (pc' := 179) rfl ?_
    refine w_aload X15 hx (hb hby at_179) rfl rfl (pc' := 181) rfl ?_
    refine w_iload X15 hx (hb hby at_181) rfl (pc' := 183) rfl ?_
    refine w_iload X15 hx (hb hby at_183) rfl (pc' := 185) rfl ?_
    refine own_call (W := 0) X15 hx hZ rfl hown hml.symm (wd2 hw) (wd3 hw) (wd4 hw) (wd5 hw) (rm_nxn l Z a0 hw [] n0 kA1 B ((-2 : Int32) - (Int32.ofNat fr)) (fr + lq) _ P15 (own_neg (by omega))) (by decide) (by decide) (by decide) (by decide) (by decide) (argsL := [.ref (n0 + 0), .int ((-2 : Int32) - (Int32.ofNat fr)), .int (Int32.ofNat (fr + lq))]) (rest := []) pd1 rfl rfl rfl (Nat.le_of_eq rfl) (hb hby at_185) (pc' := 188) rfl ?_
    intro v16 T16 L15 X16 hq
    obtain ⟨rfl, N15, P16⟩ := hq
    replace N15 := Fr.app N14 N15
    refine w_istore (l' := #[.val (.long x0), .second, .val (.int x1), .val (.int x2), .val (.ref (n0 + 0)), .val (.int (Int32.ofNat fr)), .val (.int (Int32.ofNat (fr + lq))), .val (.int ((-2 : Int32) - (Int32.ofNat fr))), .unset]) X16 hx (hb hby at_188) rfl (pc' := 190) rfl ?_
    refine w_aload X16 hx (hb hby at_190) rfl rfl (pc' := 192) rfl ?_
    refine w_iload X16 hx (hb hby at_192) rfl (pc' := 194) rfl ?_
    refine w_iload X16 hx (hb hby at_194) rfl (pc' := 196) rfl ?_
    refine own_call (W := 0) X16 hx hZ rfl hown hml.symm (wd2 hw) (wd3 hw) (wd4 hw) (wd5 hw) (rm_nxn l Z a0 hw [] n0 kA1 B ((-2 : Int32) - (Int32.ofNat fr)) (fr + lq) _ P16 (own_neg (by omega))) (by decide) (by decide) (by decide) (by decide) (by decide) (argsL := [.ref (n0 + 0), .int ((-2 : Int32) - (Int32.ofNat fr)), .int (Int32.ofNat (fr + lq))]) (rest := []) pd1 rfl rfl rfl (Nat.le_of_eq rfl) (hb hby at_196) (pc' := 199) rfl ?_
    intro v17 T17 L16 X17 hq
    obtain ⟨rfl, N16, P17⟩ := hq
    replace N16 := Fr.app N15 N16
    refine w_istore (l' := #[.val (.long x0), .second, .val (.int x1), .val (.int x2), .val (.ref (n0 + 0)), .val (.int (Int32.ofNat fr)), .val (.int (Int32.ofNat (fr + lq))), .val (.int ((-2 : Int32) - (Int32.ofNat fr))), .unset]) X17 hx (hb hby at_199) rfl (pc' := 201) rfl ?_
    refine w_iload X17 hx (hb hby at_201) rfl (pc' := 203) rfl ?_
    refine w_if_ge X17 hx (hb hby at_203) (by decide) (pcY := 214) (by decide) (pc' := 206) rfl (fun h0 => absurd (own_neg (by omega)) h0) (fun h0 => ?_)
    refine w_bipush (v := (-2 : Int32)) X17 hx (hb hby at_206) rfl (pc' := 208) rfl ?_
    refine w_iload X17 hx (hb hby at_208) rfl (pc' := 210) rfl ?_
    refine w_isub X17 hx (hb hby at_210) (pc' := 211) rfl ?_
    refine w_eqI (z := (Int32.ofNat fr)) (own_neg2 (by omega)) ?_
    refine w_goto X17 hx (hb hby at_211) (by decide) (pc' := 215) (by decide) ?_
    refine w_istore (l' := #[.val (.long x0), .second, .val (.int x1), .val (.int x2), .val (.ref (n0 + 0)), .val (.int (Int32.ofNat fr)), .val (.int (Int32.ofNat (fr + lq))), .val (.int ((-2 : Int32) - (Int32.ofNat fr))), .val (.int (Int32.ofNat fr))]) X17 hx (hb hby at_215) rfl (pc' := 217) rfl ?_
    refine w_aload X17 hx (hb hby at_217) rfl rfl (pc' := 219) rfl ?_
    refine w_iload X17 hx (hb hby at_219) rfl (pc' := 221) rfl ?_
    refine w_iload X17 hx (hb hby at_221) rfl (pc' := 223) rfl ?_
    refine own_call (W := 0) X17 hx hZ rfl hown hml.symm (wd9 hw) (wd10 hw) (wd11 hw) (wd12 hw) (rm_fin l Z a0 hw [] n0 kA1 B fr (fr + lq) _ P17 hkA1 hB (by omega) (by omega)) (by decide) (by decide) (by decide) (by decide) (by decide) (argsL := [.ref (n0 + 0), .int (Int32.ofNat fr), .int (Int32.ofNat (fr + lq))]) (rest := []) pd3 rfl rfl rfl (Nat.le_of_eq rfl) (hb hby at_223) (pc' := 226) rfl ?_
    intro v18 T18 L17 X18 hq
    obtain ⟨rfl, N17, P18⟩ := hq
    replace N17 := Fr.app N16 N17
    refine w_iload X18 hx (hb hby at_226) rfl (pc' := 228) rfl ?_
    refine w_icmp_ne X18 hx (hb hby at_228) (by decide) (pcY := 235) (by decide) (pc' := 231) rfl (fun h1 => absurd (by rw [own_fi, if_pos ht0, if_pos hz0]) h1) (fun h1 => ?_)
    refine w_iconst (v := (1 : Int32)) X18 hx (hb hby at_231) rfl (pc' := 232) rfl ?_
    refine w_goto X18 hx (hb hby at_232) (by decide) (pc' := 236) (by decide) ?_
    exact w_ret_n (t := .boolean) X18 hx hret hlk (by simp) (hb hby at_236) (z' := (1 : Int32)) rfl (by decide) (by decide) ⟨rfl, N17⟩
  · obtain ⟨a1, ea1⟩ : ∃ z, z = fr + own_k B (fr + lq) fr := ⟨_, rfl⟩
    have hl0 : fr + 1 ≤ a1 ∧ a1 ≤ (fr + lq) := by have hkb := own_kb B (fr + lq) fr ht0; omega
    rw [← ea1]
    replace hz0 : own_hid (¬ own_k B (fr + lq) fr = 0) := hz0
    replace ea1 : own_hid (a1 = fr + own_k B (fr + lq) fr) := ea1
    refine w_istore (l' := #[.val (.long x0), .second, .val (.int x1), .val (.int x2), .val (.ref (n0 + 0)), .val (.int (Int32.ofNat fr)), .val (.int (Int32.ofNat (fr + lq))), .val (.int (Int32.ofNat a1)), .unset]) X10 hx (hb hby at_122) rfl (pc' := 124) rfl ?_
    refine w_aload X10 hx (hb hby at_124) rfl rfl (pc' := 126) rfl ?_
    refine w_iload X10 hx (hb hby at_126) rfl (pc' := 128) rfl ?_
    refine w_iload X10 hx (hb hby at_128) rfl (pc' := 130) rfl ?_
    refine own_call (W := 0) X10 hx hZ rfl hown hml.symm (wd2 hw) (wd3 hw) (wd4 hw) (wd5 hw) (rm_nxt l Z a0 hw [] n0 kA1 B a1 (fr + lq) _ P10 hkA1 hB (by omega) (by omega)) (by decide) (by decide) (by decide) (by decide) (by decide) (argsL := [.ref (n0 + 0), .int (Int32.ofNat a1), .int (Int32.ofNat (fr + lq))]) (rest := []) pd1 rfl rfl rfl (Nat.le_of_eq rfl) (hb hby at_130) (pc' := 133) rfl ?_
    intro v19 T19 L18 X19 hq
    obtain ⟨N18, P19, hq⟩ := hq
    replace N18 := Fr.app N9 N18
    rcases hq with ⟨ht1, hz1, rfl⟩ | ⟨ht1, hz1, rfl⟩ | ⟨ht1, rfl⟩
    · refine w_istore (l' := #[.val (.long x0), .second, .val (.int x1), .val (.int x2), .val (.ref (n0 + 0)), .val (.int (Int32.ofNat fr)), .val (.int (Int32.ofNat (fr + lq))), .val (.int ((-2 : Int32) - (Int32.ofNat a1))), .unset]) X19 hx (hb hby at_133) rfl (pc' := 135) rfl ?_
      refine w_aload X19 hx (hb hby at_135) rfl rfl (pc' := 137) rfl ?_
      refine w_iload X19 hx (hb hby at_137) rfl (pc' := 139) rfl ?_
      refine w_iload X19 hx (hb hby at_139) rfl (pc' := 141) rfl ?_
      refine own_call (W := 0) X19 hx hZ rfl hown hml.symm (wd2 hw) (wd3 hw) (wd4 hw) (wd5 hw) (rm_nxn l Z a0 hw [] n0 kA1 B ((-2 : Int32) - (Int32.ofNat a1)) (fr + lq) _ P19 (own_neg (by omega))) (by decide) (by decide) (by decide) (by decide) (by decide) (argsL := [.ref (n0 + 0), .int ((-2 : Int32) - (Int32.ofNat a1)), .int (Int32.ofNat (fr + lq))]) (rest := []) pd1 rfl rfl rfl (Nat.le_of_eq rfl) (hb hby at_141) (pc' := 144) rfl ?_
      intro v20 T20 L19 X20 hq
      obtain ⟨rfl, N19, P20⟩ := hq
      replace N19 := Fr.app N18 N19
      refine w_istore (l' := #[.val (.long x0), .second, .val (.int x1), .val (.int x2), .val (.ref (n0 + 0)), .val (.int (Int32.ofNat fr)), .val (.int (Int32.ofNat (fr + lq))), .val (.int ((-2 : Int32) - (Int32.ofNat a1))), .unset]) X20 hx (hb hby at_144) rfl (pc' := 146) rfl ?_
      refine w_aload X20 hx (hb hby at_146) rfl rfl (pc' := 148) rfl ?_
      refine w_iload X20 hx (hb hby at_148) rfl (pc' := 150) rfl ?_
      refine w_iload X20 hx (hb hby at_150) rfl (pc' := 152) rfl ?_
      refine own_call (W := 0) X20 hx hZ rfl hown hml.symm (wd2 hw) (wd3 hw) (wd4 hw) (wd5 hw) (rm_nxn l Z a0 hw [] n0 kA1 B ((-2 : Int32) - (Int32.ofNat a1)) (fr + lq) _ P20 (own_neg (by omega))) (by decide) (by decide) (by decide) (by decide) (by decide) (argsL := [.ref (n0 + 0), .int ((-2 : Int32) - (Int32.ofNat a1)), .int (Int32.ofNat (fr + lq))]) (rest := []) pd1 rfl rfl rfl (Nat.le_of_eq rfl) (hb hby at_152) (pc' := 155) rfl ?_
      intro v21 T21 L20 X21 hq
      obtain ⟨rfl, N20, P21⟩ := hq
      replace N20 := Fr.app N19 N20
      refine w_istore (l' := #[.val (.long x0), .second, .val (.int x1), .val (.int x2), .val (.ref (n0 + 0)), .val (.int (Int32.ofNat fr)), .val (.int (Int32.ofNat (fr + lq))), .val (.int ((-2 : Int32) - (Int32.ofNat a1))), .unset]) X21 hx (hb hby at_155) rfl (pc' := 157) rfl ?_
      refine w_aload X21 hx (hb hby at_157) rfl rfl (pc' := 159) rfl ?_
      refine w_iload X21 hx (hb hby at_159) rfl (pc' := 161) rfl ?_
      refine w_iload X21 hx (hb hby at_161) rfl (pc' := 163) rfl ?_
      refine own_call (W := 0) X21 hx hZ rfl hown hml.symm (wd2 hw) (wd3 hw) (wd4 hw) (wd5 hw) (rm_nxn l Z a0 hw [] n0 kA1 B ((-2 : Int32) - (Int32.ofNat a1)) (fr + lq) _ P21 (own_neg (by omega))) (by decide) (by decide) (by decide) (by decide) (by decide) (argsL := [.ref (n0 + 0), .int ((-2 : Int32) - (Int32.ofNat a1)), .int (Int32.ofNat (fr + lq))]) (rest := []) pd1 rfl rfl rfl (Nat.le_of_eq rfl) (hb hby at_163) (pc' := 166) rfl ?_
      intro v22 T22 L21 X22 hq
      obtain ⟨rfl, N21, P22⟩ := hq
      replace N21 := Fr.app N20 N21
      refine w_istore (l' := #[.val (.long x0), .second, .val (.int x1), .val (.int x2), .val (.ref (n0 + 0)), .val (.int (Int32.ofNat fr)), .val (.int (Int32.ofNat (fr + lq))), .val (.int ((-2 : Int32) - (Int32.ofNat a1))), .unset]) X22 hx (hb hby at_166) rfl (pc' := 168) rfl ?_
      refine w_aload X22 hx (hb hby at_168) rfl rfl (pc' := 170) rfl ?_
      refine w_iload X22 hx (hb hby at_170) rfl (pc' := 172) rfl ?_
      refine w_iload X22 hx (hb hby at_172) rfl (pc' := 174) rfl ?_
      refine own_call (W := 0) X22 hx hZ rfl hown hml.symm (wd2 hw) (wd3 hw) (wd4 hw) (wd5 hw) (rm_nxn l Z a0 hw [] n0 kA1 B ((-2 : Int32) - (Int32.ofNat a1)) (fr + lq) _ P22 (own_neg (by omega))) (by decide) (by decide) (by decide) (by decide) (by decide) (argsL := [.ref (n0 + 0), .int ((-2 : Int32) - (Int32.ofNat a1)), .int (Int32.ofNat (fr + lq))]) (rest := []) pd1 rfl rfl rfl (Nat.le_of_eq rfl) (hb hby at_174) (pc' := 177) rfl ?_
      intro v23 T23 L22 X23 hq
      obtain ⟨rfl, N22, P23⟩ := hq
      replace N22 := Fr.app N21 N22
      refine w_istore (l' := #[.val (.long x0), .second, .val (.int x1), .val (.int x2), .val (.ref (n0 + 0)), .val (.int (Int32.ofNat fr)), .val (.int (Int32.ofNat (fr + lq))), .val (.int ((-2 : Int32) - (Int32.ofNat a1))), .unset]) X23 hx (hb hby at_177) rfl (pc' := 179) rfl ?_
      refine w_aload X23 hx (hb hby at_179) rfl rfl (pc' := 181) rfl ?_
      refine w_iload X23 hx (hb hby at_181) rfl (pc' := 183) rfl ?_
      refine w_iload X23 hx (hb hby at_183) rfl (pc' := 185) rfl ?_
      refine own_call (W := 0) X23 hx hZ rfl hown hml.symm (wd2 hw) (wd3 hw) (wd4 hw) (wd5 hw) (rm_nxn l Z a0 hw [] n0 kA1 B ((-2 : Int32) - (Int32.ofNat a1)) (fr + lq) _ P23 (own_neg (by omega))) (by decide) (by decide) (by decide) (by decide) (by decide) (argsL := [.ref (n0 + 0), .int ((-2 : Int32) - (Int32.ofNat a1)), .int (Int32.ofNat (fr + lq))]) (rest := []) pd1 rfl rfl rfl (Nat.le_of_eq rfl) (hb hby at_185) (pc' := 188) rfl ?_
      intro v24 T24 L23 X24 hq
      obtain ⟨rfl, N23, P24⟩ := hq
      replace N23 := Fr.app N22 N23
      refine w_istore (l' := #[.val (.long x0), .second, .val (.int x1), .val (.int x2), .val (.ref (n0 + 0)), .val (.int (Int32.ofNat fr)), .val (.int (Int32.ofNat (fr + lq))), .val (.int ((-2 : Int32) - (Int32.ofNat a1))), .unset]) X24 hx (hb hby at_188) rfl (pc' := 190) rfl ?_
      refine w_aload X24 hx (hb hby at_190) rfl rfl (pc' := 192) rfl ?_
      refine w_iload X24 hx (hb hby at_192) rfl (pc' := 194) rfl ?_
      refine w_iload X24 hx (hb hby at_194) rfl (pc' := 196) rfl ?_
      refine own_call (W := 0) X24 hx hZ rfl hown hml.symm (wd2 hw) (wd3 hw) (wd4 hw) (wd5 hw) (rm_nxn l Z a0 hw [] n0 kA1 B ((-2 : Int32) - (Int32.ofNat a1)) (fr + lq) _ P24 (own_neg (by omega))) (by decide) (by decide) (by decide) (by decide) (by decide) (argsL := [.ref (n0 + 0), .int ((-2 : Int32) - (Int32.ofNat a1)), .int (Int32.ofNat (fr + lq))]) (rest := []) pd1 rfl rfl rfl (Nat.le_of_eq rfl) (hb hby at_196) (pc' := 199) rfl ?_
      intro v25 T25 L24 X25 hq
      obtain ⟨rfl, N24, P25⟩ := hq
      replace N24 := Fr.app N23 N24
      refine w_istore (l' := #[.val (.long x0), .second, .val (.int x1), .val (.int x2), .val (.ref (n0 + 0)), .val (.int (Int32.ofNat fr)), .val (.int (Int32.ofNat (fr + lq))), .val (.int ((-2 : Int32) - (Int32.ofNat a1))), .unset]) X25 hx (hb hby at_199) rfl (pc' := 201) rfl ?_
      refine w_iload X25 hx (hb hby at_201) rfl (pc' := 203) rfl ?_
      refine w_if_ge X25 hx (hb hby at_203) (by decide) (pcY := 214) (by decide) (pc' := 206) rfl (fun h2 => absurd (own_neg (by omega)) h2) (fun h2 => ?_)
      refine w_bipush (v := (-2 : Int32)) X25 hx (hb hby at_206) rfl (pc' := 208) rfl ?_
      refine w_iload X25 hx (hb hby at_208) rfl (pc' := 210) rfl ?_
      refine w_isub X25 hx (hb hby at_210) (pc' := 211) rfl ?_
      refine w_eqI (z := (Int32.ofNat a1)) (own_neg2 (by omega)) ?_
      refine w_goto X25 hx (hb hby at_211) (by decide) (pc' := 215) (by decide) ?_
      refine w_istore (l' := #[.val (.long x0), .second, .val (.int x1), .val (.int x2), .val (.ref (n0 + 0)), .val (.int (Int32.ofNat fr)), .val (.int (Int32.ofNat (fr + lq))), .val (.int ((-2 : Int32) - (Int32.ofNat a1))), .val (.int (Int32.ofNat a1))]) X25 hx (hb hby at_215) rfl (pc' := 217) rfl ?_
      refine w_aload X25 hx (hb hby at_217) rfl rfl (pc' := 219) rfl ?_
      refine w_iload X25 hx (hb hby at_219) rfl (pc' := 221) rfl ?_
      refine w_iload X25 hx (hb hby at_221) rfl (pc' := 223) rfl ?_
      refine own_call (W := 0) X25 hx hZ rfl hown hml.symm (wd9 hw) (wd10 hw) (wd11 hw) (wd12 hw) (rm_fin l Z a0 hw [] n0 kA1 B fr (fr + lq) _ P25 hkA1 hB (by omega) (by omega)) (by decide) (by decide) (by decide) (by decide) (by decide) (argsL := [.ref (n0 + 0), .int (Int32.ofNat fr), .int (Int32.ofNat (fr + lq))]) (rest := []) pd3 rfl rfl rfl (Nat.le_of_eq rfl) (hb hby at_223) (pc' := 226) rfl ?_
      intro v26 T26 L25 X26 hq
      obtain ⟨rfl, N25, P26⟩ := hq
      replace N25 := Fr.app N24 N25
      refine w_iload X26 hx (hb hby at_226) rfl (pc' := 228) rfl ?_
      refine w_icmp_ne X26 hx (hb hby at_228) (by decide) (pcY := 235) (by decide) (pc' := 231) rfl (fun h3 => absurd (by rw [own_fi, if_pos ht0, if_neg hz0, ← (show a1 = fr + own_k B (fr + lq) fr from ea1), own_fi, if_pos ht1, if_pos hz1]) h3) (fun h3 => ?_)
      refine w_iconst (v := (1 : Int32)) X26 hx (hb hby at_231) rfl (pc' := 232) rfl ?_
      refine w_goto X26 hx (hb hby at_232) (by decide) (pc' := 236) (by decide) ?_
      exact w_ret_n (t := .boolean) X26 hx hret hlk (by simp) (hb hby at_236) (z' := (1 : Int32)) rfl (by decide) (by decide) ⟨rfl, N25⟩
    · obtain ⟨a2, ea2⟩ : ∃ z, z = a1 + own_k B (fr + lq) a1 := ⟨_, rfl⟩
      have hl1 : a1 + 1 ≤ a2 ∧ a2 ≤ (fr + lq) := by have hkb := own_kb B (fr + lq) a1 ht1; omega
      rw [← ea2]
      replace hz1 : own_hid (¬ own_k B (fr + lq) a1 = 0) := hz1
      replace ea2 : own_hid (a2 = a1 + own_k B (fr + lq) a1) := ea2
      refine w_istore (l' := #[.val (.long x0), .second, .val (.int x1), .val (.int x2), .val (.ref (n0 + 0)), .val (.int (Int32.ofNat fr)), .val (.int (Int32.ofNat (fr + lq))), .val (.int (Int32.ofNat a2)), .unset]) X19 hx (hb hby at_133) rfl (pc' := 135) rfl ?_
      refine w_aload X19 hx (hb hby at_135) rfl rfl (pc' := 137) rfl ?_
      refine w_iload X19 hx (hb hby at_137) rfl (pc' := 139) rfl ?_
      refine w_iload X19 hx (hb hby at_139) rfl (pc' := 141) rfl ?_
      refine own_call (W := 0) X19 hx hZ rfl hown hml.symm (wd2 hw) (wd3 hw) (wd4 hw) (wd5 hw) (rm_nxt l Z a0 hw [] n0 kA1 B a2 (fr + lq) _ P19 hkA1 hB (by omega) (by omega)) (by decide) (by decide) (by decide) (by decide) (by decide) (argsL := [.ref (n0 + 0), .int (Int32.ofNat a2), .int (Int32.ofNat (fr + lq))]) (rest := []) pd1 rfl rfl rfl (Nat.le_of_eq rfl) (hb hby at_141) (pc' := 144) rfl ?_
      intro v27 T27 L26 X27 hq
      obtain ⟨N26, P27, hq⟩ := hq
      replace N26 := Fr.app N18 N26
      rcases hq with ⟨ht2, hz2, rfl⟩ | ⟨ht2, hz2, rfl⟩ | ⟨ht2, rfl⟩
      · refine w_istore (l' := #[.val (.long x0), .second, .val (.int x1), .val (.int x2), .val (.ref (n0 + 0)), .val (.int (Int32.ofNat fr)), .val (.int (Int32.ofNat (fr + lq))), .val (.int ((-2 : Int32) - (Int32.ofNat a2))), .unset]) X27 hx (hb hby at_144) rfl (pc' := 146) rfl ?_
        refine w_aload X27 hx (hb hby at_146) rfl rfl (pc' := 148) rfl ?_
        refine w_iload X27 hx (hb hby at_148) rfl (pc' := 150) rfl ?_
        refine w_iload X27 hx (hb hby at_150) rfl (pc' := 152) rfl ?_
        refine own_call (W := 0) X27 hx hZ rfl hown hml.symm (wd2 hw) (wd3 hw) (wd4 hw) (wd5 hw) (rm_nxn l Z a0 hw [] n0 kA1 B ((-2 : Int32) - (Int32.ofNat a2)) (fr + lq) _ P27 (own_neg (by omega))) (by decide) (by decide) (by decide) (by decide) (by decide) (argsL := [.ref (n0 + 0), .int ((-2 : Int32) - (Int32.ofNat a2)), .int (Int32.ofNat (fr + lq))]) (rest := []) pd1 rfl rfl rfl (Nat.le_of_eq rfl) (hb hby at_152) (pc' := 155) rfl ?_
        intro v28 T28 L27 X28 hq
        obtain ⟨rfl, N27, P28⟩ := hq
        replace N27 := Fr.app N26 N27
        refine w_istore (l' := #[.val (.long x0), .second, .val (.int x1), .val (.int x2), .val (.ref (n0 + 0)), .val (.int (Int32.ofNat fr)), .val (.int (Int32.ofNat (fr + lq))), .val (.int ((-2 : Int32) - (Int32.ofNat a2))), .unset]) X28 hx (hb hby at_155) rfl (pc' := 157) rfl ?_
        refine w_aload X28 hx (hb hby at_157) rfl rfl (pc' := 159) rfl ?_
        refine w_iload X28 hx (hb hby at_159) rfl (pc' := 161) rfl ?_
        refine w_iload X28 hx (hb hby at_161) rfl (pc' := 163) rfl ?_
        refine own_call (W := 0) X28 hx hZ rfl hown hml.symm (wd2 hw) (wd3 hw) (wd4 hw) (wd5 hw) (rm_nxn l Z a0 hw [] n0 kA1 B ((-2 : Int32) - (Int32.ofNat a2)) (fr + lq) _ P28 (own_neg (by omega))) (by decide) (by decide) (by decide) (by decide) (by decide) (argsL := [.ref (n0 + 0), .int ((-2 : Int32) - (Int32.ofNat a2)), .int (Int32.ofNat (fr + lq))]) (rest := []) pd1 rfl rfl rfl (Nat.le_of_eq rfl) (hb hby at_163) (pc' := 166) rfl ?_
        intro v29 T29 L28 X29 hq
        obtain ⟨rfl, N28, P29⟩ := hq
        replace N28 := Fr.app N27 N28
        refine w_istore (l' := #[.val (.long x0), .second, .val (.int x1), .val (.int x2), .val (.ref (n0 + 0)), .val (.int (Int32.ofNat fr)), .val (.int (Int32.ofNat (fr + lq))), .val (.int ((-2 : Int32) - (Int32.ofNat a2))), .unset]) X29 hx (hb hby at_166) rfl (pc' := 168) rfl ?_
        refine w_aload X29 hx (hb hby at_168) rfl rfl (pc' := 170) rfl ?_
        refine w_iload X29 hx (hb hby at_170) rfl (pc' := 172) rfl ?_
        refine w_iload X29 hx (hb hby at_172) rfl (pc' := 174) rfl ?_
        refine own_call (W := 0) X29 hx hZ rfl hown hml.symm (wd2 hw) (wd3 hw) (wd4 hw) (wd5 hw) (rm_nxn l Z a0 hw [] n0 kA1 B ((-2 : Int32) - (Int32.ofNat a2)) (fr + lq) _ P29 (own_neg (by omega))) (by decide) (by decide) (by decide) (by decide) (by decide) (argsL := [.ref (n0 + 0), .int ((-2 : Int32) - (Int32.ofNat a2)), .int (Int32.ofNat (fr + lq))]) (rest := []) pd1 rfl rfl rfl (Nat.le_of_eq rfl) (hb hby at_174) (pc' := 177) rfl ?_
        intro v30 T30 L29 X30 hq
        obtain ⟨rfl, N29, P30⟩ := hq
        replace N29 := Fr.app N28 N29
        refine w_istore (l' := #[.val (.long x0), .second, .val (.int x1), .val (.int x2), .val (.ref (n0 + 0)), .val (.int (Int32.ofNat fr)), .val (.int (Int32.ofNat (fr + lq))), .val (.int ((-2 : Int32) - (Int32.ofNat a2))), .unset]) X30 hx (hb hby at_177) rfl (pc' := 179) rfl ?_
        refine w_aload X30 hx (hb hby at_179) rfl rfl (pc' := 181) rfl ?_
        refine w_iload X30 hx (hb hby at_181) rfl (pc' := 183) rfl ?_
        refine w_iload X30 hx (hb hby at_183) rfl (pc' := 185) rfl ?_
        refine own_call (W := 0) X30 hx hZ rfl hown hml.symm (wd2 hw) (wd3 hw) (wd4 hw) (wd5 hw) (rm_nxn l Z a0 hw [] n0 kA1 B ((-2 : Int32) - (Int32.ofNat a2)) (fr + lq) _ P30 (own_neg (by omega))) (by decide) (by decide) (by decide) (by decide) (by decide) (argsL := [.ref (n0 + 0), .int ((-2 : Int32) - (Int32.ofNat a2)), .int (Int32.ofNat (fr + lq))]) (rest := []) pd1 rfl rfl rfl (Nat.le_of_eq rfl) (hb hby at_185) (pc' := 188) rfl ?_
        intro v31 T31 L30 X31 hq
        obtain ⟨rfl, N30, P31⟩ := hq
        replace N30 := Fr.app N29 N30
        refine w_istore (l' := #[.val (.long x0), .second, .val (.int x1), .val (.int x2), .val (.ref (n0 + 0)), .val (.int (Int32.ofNat fr)), .val (.int (Int32.ofNat (fr + lq))), .val (.int ((-2 : Int32) - (Int32.ofNat a2))), .unset]) X31 hx (hb hby at_188) rfl (pc' := 190) rfl ?_
        refine w_aload X31 hx (hb hby at_190) rfl rfl (pc' := 192) rfl ?_
        refine w_iload X31 hx (hb hby at_192) rfl (pc' := 194) rfl ?_
        refine w_iload X31 hx (hb hby at_194) rfl (pc' := 196) rfl ?_
        refine own_call (W := 0) X31 hx hZ rfl hown hml.symm (wd2 hw) (wd3 hw) (wd4 hw) (wd5 hw) (rm_nxn l Z a0 hw [] n0 kA1 B ((-2 : Int32) - (Int32.ofNat a2)) (fr + lq) _ P31 (own_neg (by omega))) (by decide) (by decide) (by decide) (by decide) (by decide) (argsL := [.ref (n0 + 0), .int ((-2 : Int32) - (Int32.ofNat a2)), .int (Int32.ofNat (fr + lq))]) (rest := []) pd1 rfl rfl rfl (Nat.le_of_eq rfl) (hb hby at_196) (pc' := 199) rfl ?_
        intro v32 T32 L31 X32 hq
        obtain ⟨rfl, N31, P32⟩ := hq
        replace N31 := Fr.app N30 N31
        refine w_istore (l' := #[.val (.long x0), .second, .val (.int x1), .val (.int x2), .val (.ref (n0 + 0)), .val (.int (Int32.ofNat fr)), .val (.int (Int32.ofNat (fr + lq))), .val (.int ((-2 : Int32) - (Int32.ofNat a2))), .unset]) X32 hx (hb hby at_199) rfl (pc' := 201) rfl ?_
        refine w_iload X32 hx (hb hby at_201) rfl (pc' := 203) rfl ?_
        refine w_if_ge X32 hx (hb hby at_203) (by decide) (pcY := 214) (by decide) (pc' := 206) rfl (fun h4 => absurd (own_neg (by omega)) h4) (fun h4 => ?_)
        refine w_bipush (v := (-2 : Int32)) X32 hx (hb hby at_206) rfl (pc' := 208) rfl ?_
        refine w_iload X32 hx (hb hby at_208) rfl (pc' := 210) rfl ?_
        refine w_isub X32 hx (hb hby at_210) (pc' := 211) rfl ?_
        refine w_eqI (z := (Int32.ofNat a2)) (own_neg2 (by omega)) ?_
        refine w_goto X32 hx (hb hby at_211) (by decide) (pc' := 215) (by decide) ?_
        refine w_istore (l' := #[.val (.long x0), .second, .val (.int x1), .val (.int x2), .val (.ref (n0 + 0)), .val (.int (Int32.ofNat fr)), .val (.int (Int32.ofNat (fr + lq))), .val (.int ((-2 : Int32) - (Int32.ofNat a2))), .val (.int (Int32.ofNat a2))]) X32 hx (hb hby at_215) rfl (pc' := 217) rfl ?_
        refine w_aload X32 hx (hb hby at_217) rfl rfl (pc' := 219) rfl ?_
        refine w_iload X32 hx (hb hby at_219) rfl (pc' := 221) rfl ?_
        refine w_iload X32 hx (hb hby at_221) rfl (pc' := 223) rfl ?_
        refine own_call (W := 0) X32 hx hZ rfl hown hml.symm (wd9 hw) (wd10 hw) (wd11 hw) (wd12 hw) (rm_fin l Z a0 hw [] n0 kA1 B fr (fr + lq) _ P32 hkA1 hB (by omega) (by omega)) (by decide) (by decide) (by decide) (by decide) (by decide) (argsL := [.ref (n0 + 0), .int (Int32.ofNat fr), .int (Int32.ofNat (fr + lq))]) (rest := []) pd3 rfl rfl rfl (Nat.le_of_eq rfl) (hb hby at_223) (pc' := 226) rfl ?_
        intro v33 T33 L32 X33 hq
        obtain ⟨rfl, N32, P33⟩ := hq
        replace N32 := Fr.app N31 N32
        refine w_iload X33 hx (hb hby at_226) rfl (pc' := 228) rfl ?_
        refine w_icmp_ne X33 hx (hb hby at_228) (by decide) (pcY := 235) (by decide) (pc' := 231) rfl (fun h5 => absurd (by rw [own_fi, if_pos ht0, if_neg hz0, ← (show a1 = fr + own_k B (fr + lq) fr from ea1), own_fi, if_pos ht1, if_neg hz1, ← (show a2 = a1 + own_k B (fr + lq) a1 from ea2), own_fi, if_pos ht2, if_pos hz2]) h5) (fun h5 => ?_)
        refine w_iconst (v := (1 : Int32)) X33 hx (hb hby at_231) rfl (pc' := 232) rfl ?_
        refine w_goto X33 hx (hb hby at_232) (by decide) (pc' := 236) (by decide) ?_
        exact w_ret_n (t := .boolean) X33 hx hret hlk (by simp) (hb hby at_236) (z' := (1 : Int32)) rfl (by decide) (by decide) ⟨rfl, N32⟩
      · obtain ⟨a3, ea3⟩ : ∃ z, z = a2 + own_k B (fr + lq) a2 := ⟨_, rfl⟩
        have hl2 : a2 + 1 ≤ a3 ∧ a3 ≤ (fr + lq) := by have hkb := own_kb B (fr + lq) a2 ht2; omega
        rw [← ea3]
        replace hz2 : own_hid (¬ own_k B (fr + lq) a2 = 0) := hz2
        replace ea3 : own_hid (a3 = a2 + own_k B (fr + lq) a2) := ea3
        refine w_istore (l' := #[.val (.long x0), .second, .val (.int x1), .val (.int x2), .val (.ref (n0 + 0)), .val (.int (Int32.ofNat fr)), .val (.int (Int32.ofNat (fr + lq))), .val (.int (Int32.ofNat a3)), .unset]) X27 hx (hb hby at_144) rfl (pc' := 146) rfl ?_
        refine w_aload X27 hx (hb hby at_146) rfl rfl (pc' := 148) rfl ?_
        refine w_iload X27 hx (hb hby at_148) rfl (pc' := 150) rfl ?_
        refine w_iload X27 hx (hb hby at_150) rfl (pc' := 152) rfl ?_
        refine own_call (W := 0) X27 hx hZ rfl hown hml.symm (wd2 hw) (wd3 hw) (wd4 hw) (wd5 hw) (rm_nxt l Z a0 hw [] n0 kA1 B a3 (fr + lq) _ P27 hkA1 hB (by omega) (by omega)) (by decide) (by decide) (by decide) (by decide) (by decide) (argsL := [.ref (n0 + 0), .int (Int32.ofNat a3), .int (Int32.ofNat (fr + lq))]) (rest := []) pd1 rfl rfl rfl (Nat.le_of_eq rfl) (hb hby at_152) (pc' := 155) rfl ?_
        intro v34 T34 L33 X34 hq
        obtain ⟨N33, P34, hq⟩ := hq
        replace N33 := Fr.app N26 N33
        rcases hq with ⟨ht3, hz3, rfl⟩ | ⟨ht3, hz3, rfl⟩ | ⟨ht3, rfl⟩
        · refine w_istore (l' := #[.val (.long x0), .second, .val (.int x1), .val (.int x2), .val (.ref (n0 + 0)), .val (.int (Int32.ofNat fr)), .val (.int (Int32.ofNat (fr + lq))), .val (.int ((-2 : Int32) - (Int32.ofNat a3))), .unset]) X34 hx (hb hby at_155) rfl (pc' := 157) rfl ?_
          refine w_aload X34 hx (hb hby at_157) rfl rfl (pc' := 159) rfl ?_
          refine w_iload X34 hx (hb hby at_159) rfl (pc' := 161) rfl ?_
          refine w_iload X34 hx (hb hby at_161) rfl (pc' := 163) rfl ?_
          refine own_call (W := 0) X34 hx hZ rfl hown hml.symm (wd2 hw) (wd3 hw) (wd4 hw) (wd5 hw) (rm_nxn l Z a0 hw [] n0 kA1 B ((-2 : Int32) - (Int32.ofNat a3)) (fr + lq) _ P34 (own_neg (by omega))) (by decide) (by decide) (by decide) (by decide) (by decide) (argsL := [.ref (n0 + 0), .int ((-2 : Int32) - (Int32.ofNat a3)), .int (Int32.ofNat (fr + lq))]) (rest := []) pd1 rfl rfl rfl (Nat.le_of_eq rfl) (hb hby at_163) (pc' := 166) rfl ?_
          intro v35 T35 L34 X35 hq
          obtain ⟨rfl, N34, P35⟩ := hq
          replace N34 := Fr.app N33 N34
          refine w_istore (l' := #[.val (.long x0), .second, .val (.int x1), .val (.int x2), .val (.ref (n0 + 0)), .val (.int (Int32.ofNat fr)), .val (.int (Int32.ofNat (fr + lq))), .val (.int ((-2 : Int32) - (Int32.ofNat a3))), .unset]) X35 hx (hb hby at_166) rfl (pc' := 168) rfl ?_
          refine w_aload X35 hx (hb hby at_168) rfl rfl (pc' := 170) rfl ?_
          refine w_iload X35 hx (hb hby at_170) rfl (pc' := 172) rfl ?_
          refine w_iload X35 hx (hb hby at_172) rfl (pc' := 174) rfl ?_
          refine own_call (W := 0) X35 hx hZ rfl hown hml.symm (wd2 hw) (wd3 hw) (wd4 hw) (wd5 hw) (rm_nxn l Z a0 hw [] n0 kA1 B ((-2 : Int32) - (Int32.ofNat a3)) (fr + lq) _ P35 (own_neg (by omega))) (by decide) (by decide) (by decide) (by decide) (by decide) (argsL := [.ref (n0 + 0), .int ((-2 : Int32) - (Int32.ofNat a3)), .int (Int32.ofNat (fr + lq))]) (rest := []) pd1 rfl rfl rfl (Nat.le_of_eq rfl) (hb hby at_174) (pc' := 177) rfl ?_
          intro v36 T36 L35 X36 hq
          obtain ⟨rfl, N35, P36⟩ := hq
          replace N35 := Fr.app N34 N35
          refine w_istore (l' := #[.val (.long x0), .second, .val (.int x1), .val (.int x2), .val (.ref (n0 + 0)), .val (.int (Int32.ofNat fr)), .val (.int (Int32.ofNat (fr + lq))), .val (.int ((-2 : Int32) - (Int32.ofNat a3))), .unset]) X36 hx (hb hby at_177) rfl (pc' := 179) rfl ?_
          refine w_aload X36 hx (hb hby at_179) rfl rfl (pc' := 181) rfl ?_
          refine w_iload X36 hx (hb hby at_181) rfl (pc' := 183) rfl ?_
          refine w_iload X36 hx (hb hby at_183) rfl (pc' := 185) rfl ?_
          refine own_call (W := 0) X36 hx hZ rfl hown hml.symm (wd2 hw) (wd3 hw) (wd4 hw) (wd5 hw) (rm_nxn l Z a0 hw [] n0 kA1 B ((-2 : Int32) - (Int32.ofNat a3)) (fr + lq) _ P36 (own_neg (by omega))) (by decide) (by decide) (by decide) (by decide) (by decide) (argsL := [.ref (n0 + 0), .int ((-2 : Int32) - (Int32.ofNat a3)), .int (Int32.ofNat (fr + lq))]) (rest := []) pd1 rfl rfl rfl (Nat.le_of_eq rfl) (hb hby at_185) (pc' := 188) rfl ?_
          intro v37 T37 L36 X37 hq
          obtain ⟨rfl, N36, P37⟩ := hq
          replace N36 := Fr.app N35 N36
          refine w_istore (l' := #[.val (.long x0), .second, .val (.int x1), .val (.int x2), .val (.ref (n0 + 0)), .val (.int (Int32.ofNat fr)), .val (.int (Int32.ofNat (fr + lq))), .val (.int ((-2 : Int32) - (Int32.ofNat a3))), .unset]) X37 hx (hb hby at_188) rfl (pc' := 190) rfl ?_
          refine w_aload X37 hx (hb hby at_190) rfl rfl (pc' := 192) rfl ?_
          refine w_iload X37 hx (hb hby at_192) rfl (pc' := 194) rfl ?_
          refine w_iload X37 hx (hb hby at_194) rfl (pc' := 196) rfl ?_
          refine own_call (W := 0) X37 hx hZ rfl hown hml.symm (wd2 hw) (wd3 hw) (wd4 hw) (wd5 hw) (rm_nxn l Z a0 hw [] n0 kA1 B ((-2 : Int32) - (Int32.ofNat a3)) (fr + lq) _ P37 (own_neg (by omega))) (by decide) (by decide) (by decide) (by decide) (by decide) (argsL := [.ref (n0 + 0), .int ((-2 : Int32) - (Int32.ofNat a3)), .int (Int32.ofNat (fr + lq))]) (rest := []) pd1 rfl rfl rfl (Nat.le_of_eq rfl) (hb hby at_196) (pc' := 199) rfl ?_
          intro v38 T38 L37 X38 hq
          obtain ⟨rfl, N37, P38⟩ := hq
          replace N37 := Fr.app N36 N37
          refine w_istore (l' := #[.val (.long x0), .second, .val (.int x1), .val (.int x2), .val (.ref (n0 + 0)), .val (.int (Int32.ofNat fr)), .val (.int (Int32.ofNat (fr + lq))), .val (.int ((-2 : Int32) - (Int32.ofNat a3))), .unset]) X38 hx (hb hby at_199) rfl (pc' := 201) rfl ?_
          refine w_iload X38 hx (hb hby at_201) rfl (pc' := 203) rfl ?_
          refine w_if_ge X38 hx (hb hby at_203) (by decide) (pcY := 214) (by decide) (pc' := 206) rfl (fun h6 => absurd (own_neg (by omega)) h6) (fun h6 => ?_)
          refine w_bipush (v := (-2 : Int32)) X38 hx (hb hby at_206) rfl (pc' := 208) rfl ?_
          refine w_iload X38 hx (hb hby at_208) rfl (pc' := 210) rfl ?_
          refine w_isub X38 hx (hb hby at_210) (pc' := 211) rfl ?_
          refine w_eqI (z := (Int32.ofNat a3)) (own_neg2 (by omega)) ?_
          refine w_goto X38 hx (hb hby at_211) (by decide) (pc' := 215) (by decide) ?_
          refine w_istore (l' := #[.val (.long x0), .second, .val (.int x1), .val (.int x2), .val (.ref (n0 + 0)), .val (.int (Int32.ofNat fr)), .val (.int (Int32.ofNat (fr + lq))), .val (.int ((-2 : Int32) - (Int32.ofNat a3))), .val (.int (Int32.ofNat a3))]) X38 hx (hb hby at_215) rfl (pc' := 217) rfl ?_
          refine w_aload X38 hx (hb hby at_217) rfl rfl (pc' := 219) rfl ?_
          refine w_iload X38 hx (hb hby at_219) rfl (pc' := 221) rfl ?_
          refine w_iload X38 hx (hb hby at_221) rfl (pc' := 223) rfl ?_
          refine own_call (W := 0) X38 hx hZ rfl hown hml.symm (wd9 hw) (wd10 hw) (wd11 hw) (wd12 hw) (rm_fin l Z a0 hw [] n0 kA1 B fr (fr + lq) _ P38 hkA1 hB (by omega) (by omega)) (by decide) (by decide) (by decide) (by decide) (by decide) (argsL := [.ref (n0 + 0), .int (Int32.ofNat fr), .int (Int32.ofNat (fr + lq))]) (rest := []) pd3 rfl rfl rfl (Nat.le_of_eq rfl) (hb hby at_223) (pc' := 226) rfl ?_
          intro v39 T39 L38 X39 hq
          obtain ⟨rfl, N38, P39⟩ := hq
          replace N38 := Fr.app N37 N38
          refine w_iload X39 hx (hb hby at_226) rfl (pc' := 228) rfl ?_
          refine w_icmp_ne X39 hx (hb hby at_228) (by decide) (pcY := 235) (by decide) (pc' := 231) rfl (fun h7 => absurd (by rw [own_fi, if_pos ht0, if_neg hz0, ← (show a1 = fr + own_k B (fr + lq) fr from ea1), own_fi, if_pos ht1, if_neg hz1, ← (show a2 = a1 + own_k B (fr + lq) a1 from ea2), own_fi, if_pos ht2, if_neg hz2, ← (show a3 = a2 + own_k B (fr + lq) a2 from ea3), own_fi, if_pos ht3, if_pos hz3]) h7) (fun h7 => ?_)
          refine w_iconst (v := (1 : Int32)) X39 hx (hb hby at_231) rfl (pc' := 232) rfl ?_
          refine w_goto X39 hx (hb hby at_232) (by decide) (pc' := 236) (by decide) ?_
          exact w_ret_n (t := .boolean) X39 hx hret hlk (by simp) (hb hby at_236) (z' := (1 : Int32)) rfl (by decide) (by decide) ⟨rfl, N38⟩
        · obtain ⟨a4, ea4⟩ : ∃ z, z = a3 + own_k B (fr + lq) a3 := ⟨_, rfl⟩
          have hl3 : a3 + 1 ≤ a4 ∧ a4 ≤ (fr + lq) := by have hkb := own_kb B (fr + lq) a3 ht3; omega
          rw [← ea4]
          replace hz3 : own_hid (¬ own_k B (fr + lq) a3 = 0) := hz3
          replace ea4 : own_hid (a4 = a3 + own_k B (fr + lq) a3) := ea4
          refine w_istore (l' := #[.val (.long x0), .second, .val (.int x1), .val (.int x2), .val (.ref (n0 + 0)), .val (.int (Int32.ofNat fr)), .val (.int (Int32.ofNat (fr + lq))), .val (.int (Int32.ofNat a4)), .unset]) X34 hx (hb hby at_155) rfl (pc' := 157) rfl ?_
          refine w_aload X34 hx (hb hby at_157) rfl rfl (pc' := 159) rfl ?_
          refine w_iload X34 hx (hb hby at_159) rfl (pc' := 161) rfl ?_
          refine w_iload X34 hx (hb hby at_161) rfl (pc' := 163) rfl ?_
          refine own_call (W := 0) X34 hx hZ rfl hown hml.symm (wd2 hw) (wd3 hw) (wd4 hw) (wd5 hw) (rm_nxt l Z a0 hw [] n0 kA1 B a4 (fr + lq) _ P34 hkA1 hB (by omega) (by omega)) (by decide) (by decide) (by decide) (by decide) (by decide) (argsL := [.ref (n0 + 0), .int (Int32.ofNat a4), .int (Int32.ofNat (fr + lq))]) (rest := []) pd1 rfl rfl rfl (Nat.le_of_eq rfl) (hb hby at_163) (pc' := 166) rfl ?_
          intro v40 T40 L39 X40 hq
          obtain ⟨N39, P40, hq⟩ := hq
          replace N39 := Fr.app N33 N39
          rcases hq with ⟨ht4, hz4, rfl⟩ | ⟨ht4, hz4, rfl⟩ | ⟨ht4, rfl⟩
          · refine w_istore (l' := #[.val (.long x0), .second, .val (.int x1), .val (.int x2), .val (.ref (n0 + 0)), .val (.int (Int32.ofNat fr)), .val (.int (Int32.ofNat (fr + lq))), .val (.int ((-2 : Int32) - (Int32.ofNat a4))), .unset]) X40 hx (hb hby at_166) rfl (pc' := 168) rfl ?_
            refine w_aload X40 hx (hb hby at_168) rfl rfl (pc' := 170) rfl ?_
            refine w_iload X40 hx (hb hby at_170) rfl (pc' := 172) rfl ?_
            refine w_iload X40 hx (hb hby at_172) rfl (pc' := 174) rfl ?_
            refine own_call (W := 0) X40 hx hZ rfl hown hml.symm (wd2 hw) (wd3 hw) (wd4 hw) (wd5 hw) (rm_nxn l Z a0 hw [] n0 kA1 B ((-2 : Int32) - (Int32.ofNat a4)) (fr + lq) _ P40 (own_neg (by omega))) (by decide) (by decide) (by decide) (by decide) (by decide) (argsL := [.ref (n0 + 0), .int ((-2 : Int32) - (Int32.ofNat a4)), .int (Int32.ofNat (fr + lq))]) (rest := []) pd1 rfl rfl rfl (Nat.le_of_eq rfl) (hb hby at_174) (pc' := 177) rfl ?_
            intro v41 T41 L40 X41 hq
            obtain ⟨rfl, N40, P41⟩ := hq
            replace N40 := Fr.app N39 N40
            refine w_istore (l' := #[.val (.long x0), .second, .val (.int x1), .val (.int x2), .val (.ref (n0 + 0)), .val (.int (Int32.ofNat fr)), .val (.int (Int32.ofNat (fr + lq))), .val (.int ((-2 : Int32) - (Int32.ofNat a4))), .unset]) X41 hx (hb hby at_177) rfl (pc' := 179) rfl ?_
            refine w_aload X41 hx (hb hby at_179) rfl rfl (pc' := 181) rfl ?_
            refine w_iload X41 hx (hb hby at_181) rfl (pc' := 183) rfl ?_
            refine w_iload X41 hx (hb hby at_183) rfl (pc' := 185) rfl ?_
            refine own_call (W := 0) X41 hx hZ rfl hown hml.symm (wd2 hw) (wd3 hw) (wd4 hw) (wd5 hw) (rm_nxn l Z a0 hw [] n0 kA1 B ((-2 : Int32) - (Int32.ofNat a4)) (fr + lq) _ P41 (own_neg (by omega))) (by decide) (by decide) (by decide) (by decide) (by decide) (argsL := [.ref (n0 + 0), .int ((-2 : Int32) - (Int32.ofNat a4)), .int (Int32.ofNat (fr + lq))]) (rest := []) pd1 rfl rfl rfl (Nat.le_of_eq rfl) (hb hby at_185) (pc' := 188) rfl ?_
            intro v42 T42 L41 X42 hq
            obtain ⟨rfl, N41, P42⟩ := hq
            replace N41 := Fr.app N40 N41
            refine w_istore (l' := #[.val (.long x0), .second, .val (.int x1), .val (.int x2), .val (.ref (n0 + 0)), .val (.int (Int32.ofNat fr)), .val (.int (Int32.ofNat (fr + lq))), .val (.int ((-2 : Int32) - (Int32.ofNat a4))), .unset]) X42 hx (hb hby at_188) rfl (pc' := 190) rfl ?_
            refine w_aload X42 hx (hb hby at_190) rfl rfl (pc' := 192) rfl ?_
            refine w_iload X42 hx (hb hby at_192) rfl (pc' := 194) rfl ?_
            refine w_iload X42 hx (hb hby at_194) rfl (pc' := 196) rfl ?_
            refine own_call (W := 0) X42 hx hZ rfl hown hml.symm (wd2 hw) (wd3 hw) (wd4 hw) (wd5 hw) (rm_nxn l Z a0 hw [] n0 kA1 B ((-2 : Int32) - (Int32.ofNat a4)) (fr + lq) _ P42 (own_neg (by omega))) (by decide) (by decide) (by decide) (by decide) (by decide) (argsL := [.ref (n0 + 0), .int ((-2 : Int32) - (Int32.ofNat a4)), .int (Int32.ofNat (fr + lq))]) (rest := []) pd1 rfl rfl rfl (Nat.le_of_eq rfl) (hb hby at_196) (pc' := 199) rfl ?_
            intro v43 T43 L42 X43 hq
            obtain ⟨rfl, N42, P43⟩ := hq
            replace N42 := Fr.app N41 N42
            refine w_istore (l' := #[.val (.long x0), .second, .val (.int x1), .val (.int x2), .val (.ref (n0 + 0)), .val (.int (Int32.ofNat fr)), .val (.int (Int32.ofNat (fr + lq))), .val (.int ((-2 : Int32) - (Int32.ofNat a4))), .unset]) X43 hx (hb hby at_199) rfl (pc' := 201) rfl ?_
            refine w_iload X43 hx (hb hby at_201) rfl (pc' := 203) rfl ?_
            refine w_if_ge X43 hx (hb hby at_203) (by decide) (pcY := 214) (by decide) (pc' := 206) rfl (fun h8 => absurd (own_neg (by omega)) h8) (fun h8 => ?_)
            refine w_bipush (v := (-2 : Int32)) X43 hx (hb hby at_206) rfl (pc' := 208) rfl ?_
            refine w_iload X43 hx (hb hby at_208) rfl (pc' := 210) rfl ?_
            refine w_isub X43 hx (hb hby at_210) (pc' := 211) rfl ?_
            refine w_eqI (z := (Int32.ofNat a4)) (own_neg2 (by omega)) ?_
            refine w_goto X43 hx (hb hby at_211) (by decide) (pc' := 215) (by decide) ?_
            refine w_istore (l' := #[.val (.long x0), .second, .val (.int x1), .val (.int x2), .val (.ref (n0 + 0)), .val (.int (Int32.ofNat fr)), .val (.int (Int32.ofNat (fr + lq))), .val (.int ((-2 : Int32) - (Int32.ofNat a4))), .val (.int (Int32.ofNat a4))]) X43 hx (hb hby at_215) rfl (pc' := 217) rfl ?_
            refine w_aload X43 hx (hb hby at_217) rfl rfl (pc' := 219) rfl ?_
            refine w_iload X43 hx (hb hby at_219) rfl (pc' := 221) rfl ?_
            refine w_iload X43 hx (hb hby at_221) rfl (pc' := 223) rfl ?_
            refine own_call (W := 0) X43 hx hZ rfl hown hml.symm (wd9 hw) (wd10 hw) (wd11 hw) (wd12 hw) (rm_fin l Z a0 hw [] n0 kA1 B fr (fr + lq) _ P43 hkA1 hB (by omega) (by omega)) (by decide) (by decide) (by decide) (by decide) (by decide) (argsL := [.ref (n0 + 0), .int (Int32.ofNat fr), .int (Int32.ofNat (fr + lq))]) (rest := []) pd3 rfl rfl rfl (Nat.le_of_eq rfl) (hb hby at_223) (pc' := 226) rfl ?_
            intro v44 T44 L43 X44 hq
            obtain ⟨rfl, N43, P44⟩ := hq
            replace N43 := Fr.app N42 N43
            refine w_iload X44 hx (hb hby at_226) rfl (pc' := 228) rfl ?_
            refine w_icmp_ne X44 hx (hb hby at_228) (by decide) (pcY := 235) (by decide) (pc' := 231) rfl (fun h9 => absurd (by rw [own_fi, if_pos ht0, if_neg hz0, ← (show a1 = fr + own_k B (fr + lq) fr from ea1), own_fi, if_pos ht1, if_neg hz1, ← (show a2 = a1 + own_k B (fr + lq) a1 from ea2), own_fi, if_pos ht2, if_neg hz2, ← (show a3 = a2 + own_k B (fr + lq) a2 from ea3), own_fi, if_pos ht3, if_neg hz3, ← (show a4 = a3 + own_k B (fr + lq) a3 from ea4), own_fi, if_pos ht4, if_pos hz4]) h9) (fun h9 => ?_)
            refine w_iconst (v := (1 : Int32)) X44 hx (hb hby at_231) rfl (pc' := 232) rfl ?_
            refine w_goto X44 hx (hb hby at_232) (by decide) (pc' := 236) (by decide) ?_
            exact w_ret_n (t := .boolean) X44 hx hret hlk (by simp) (hb hby at_236) (z' := (1 : Int32)) rfl (by decide) (by decide) ⟨rfl, N43⟩
          · obtain ⟨a5, ea5⟩ : ∃ z, z = a4 + own_k B (fr + lq) a4 := ⟨_, rfl⟩
            have hl4 : a4 + 1 ≤ a5 ∧ a5 ≤ (fr + lq) := by have hkb := own_kb B (fr + lq) a4 ht4; omega
            rw [← ea5]
            replace hz4 : own_hid (¬ own_k B (fr + lq) a4 = 0) := hz4
            replace ea5 : own_hid (a5 = a4 + own_k B (fr + lq) a4) := ea5
            refine w_istore (l' := #[.val (.long x0), .second, .val (.int x1), .val (.int x2), .val (.ref (n0 + 0)), .val (.int (Int32.ofNat fr)), .val (.int (Int32.ofNat (fr + lq))), .val (.int (Int32.ofNat a5)), .unset]) X40 hx (hb hby at_166) rfl (pc' := 168) rfl ?_
            refine w_aload X40 hx (hb hby at_168) rfl rfl (pc' := 170) rfl ?_
            refine w_iload X40 hx (hb hby at_170) rfl (pc' := 172) rfl ?_
            refine w_iload X40 hx (hb hby at_172) rfl (pc' := 174) rfl ?_
            refine own_call (W := 0) X40 hx hZ rfl hown hml.symm (wd2 hw) (wd3 hw) (wd4 hw) (wd5 hw) (rm_nxt l Z a0 hw [] n0 kA1 B a5 (fr + lq) _ P40 hkA1 hB (by omega) (by omega)) (by decide) (by decide) (by decide) (by decide) (by decide) (argsL := [.ref (n0 + 0), .int (Int32.ofNat a5), .int (Int32.ofNat (fr + lq))]) (rest := []) pd1 rfl rfl rfl (Nat.le_of_eq rfl) (hb hby at_174) (pc' := 177) rfl ?_
            intro v45 T45 L44 X45 hq
            obtain ⟨N44, P45, hq⟩ := hq
            replace N44 := Fr.app N39 N44
            rcases hq with ⟨ht5, hz5, rfl⟩ | ⟨ht5, hz5, rfl⟩ | ⟨ht5, rfl⟩
            · refine w_istore (l' := #[.val (.long x0), .second, .val (.int x1), .val (.int x2), .val (.ref (n0 + 0)), .val (.int (Int32.ofNat fr)), .val (.int (Int32.ofNat (fr + lq))), .val (.int ((-2 : Int32) - (Int32.ofNat a5))), .unset]) X45 hx (hb hby at_177) rfl (pc' := 179) rfl ?_
              refine w_aload X45 hx (hb hby at_179) rfl rfl (pc' := 181) rfl ?_
              refine w_iload X45 hx (hb hby at_181) rfl (pc' := 183) rfl ?_
              refine w_iload X45 hx (hb hby at_183) rfl (pc' := 185) rfl ?_
              refine own_call (W := 0) X45 hx hZ rfl hown hml.symm (wd2 hw) (wd3 hw) (wd4 hw) (wd5 hw) (rm_nxn l Z a0 hw [] n0 kA1 B ((-2 : Int32) - (Int32.ofNat a5)) (fr + lq) _ P45 (own_neg (by omega))) (by decide) (by decide) (by decide) (by decide) (by decide) (argsL := [.ref (n0 + 0), .int ((-2 : Int32) - (Int32.ofNat a5)), .int (Int32.ofNat (fr + lq))]) (rest := []) pd1 rfl rfl rfl (Nat.le_of_eq rfl) (hb hby at_185) (pc' := 188) rfl ?_
              intro v46 T46 L45 X46 hq
              obtain ⟨rfl, N45, P46⟩ := hq
              replace N45 := Fr.app N44 N45
              refine w_istore (l' := #[.val (.long x0), .second, .val (.int x1), .val (.int x2), .val (.ref (n0 + 0)), .val (.int (Int32.ofNat fr)), .val (.int (Int32.ofNat (fr + lq))), .val (.int ((-2 : Int32) - (Int32.ofNat a5))), .unset]) X46 hx (hb hby at_188) rfl (pc' := 190) rfl ?_
              refine w_aload X46 hx (hb hby at_190) rfl rfl (pc' := 192) rfl ?_
              refine w_iload X46 hx (hb hby at_192) rfl (pc' := 194) rfl ?_
              refine w_iload X46 hx (hb hby at_194) rfl (pc' := 196) rfl ?_
              refine own_call (W := 0) X46 hx hZ rfl hown hml.symm (wd2 hw) (wd3 hw) (wd4 hw) (wd5 hw) (rm_nxn l Z a0 hw [] n0 kA1 B ((-2 : Int32) - (Int32.ofNat a5)) (fr + lq) _ P46 (own_neg (by omega))) (by decide) (by decide) (by decide) (by decide) (by decide) (argsL := [.ref (n0 + 0), .int ((-2 : Int32) - (Int32.ofNat a5)), .int (Int32.ofNat (fr + lq))]) (rest := []) pd1 rfl rfl rfl (Nat.le_of_eq rfl) (hb hby at_196) (pc' := 199) rfl ?_
              intro v47 T47 L46 X47 hq
              obtain ⟨rfl, N46, P47⟩ := hq
              replace N46 := Fr.app N45 N46
              refine w_istore (l' := #[.val (.long x0), .second, .val (.int x1), .val (.int x2), .val (.ref (n0 + 0)), .val (.int (Int32.ofNat fr)), .val (.int (Int32.ofNat (fr + lq))), .val (.int ((-2 : Int32) - (Int32.ofNat a5))), .unset]) X47 hx (hb hby at_199) rfl (pc' := 201) rfl ?_
              refine w_iload X47 hx (hb hby at_201) rfl (pc' := 203) rfl ?_
              refine w_if_ge X47 hx (hb hby at_203) (by decide) (pcY := 214) (by decide) (pc' := 206) rfl (fun h10 => absurd (own_neg (by omega)) h10) (fun h10 => ?_)
              refine w_bipush (v := (-2 : Int32)) X47 hx (hb hby at_206) rfl (pc' := 208) rfl ?_
              refine w_iload X47 hx (hb hby at_208) rfl (pc' := 210) rfl ?_
              refine w_isub X47 hx (hb hby at_210) (pc' := 211) rfl ?_
              refine w_eqI (z := (Int32.ofNat a5)) (own_neg2 (by omega)) ?_
              refine w_goto X47 hx (hb hby at_211) (by decide) (pc' := 215) (by decide) ?_
              refine w_istore (l' := #[.val (.long x0), .second, .val (.int x1), .val (.int x2), .val (.ref (n0 + 0)), .val (.int (Int32.ofNat fr)), .val (.int (Int32.ofNat (fr + lq))), .val (.int ((-2 : Int32) - (Int32.ofNat a5))), .val (.int (Int32.ofNat a5))]) X47 hx (hb hby at_215) rfl (pc' := 217) rfl ?_
              refine w_aload X47 hx (hb hby at_217) rfl rfl (pc' := 219) rfl ?_
              refine w_iload X47 hx (hb hby at_219) rfl (pc' := 221) rfl ?_
              refine w_iload X47 hx (hb hby at_221) rfl (pc' := 223) rfl ?_
              refine own_call (W := 0) X47 hx hZ rfl hown hml.symm (wd9 hw) (wd10 hw) (wd11 hw) (wd12 hw) (rm_fin l Z a0 hw [] n0 kA1 B fr (fr + lq) _ P47 hkA1 hB (by omega) (by omega)) (by decide) (by decide) (by decide) (by decide) (by decide) (argsL := [.ref (n0 + 0), .int (Int32.ofNat fr), .int (Int32.ofNat (fr + lq))]) (rest := []) pd3 rfl rfl rfl (Nat.le_of_eq rfl) (hb hby at_223) (pc' := 226) rfl ?_
              intro v48 T48 L47 X48 hq
              obtain ⟨rfl, N47, P48⟩ := hq
              replace N47 := Fr.app N46 N47
              refine w_iload X48 hx (hb hby at_226) rfl (pc' := 228) rfl ?_
              refine w_icmp_ne X48 hx (hb hby at_228) (by decide) (pcY := 235) (by decide) (pc' := 231) rfl (fun h11 => absurd (by rw [own_fi, if_pos ht0, if_neg hz0, ← (show a1 = fr + own_k B (fr + lq) fr from ea1), own_fi, if_pos ht1, if_neg hz1, ← (show a2 = a1 + own_k B (fr + lq) a1 from ea2), own_fi, if_pos ht2, if_neg hz2, ← (show a3 = a2 + own_k B (fr + lq) a2 from ea3), own_fi, if_pos ht3, if_neg hz3, ← (show a4 = a3 + own_k B (fr + lq) a3 from ea4), own_fi, if_pos ht4, if_neg hz4, ← (show a5 = a4 + own_k B (fr + lq) a4 from ea5), own_fi, if_pos ht5, if_pos hz5]) h11) (fun h11 => ?_)
              refine w_iconst (v := (1 : Int32)) X48 hx (hb hby at_231) rfl (pc' := 232) rfl ?_
              refine w_goto X48 hx (hb hby at_232) (by decide) (pc' := 236) (by decide) ?_
              exact w_ret_n (t := .boolean) X48 hx hret hlk (by simp) (hb hby at_236) (z' := (1 : Int32)) rfl (by decide) (by decide) ⟨rfl, N47⟩
            · obtain ⟨a6, ea6⟩ : ∃ z, z = a5 + own_k B (fr + lq) a5 := ⟨_, rfl⟩
              have hl5 : a5 + 1 ≤ a6 ∧ a6 ≤ (fr + lq) := by have hkb := own_kb B (fr + lq) a5 ht5; omega
              rw [← ea6]
              replace hz5 : own_hid (¬ own_k B (fr + lq) a5 = 0) := hz5
              replace ea6 : own_hid (a6 = a5 + own_k B (fr + lq) a5) := ea6
              refine w_istore (l' := #[.val (.long x0), .second, .val (.int x1), .val (.int x2), .val (.ref (n0 + 0)), .val (.int (Int32.ofNat fr)), .val (.int (Int32.ofNat (fr + lq))), .val (.int (Int32.ofNat a6)), .unset]) X45 hx (hb hby at_177) rfl (pc' := 179) rfl ?_
              refine w_aload X45 hx (hb hby at_179) rfl rfl (pc' := 181) rfl ?_
              refine w_iload X45 hx (hb hby at_181) rfl (pc' := 183) rfl ?_
              refine w_iload X45 hx (hb hby at_183) rfl (pc' := 185) rfl ?_
              refine own_call (W := 0) X45 hx hZ rfl hown hml.symm (wd2 hw) (wd3 hw) (wd4 hw) (wd5 hw) (rm_nxt l Z a0 hw [] n0 kA1 B a6 (fr + lq) _ P45 hkA1 hB (by omega) (by omega)) (by decide) (by decide) (by decide) (by decide) (by decide) (argsL := [.ref (n0 + 0), .int (Int32.ofNat a6), .int (Int32.ofNat (fr + lq))]) (rest := []) pd1 rfl rfl rfl (Nat.le_of_eq rfl) (hb hby at_185) (pc' := 188) rfl ?_
              intro v49 T49 L48 X49 hq
              obtain ⟨N48, P49, hq⟩ := hq
              replace N48 := Fr.app N44 N48
              rcases hq with ⟨ht6, hz6, rfl⟩ | ⟨ht6, hz6, rfl⟩ | ⟨ht6, rfl⟩
              · refine w_istore (l' := #[.val (.long x0), .second, .val (.int x1), .val (.int x2), .val (.ref (n0 + 0)), .val (.int (Int32.ofNat fr)), .val (.int (Int32.ofNat (fr + lq))), .val (.int ((-2 : Int32) - (Int32.ofNat a6))), .unset]) X49 hx (hb hby at_188) rfl (pc' := 190) rfl ?_
                refine w_aload X49 hx (hb hby at_190) rfl rfl (pc' := 192) rfl ?_
                refine w_iload X49 hx (hb hby at_192) rfl (pc' := 194) rfl ?_
                refine w_iload X49 hx (hb hby at_194) rfl (pc' := 196) rfl ?_
                refine own_call (W := 0) X49 hx hZ rfl hown hml.symm (wd2 hw) (wd3 hw) (wd4 hw) (wd5 hw) (rm_nxn l Z a0 hw [] n0 kA1 B ((-2 : Int32) - (Int32.ofNat a6)) (fr + lq) _ P49 (own_neg (by omega))) (by decide) (by decide) (by decide) (by decide) (by decide) (argsL := [.ref (n0 + 0), .int ((-2 : Int32) - (Int32.ofNat a6)), .int (Int32.ofNat (fr + lq))]) (rest := []) pd1 rfl rfl rfl (Nat.le_of_eq rfl) (hb hby at_196) (pc' := 199) rfl ?_
                intro v50 T50 L49 X50 hq
                obtain ⟨rfl, N49, P50⟩ := hq
                replace N49 := Fr.app N48 N49
                refine w_istore (l' := #[.val (.long x0), .second, .val (.int x1), .val (.int x2), .val (.ref (n0 + 0)), .val (.int (Int32.ofNat fr)), .val (.int (Int32.ofNat (fr + lq))), .val (.int ((-2 : Int32) - (Int32.ofNat a6))), .unset]) X50 hx (hb hby at_199) rfl (pc' := 201) rfl ?_
                refine w_iload X50 hx (hb hby at_201) rfl (pc' := 203) rfl ?_
                refine w_if_ge X50 hx (hb hby at_203) (by decide) (pcY := 214) (by decide) (pc' := 206) rfl (fun h12 => absurd (own_neg (by omega)) h12) (fun h12 => ?_)
                refine w_bipush (v := (-2 : Int32)) X50 hx (hb hby at_206) rfl (pc' := 208) rfl ?_
                refine w_iload X50 hx (hb hby at_208) rfl (pc' := 210) rfl ?_
                refine w_isub X50 hx (hb hby at_210) (pc' := 211) rfl ?_
                refine w_eqI (z := (Int32.ofNat a6)) (own_neg2 (by omega)) ?_
                refine w_goto X50 hx (hb hby at_211) (by decide) (pc' := 215) (by decide) ?_
                refine w_istore (l' := #[.val (.long x0), .second, .val (.int x1), .val (.int x2), .val (.ref (n0 + 0)), .val (.int (Int32.ofNat fr)), .val (.int (Int32.ofNat (fr + lq))), .val (.int ((-2 : Int32) - (Int32.ofNat a6))), .val (.int (Int32.ofNat a6))]) X50 hx (hb hby at_215) rfl (pc' := 217) rfl ?_
                refine w_aload X50 hx (hb hby at_217) rfl rfl (pc' := 219) rfl ?_
                refine w_iload X50 hx (hb hby at_219) rfl (pc' := 221) rfl ?_
                refine w_iload X50 hx (hb hby at_221) rfl (pc' := 223) rfl ?_
                refine own_call (W := 0) X50 hx hZ rfl hown hml.symm (wd9 hw) (wd10 hw) (wd11 hw) (wd12 hw) (rm_fin l Z a0 hw [] n0 kA1 B fr (fr + lq) _ P50 hkA1 hB (by omega) (by omega)) (by decide) (by decide) (by decide) (by decide) (by decide) (argsL := [.ref (n0 + 0), .int (Int32.ofNat fr), .int (Int32.ofNat (fr + lq))]) (rest := []) pd3 rfl rfl rfl (Nat.le_of_eq rfl) (hb hby at_223) (pc' := 226) rfl ?_
                intro v51 T51 L50 X51 hq
                obtain ⟨rfl, N50, P51⟩ := hq
                replace N50 := Fr.app N49 N50
                refine w_iload X51 hx (hb hby at_226) rfl (pc' := 228) rfl ?_
                refine w_icmp_ne X51 hx (hb hby at_228) (by decide) (pcY := 235) (by decide) (pc' := 231) rfl (fun h13 => absurd (by rw [own_fi, if_pos ht0, if_neg hz0, ← (show a1 = fr + own_k B (fr + lq) fr from ea1), own_fi, if_pos ht1, if_neg hz1, ← (show a2 = a1 + own_k B (fr + lq) a1 from ea2), own_fi, if_pos ht2, if_neg hz2, ← (show a3 = a2 + own_k B (fr + lq) a2 from ea3), own_fi, if_pos ht3, if_neg hz3, ← (show a4 = a3 + own_k B (fr + lq) a3 from ea4), own_fi, if_pos ht4, if_neg hz4, ← (show a5 = a4 + own_k B (fr + lq) a4 from ea5), own_fi, if_pos ht5, if_neg hz5, ← (show a6 = a5 + own_k B (fr + lq) a5 from ea6), own_fi, if_pos ht6, if_pos hz6]) h13) (fun h13 => ?_)
                refine w_iconst (v := (1 : Int32)) X51 hx (hb hby at_231) rfl (pc' := 232) rfl ?_
                refine w_goto X51 hx (hb hby at_232) (by decide) (pc' := 236) (by decide) ?_
                exact w_ret_n (t := .boolean) X51 hx hret hlk (by simp) (hb hby at_236) (z' := (1 : Int32)) rfl (by decide) (by decide) ⟨rfl, N50⟩
              · obtain ⟨a7, ea7⟩ : ∃ z, z = a6 + own_k B (fr + lq) a6 := ⟨_, rfl⟩
                have hl6 : a6 + 1 ≤ a7 ∧ a7 ≤ (fr + lq) := by have hkb := own_kb B (fr + lq) a6 ht6; omega
                rw [← ea7]
                replace hz6 : own_hid (¬ own_k B (fr + lq) a6 = 0) := hz6
                replace ea7 : own_hid (a7 = a6 + own_k B (fr + lq) a6) := ea7
                refine w_istore (l' := #[.val (.long x0), .second, .val (.int x1), .val (.int x2), .val (.ref (n0 + 0)), .val (.int (Int32.ofNat fr)), .val (.int (Int32.ofNat (fr + lq))), .val (.int (Int32.ofNat a7)), .unset]) X49 hx (hb hby at_188) rfl (pc' := 190) rfl ?_
                refine w_aload X49 hx (hb hby at_190) rfl rfl (pc' := 192) rfl ?_
                refine w_iload X49 hx (hb hby at_192) rfl (pc' := 194) rfl ?_
                refine w_iload X49 hx (hb hby at_194) rfl (pc' := 196) rfl ?_
                refine own_call (W := 0) X49 hx hZ rfl hown hml.symm (wd2 hw) (wd3 hw) (wd4 hw) (wd5 hw) (rm_nxt l Z a0 hw [] n0 kA1 B a7 (fr + lq) _ P49 hkA1 hB (by omega) (by omega)) (by decide) (by decide) (by decide) (by decide) (by decide) (argsL := [.ref (n0 + 0), .int (Int32.ofNat a7), .int (Int32.ofNat (fr + lq))]) (rest := []) pd1 rfl rfl rfl (Nat.le_of_eq rfl) (hb hby at_196) (pc' := 199) rfl ?_
                intro v52 T52 L51 X52 hq
                obtain ⟨N51, P52, hq⟩ := hq
                replace N51 := Fr.app N48 N51
                rcases hq with ⟨ht7, hz7, rfl⟩ | ⟨ht7, hz7, rfl⟩ | ⟨ht7, rfl⟩
                · refine w_istore (l' := #[.val (.long x0), .second, .val (.int x1), .val (.int x2), .val (.ref (n0 + 0)), .val (.int (Int32.ofNat fr)), .val (.int (Int32.ofNat (fr + lq))), .val (.int ((-2 : Int32) - (Int32.ofNat a7))), .unset]) X52 hx (hb hby at_199) rfl (pc' := 201) rfl ?_
                  refine w_iload X52 hx (hb hby at_201) rfl (pc' := 203) rfl ?_
                  refine w_if_ge X52 hx (hb hby at_203) (by decide) (pcY := 214) (by decide) (pc' := 206) rfl (fun h14 => absurd (own_neg (by omega)) h14) (fun h14 => ?_)
                  refine w_bipush (v := (-2 : Int32)) X52 hx (hb hby at_206) rfl (pc' := 208) rfl ?_
                  refine w_iload X52 hx (hb hby at_208) rfl (pc' := 210) rfl ?_
                  refine w_isub X52 hx (hb hby at_210) (pc' := 211) rfl ?_
                  refine w_eqI (z := (Int32.ofNat a7)) (own_neg2 (by omega)) ?_
                  refine w_goto X52 hx (hb hby at_211) (by decide) (pc' := 215) (by decide) ?_
                  refine w_istore (l' := #[.val (.long x0), .second, .val (.int x1), .val (.int x2), .val (.ref (n0 + 0)), .val (.int (Int32.ofNat fr)), .val (.int (Int32.ofNat (fr + lq))), .val (.int ((-2 : Int32) - (Int32.ofNat a7))), .val (.int (Int32.ofNat a7))]) X52 hx (hb hby at_215) rfl (pc' := 217) rfl ?_
                  refine w_aload X52 hx (hb hby at_217) rfl rfl (pc' := 219) rfl ?_
                  refine w_iload X52 hx (hb hby at_219) rfl (pc' := 221) rfl ?_
                  refine w_iload X52 hx (hb hby at_221) rfl (pc' := 223) rfl ?_
                  refine own_call (W := 0) X52 hx hZ rfl hown hml.symm (wd9 hw) (wd10 hw) (wd11 hw) (wd12 hw) (rm_fin l Z a0 hw [] n0 kA1 B fr (fr + lq) _ P52 hkA1 hB (by omega) (by omega)) (by decide) (by decide) (by decide) (by decide) (by decide) (argsL := [.ref (n0 + 0), .int (Int32.ofNat fr), .int (Int32.ofNat (fr + lq))]) (rest := []) pd3 rfl rfl rfl (Nat.le_of_eq rfl) (hb hby at_223) (pc' := 226) rfl ?_
                  intro v53 T53 L52 X53 hq
                  obtain ⟨rfl, N52, P53⟩ := hq
                  replace N52 := Fr.app N51 N52
                  refine w_iload X53 hx (hb hby at_226) rfl (pc' := 228) rfl ?_
                  refine w_icmp_ne X53 hx (hb hby at_228) (by decide) (pcY := 235) (by decide) (pc' := 231) rfl (fun h15 => absurd (by rw [own_fi, if_pos ht0, if_neg hz0, ← (show a1 = fr + own_k B (fr + lq) fr from ea1), own_fi, if_pos ht1, if_neg hz1, ← (show a2 = a1 + own_k B (fr + lq) a1 from ea2), own_fi, if_pos ht2, if_neg hz2, ← (show a3 = a2 + own_k B (fr + lq) a2 from ea3), own_fi, if_pos ht3, if_neg hz3, ← (show a4 = a3 + own_k B (fr + lq) a3 from ea4), own_fi, if_pos ht4, if_neg hz4, ← (show a5 = a4 + own_k B (fr + lq) a4 from ea5), own_fi, if_pos ht5, if_neg hz5, ← (show a6 = a5 + own_k B (fr + lq) a5 from ea6), own_fi, if_pos ht6, if_neg hz6, ← (show a7 = a6 + own_k B (fr + lq) a6 from ea7), own_fi, if_pos ht7, if_pos hz7]) h15) (fun h15 => ?_)
                  refine w_iconst (v := (1 : Int32)) X53 hx (hb hby at_231) rfl (pc' := 232) rfl ?_
                  refine w_goto X53 hx (hb hby at_232) (by decide) (pc' := 236) (by decide) ?_
                  exact w_ret_n (t := .boolean) X53 hx hret hlk (by simp) (hb hby at_236) (z' := (1 : Int32)) rfl (by decide) (by decide) ⟨rfl, N52⟩
                · obtain ⟨a8, ea8⟩ : ∃ z, z = a7 + own_k B (fr + lq) a7 := ⟨_, rfl⟩
                  have hl7 : a7 + 1 ≤ a8 ∧ a8 ≤ (fr + lq) := by have hkb := own_kb B (fr + lq) a7 ht7; omega
                  rw [← ea8]
                  replace hz7 : own_hid (¬ own_k B (fr + lq) a7 = 0) := hz7
                  replace ea8 : own_hid (a8 = a7 + own_k B (fr + lq) a7) := ea8
                  refine w_istore (l' := #[.val (.long x0), .second, .val (.int x1), .val (.int x2), .val (.ref (n0 + 0)), .val (.int (Int32.ofNat fr)), .val (.int (Int32.ofNat (fr + lq))), .val (.int (Int32.ofNat a8)), .unset]) X52 hx (hb hby at_199) rfl (pc' := 201) rfl ?_
                  refine w_iload X52 hx (hb hby at_201) rfl (pc' := 203) rfl ?_
                  refine w_if_ge X52 hx (hb hby at_203) (by decide) (pcY := 214) (by decide) (pc' := 206) rfl (fun h16 => ?_) (fun h16 => absurd ((own_olt (a := a8) (b := 0) (by omega) (by omega)).mp h16) (Nat.not_lt_zero _))
                  refine w_iconst (v := (-1 : Int32)) X52 hx (hb hby at_214) rfl (pc' := 215) rfl ?_
                  refine w_istore (l' := #[.val (.long x0), .second, .val (.int x1), .val (.int x2), .val (.ref (n0 + 0)), .val (.int (Int32.ofNat fr)), .val (.int (Int32.ofNat (fr + lq))), .val (.int (Int32.ofNat a8)), .val (.int (-1 : Int32))]) X52 hx (hb hby at_215) rfl (pc' := 217) rfl ?_
                  refine w_aload X52 hx (hb hby at_217) rfl rfl (pc' := 219) rfl ?_
                  refine w_iload X52 hx (hb hby at_219) rfl (pc' := 221) rfl ?_
                  refine w_iload X52 hx (hb hby at_221) rfl (pc' := 223) rfl ?_
                  refine own_call (W := 0) X52 hx hZ rfl hown hml.symm (wd9 hw) (wd10 hw) (wd11 hw) (wd12 hw) (rm_fin l Z a0 hw [] n0 kA1 B fr (fr + lq) _ P52 hkA1 hB (by omega) (by omega)) (by decide) (by decide) (by decide) (by decide) (by decide) (argsL := [.ref (n0 + 0), .int (Int32.ofNat fr), .int (Int32.ofNat (fr + lq))]) (rest := []) pd3 rfl rfl rfl (Nat.le_of_eq rfl) (hb hby at_223) (pc' := 226) rfl ?_
                  intro v54 T54 L53 X54 hq
                  obtain ⟨rfl, N53, P54⟩ := hq
                  replace N53 := Fr.app N51 N53
                  refine w_iload X54 hx (hb hby at_226) rfl (pc' := 228) rfl ?_
                  refine w_icmp_ne X54 hx (hb hby at_228) (by decide) (pcY := 235) (by decide) (pc' := 231) rfl (fun h17 => absurd (by rw [own_fi, if_pos ht0, if_neg hz0, ← (show a1 = fr + own_k B (fr + lq) fr from ea1), own_fi, if_pos ht1, if_neg hz1, ← (show a2 = a1 + own_k B (fr + lq) a1 from ea2), own_fi, if_pos ht2, if_neg hz2, ← (show a3 = a2 + own_k B (fr + lq) a2 from ea3), own_fi, if_pos ht3, if_neg hz3, ← (show a4 = a3 + own_k B (fr + lq) a3 from ea4), own_fi, if_pos ht4, if_neg hz4, ← (show a5 = a4 + own_k B (fr + lq) a4 from ea5), own_fi, if_pos ht5, if_neg hz5, ← (show a6 = a5 + own_k B (fr + lq) a5 from ea6), own_fi, if_pos ht6, if_neg hz6, ← (show a7 = a6 + own_k B (fr + lq) a6 from ea7), own_fi, if_pos ht7, if_neg hz7, ← (show a8 = a7 + own_k B (fr + lq) a7 from ea8), own_fi, if_neg (by omega)]) h17) (fun h17 => ?_)
                  refine w_iconst (v := (1 : Int32)) X54 hx (hb hby at_231) rfl (pc' := 232) rfl ?_
                  refine w_goto X54 hx (hb hby at_232) (by decide) (pc' := 236) (by decide) ?_
                  exact w_ret_n (t := .boolean) X54 hx hret hlk (by simp) (hb hby at_236) (z' := (1 : Int32)) rfl (by decide) (by decide) ⟨rfl, N53⟩
                · refine w_istore (l' := #[.val (.long x0), .second, .val (.int x1), .val (.int x2), .val (.ref (n0 + 0)), .val (.int (Int32.ofNat fr)), .val (.int (Int32.ofNat (fr + lq))), .val (.int (Int32.ofNat a7)), .unset]) X52 hx (hb hby at_199) rfl (pc' := 201) rfl ?_
                  refine w_iload X52 hx (hb hby at_201) rfl (pc' := 203) rfl ?_
                  refine w_if_ge X52 hx (hb hby at_203) (by decide) (pcY := 214) (by decide) (pc' := 206) rfl (fun h18 => ?_) (fun h18 => absurd ((own_olt (a := a7) (b := 0) (by omega) (by omega)).mp h18) (Nat.not_lt_zero _))
                  refine w_iconst (v := (-1 : Int32)) X52 hx (hb hby at_214) rfl (pc' := 215) rfl ?_
                  refine w_istore (l' := #[.val (.long x0), .second, .val (.int x1), .val (.int x2), .val (.ref (n0 + 0)), .val (.int (Int32.ofNat fr)), .val (.int (Int32.ofNat (fr + lq))), .val (.int (Int32.ofNat a7)), .val (.int (-1 : Int32))]) X52 hx (hb hby at_215) rfl (pc' := 217) rfl ?_
                  refine w_aload X52 hx (hb hby at_217) rfl rfl (pc' := 219) rfl ?_
                  refine w_iload X52 hx (hb hby at_219) rfl (pc' := 221) rfl ?_
                  refine w_iload X52 hx (hb hby at_221) rfl (pc' := 223) rfl ?_
                  refine own_call (W := 0) X52 hx hZ rfl hown hml.symm (wd9 hw) (wd10 hw) (wd11 hw) (wd12 hw) (rm_fin l Z a0 hw [] n0 kA1 B fr (fr + lq) _ P52 hkA1 hB (by omega) (by omega)) (by decide) (by decide) (by decide) (by decide) (by decide) (argsL := [.ref (n0 + 0), .int (Int32.ofNat fr), .int (Int32.ofNat (fr + lq))]) (rest := []) pd3 rfl rfl rfl (Nat.le_of_eq rfl) (hb hby at_223) (pc' := 226) rfl ?_
                  intro v55 T55 L54 X55 hq
                  obtain ⟨rfl, N54, P55⟩ := hq
                  replace N54 := Fr.app N51 N54
                  refine w_iload X55 hx (hb hby at_226) rfl (pc' := 228) rfl ?_
                  refine w_icmp_ne X55 hx (hb hby at_228) (by decide) (pcY := 235) (by decide) (pc' := 231) rfl (fun h19 => absurd (by rw [own_fi, if_pos ht0, if_neg hz0, ← (show a1 = fr + own_k B (fr + lq) fr from ea1), own_fi, if_pos ht1, if_neg hz1, ← (show a2 = a1 + own_k B (fr + lq) a1 from ea2), own_fi, if_pos ht2, if_neg hz2, ← (show a3 = a2 + own_k B (fr + lq) a2 from ea3), own_fi, if_pos ht3, if_neg hz3, ← (show a4 = a3 + own_k B (fr + lq) a3 from ea4), own_fi, if_pos ht4, if_neg hz4, ← (show a5 = a4 + own_k B (fr + lq) a4 from ea5), own_fi, if_pos ht5, if_neg hz5, ← (show a6 = a5 + own_k B (fr + lq) a5 from ea6), own_fi, if_pos ht6, if_neg hz6, ← (show a7 = a6 + own_k B (fr + lq) a6 from ea7), own_fi, if_neg ht7]) h19) (fun h19 => ?_)
                  refine w_iconst (v := (1 : Int32)) X55 hx (hb hby at_231) rfl (pc' := 232) rfl ?_
                  refine w_goto X55 hx (hb hby at_232) (by decide) (pc' := 236) (by decide) ?_
                  exact w_ret_n (t := .boolean) X55 hx hret hlk (by simp) (hb hby at_236) (z' := (1 : Int32)) rfl (by decide) (by decide) ⟨rfl, N54⟩
              · refine w_istore (l' := #[.val (.long x0), .second, .val (.int x1), .val (.int x2), .val (.ref (n0 + 0)), .val (.int (Int32.ofNat fr)), .val (.int (Int32.ofNat (fr + lq))), .val (.int (Int32.ofNat a6)), .unset]) X49 hx (hb hby at_188) rfl (pc' := 190) rfl ?_
                refine w_aload X49 hx (hb hby at_190) rfl rfl (pc' := 192) rfl ?_
                refine w_iload X49 hx (hb hby at_192) rfl (pc' := 194) rfl ?_
                refine w_iload X49 hx (hb hby at_194) rfl (pc' := 196) rfl ?_
                refine own_call (W := 0) X49 hx hZ rfl hown hml.symm (wd2 hw) (wd3 hw) (wd4 hw) (wd5 hw) (rm_nxt l Z a0 hw [] n0 kA1 B a6 (fr + lq) _ P49 hkA1 hB (by omega) (by omega)) (by decide) (by decide) (by decide) (by decide) (by decide) (argsL := [.ref (n0 + 0), .int (Int32.ofNat a6), .int (Int32.ofNat (fr + lq))]) (rest := []) pd1 rfl rfl rfl (Nat.le_of_eq rfl) (hb hby at_196) (pc' := 199) rfl ?_
                intro v56 T56 L55 X56 hq
                obtain ⟨N55, P56, hq⟩ := hq
                replace N55 := Fr.app N48 N55
                obtain rfl : v56 = some (.int (Int32.ofNat a6)) := by rcases hq with ⟨z, -⟩ | ⟨z, -⟩ | ⟨-, z⟩ <;> first | exact z | (exfalso; omega)
                refine w_istore (l' := #[.val (.long x0), .second, .val (.int x1), .val (.int x2), .val (.ref (n0 + 0)), .val (.int (Int32.ofNat fr)), .val (.int (Int32.ofNat (fr + lq))), .val (.int (Int32.ofNat a6)), .unset]) X56 hx (hb hby at_199) rfl (pc' := 201) rfl ?_
                refine w_iload X56 hx (hb hby at_201) rfl (pc' := 203) rfl ?_
                refine w_if_ge X56 hx (hb hby at_203) (by decide) (pcY := 214) (by decide) (pc' := 206) rfl (fun h20 => ?_) (fun h20 => absurd ((own_olt (a := a6) (b := 0) (by omega) (by omega)).mp h20) (Nat.not_lt_zero _))
                refine w_iconst (v := (-1 : Int32)) X56 hx (hb hby at_214) rfl (pc' := 215) rfl ?_
                refine w_istore (l' := #[.val (.long x0), .second, .val (.int x1), .val (.int x2), .val (.ref (n0 + 0)), .val (.int (Int32.ofNat fr)), .val (.int (Int32.ofNat (fr + lq))), .val (.int (Int32.ofNat a6)), .val (.int (-1 : Int32))]) X56 hx (hb hby at_215) rfl (pc' := 217) rfl ?_
                refine w_aload X56 hx (hb hby at_217) rfl rfl (pc' := 219) rfl ?_
                refine w_iload X56 hx (hb hby at_219) rfl (pc' := 221) rfl ?_
                refine w_iload X56 hx (hb hby at_221) rfl (pc' := 223) rfl ?_
                refine own_call (W := 0) X56 hx hZ rfl hown hml.symm (wd9 hw) (wd10 hw) (wd11 hw) (wd12 hw) (rm_fin l Z a0 hw [] n0 kA1 B fr (fr + lq) _ P56 hkA1 hB (by omega) (by omega)) (by decide) (by decide) (by decide) (by decide) (by decide) (argsL := [.ref (n0 + 0), .int (Int32.ofNat fr), .int (Int32.ofNat (fr + lq))]) (rest := []) pd3 rfl rfl rfl (Nat.le_of_eq rfl) (hb hby at_223) (pc' := 226) rfl ?_
                intro v57 T57 L56 X57 hq
                obtain ⟨rfl, N56, P57⟩ := hq
                replace N56 := Fr.app N55 N56
                refine w_iload X57 hx (hb hby at_226) rfl (pc' := 228) rfl ?_
                refine w_icmp_ne X57 hx (hb hby at_228) (by decide) (pcY := 235) (by decide) (pc' := 231) rfl (fun h21 => absurd (by rw [own_fi, if_pos ht0, if_neg hz0, ← (show a1 = fr + own_k B (fr + lq) fr from ea1), own_fi, if_pos ht1, if_neg hz1, ← (show a2 = a1 + own_k B (fr + lq) a1 from ea2), own_fi, if_pos ht2, if_neg hz2, ← (show a3 = a2 + own_k B (fr + lq) a2 from ea3), own_fi, if_pos ht3, if_neg hz3, ← (show a4 = a3 + own_k B (fr + lq) a3 from ea4), own_fi, if_pos ht4, if_neg hz4, ← (show a5 = a4 + own_k B (fr + lq) a4 from ea5), own_fi, if_pos ht5, if_neg hz5, ← (show a6 = a5 + own_k B (fr + lq) a5 from ea6), own_fi, if_neg ht6]) h21) (fun h21 => ?_)
                refine w_iconst (v := (1 : Int32)) X57 hx (hb hby at_231) rfl (pc' := 232) rfl ?_
                refine w_goto X57 hx (hb hby at_232) (by decide) (pc' := 236) (by decide) ?_
                exact w_ret_n (t := .boolean) X57 hx hret hlk (by simp) (hb hby at_236) (z' := (1 : Int32)) rfl (by decide) (by decide) ⟨rfl, N56⟩
            · refine w_istore (l' := #[.val (.long x0), .second, .val (.int x1), .val (.int x2), .val (.ref (n0 + 0)), .val (.int (Int32.ofNat fr)), .val (.int (Int32.ofNat (fr + lq))), .val (.int (Int32.ofNat a5)), .unset]) X45 hx (hb hby at_177) rfl (pc' := 179) rfl ?_
              refine w_aload X45 hx (hb hby at_179) rfl rfl (pc' := 181) rfl ?_
              refine w_iload X45 hx (hb hby at_181) rfl (pc' := 183) rfl ?_
              refine w_iload X45 hx (hb hby at_183) rfl (pc' := 185) rfl ?_
              refine own_call (W := 0) X45 hx hZ rfl hown hml.symm (wd2 hw) (wd3 hw) (wd4 hw) (wd5 hw) (rm_nxt l Z a0 hw [] n0 kA1 B a5 (fr + lq) _ P45 hkA1 hB (by omega) (by omega)) (by decide) (by decide) (by decide) (by decide) (by decide) (argsL := [.ref (n0 + 0), .int (Int32.ofNat a5), .int (Int32.ofNat (fr + lq))]) (rest := []) pd1 rfl rfl rfl (Nat.le_of_eq rfl) (hb hby at_185) (pc' := 188) rfl ?_
              intro v58 T58 L57 X58 hq
              obtain ⟨N57, P58, hq⟩ := hq
              replace N57 := Fr.app N44 N57
              obtain rfl : v58 = some (.int (Int32.ofNat a5)) := by rcases hq with ⟨z, -⟩ | ⟨z, -⟩ | ⟨-, z⟩ <;> first | exact z | (exfalso; omega)
              refine w_istore (l' := #[.val (.long x0), .second, .val (.int x1), .val (.int x2), .val (.ref (n0 + 0)), .val (.int (Int32.ofNat fr)), .val (.int (Int32.ofNat (fr + lq))), .val (.int (Int32.ofNat a5)), .unset]) X58 hx (hb hby at_188) rfl (pc' := 190) rfl ?_
              refine w_aload X58 hx (hb hby at_190) rfl rfl (pc' := 192) rfl ?_
              refine w_iload X58 hx (hb hby at_192) rfl (pc' := 194) rfl ?_
              refine w_iload X58 hx (hb hby at_194) rfl (pc' := 196) rfl ?_
              refine own_call (W := 0) X58 hx hZ rfl hown hml.symm (wd2 hw) (wd3 hw) (wd4 hw) (wd5 hw) (rm_nxt l Z a0 hw [] n0 kA1 B a5 (fr + lq) _ P58 hkA1 hB (by omega) (by omega)) (by decide) (by decide) (by decide) (by decide) (by decide) (argsL := [.ref (n0 + 0), .int (Int32.ofNat a5), .int (Int32.ofNat (fr + lq))]) (rest := []) pd1 rfl rfl rfl (Nat.le_of_eq rfl) (hb hby at_196) (pc' := 199) rfl ?_
              intro v59 T59 L58 X59 hq
              obtain ⟨N58, P59, hq⟩ := hq
              replace N58 := Fr.app N57 N58
              obtain rfl : v59 = some (.int (Int32.ofNat a5)) := by rcases hq with ⟨z, -⟩ | ⟨z, -⟩ | ⟨-, z⟩ <;> first | exact z | (exfalso; omega)
              refine w_istore (l' := #[.val (.long x0), .second, .val (.int x1), .val (.int x2), .val (.ref (n0 + 0)), .val (.int (Int32.ofNat fr)), .val (.int (Int32.ofNat (fr + lq))), .val (.int (Int32.ofNat a5)), .unset]) X59 hx (hb hby at_199) rfl (pc' := 201) rfl ?_
              refine w_iload X59 hx (hb hby at_201) rfl (pc' := 203) rfl ?_
              refine w_if_ge X59 hx (hb hby at_203) (by decide) (pcY := 214) (by decide) (pc' := 206) rfl (fun h22 => ?_) (fun h22 => absurd ((own_olt (a := a5) (b := 0) (by omega) (by omega)).mp h22) (Nat.not_lt_zero _))
              refine w_iconst (v := (-1 : Int32)) X59 hx (hb hby at_214) rfl (pc' := 215) rfl ?_
              refine w_istore (l' := #[.val (.long x0), .second, .val (.int x1), .val (.int x2), .val (.ref (n0 + 0)), .val (.int (Int32.ofNat fr)), .val (.int (Int32.ofNat (fr + lq))), .val (.int (Int32.ofNat a5)), .val (.int (-1 : Int32))]) X59 hx (hb hby at_215) rfl (pc' := 217) rfl ?_
              refine w_aload X59 hx (hb hby at_217) rfl rfl (pc' := 219) rfl ?_
              refine w_iload X59 hx (hb hby at_219) rfl (pc' := 221) rfl ?_
              refine w_iload X59 hx (hb hby at_221) rfl (pc' := 223) rfl ?_
              refine own_call (W := 0) X59 hx hZ rfl hown hml.symm (wd9 hw) (wd10 hw) (wd11 hw) (wd12 hw) (rm_fin l Z a0 hw [] n0 kA1 B fr (fr + lq) _ P59 hkA1 hB (by omega) (by omega)) (by decide) (by decide) (by decide) (by decide) (by decide) (argsL := [.ref (n0 + 0), .int (Int32.ofNat fr), .int (Int32.ofNat (fr + lq))]) (rest := []) pd3 rfl rfl rfl (Nat.le_of_eq rfl) (hb hby at_223) (pc' := 226) rfl ?_
              intro v60 T60 L59 X60 hq
              obtain ⟨rfl, N59, P60⟩ := hq
              replace N59 := Fr.app N58 N59
              refine w_iload X60 hx (hb hby at_226) rfl (pc' := 228) rfl ?_
              refine w_icmp_ne X60 hx (hb hby at_228) (by decide) (pcY := 235) (by decide) (pc' := 231) rfl (fun h23 => absurd (by rw [own_fi, if_pos ht0, if_neg hz0, ← (show a1 = fr + own_k B (fr + lq) fr from ea1), own_fi, if_pos ht1, if_neg hz1, ← (show a2 = a1 + own_k B (fr + lq) a1 from ea2), own_fi, if_pos ht2, if_neg hz2, ← (show a3 = a2 + own_k B (fr + lq) a2 from ea3), own_fi, if_pos ht3, if_neg hz3, ← (show a4 = a3 + own_k B (fr + lq) a3 from ea4), own_fi, if_pos ht4, if_neg hz4, ← (show a5 = a4 + own_k B (fr + lq) a4 from ea5), own_fi, if_neg ht5]) h23) (fun h23 => ?_)
              refine w_iconst (v := (1 : Int32)) X60 hx (hb hby at_231) rfl (pc' := 232) rfl ?_
              refine w_goto X60 hx (hb hby at_232) (by decide) (pc' := 236) (by decide) ?_
              exact w_ret_n (t := .boolean) X60 hx hret hlk (by simp) (hb hby at_236) (z' := (1 : Int32)) rfl (by decide) (by decide) ⟨rfl, N59⟩
          · refine w_istore (l' := #[.val (.long x0), .second, .val (.int x1), .val (.int x2), .val (.ref (n0 + 0)), .val (.int (Int32.ofNat fr)), .val (.int (Int32.ofNat (fr + lq))), .val (.int (Int32.ofNat a4)), .unset]) X40 hx (hb hby at_166) rfl (pc' := 168) rfl ?_
            refine w_aload X40 hx (hb hby at_168) rfl rfl (pc' := 170) rfl ?_
            refine w_iload X40 hx (hb hby at_170) rfl (pc' := 172) rfl ?_
            refine w_iload X40 hx (hb hby at_172) rfl (pc' := 174) rfl ?_
            refine own_call (W := 0) X40 hx hZ rfl hown hml.symm (wd2 hw) (wd3 hw) (wd4 hw) (wd5 hw) (rm_nxt l Z a0 hw [] n0 kA1 B a4 (fr + lq) _ P40 hkA1 hB (by omega) (by omega)) (by decide) (by decide) (by decide) (by decide) (by decide) (argsL := [.ref (n0 + 0), .int (Int32.ofNat a4), .int (Int32.ofNat (fr + lq))]) (rest := []) pd1 rfl rfl rfl (Nat.le_of_eq rfl) (hb hby at_174) (pc' := 177) rfl ?_
            intro v61 T61 L60 X61 hq
            obtain ⟨N60, P61, hq⟩ := hq
            replace N60 := Fr.app N39 N60
            obtain rfl : v61 = some (.int (Int32.ofNat a4)) := by rcases hq with ⟨z, -⟩ | ⟨z, -⟩ | ⟨-, z⟩ <;> first | exact z | (exfalso; omega)
            refine w_istore (l' := #[.val (.long x0), .second, .val (.int x1), .val (.int x2), .val (.ref (n0 + 0)), .val (.int (Int32.ofNat fr)), .val (.int (Int32.ofNat (fr + lq))), .val (.int (Int32.ofNat a4)), .unset]) X61 hx (hb hby at_177) rfl (pc' := 179) rfl ?_
            refine w_aload X61 hx (hb hby at_179) rfl rfl (pc' := 181) rfl ?_
            refine w_iload X61 hx (hb hby at_181) rfl (pc' := 183) rfl ?_
            refine w_iload X61 hx (hb hby at_183) rfl (pc' := 185) rfl ?_
            refine own_call (W := 0) X61 hx hZ rfl hown hml.symm (wd2 hw) (wd3 hw) (wd4 hw) (wd5 hw) (rm_nxt l Z a0 hw [] n0 kA1 B a4 (fr + lq) _ P61 hkA1 hB (by omega) (by omega)) (by decide) (by decide) (by decide) (by decide) (by decide) (argsL := [.ref (n0 + 0), .int (Int32.ofNat a4), .int (Int32.ofNat (fr + lq))]) (rest := []) pd1 rfl rfl rfl (Nat.le_of_eq rfl) (hb hby at_185) (pc' := 188) rfl ?_
            intro v62 T62 L61 X62 hq
            obtain ⟨N61, P62, hq⟩ := hq
            replace N61 := Fr.app N60 N61
            obtain rfl : v62 = some (.int (Int32.ofNat a4)) := by rcases hq with ⟨z, -⟩ | ⟨z, -⟩ | ⟨-, z⟩ <;> first | exact z | (exfalso; omega)
            refine w_istore (l' := #[.val (.long x0), .second, .val (.int x1), .val (.int x2), .val (.ref (n0 + 0)), .val (.int (Int32.ofNat fr)), .val (.int (Int32.ofNat (fr + lq))), .val (.int (Int32.ofNat a4)), .unset]) X62 hx (hb hby at_188) rfl (pc' := 190) rfl ?_
            refine w_aload X62 hx (hb hby at_190) rfl rfl (pc' := 192) rfl ?_
            refine w_iload X62 hx (hb hby at_192) rfl (pc' := 194) rfl ?_
            refine w_iload X62 hx (hb hby at_194) rfl (pc' := 196) rfl ?_
            refine own_call (W := 0) X62 hx hZ rfl hown hml.symm (wd2 hw) (wd3 hw) (wd4 hw) (wd5 hw) (rm_nxt l Z a0 hw [] n0 kA1 B a4 (fr + lq) _ P62 hkA1 hB (by omega) (by omega)) (by decide) (by decide) (by decide) (by decide) (by decide) (argsL := [.ref (n0 + 0), .int (Int32.ofNat a4), .int (Int32.ofNat (fr + lq))]) (rest := []) pd1 rfl rfl rfl (Nat.le_of_eq rfl) (hb hby at_196) (pc' := 199) rfl ?_
            intro v63 T63 L62 X63 hq
            obtain ⟨N62, P63, hq⟩ := hq
            replace N62 := Fr.app N61 N62
            obtain rfl : v63 = some (.int (Int32.ofNat a4)) := by rcases hq with ⟨z, -⟩ | ⟨z, -⟩ | ⟨-, z⟩ <;> first | exact z | (exfalso; omega)
            refine w_istore (l' := #[.val (.long x0), .second, .val (.int x1), .val (.int x2), .val (.ref (n0 + 0)), .val (.int (Int32.ofNat fr)), .val (.int (Int32.ofNat (fr + lq))), .val (.int (Int32.ofNat a4)), .unset]) X63 hx (hb hby at_199) rfl (pc' := 201) rfl ?_
            refine w_iload X63 hx (hb hby at_201) rfl (pc' := 203) rfl ?_
            refine w_if_ge X63 hx (hb hby at_203) (by decide) (pcY := 214) (by decide) (pc' := 206) rfl (fun h24 => ?_) (fun h24 => absurd ((own_olt (a := a4) (b := 0) (by omega) (by omega)).mp h24) (Nat.not_lt_zero _))
            refine w_iconst (v := (-1 : Int32)) X63 hx (hb hby at_214) rfl (pc' := 215) rfl ?_
            refine w_istore (l' := #[.val (.long x0), .second, .val (.int x1), .val (.int x2), .val (.ref (n0 + 0)), .val (.int (Int32.ofNat fr)), .val (.int (Int32.ofNat (fr + lq))), .val (.int (Int32.ofNat a4)), .val (.int (-1 : Int32))]) X63 hx (hb hby at_215) rfl (pc' := 217) rfl ?_
            refine w_aload X63 hx (hb hby at_217) rfl rfl (pc' := 219) rfl ?_
            refine w_iload X63 hx (hb hby at_219) rfl (pc' := 221) rfl ?_
            refine w_iload X63 hx (hb hby at_221) rfl (pc' := 223) rfl ?_
            refine own_call (W := 0) X63 hx hZ rfl hown hml.symm (wd9 hw) (wd10 hw) (wd11 hw) (wd12 hw) (rm_fin l Z a0 hw [] n0 kA1 B fr (fr + lq) _ P63 hkA1 hB (by omega) (by omega)) (by decide) (by decide) (by decide) (by decide) (by decide) (argsL := [.ref (n0 + 0), .int (Int32.ofNat fr), .int (Int32.ofNat (fr + lq))]) (rest := []) pd3 rfl rfl rfl (Nat.le_of_eq rfl) (hb hby at_223) (pc' := 226) rfl ?_
            intro v64 T64 L63 X64 hq
            obtain ⟨rfl, N63, P64⟩ := hq
            replace N63 := Fr.app N62 N63
            refine w_iload X64 hx (hb hby at_226) rfl (pc' := 228) rfl ?_
            refine w_icmp_ne X64 hx (hb hby at_228) (by decide) (pcY := 235) (by decide) (pc' := 231) rfl (fun h25 => absurd (by rw [own_fi, if_pos ht0, if_neg hz0, ← (show a1 = fr + own_k B (fr + lq) fr from ea1), own_fi, if_pos ht1, if_neg hz1, ← (show a2 = a1 + own_k B (fr + lq) a1 from ea2), own_fi, if_pos ht2, if_neg hz2, ← (show a3 = a2 + own_k B (fr + lq) a2 from ea3), own_fi, if_pos ht3, if_neg hz3, ← (show a4 = a3 + own_k B (fr + lq) a3 from ea4), own_fi, if_neg ht4]) h25) (fun h25 => ?_)
            refine w_iconst (v := (1 : Int32)) X64 hx (hb hby at_231) rfl (pc' := 232) rfl ?_
            refine w_goto X64 hx (hb hby at_232) (by decide) (pc' := 236) (by decide) ?_
            exact w_ret_n (t := .boolean) X64 hx hret hlk (by simp) (hb hby at_236) (z' := (1 : Int32)) rfl (by decide) (by decide) ⟨rfl, N63⟩
        · refine w_istore (l' := #[.val (.long x0), .second, .val (.int x1), .val (.int x2), .val (.ref (n0 + 0)), .val (.int (Int32.ofNat fr)), .val (.int (Int32.ofNat (fr + lq))), .val (.int (Int32.ofNat a3)), .unset]) X34 hx (hb hby at_155) rfl (pc' := 157) rfl ?_
          refine w_aload X34 hx (hb hby at_157) rfl rfl (pc' := 159) rfl ?_
          refine w_iload X34 hx (hb hby at_159) rfl (pc' := 161) rfl ?_
          refine w_iload X34 hx (hb hby at_161) rfl (pc' := 163) rfl ?_
          refine own_call (W := 0) X34 hx hZ rfl hown hml.symm (wd2 hw) (wd3 hw) (wd4 hw) (wd5 hw) (rm_nxt l Z a0 hw [] n0 kA1 B a3 (fr + lq) _ P34 hkA1 hB (by omega) (by omega)) (by decide) (by decide) (by decide) (by decide) (by decide) (argsL := [.ref (n0 + 0), .int (Int32.ofNat a3), .int (Int32.ofNat (fr + lq))]) (rest := []) pd1 rfl rfl rfl (Nat.le_of_eq rfl) (hb hby at_163) (pc' := 166) rfl ?_
          intro v65 T65 L64 X65 hq
          obtain ⟨N64, P65, hq⟩ := hq
          replace N64 := Fr.app N33 N64
          obtain rfl : v65 = some (.int (Int32.ofNat a3)) := by rcases hq with ⟨z, -⟩ | ⟨z, -⟩ | ⟨-, z⟩ <;> first | exact z | (exfalso; omega)
          refine w_istore (l' := #[.val (.long x0), .second, .val (.int x1), .val (.int x2), .val (.ref (n0 + 0)), .val (.int (Int32.ofNat fr)), .val (.int (Int32.ofNat (fr + lq))), .val (.int (Int32.ofNat a3)), .unset]) X65 hx (hb hby at_166) rfl (pc' := 168) rfl ?_
          refine w_aload X65 hx (hb hby at_168) rfl rfl (pc' := 170) rfl ?_
          refine w_iload X65 hx (hb hby at_170) rfl (pc' := 172) rfl ?_
          refine w_iload X65 hx (hb hby at_172) rfl (pc' := 174) rfl ?_
          refine own_call (W := 0) X65 hx hZ rfl hown hml.symm (wd2 hw) (wd3 hw) (wd4 hw) (wd5 hw) (rm_nxt l Z a0 hw [] n0 kA1 B a3 (fr + lq) _ P65 hkA1 hB (by omega) (by omega)) (by decide) (by decide) (by decide) (by decide) (by decide) (argsL := [.ref (n0 + 0), .int (Int32.ofNat a3), .int (Int32.ofNat (fr + lq))]) (rest := []) pd1 rfl rfl rfl (Nat.le_of_eq rfl) (hb hby at_174) (pc' := 177) rfl ?_
          intro v66 T66 L65 X66 hq
          obtain ⟨N65, P66, hq⟩ := hq
          replace N65 := Fr.app N64 N65
          obtain rfl : v66 = some (.int (Int32.ofNat a3)) := by rcases hq with ⟨z, -⟩ | ⟨z, -⟩ | ⟨-, z⟩ <;> first | exact z | (exfalso; omega)
          refine w_istore (l' := #[.val (.long x0), .second, .val (.int x1), .val (.int x2), .val (.ref (n0 + 0)), .val (.int (Int32.ofNat fr)), .val (.int (Int32.ofNat (fr + lq))), .val (.int (Int32.ofNat a3)), .unset]) X66 hx (hb hby at_177) rfl (pc' := 179) rfl ?_
          refine w_aload X66 hx (hb hby at_179) rfl rfl (pc' := 181) rfl ?_
          refine w_iload X66 hx (hb hby at_181) rfl (pc' := 183) rfl ?_
          refine w_iload X66 hx (hb hby at_183) rfl (pc' := 185) rfl ?_
          refine own_call (W := 0) X66 hx hZ rfl hown hml.symm (wd2 hw) (wd3 hw) (wd4 hw) (wd5 hw) (rm_nxt l Z a0 hw [] n0 kA1 B a3 (fr + lq) _ P66 hkA1 hB (by omega) (by omega)) (by decide) (by decide) (by decide) (by decide) (by decide) (argsL := [.ref (n0 + 0), .int (Int32.ofNat a3), .int (Int32.ofNat (fr + lq))]) (rest := []) pd1 rfl rfl rfl (Nat.le_of_eq rfl) (hb hby at_185) (pc' := 188) rfl ?_
          intro v67 T67 L66 X67 hq
          obtain ⟨N66, P67, hq⟩ := hq
          replace N66 := Fr.app N65 N66
          obtain rfl : v67 = some (.int (Int32.ofNat a3)) := by rcases hq with ⟨z, -⟩ | ⟨z, -⟩ | ⟨-, z⟩ <;> first | exact z | (exfalso; omega)
          refine w_istore (l' := #[.val (.long x0), .second, .val (.int x1), .val (.int x2), .val (.ref (n0 + 0)), .val (.int (Int32.ofNat fr)), .val (.int (Int32.ofNat (fr + lq))), .val (.int (Int32.ofNat a3)), .unset]) X67 hx (hb hby at_188) rfl (pc' := 190) rfl ?_
          refine w_aload X67 hx (hb hby at_190) rfl rfl (pc' := 192) rfl ?_
          refine w_iload X67 hx (hb hby at_192) rfl (pc' := 194) rfl ?_
          refine w_iload X67 hx (hb hby at_194) rfl (pc' := 196) rfl ?_
          refine own_call (W := 0) X67 hx hZ rfl hown hml.symm (wd2 hw) (wd3 hw) (wd4 hw) (wd5 hw) (rm_nxt l Z a0 hw [] n0 kA1 B a3 (fr + lq) _ P67 hkA1 hB (by omega) (by omega)) (by decide) (by decide) (by decide) (by decide) (by decide) (argsL := [.ref (n0 + 0), .int (Int32.ofNat a3), .int (Int32.ofNat (fr + lq))]) (rest := []) pd1 rfl rfl rfl (Nat.le_of_eq rfl) (hb hby at_196) (pc' := 199) rfl ?_
          intro v68 T68 L67 X68 hq
          obtain ⟨N67, P68, hq⟩ := hq
          replace N67 := Fr.app N66 N67
          obtain rfl : v68 = some (.int (Int32.ofNat a3)) := by rcases hq with ⟨z, -⟩ | ⟨z, -⟩ | ⟨-, z⟩ <;> first | exact z | (exfalso; omega)
          refine w_istore (l' := #[.val (.long x0), .second, .val (.int x1), .val (.int x2), .val (.ref (n0 + 0)), .val (.int (Int32.ofNat fr)), .val (.int (Int32.ofNat (fr + lq))), .val (.int (Int32.ofNat a3)), .unset]) X68 hx (hb hby at_199) rfl (pc' := 201) rfl ?_
          refine w_iload X68 hx (hb hby at_201) rfl (pc' := 203) rfl ?_
          refine w_if_ge X68 hx (hb hby at_203) (by decide) (pcY := 214) (by decide) (pc' := 206) rfl (fun h26 => ?_) (fun h26 => absurd ((own_olt (a := a3) (b := 0) (by omega) (by omega)).mp h26) (Nat.not_lt_zero _))
          refine w_iconst (v := (-1 : Int32)) X68 hx (hb hby at_214) rfl (pc' := 215) rfl ?_
          refine w_istore (l' := #[.val (.long x0), .second, .val (.int x1), .val (.int x2), .val (.ref (n0 + 0)), .val (.int (Int32.ofNat fr)), .val (.int (Int32.ofNat (fr + lq))), .val (.int (Int32.ofNat a3)), .val (.int (-1 : Int32))]) X68 hx (hb hby at_215) rfl (pc' := 217) rfl ?_
          refine w_aload X68 hx (hb hby at_217) rfl rfl (pc' := 219) rfl ?_
          refine w_iload X68 hx (hb hby at_219) rfl (pc' := 221) rfl ?_
          refine w_iload X68 hx (hb hby at_221) rfl (pc' := 223) rfl ?_
          refine own_call (W := 0) X68 hx hZ rfl hown hml.symm (wd9 hw) (wd10 hw) (wd11 hw) (wd12 hw) (rm_fin l Z a0 hw [] n0 kA1 B fr (fr + lq) _ P68 hkA1 hB (by omega) (by omega)) (by decide) (by decide) (by decide) (by decide) (by decide) (argsL := [.ref (n0 + 0), .int (Int32.ofNat fr), .int (Int32.ofNat (fr + lq))]) (rest := []) pd3 rfl rfl rfl (Nat.le_of_eq rfl) (hb hby at_223) (pc' := 226) rfl ?_
          intro v69 T69 L68 X69 hq
          obtain ⟨rfl, N68, P69⟩ := hq
          replace N68 := Fr.app N67 N68
          refine w_iload X69 hx (hb hby at_226) rfl (pc' := 228) rfl ?_
          refine w_icmp_ne X69 hx (hb hby at_228) (by decide) (pcY := 235) (by decide) (pc' := 231) rfl (fun h27 => absurd (by rw [own_fi, if_pos ht0, if_neg hz0, ← (show a1 = fr + own_k B (fr + lq) fr from ea1), own_fi, if_pos ht1, if_neg hz1, ← (show a2 = a1 + own_k B (fr + lq) a1 from ea2), own_fi, if_pos ht2, if_neg hz2, ← (show a3 = a2 + own_k B (fr + lq) a2 from ea3), own_fi, if_neg ht3]) h27) (fun h27 => ?_)
          refine w_iconst (v := (1 : Int32)) X69 hx (hb hby at_231) rfl (pc' := 232) rfl ?_
          refine w_goto X69 hx (hb hby at_232) (by decide) (pc' := 236) (by decide) ?_
          exact w_ret_n (t := .boolean) X69 hx hret hlk (by simp) (hb hby at_236) (z' := (1 : Int32)) rfl (by decide) (by decide) ⟨rfl, N68⟩
      · refine w_istore (l' := #[.val (.long x0), .second, .val (.int x1), .val (.int x2), .val (.ref (n0 + 0)), .val (.int (Int32.ofNat fr)), .val (.int (Int32.ofNat (fr + lq))), .val (.int (Int32.ofNat a2)), .unset]) X27 hx (hb hby at_144) rfl (pc' := 146) rfl ?_
        refine w_aload X27 hx (hb hby at_146) rfl rfl (pc' := 148) rfl ?_
        refine w_iload X27 hx (hb hby at_148) rfl (pc' := 150) rfl ?_
        refine w_iload X27 hx (hb hby at_150) rfl (pc' := 152) rfl ?_
        refine own_call (W := 0) X27 hx hZ rfl hown hml.symm (wd2 hw) (wd3 hw) (wd4 hw) (wd5 hw) (rm_nxt l Z a0 hw [] n0 kA1 B a2 (fr + lq) _ P27 hkA1 hB (by omega) (by omega)) (by decide) (by decide) (by decide) (by decide) (by decide) (argsL := [.ref (n0 + 0), .int (Int32.ofNat a2), .int (Int32.ofNat (fr + lq))]) (rest := []) pd1 rfl rfl rfl (Nat.le_of_eq rfl) (hb hby at_152) (pc' := 155) rfl ?_
        intro v70 T70 L69 X70 hq
        obtain ⟨N69, P70, hq⟩ := hq
        replace N69 := Fr.app N26 N69
        obtain rfl : v70 = some (.int (Int32.ofNat a2)) := by rcases hq with ⟨z, -⟩ | ⟨z, -⟩ | ⟨-, z⟩ <;> first | exact z | (exfalso; omega)
        refine w_istore (l' := #[.val (.long x0), .second, .val (.int x1), .val (.int x2), .val (.ref (n0 + 0)), .val (.int (Int32.ofNat fr)), .val (.int (Int32.ofNat (fr + lq))), .val (.int (Int32.ofNat a2)), .unset]) X70 hx (hb hby at_155) rfl (pc' := 157) rfl ?_
        refine w_aload X70 hx (hb hby at_157) rfl rfl (pc' := 159) rfl ?_
        refine w_iload X70 hx (hb hby at_159) rfl (pc' := 161) rfl ?_
        refine w_iload X70 hx (hb hby at_161) rfl (pc' := 163) rfl ?_
        refine own_call (W := 0) X70 hx hZ rfl hown hml.symm (wd2 hw) (wd3 hw) (wd4 hw) (wd5 hw) (rm_nxt l Z a0 hw [] n0 kA1 B a2 (fr + lq) _ P70 hkA1 hB (by omega) (by omega)) (by decide) (by decide) (by decide) (by decide) (by decide) (argsL := [.ref (n0 + 0), .int (Int32.ofNat a2), .int (Int32.ofNat (fr + lq))]) (rest := []) pd1 rfl rfl rfl (Nat.le_of_eq rfl) (hb hby at_163) (pc' := 166) rfl ?_
        intro v71 T71 L70 X71 hq
        obtain ⟨N70, P71, hq⟩ := hq
        replace N70 := Fr.app N69 N70
        obtain rfl : v71 = some (.int (Int32.ofNat a2)) := by rcases hq with ⟨z, -⟩ | ⟨z, -⟩ | ⟨-, z⟩ <;> first | exact z | (exfalso; omega)
        refine w_istore (l' := #[.val (.long x0), .second, .val (.int x1), .val (.int x2), .val (.ref (n0 + 0)), .val (.int (Int32.ofNat fr)), .val (.int (Int32.ofNat (fr + lq))), .val (.int (Int32.ofNat a2)), .unset]) X71 hx (hb hby at_166) rfl (pc' := 168) rfl ?_
        refine w_aload X71 hx (hb hby at_168) rfl rfl (pc' := 170) rfl ?_
        refine w_iload X71 hx (hb hby at_170) rfl (pc' := 172) rfl ?_
        refine w_iload X71 hx (hb hby at_172) rfl (pc' := 174) rfl ?_
        refine own_call (W := 0) X71 hx hZ rfl hown hml.symm (wd2 hw) (wd3 hw) (wd4 hw) (wd5 hw) (rm_nxt l Z a0 hw [] n0 kA1 B a2 (fr + lq) _ P71 hkA1 hB (by omega) (by omega)) (by decide) (by decide) (by decide) (by decide) (by decide) (argsL := [.ref (n0 + 0), .int (Int32.ofNat a2), .int (Int32.ofNat (fr + lq))]) (rest := []) pd1 rfl rfl rfl (Nat.le_of_eq rfl) (hb hby at_174) (pc' := 177) rfl ?_
        intro v72 T72 L71 X72 hq
        obtain ⟨N71, P72, hq⟩ := hq
        replace N71 := Fr.app N70 N71
        obtain rfl : v72 = some (.int (Int32.ofNat a2)) := by rcases hq with ⟨z, -⟩ | ⟨z, -⟩ | ⟨-, z⟩ <;> first | exact z | (exfalso; omega)
        refine w_istore (l' := #[.val (.long x0), .second, .val (.int x1), .val (.int x2), .val (.ref (n0 + 0)), .val (.int (Int32.ofNat fr)), .val (.int (Int32.ofNat (fr + lq))), .val (.int (Int32.ofNat a2)), .unset]) X72 hx (hb hby at_177) rfl (pc' := 179) rfl ?_
        refine w_aload X72 hx (hb hby at_179) rfl rfl (pc' := 181) rfl ?_
        refine w_iload X72 hx (hb hby at_181) rfl (pc' := 183) rfl ?_
        refine w_iload X72 hx (hb hby at_183) rfl (pc' := 185) rfl ?_
        refine own_call (W := 0) X72 hx hZ rfl hown hml.symm (wd2 hw) (wd3 hw) (wd4 hw) (wd5 hw) (rm_nxt l Z a0 hw [] n0 kA1 B a2 (fr + lq) _ P72 hkA1 hB (by omega) (by omega)) (by decide) (by decide) (by decide) (by decide) (by decide) (argsL := [.ref (n0 + 0), .int (Int32.ofNat a2), .int (Int32.ofNat (fr + lq))]) (rest := []) pd1 rfl rfl rfl (Nat.le_of_eq rfl) (hb hby at_185) (pc' := 188) rfl ?_
        intro v73 T73 L72 X73 hq
        obtain ⟨N72, P73, hq⟩ := hq
        replace N72 := Fr.app N71 N72
        obtain rfl : v73 = some (.int (Int32.ofNat a2)) := by rcases hq with ⟨z, -⟩ | ⟨z, -⟩ | ⟨-, z⟩ <;> first | exact z | (exfalso; omega)
        refine w_istore (l' := #[.val (.long x0), .second, .val (.int x1), .val (.int x2), .val (.ref (n0 + 0)), .val (.int (Int32.ofNat fr)), .val (.int (Int32.ofNat (fr + lq))), .val (.int (Int32.ofNat a2)), .unset]) X73 hx (hb hby at_188) rfl (pc' := 190) rfl ?_
        refine w_aload X73 hx (hb hby at_190) rfl rfl (pc' := 192) rfl ?_
        refine w_iload X73 hx (hb hby at_192) rfl (pc' := 194) rfl ?_
        refine w_iload X73 hx (hb hby at_194) rfl (pc' := 196) rfl ?_
        refine own_call (W := 0) X73 hx hZ rfl hown hml.symm (wd2 hw) (wd3 hw) (wd4 hw) (wd5 hw) (rm_nxt l Z a0 hw [] n0 kA1 B a2 (fr + lq) _ P73 hkA1 hB (by omega) (by omega)) (by decide) (by decide) (by decide) (by decide) (by decide) (argsL := [.ref (n0 + 0), .int (Int32.ofNat a2), .int (Int32.ofNat (fr + lq))]) (rest := []) pd1 rfl rfl rfl (Nat.le_of_eq rfl) (hb hby at_196) (pc' := 199) rfl ?_
        intro v74 T74 L73 X74 hq
        obtain ⟨N73, P74, hq⟩ := hq
        replace N73 := Fr.app N72 N73
        obtain rfl : v74 = some (.int (Int32.ofNat a2)) := by rcases hq with ⟨z, -⟩ | ⟨z, -⟩ | ⟨-, z⟩ <;> first | exact z | (exfalso; omega)
        refine w_istore (l' := #[.val (.long x0), .second, .val (.int x1), .val (.int x2), .val (.ref (n0 + 0)), .val (.int (Int32.ofNat fr)), .val (.int (Int32.ofNat (fr + lq))), .val (.int (Int32.ofNat a2)), .unset]) X74 hx (hb hby at_199) rfl (pc' := 201) rfl ?_
        refine w_iload X74 hx (hb hby at_201) rfl (pc' := 203) rfl ?_
        refine w_if_ge X74 hx (hb hby at_203) (by decide) (pcY := 214) (by decide) (pc' := 206) rfl (fun h28 => ?_) (fun h28 => absurd ((own_olt (a := a2) (b := 0) (by omega) (by omega)).mp h28) (Nat.not_lt_zero _))
        refine w_iconst (v := (-1 : Int32)) X74 hx (hb hby at_214) rfl (pc' := 215) rfl ?_
        refine w_istore (l' := #[.val (.long x0), .second, .val (.int x1), .val (.int x2), .val (.ref (n0 + 0)), .val (.int (Int32.ofNat fr)), .val (.int (Int32.ofNat (fr + lq))), .val (.int (Int32.ofNat a2)), .val (.int (-1 : Int32))]) X74 hx (hb hby at_215) rfl (pc' := 217) rfl ?_
        refine w_aload X74 hx (hb hby at_217) rfl rfl (pc' := 219) rfl ?_
        refine w_iload X74 hx (hb hby at_219) rfl (pc' := 221) rfl ?_
        refine w_iload X74 hx (hb hby at_221) rfl (pc' := 223) rfl ?_
        refine own_call (W := 0) X74 hx hZ rfl hown hml.symm (wd9 hw) (wd10 hw) (wd11 hw) (wd12 hw) (rm_fin l Z a0 hw [] n0 kA1 B fr (fr + lq) _ P74 hkA1 hB (by omega) (by omega)) (by decide) (by decide) (by decide) (by decide) (by decide) (argsL := [.ref (n0 + 0), .int (Int32.ofNat fr), .int (Int32.ofNat (fr + lq))]) (rest := []) pd3 rfl rfl rfl (Nat.le_of_eq rfl) (hb hby at_223) (pc' := 226) rfl ?_
        intro v75 T75 L74 X75 hq
        obtain ⟨rfl, N74, P75⟩ := hq
        replace N74 := Fr.app N73 N74
        refine w_iload X75 hx (hb hby at_226) rfl (pc' := 228) rfl ?_
        refine w_icmp_ne X75 hx (hb hby at_228) (by decide) (pcY := 235) (by decide) (pc' := 231) rfl (fun h29 => absurd (by rw [own_fi, if_pos ht0, if_neg hz0, ← (show a1 = fr + own_k B (fr + lq) fr from ea1), own_fi, if_pos ht1, if_neg hz1, ← (show a2 = a1 + own_k B (fr + lq) a1 from ea2), own_fi, if_neg ht2]) h29) (fun h29 => ?_)
        refine w_iconst (v := (1 : Int32)) X75 hx (hb hby at_231) rfl (pc' := 232) rfl ?_
        refine w_goto X75 hx (hb hby at_232) (by decide) (pc' := 236) (by decide) ?_
        exact w_ret_n (t := .boolean) X75 hx hret hlk (by simp) (hb hby at_236) (z' := (1 : Int32)) rfl (by decide) (by decide) ⟨rfl, N74⟩
    · refine w_istore (l' := #[.val (.long x0), .second, .val (.int x1), .val (.int x2), .val (.ref (n0 + 0)), .val (.int (Int32.ofNat fr)), .val (.int (Int32.ofNat (fr + lq))), .val (.int (Int32.ofNat a1)), .unset]) X19 hx (hb hby at_133) rfl (pc' := 135) rfl ?_
      refine w_aload X19 hx (hb hby at_135) rfl rfl (pc' := 137) rfl ?_
      refine w_iload X19 hx (hb hby at_137) rfl (pc' := 139) rfl ?_
      refine w_iload X19 hx (hb hby at_139) rfl (pc' := 141) rfl ?_
      refine own_call (W := 0) X19 hx hZ rfl hown hml.symm (wd2 hw) (wd3 hw) (wd4 hw) (wd5 hw) (rm_nxt l Z a0 hw [] n0 kA1 B a1 (fr + lq) _ P19 hkA1 hB (by omega) (by omega)) (by decide) (by decide) (by decide) (by decide) (by decide) (argsL := [.ref (n0 + 0), .int (Int32.ofNat a1), .int (Int32.ofNat (fr + lq))]) (rest := []) pd1 rfl rfl rfl (Nat.le_of_eq rfl) (hb hby at_141) (pc' := 144) rfl ?_
      intro v76 T76 L75 X76 hq
      obtain ⟨N75, P76, hq⟩ := hq
      replace N75 := Fr.app N18 N75
      obtain rfl : v76 = some (.int (Int32.ofNat a1)) := by rcases hq with ⟨z, -⟩ | ⟨z, -⟩ | ⟨-, z⟩ <;> first | exact z | (exfalso; omega)
      refine w_istore (l' := #[.val (.long x0), .second, .val (.int x1), .val (.int x2), .val (.ref (n0 + 0)), .val (.int (Int32.ofNat fr)), .val (.int (Int32.ofNat (fr + lq))), .val (.int (Int32.ofNat a1)), .unset]) X76 hx (hb hby at_144) rfl (pc' := 146) rfl ?_
      refine w_aload X76 hx (hb hby at_146) rfl rfl (pc' := 148) rfl ?_
      refine w_iload X76 hx (hb hby at_148) rfl (pc' := 150) rfl ?_
      refine w_iload X76 hx (hb hby at_150) rfl (pc' := 152) rfl ?_
      refine own_call (W := 0) X76 hx hZ rfl hown hml.symm (wd2 hw) (wd3 hw) (wd4 hw) (wd5 hw) (rm_nxt l Z a0 hw [] n0 kA1 B a1 (fr + lq) _ P76 hkA1 hB (by omega) (by omega)) (by decide) (by decide) (by decide) (by decide) (by decide) (argsL := [.ref (n0 + 0), .int (Int32.ofNat a1), .int (Int32.ofNat (fr + lq))]) (rest := []) pd1 rfl rfl rfl (Nat.le_of_eq rfl) (hb hby at_152) (pc' := 155) rfl ?_
      intro v77 T77 L76 X77 hq
      obtain ⟨N76, P77, hq⟩ := hq
      replace N76 := Fr.app N75 N76
      obtain rfl : v77 = some (.int (Int32.ofNat a1)) := by rcases hq with ⟨z, -⟩ | ⟨z, -⟩ | ⟨-, z⟩ <;> first | exact z | (exfalso; omega)
      refine w_istore (l' := #[.val (.long x0), .second, .val (.int x1), .val (.int x2), .val (.ref (n0 + 0)), .val (.int (Int32.ofNat fr)), .val (.int (Int32.ofNat (fr + lq))), .val (.int (Int32.ofNat a1)), .unset]) X77 hx (hb hby at_155) rfl (pc' := 157) rfl ?_
      refine w_aload X77 hx (hb hby at_157) rfl rfl (pc' := 159) rfl ?_
      refine w_iload X77 hx (hb hby at_159) rfl (pc' := 161) rfl ?_
      refine w_iload X77 hx (hb hby at_161) rfl (pc' := 163) rfl ?_
      refine own_call (W := 0) X77 hx hZ rfl hown hml.symm (wd2 hw) (wd3 hw) (wd4 hw) (wd5 hw) (rm_nxt l Z a0 hw [] n0 kA1 B a1 (fr + lq) _ P77 hkA1 hB (by omega) (by omega)) (by decide) (by decide) (by decide) (by decide) (by decide) (argsL := [.ref (n0 + 0), .int (Int32.ofNat a1), .int (Int32.ofNat (fr + lq))]) (rest := []) pd1 rfl rfl rfl (Nat.le_of_eq rfl) (hb hby at_163) (pc' := 166) rfl ?_
      intro v78 T78 L77 X78 hq
      obtain ⟨N77, P78, hq⟩ := hq
      replace N77 := Fr.app N76 N77
      obtain rfl : v78 = some (.int (Int32.ofNat a1)) := by rcases hq with ⟨z, -⟩ | ⟨z, -⟩ | ⟨-, z⟩ <;> first | exact z | (exfalso; omega)
      refine w_istore (l' := #[.val (.long x0), .second, .val (.int x1), .val (.int x2), .val (.ref (n0 + 0)), .val (.int (Int32.ofNat fr)), .val (.int (Int32.ofNat (fr + lq))), .val (.int (Int32.ofNat a1)), .unset]) X78 hx (hb hby at_166) rfl (pc' := 168) rfl ?_
      refine w_aload X78 hx (hb hby at_168) rfl rfl (pc' := 170) rfl ?_
      refine w_iload X78 hx (hb hby at_170) rfl (pc' := 172) rfl ?_
      refine w_iload X78 hx (hb hby at_172) rfl (pc' := 174) rfl ?_
      refine own_call (W := 0) X78 hx hZ rfl hown hml.symm (wd2 hw) (wd3 hw) (wd4 hw) (wd5 hw) (rm_nxt l Z a0 hw [] n0 kA1 B a1 (fr + lq) _ P78 hkA1 hB (by omega) (by omega)) (by decide) (by decide) (by decide) (by decide) (by decide) (argsL := [.ref (n0 + 0), .int (Int32.ofNat a1), .int (Int32.ofNat (fr + lq))]) (rest := []) pd1 rfl rfl rfl (Nat.le_of_eq rfl) (hb hby at_174) (pc' := 177) rfl ?_
      intro v79 T79 L78 X79 hq
      obtain ⟨N78, P79, hq⟩ := hq
      replace N78 := Fr.app N77 N78
      obtain rfl : v79 = some (.int (Int32.ofNat a1)) := by rcases hq with ⟨z, -⟩ | ⟨z, -⟩ | ⟨-, z⟩ <;> first | exact z | (exfalso; omega)
      refine w_istore (l' := #[.val (.long x0), .second, .val (.int x1), .val (.int x2), .val (.ref (n0 + 0)), .val (.int (Int32.ofNat fr)), .val (.int (Int32.ofNat (fr + lq))), .val (.int (Int32.ofNat a1)), .unset]) X79 hx (hb hby at_177) rfl (pc' := 179) rfl ?_
      refine w_aload X79 hx (hb hby at_179) rfl rfl (pc' := 181) rfl ?_
      refine w_iload X79 hx (hb hby at_181) rfl (pc' := 183) rfl ?_
      refine w_iload X79 hx (hb hby at_183) rfl (pc' := 185) rfl ?_
      refine own_call (W := 0) X79 hx hZ rfl hown hml.symm (wd2 hw) (wd3 hw) (wd4 hw) (wd5 hw) (rm_nxt l Z a0 hw [] n0 kA1 B a1 (fr + lq) _ P79 hkA1 hB (by omega) (by omega)) (by decide) (by decide) (by decide) (by decide) (by decide) (argsL := [.ref (n0 + 0), .int (Int32.ofNat a1), .int (Int32.ofNat (fr + lq))]) (rest := []) pd1 rfl rfl rfl (Nat.le_of_eq rfl) (hb hby at_185) (pc' := 188) rfl ?_
      intro v80 T80 L79 X80 hq
      obtain ⟨N79, P80, hq⟩ := hq
      replace N79 := Fr.app N78 N79
      obtain rfl : v80 = some (.int (Int32.ofNat a1)) := by rcases hq with ⟨z, -⟩ | ⟨z, -⟩ | ⟨-, z⟩ <;> first | exact z | (exfalso; omega)
      refine w_istore (l' := #[.val (.long x0), .second, .val (.int x1), .val (.int x2), .val (.ref (n0 + 0)), .val (.int (Int32.ofNat fr)), .val (.int (Int32.ofNat (fr + lq))), .val (.int (Int32.ofNat a1)), .unset]) X80 hx (hb hby at_188) rfl (pc' := 190) rfl ?_
      refine w_aload X80 hx (hb hby at_190) rfl rfl (pc' := 192) rfl ?_
      refine w_iload X80 hx (hb hby at_192) rfl (pc' := 194) rfl ?_
      refine w_iload X80 hx (hb hby at_194) rfl (pc' := 196) rfl ?_
      refine own_call (W := 0) X80 hx hZ rfl hown hml.symm (wd2 hw) (wd3 hw) (wd4 hw) (wd5 hw) (rm_nxt l Z a0 hw [] n0 kA1 B a1 (fr + lq) _ P80 hkA1 hB (by omega) (by omega)) (by decide) (by decide) (by decide) (by decide) (by decide) (argsL := [.ref (n0 + 0), .int (Int32.ofNat a1), .int (Int32.ofNat (fr + lq))]) (rest := []) pd1 rfl rfl rfl (Nat.le_of_eq rfl) (hb hby at_196) (pc' := 199) rfl ?_
      intro v81 T81 L80 X81 hq
      obtain ⟨N80, P81, hq⟩ := hq
      replace N80 := Fr.app N79 N80
      obtain rfl : v81 = some (.int (Int32.ofNat a1)) := by rcases hq with ⟨z, -⟩ | ⟨z, -⟩ | ⟨-, z⟩ <;> first | exact z | (exfalso; omega)
      refine w_istore (l' := #[.val (.long x0), .second, .val (.int x1), .val (.int x2), .val (.ref (n0 + 0)), .val (.int (Int32.ofNat fr)), .val (.int (Int32.ofNat (fr + lq))), .val (.int (Int32.ofNat a1)), .unset]) X81 hx (hb hby at_199) rfl (pc' := 201) rfl ?_
      refine w_iload X81 hx (hb hby at_201) rfl (pc' := 203) rfl ?_
      refine w_if_ge X81 hx (hb hby at_203) (by decide) (pcY := 214) (by decide) (pc' := 206) rfl (fun h30 => ?_) (fun h30 => absurd ((own_olt (a := a1) (b := 0) (by omega) (by omega)).mp h30) (Nat.not_lt_zero _))
      refine w_iconst (v := (-1 : Int32)) X81 hx (hb hby at_214) rfl (pc' := 215) rfl ?_
      refine w_istore (l' := #[.val (.long x0), .second, .val (.int x1), .val (.int x2), .val (.ref (n0 + 0)), .val (.int (Int32.ofNat fr)), .val (.int (Int32.ofNat (fr + lq))), .val (.int (Int32.ofNat a1)), .val (.int (-1 : Int32))]) X81 hx (hb hby at_215) rfl (pc' := 217) rfl ?_
      refine w_aload X81 hx (hb hby at_217) rfl rfl (pc' := 219) rfl ?_
      refine w_iload X81 hx (hb hby at_219) rfl (pc' := 221) rfl ?_
      refine w_iload X81 hx (hb hby at_221) rfl (pc' := 223) rfl ?_
      refine own_call (W := 0) X81 hx hZ rfl hown hml.symm (wd9 hw) (wd10 hw) (wd11 hw) (wd12 hw) (rm_fin l Z a0 hw [] n0 kA1 B fr (fr + lq) _ P81 hkA1 hB (by omega) (by omega)) (by decide) (by decide) (by decide) (by decide) (by decide) (argsL := [.ref (n0 + 0), .int (Int32.ofNat fr), .int (Int32.ofNat (fr + lq))]) (rest := []) pd3 rfl rfl rfl (Nat.le_of_eq rfl) (hb hby at_223) (pc' := 226) rfl ?_
      intro v82 T82 L81 X82 hq
      obtain ⟨rfl, N81, P82⟩ := hq
      replace N81 := Fr.app N80 N81
      refine w_iload X82 hx (hb hby at_226) rfl (pc' := 228) rfl ?_
      refine w_icmp_ne X82 hx (hb hby at_228) (by decide) (pcY := 235) (by decide) (pc' := 231) rfl (fun h31 => absurd (by rw [own_fi, if_pos ht0, if_neg hz0, ← (show a1 = fr + own_k B (fr + lq) fr from ea1), own_fi, if_neg ht1]) h31) (fun h31 => ?_)
      refine w_iconst (v := (1 : Int32)) X82 hx (hb hby at_231) rfl (pc' := 232) rfl ?_
      refine w_goto X82 hx (hb hby at_232) (by decide) (pc' := 236) (by decide) ?_
      exact w_ret_n (t := .boolean) X82 hx hret hlk (by simp) (hb hby at_236) (z' := (1 : Int32)) rfl (by decide) (by decide) ⟨rfl, N81⟩
  · refine w_istore (l' := #[.val (.long x0), .second, .val (.int x1), .val (.int x2), .val (.ref (n0 + 0)), .val (.int (Int32.ofNat fr)), .val (.int (Int32.ofNat (fr + lq))), .val (.int (Int32.ofNat fr)), .unset]) X10 hx (hb hby at_122) rfl (pc' := 124) rfl ?_
    refine w_aload X10 hx (hb hby at_124) rfl rfl (pc' := 126) rfl ?_
    refine w_iload X10 hx (hb hby at_126) rfl (pc' := 128) rfl ?_
    refine w_iload X10 hx (hb hby at_128) rfl (pc' := 130) rfl ?_
    refine own_call (W := 0) X10 hx hZ rfl hown hml.symm (wd2 hw) (wd3 hw) (wd4 hw) (wd5 hw) (rm_nxt l Z a0 hw [] n0 kA1 B fr (fr + lq) _ P10 hkA1 hB (by omega) (by omega)) (by decide) (by decide) (by decide) (by decide) (by decide) (argsL := [.ref (n0 + 0), .int (Int32.ofNat fr), .int (Int32.ofNat (fr + lq))]) (rest := []) pd1 rfl rfl rfl (Nat.le_of_eq rfl) (hb hby at_130) (pc' := 133) rfl ?_
    intro v83 T83 L82 X83 hq
    obtain ⟨N82, P83, hq⟩ := hq
    replace N82 := Fr.app N9 N82
    obtain rfl : v83 = some (.int (Int32.ofNat fr)) := by rcases hq with ⟨z, -⟩ | ⟨z, -⟩ | ⟨-, z⟩ <;> first | exact z | (exfalso; omega)
    refine w_istore (l' := #[.val (.long x0), .second, .val (.int x1), .val (.int x2), .val (.ref (n0 + 0)), .val (.int (Int32.ofNat fr)), .val (.int (Int32.ofNat (fr + lq))), .val (.int (Int32.ofNat fr)), .unset]) X83 hx (hb hby at_133) rfl (pc' := 135) rfl ?_
    refine w_aload X83 hx (hb hby at_135) rfl rfl (pc' := 137) rfl ?_
    refine w_iload X83 hx (hb hby at_137) rfl (pc' := 139) rfl ?_
    refine w_iload X83 hx (hb hby at_139) rfl (pc' := 141) rfl ?_
    refine own_call (W := 0) X83 hx hZ rfl hown hml.symm (wd2 hw) (wd3 hw) (wd4 hw) (wd5 hw) (rm_nxt l Z a0 hw [] n0 kA1 B fr (fr + lq) _ P83 hkA1 hB (by omega) (by omega)) (by decide) (by decide) (by decide) (by decide) (by decide) (argsL := [.ref (n0 + 0), .int (Int32.ofNat fr), .int (Int32.ofNat (fr + lq))]) (rest := []) pd1 rfl rfl rfl (Nat.le_of_eq rfl) (hb hby at_141) (pc' := 144) rfl ?_
    intro v84 T84 L83 X84 hq
    obtain ⟨N83, P84, hq⟩ := hq
    replace N83 := Fr.app N82 N83
    obtain rfl : v84 = some (.int (Int32.ofNat fr)) := by rcases hq with ⟨z, -⟩ | ⟨z, -⟩ | ⟨-, z⟩ <;> first | exact z | (exfalso; omega)
    refine w_istore (l' := #[.val (.long x0), .second, .val (.int x1), .val (.int x2), .val (.ref (n0 + 0)), .val (.int (Int32.ofNat fr)), .val (.int (Int32.ofNat (fr + lq))), .val (.int (Int32.ofNat fr)), .unset]) X84 hx (hb hby at_144) rfl (pc' := 146) rfl ?_
    refine w_aload X84 hx (hb hby at_146) rfl rfl (pc' := 148) rfl ?_
    refine w_iload X84 hx (hb hby at_148) rfl (pc' := 150) rfl ?_
    refine w_iload X84 hx (hb hby at_150) rfl (pc' := 152) rfl ?_
    refine own_call (W := 0) X84 hx hZ rfl hown hml.symm (wd2 hw) (wd3 hw) (wd4 hw) (wd5 hw) (rm_nxt l Z a0 hw [] n0 kA1 B fr (fr + lq) _ P84 hkA1 hB (by omega) (by omega)) (by decide) (by decide) (by decide) (by decide) (by decide) (argsL := [.ref (n0 + 0), .int (Int32.ofNat fr), .int (Int32.ofNat (fr + lq))]) (rest := []) pd1 rfl rfl rfl (Nat.le_of_eq rfl) (hb hby at_152) (pc' := 155) rfl ?_
    intro v85 T85 L84 X85 hq
    obtain ⟨N84, P85, hq⟩ := hq
    replace N84 := Fr.app N83 N84
    obtain rfl : v85 = some (.int (Int32.ofNat fr)) := by rcases hq with ⟨z, -⟩ | ⟨z, -⟩ | ⟨-, z⟩ <;> first | exact z | (exfalso; omega)
    refine w_istore (l' := #[.val (.long x0), .second, .val (.int x1), .val (.int x2), .val (.ref (n0 + 0)), .val (.int (Int32.ofNat fr)), .val (.int (Int32.ofNat (fr + lq))), .val (.int (Int32.ofNat fr)), .unset]) X85 hx (hb hby at_155) rfl (pc' := 157) rfl ?_
    refine w_aload X85 hx (hb hby at_157) rfl rfl (pc' := 159) rfl ?_
    refine w_iload X85 hx (hb hby at_159) rfl (pc' := 161) rfl ?_
    refine w_iload X85 hx (hb hby at_161) rfl (pc' := 163) rfl ?_
    refine own_call (W := 0) X85 hx hZ rfl hown hml.symm (wd2 hw) (wd3 hw) (wd4 hw) (wd5 hw) (rm_nxt l Z a0 hw [] n0 kA1 B fr (fr + lq) _ P85 hkA1 hB (by omega) (by omega)) (by decide) (by decide) (by decide) (by decide) (by decide) (argsL := [.ref (n0 + 0), .int (Int32.ofNat fr), .int (Int32.ofNat (fr + lq))]) (rest := []) pd1 rfl rfl rfl (Nat.le_of_eq rfl) (hb hby at_163) (pc' := 166) rfl ?_
    intro v86 T86 L85 X86 hq
    obtain ⟨N85, P86, hq⟩ := hq
    replace N85 := Fr.app N84 N85
    obtain rfl : v86 = some (.int (Int32.ofNat fr)) := by rcases hq with ⟨z, -⟩ | ⟨z, -⟩ | ⟨-, z⟩ <;> first | exact z | (exfalso; omega)
    refine w_istore (l' := #[.val (.long x0), .second, .val (.int x1), .val (.int x2), .val (.ref (n0 + 0)), .val (.int (Int32.ofNat fr)), .val (.int (Int32.ofNat (fr + lq))), .val (.int (Int32.ofNat fr)), .unset]) X86 hx (hb hby at_166) rfl (pc' := 168) rfl ?_
    refine w_aload X86 hx (hb hby at_168) rfl rfl (pc' := 170) rfl ?_
    refine w_iload X86 hx (hb hby at_170) rfl (pc' := 172) rfl ?_
    refine w_iload X86 hx (hb hby at_172) rfl (pc' := 174) rfl ?_
    refine own_call (W := 0) X86 hx hZ rfl hown hml.symm (wd2 hw) (wd3 hw) (wd4 hw) (wd5 hw) (rm_nxt l Z a0 hw [] n0 kA1 B fr (fr + lq) _ P86 hkA1 hB (by omega) (by omega)) (by decide) (by decide) (by decide) (by decide) (by decide) (argsL := [.ref (n0 + 0), .int (Int32.ofNat fr), .int (Int32.ofNat (fr + lq))]) (rest := []) pd1 rfl rfl rfl (Nat.le_of_eq rfl) (hb hby at_174) (pc' := 177) rfl ?_
    intro v87 T87 L86 X87 hq
    obtain ⟨N86, P87, hq⟩ := hq
    replace N86 := Fr.app N85 N86
    obtain rfl : v87 = some (.int (Int32.ofNat fr)) := by rcases hq with ⟨z, -⟩ | ⟨z, -⟩ | ⟨-, z⟩ <;> first | exact z | (exfalso; omega)
    refine w_istore (l' := #[.val (.long x0), .second, .val (.int x1), .val (.int x2), .val (.ref (n0 + 0)), .val (.int (Int32.ofNat fr)), .val (.int (Int32.ofNat (fr + lq))), .val (.int (Int32.ofNat fr)), .unset]) X87 hx (hb hby at_177) rfl (pc' := 179) rfl ?_
    refine w_aload X87 hx (hb hby at_179) rfl rfl (pc' := 181) rfl ?_
    refine w_iload X87 hx (hb hby at_181) rfl (pc' := 183) rfl ?_
    refine w_iload X87 hx (hb hby at_183) rfl (pc' := 185) rfl ?_
    refine own_call (W := 0) X87 hx hZ rfl hown hml.symm (wd2 hw) (wd3 hw) (wd4 hw) (wd5 hw) (rm_nxt l Z a0 hw [] n0 kA1 B fr (fr + lq) _ P87 hkA1 hB (by omega) (by omega)) (by decide) (by decide) (by decide) (by decide) (by decide) (argsL := [.ref (n0 + 0), .int (Int32.ofNat fr), .int (Int32.ofNat (fr + lq))]) (rest := []) pd1 rfl rfl rfl (Nat.le_of_eq rfl) (hb hby at_185) (pc' := 188) rfl ?_
    intro v88 T88 L87 X88 hq
    obtain ⟨N87, P88, hq⟩ := hq
    replace N87 := Fr.app N86 N87
    obtain rfl : v88 = some (.int (Int32.ofNat fr)) := by rcases hq with ⟨z, -⟩ | ⟨z, -⟩ | ⟨-, z⟩ <;> first | exact z | (exfalso; omega)
    refine w_istore (l' := #[.val (.long x0), .second, .val (.int x1), .val (.int x2), .val (.ref (n0 + 0)), .val (.int (Int32.ofNat fr)), .val (.int (Int32.ofNat (fr + lq))), .val (.int (Int32.ofNat fr)), .unset]) X88 hx (hb hby at_188) rfl (pc' := 190) rfl ?_
    refine w_aload X88 hx (hb hby at_190) rfl rfl (pc' := 192) rfl ?_
    refine w_iload X88 hx (hb hby at_192) rfl (pc' := 194) rfl ?_
    refine w_iload X88 hx (hb hby at_194) rfl (pc' := 196) rfl ?_
    refine own_call (W := 0) X88 hx hZ rfl hown hml.symm (wd2 hw) (wd3 hw) (wd4 hw) (wd5 hw) (rm_nxt l Z a0 hw [] n0 kA1 B fr (fr + lq) _ P88 hkA1 hB (by omega) (by omega)) (by decide) (by decide) (by decide) (by decide) (by decide) (argsL := [.ref (n0 + 0), .int (Int32.ofNat fr), .int (Int32.ofNat (fr + lq))]) (rest := []) pd1 rfl rfl rfl (Nat.le_of_eq rfl) (hb hby at_196) (pc' := 199) rfl ?_
    intro v89 T89 L88 X89 hq
    obtain ⟨N88, P89, hq⟩ := hq
    replace N88 := Fr.app N87 N88
    obtain rfl : v89 = some (.int (Int32.ofNat fr)) := by rcases hq with ⟨z, -⟩ | ⟨z, -⟩ | ⟨-, z⟩ <;> first | exact z | (exfalso; omega)
    refine w_istore (l' := #[.val (.long x0), .second, .val (.int x1), .val (.int x2), .val (.ref (n0 + 0)), .val (.int (Int32.ofNat fr)), .val (.int (Int32.ofNat (fr + lq))), .val (.int (Int32.ofNat fr)), .unset]) X89 hx (hb hby at_199) rfl (pc' := 201) rfl ?_
    refine w_iload X89 hx (hb hby at_201) rfl (pc' := 203) rfl ?_
    refine w_if_ge X89 hx (hb hby at_203) (by decide) (pcY := 214) (by decide) (pc' := 206) rfl (fun h32 => ?_) (fun h32 => absurd ((own_olt (a := fr) (b := 0) (by omega) (by omega)).mp h32) (Nat.not_lt_zero _))
    refine w_iconst (v := (-1 : Int32)) X89 hx (hb hby at_214) rfl (pc' := 215) rfl ?_
    refine w_istore (l' := #[.val (.long x0), .second, .val (.int x1), .val (.int x2), .val (.ref (n0 + 0)), .val (.int (Int32.ofNat fr)), .val (.int (Int32.ofNat (fr + lq))), .val (.int (Int32.ofNat fr)), .val (.int (-1 : Int32))]) X89 hx (hb hby at_215) rfl (pc' := 217) rfl ?_
    refine w_aload X89 hx (hb hby at_217) rfl rfl (pc' := 219) rfl ?_
    refine w_iload X89 hx (hb hby at_219) rfl (pc' := 221) rfl ?_
    refine w_iload X89 hx (hb hby at_221) rfl (pc' := 223) rfl ?_
    refine own_call (W := 0) X89 hx hZ rfl hown hml.symm (wd9 hw) (wd10 hw) (wd11 hw) (wd12 hw) (rm_fin l Z a0 hw [] n0 kA1 B fr (fr + lq) _ P89 hkA1 hB (by omega) (by omega)) (by decide) (by decide) (by decide) (by decide) (by decide) (argsL := [.ref (n0 + 0), .int (Int32.ofNat fr), .int (Int32.ofNat (fr + lq))]) (rest := []) pd3 rfl rfl rfl (Nat.le_of_eq rfl) (hb hby at_223) (pc' := 226) rfl ?_
    intro v90 T90 L89 X90 hq
    obtain ⟨rfl, N89, P90⟩ := hq
    replace N89 := Fr.app N88 N89
    refine w_iload X90 hx (hb hby at_226) rfl (pc' := 228) rfl ?_
    refine w_icmp_ne X90 hx (hb hby at_228) (by decide) (pcY := 235) (by decide) (pc' := 231) rfl (fun h33 => absurd (by rw [own_fi, if_neg ht0]) h33) (fun h33 => ?_)
    refine w_iconst (v := (1 : Int32)) X90 hx (hb hby at_231) rfl (pc' := 232) rfl ?_
    refine w_goto X90 hx (hb hby at_232) (by decide) (pc' := 236) (by decide) ?_
    exact w_ret_n (t := .boolean) X90 hx hret hlk (by simp) (hb hby at_236) (z' := (1 : Int32)) rfl (by decide) (by decide) ⟨rfl, N89⟩
set_option maxRecDepth 65536 in
set_option maxHeartbeats 40000000 in
theorem comes_1 {Post : Tables → Env → Array Value → State → Outcome → State → Prop} (hpost : ∀ tb e args s v u, (limb_1_1.after args s (.returned v) u = true ∧ limb_1_2.after args s (.returned v) u = true ∧ True) → FrameEnd s (.returned v) u (Jvm.fieldLocs frame_1_writes args s ++ Jvm.arrayLocs frame_1_arrays args s ++ Jvm.staticLocs frame_1_statics s) 16 128 → Post tb e args s (.returned v) u) :
    ArmFor flags0 classFile x code maxLocals ret World_1 tables_1 room_1 Calls_1 rest_1 Pre_1 Post := by
  intro l hfl _ _ p e ha hc hk s m args below hf hA hF happ hP
  obtain ⟨hcalls, hrest, hpre⟩ := hP
  obtain ⟨-, -, -, hnamed, -, -, -, hat⟩ := (Spec.applies_iff hf).mp happ
  obtain ⟨hg, hn⟩ := and_e (Cond.before_iff.mp (show (Jvm.Cond.and given_1 narrow_1).before args s = true from hpre))
  obtain ⟨g0, k0⟩ := and_e hg
  obtain ⟨q0, k1⟩ := and_e k0
  obtain ⟨q1, k2⟩ := and_e k1
  have q2 := k2
  obtain ⟨w0, w1, w2, rfl⟩ : ∃ w0 w1 w2 : Value, args = #[w0, w1, w2] := by
    have hs : args.size = 3 := by simpa [Cond.value, given_1] using g0
    obtain ⟨L⟩ := args
    match L, hs with
    | [w0, w1, w2], _ => exact ⟨w0, w1, w2, rfl⟩
  have hw := fun d (hd : d ∈ tables_1) => atoms_spec (ws := Jvm.Cond.code x code maxLocals ret :: tables_1) hat d (List.mem_cons_of_mem _ hd)
  obtain ⟨i0, ei0⟩ := isL_v q0
  obtain rfl : w0 = (.long i0) := Option.some.inj ei0
  obtain ⟨i1, ei1⟩ := is_v q1
  obtain rfl : w1 = (.int i1) := Option.some.inj ei1
  obtain ⟨i2, ei2⟩ := is_v q2
  obtain rfl : w2 = (.int i2) := Option.some.inj ei2
  obtain ⟨n, o, h1, h2, h3, _, L, rfl, ⟨rfl, N⟩, hq⟩ := rm0 l s _ hw tables_1 i0 i1 i2 s.heap s.heap.size rfl p e ha hc hk s m _ below hf ((Spec.applies_iff_loose hf).mp happ).1 ⟨rfl, State.Warmed39.refl s, rfl⟩ trivial
  refine ⟨n, _, h1, h2, h3, hpost _ _ _ _ _ _ ⟨Cond.after_iff.mpr rfl, Cond.after_iff.mpr (eq_i res_at (Term.int_eval (1)) rfl), trivial⟩ ⟨hq.1, hq.2.1, (hq.2.2.sift fun y hy => Or.inr (N y hy)).mono (by decide) (by decide)⟩⟩
theorem main_1_1 : Claimed_1_1 := comes_1 fun _ _ _ _ _ _ h hF => ⟨h.1, hF⟩
theorem main_1_2 : Claimed_1_2 := comes_1 fun _ _ _ _ _ _ h hF => ⟨h.2.1, hF⟩
end Jvm.Pilot.@@N@@
namespace Jvm.Pilot.@@N@@
open Jvm Jvm.ClassFile Sem Op Lib Jvm.Free Jvm.Stand Jvm.Pilot.@@N@@.Jvm.D
/-! MADE BY PROGRAM (witnessworld.py) out of the Statement's table words and the real class files: 9 classes; the members and pool entries that the words name. The judged class is class 1, her method 1. -/
namespace start1
open Jvm.ClassFile
def u (s : String) : CpInfo := .utf8 (stringToUtf16 s)
/-- a pool by its gaps: so many unusable entries, then the entry; so many at the end -/
def gap : Nat → List CpInfo → List CpInfo
  | 0, r => r
  | n + 1, r => .unusable :: gap n r
def poolList (es : List (Nat × CpInfo)) (last : Nat) : List CpInfo := es.foldr (fun e r => gap e.1 (e.2 :: r)) (gap last [])
def pool (es : List (Nat × CpInfo)) (last : Nat) : Array CpInfo := ⟨poolList es last⟩
def fileOf (pool : Array CpInfo) (this : Nat) (attrs : Array Attribute := #[]) (ms : Array MethodInfo := #[]) (fl : Nat := 33) (sup : Nat := 0) (ifs : Array Nat := #[]) (fds : Array FieldInfo := #[]) : ClassFile where
  minorVersion := 0
  majorVersion := 65
  constantPool := pool
  accessFlags := fl
  thisClass := this
  superClass := sup
  interfaces := ifs
  fields := fds
  methods := ms
  attributes := attrs
def plain (name : String) (sup : Option ClassId) : Class where
  name := name
  kind := .ordinary
  loader := none
  accessFlags := 33
  super := sup
  interfaces := #[]
  cf := none
  fields := #[]
  methods := #[]
  instanceTypes := #[]
  staticTypes := #[]
  resolved := #[]
  callSites := []
  init := .initialized
  statics := none
  mirror := none

def pool0 : Array CpInfo := pool [(5, u "<init>"), (0, u "()V"), (1, .class_ 10), (1, u "java/lang/Object")] 113

def k0m0 : Method := { name := "<init>", desc := "()V", sig := { parameters := [], returnType := none }, accessFlags := 1, code := none }
/-- java/lang/Object -/
def k0 : Class := { plain "java/lang/Object" none with
  accessFlags := 33
  interfaces := #[]
  cf := some (fileOf pool0 8 #[] #[{ accessFlags := 1, nameIndex := 5, descriptorIndex := 6, attributes := #[] }] 33 0 #[] #[])
  fields := #[]
  methods := #[k0m0]
  instanceTypes := #[]
  staticTypes := #[]
  resolved := Array.replicate 124 none
  statics := none }

def pool1 : Array CpInfo := pool [(2, .class_ 4), (1, u "java/lang/Object"), (0, u "<init>"), (0, u "()V"), (0, .integer 2147483647), (0, .methodref 9 10), (0, .class_ 11), (0, .nameAndType 12 13), (0, u "com/example/normfeld/normfeld/io/Utf8FirstInvalidPinLaw"), (0, u "next"), (0, u "([BII)I"), (0, .methodref 15 16), (0, .class_ 17), (0, .nameAndType 18 13), (0, u "com/example/normfeld/normfeld/io/Utf8"), (0, u "firstInvalid"), (0, .methodref 9 20), (0, .nameAndType 21 13), (0, u "seq"), (0, .integer 55296), (0, .integer 57343), (0, .integer 65536), (0, .integer 1114111), (2, u "law"), (0, u "(JII)Z")] 5

def k1m0 : Method := { name := "<init>", desc := "()V", sig := { parameters := [], returnType := none }, accessFlags := 2, code := none }
def k1c1 : Code := { maxStack := 5, maxLocals := 9, code := code, exceptionTable := #[], attributes := #[] }
def k1m1 : Method := { name := "law", desc := "(JII)Z", sig := { parameters := [.long, .int, .int], returnType := some .boolean }, accessFlags := 9, code := some k1c1 }
def k1c2 : Code := { maxStack := 3, maxLocals := 4, code := method_3_code, exceptionTable := #[], attributes := #[] }
def k1m2 : Method := { name := "next", desc := "([BII)I", sig := { parameters := [(.array .byte), .int, .int], returnType := some .int }, accessFlags := 10, code := some k1c2 }
def k1c3 : Code := { maxStack := 3, maxLocals := 9, code := method_4_code, exceptionTable := #[], attributes := #[] }
def k1m3 : Method := { name := "seq", desc := "([BII)I", sig := { parameters := [(.array .byte), .int, .int], returnType := some .int }, accessFlags := 10, code := some k1c3 }
/-- com/example/normfeld/normfeld/io/Utf8FirstInvalidPinLaw -/
def k1 : Class := { plain "com/example/normfeld/normfeld/io/Utf8FirstInvalidPinLaw" (some 0) with
  accessFlags := 49
  interfaces := #[]
  cf := some (fileOf pool1 9 #[] #[{ accessFlags := 2, nameIndex := 5, descriptorIndex := 6, attributes := #[] }, { accessFlags := 9, nameIndex := 28, descriptorIndex := 29, attributes := #[] }, { accessFlags := 10, nameIndex := 12, descriptorIndex := 13, attributes := #[] }, { accessFlags := 10, nameIndex := 21, descriptorIndex := 13, attributes := #[] }] 49 2 #[] #[])
  fields := #[]
  methods := #[k1m0, k1m1, k1m2, k1m3]
  instanceTypes := #[]
  staticTypes := #[]
  resolved := Array.replicate 35 none
  statics := none }

def pool2 : Array CpInfo := pool [(2, .class_ 4), (1, u "java/lang/Object"), (0, u "<init>"), (0, u "()V"), (0, .class_ 8), (0, u "com/example/normfeld/normfeld/io/Utf8"), (2, u "firstInvalid"), (0, u "([BII)I")] 5

def k2m0 : Method := { name := "<init>", desc := "()V", sig := { parameters := [], returnType := none }, accessFlags := 2, code := none }
def k2c1 : Code := { maxStack := 3, maxLocals := 10, code := prog_96_method_2_code, exceptionTable := #[], attributes := #[] }
def k2m1 : Method := { name := "firstInvalid", desc := "([BII)I", sig := { parameters := [(.array .byte), .int, .int], returnType := some .int }, accessFlags := 8, code := some k2c1 }
/-- com/example/normfeld/normfeld/io/Utf8 -/
def k2 : Class := { plain "com/example/normfeld/normfeld/io/Utf8" (some 0) with
  accessFlags := 48
  interfaces := #[]
  cf := some (fileOf pool2 7 #[] #[{ accessFlags := 2, nameIndex := 5, descriptorIndex := 6, attributes := #[] }, { accessFlags := 8, nameIndex := 11, descriptorIndex := 12, attributes := #[] }] 48 2 #[] #[])
  fields := #[]
  methods := #[k2m0, k2m1]
  instanceTypes := #[]
  staticTypes := #[]
  resolved := Array.replicate 18 none
  statics := none }

def pool3 : Array CpInfo := pool [(1, u "java/lang/Cloneable"), (0, .class_ 1), (0, u "java/lang/Object"), (0, .class_ 3)] 3

/-- java/lang/Cloneable -/
def k3 : Class := { plain "java/lang/Cloneable" (some 0) with
  accessFlags := 1537
  interfaces := #[]
  cf := some (fileOf pool3 2 #[] #[] 1537 4 #[] #[])
  fields := #[]
  methods := #[]
  instanceTypes := #[]
  staticTypes := #[]
  resolved := Array.replicate 8 none
  statics := none }

def pool4 : Array CpInfo := pool [(1, u "java/io/Serializable"), (0, .class_ 1), (0, u "java/lang/Object"), (0, .class_ 3)] 3

/-- java/io/Serializable -/
def k4 : Class := { plain "java/io/Serializable" (some 0) with
  accessFlags := 1537
  interfaces := #[]
  cf := some (fileOf pool4 2 #[] #[] 1537 4 #[] #[])
  fields := #[]
  methods := #[]
  instanceTypes := #[]
  staticTypes := #[]
  resolved := Array.replicate 8 none
  statics := none }

/-- the primitive byte -/
def k5 : Class := { plain "byte" none with kind := .primitive 'B', accessFlags := 0x411 }
/-- [B -/
def k6 : Class := { plain "[B" (some 0) with kind := .array 5 .byte, interfaces := #[3, 4], accessFlags := 1041 }

/-- the primitive int -/
def k7 : Class := { plain "int" none with kind := .primitive 'I', accessFlags := 0x411 }
/-- [I -/
def k8 : Class := { plain "[I" (some 0) with kind := .array 7 .int, interfaces := #[3, 4], accessFlags := 1041 }

def heap : Heap := #[]
def classes : Array Class := #[k0, k1, k2, k3, k4, k5, k6, k7, k8]
def interned : List (Array UInt16 × Addr) := []
def slotsUsed : Nat := 0
def theMethod : MethodId := ⟨1, 1⟩
def args0 : Array Value := #[.long 5, .int 7, .int 3]
def aboutOver (below : List Frame) : State where
  vm := { classes := classes, interned := interned.toArray }
  heap := heap
  slotsUsed := slotsUsed
  threads := #[{ frames := .invoking theMethod args0 :: below }]
def below0 : List Frame := [.native { method := ⟨0, 0⟩, args := #[] }]
def about1 : State := aboutOver below0
def p0 : Program := .bare "" "" ""
def e0 : Env := launch0.env 0 0 0
theorem w_frames : about1.frames = Frame.invoking theMethod args0 :: below0 := rfl
set_option maxRecDepth 65536 in
theorem w_args : argsFit about1.vm theMethod args0 = true := by decide +kernel
set_option maxRecDepth 65536 in
theorem w_heap : heapFits about1 = true := by decide +kernel
set_option maxRecDepth 65536 in
theorem w_runnable : about1.curStatus? = some .runnable := by decide +kernel
set_option maxRecDepth 65536 in
theorem w_alone : about1.alone = true := by decide +kernel
set_option maxRecDepth 65536 in
theorem w_named : about1.methodNamed? x = some theMethod := by decide +kernel
set_option maxRecDepth 65536 in
theorem w_hears : about1.hears theMethod below0 = true := by decide +kernel
set_option maxRecDepth 65536 in
theorem w_ripe : about1.ripe theMethod args0 below0 = true := by decide +kernel
theorem w_running : about1.status = .running := rfl
set_option maxRecDepth 65536 in
theorem w_room : about1.hasRoom e0.platform room_1 = true :=
  launch0.hasRoom_least _ room_1 (by decide +kernel) (by decide +kernel) (by decide +kernel) (by decide +kernel) (by decide +kernel) (by decide +kernel)
theorem allAtoms_all (ts : List Jvm.Cond) (a : Array Jvm.Value) (st : Jvm.State) : (allAtoms ts).before a st = ts.all (fun c => c.before a st) := by
  induction ts with
  | nil => rfl
  | cons c t ih =>
    show (Jvm.Cond.and c (allAtoms t)).before a st = _
    rw [Jvm.Cond.before_and, ih, List.all_cons]
def words1 : List Jvm.Cond := Jvm.Cond.code x code maxLocals ret :: tables_1
/-- a 'code' word, met by the world's own term for the bytes: nothing is compared byte by byte -/
theorem code_word {y : MethodName} {bytes : ByteArray} {mx : Nat} {rt : Option FieldType} {a : Array Value} {s : State} {m : MethodId} {meth : Method} {c : Code} (h1 : s.methodNamed? y = some m) (h2 : s.vm.method? m = some meth) (h3 : meth.code = some c) (h4 : c.code = bytes)
    (h5 : (c.maxLocals == mx && c.exceptionTable.isEmpty && decide (c.maxStack ≤ mostOperands) && decide (meth.sig.returnType = rt) && !meth.locks && decide (parseMethodDescriptor y.desc = some meth.sig)) = true) : (Jvm.Cond.code y bytes mx rt).before a s = true := by
  simp only [Bool.and_eq_true, beq_iff_eq, Bool.not_eq_true', decide_eq_true_eq] at h5
  obtain ⟨⟨⟨⟨⟨g1, g2⟩, g3⟩, g4⟩, g5⟩, g6⟩ := h5
  simp [Cond.before, Cond.holds, Cond.value, h1, h2, h3, h4, g1, g2, g3, g4, g5, g6]
def isCode : Jvm.Cond → Bool
  | .code _ _ _ _ => true
  | _ => false
theorem all_split {L : List Jvm.Cond} {P : Jvm.Cond → Bool} (h1 : L.all (fun c => isCode c || P c) = true) (h2 : ∀ c ∈ L.filter isCode, P c = true) : L.all P = true := by
  refine List.all_eq_true.mpr fun c hc => ?_
  have h := List.all_eq_true.mp h1 c hc
  rcases Bool.eq_false_or_eq_true (isCode c) with hi | hi
  · exact h2 c (List.mem_filter.mpr ⟨hc, hi⟩)
  · simpa [hi] using h
set_option maxRecDepth 65536 in
theorem w_c0 : (Jvm.Cond.code x code maxLocals ret).before args0 about1 = true := code_word (m := ⟨1, 1⟩) (meth := k1m1) (c := k1c1) (by decide +kernel) rfl rfl rfl (by decide +kernel)
set_option maxRecDepth 65536 in
theorem w_c1 : (Jvm.Cond.code ({ cls := "com/example/normfeld/normfeld/io/Utf8FirstInvalidPinLaw", name := "next", desc := "([BII)I" } : Jvm.MethodName) method_3_code (4 : Nat) (Option.some Jvm.ClassFile.FieldType.int)).before args0 about1 = true := code_word (m := ⟨1, 2⟩) (meth := k1m2) (c := k1c2) (by decide +kernel) rfl rfl rfl (by decide +kernel)
set_option maxRecDepth 65536 in
theorem w_c2 : (Jvm.Cond.code ({ cls := "com/example/normfeld/normfeld/io/Utf8FirstInvalidPinLaw", name := "seq", desc := "([BII)I" } : Jvm.MethodName) method_4_code (9 : Nat) (Option.some Jvm.ClassFile.FieldType.int)).before args0 about1 = true := code_word (m := ⟨1, 3⟩) (meth := k1m3) (c := k1c3) (by decide +kernel) rfl rfl rfl (by decide +kernel)
set_option maxRecDepth 65536 in
theorem w_c3 : (Jvm.Cond.code ({ cls := "com/example/normfeld/normfeld/io/Utf8", name := "firstInvalid", desc := "([BII)I" } : Jvm.MethodName) prog_96_method_2_code (10 : Nat) (Option.some Jvm.ClassFile.FieldType.int)).before args0 about1 = true := code_word (m := ⟨2, 1⟩) (meth := k2m1) (c := k2c1) (by decide +kernel) rfl rfl rfl (by decide +kernel)
def codes1 : List Jvm.Cond := [Jvm.Cond.code x code maxLocals ret, Jvm.Cond.code ({ cls := "com/example/normfeld/normfeld/io/Utf8FirstInvalidPinLaw", name := "next", desc := "([BII)I" } : Jvm.MethodName) method_3_code (4 : Nat) (Option.some Jvm.ClassFile.FieldType.int), Jvm.Cond.code ({ cls := "com/example/normfeld/normfeld/io/Utf8FirstInvalidPinLaw", name := "seq", desc := "([BII)I" } : Jvm.MethodName) method_4_code (9 : Nat) (Option.some Jvm.ClassFile.FieldType.int), Jvm.Cond.code ({ cls := "com/example/normfeld/normfeld/io/Utf8", name := "firstInvalid", desc := "([BII)I" } : Jvm.MethodName) prog_96_method_2_code (10 : Nat) (Option.some Jvm.ClassFile.FieldType.int)]
set_option maxRecDepth 65536 in
theorem codes_eq : words1.filter isCode = codes1 := rfl
theorem w_codes : ∀ c ∈ words1.filter isCode, c.before args0 about1 = true := by
  rw [codes_eq]
  intro c hc
  simp only [codes1, List.mem_cons, List.not_mem_nil, or_false] at hc
  rcases hc with rfl | rfl | rfl | rfl
  · exact w_c0
  · exact w_c1
  · exact w_c2
  · exact w_c3
set_option maxRecDepth 65536 in
theorem w_t1 : words1.all (fun c => isCode c || c.before args0 about1) = true := by decide +kernel
theorem w_tables : (allAtoms (Jvm.Cond.code x code maxLocals ret :: tables_1)).before args0 about1 = true := by
  rw [allAtoms_all]
  show words1.all (fun c => c.before args0 about1) = true
  refine all_split ?_ w_codes
  rw [w_t1]
set_option maxRecDepth 65536 in
theorem w_case : (Jvm.Cond.and given_1 narrow_1).before args0 about1 = true := by decide +kernel
theorem w_applies : (headSpec (Jvm.Cond.code x code maxLocals ret :: tables_1) room_1).applies x e0.platform about1 = true :=
  (Spec.applies_iff w_frames).mpr ⟨w_running, w_runnable, w_alone, w_named, w_hears, w_ripe, w_room, w_tables⟩
theorem atStart : AtStart classFile x code maxLocals ret World_1 tables_1 room_1 Calls_1 rest_1 Pre_1 launch0 p0 e0 about1 theMethod args0 below0 :=
  ⟨lists_1, trivial, launch0.admits_env _ _ _, launch0.least_env, fairChoices_fair.cas, fairChoices_fair.clock, w_frames, w_args, w_heap, w_applies, trivial, trivial, w_case⟩
end start1
theorem witness_1 : WitnessClaimed_1 := ⟨start1.p0, start1.e0, start1.about1, start1.theMethod, start1.args0, start1.below0, start1.atStart⟩
end Jvm.Pilot.@@N@@
