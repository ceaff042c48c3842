import JvmDerived
import JvmDerived.Pilot.@@N@@Statement
import JvmDerived.Pilot.@@N@@Code
set_option linter.unusedVariables false
set_option linter.unusedSimpArgs false
namespace Jvm.RoadKit
open Sem ClassFile Op Lib Jvm.Stand Jvm.Free Jvm.LawKit
section New
variable {p : Program} {l : Launch} {e : Env} {R : Room} {s : State} {m : MethodId} {args : Array Value} {below : List Frame} {meth : Method} {c : Code} {T : State} {locs : List Loc} {cells slots : Nat}
theorem retI (X : Stand p l e R s m args below meth c T locs cells slots) (hx : p.tables.exec = Jvm.exec) {pc : Nat} {Ls : Array Slot} {z : Int32} {rest : List Value} (hret : meth.sig.returnType = some .int) (hd : decode c.code pc = .ok (.ireturn, 1)) {fs : List Frame}
    (hl : ∀ (f : JFrame) (acts : List Action), f.method = m → f.locked = none → f.entered = [] → (doReturn e (T.setTop f) acts (some (.int z))).1 = T.setFrames fs) : Steps p.tables e below (T.setTop (mkF m pc Ls (.int z :: rest))) (T.setFrames fs) := by
  have hm' : T.vm.method? m = some meth := X.method'
  have hn : narrow .int (.int z) = .int z := rfl
  show Steps p.tables e below (T.setTop { method := m, pc := pc, locals := Ls, stack := _ :: rest, locked := none }) _
  jvm_step X.here [X.here.top, hx, hd, hm', hret, hn]
  first | (intro acts; rw [hl _ acts rfl rfl rfl]) | rw [hl _ _ rfl rfl rfl]
  exact Steps.refl _
end New
end Jvm.RoadKit
namespace Jvm.Pilot.@@N@@
open Jvm Jvm.ClassFile Sem Op Lib Jvm.Free Jvm.Stand Jvm.LawKit Jvm.RoadKit Bundle Jvm.Pilot.@@N@@.Jvm.D
def Wp (p : Program) (e : Env) (s : State) (below : List Frame) (C S : Nat) (Q : Option Value → Heap → List Loc → Prop) (T : State) (g : JFrame) : Prop :=
  ∃ s₂ o, Steps p.tables e below (T.setTop g) s₂ ∧ s₂.status = .running ∧ Ended s₂ below o ∧ ∃ v L, o = .returned v ∧ Q v s₂.heap L ∧ FrameEnd s o s₂ L C S
section OwnW
variable {p : Program} {l : Launch} {e : Env} {R : Room} {s : State} {m : MethodId} {args : Array Value} {below : List Frame} {meth : Method} {c : Code} {T : State} {locs : List Loc} {cells slots : Nat} {C S : Nat} {Q : Option Value → Heap → List Loc → Prop} {pc pc' : Nat} {Ls : Array Slot} {st : List Value}
theorem Wp.via {T' : State} {g g' : JFrame} (st : ∀ t, Steps p.tables e below (T'.setTop g') t → Steps p.tables e below (T.setTop g) t) (k : Wp p e s below C S Q T' g') : Wp p e s below C S Q T g := by
  obtain ⟨s₂, o, h1, h2⟩ := k
  exact ⟨s₂, o, st _ h1, h2⟩
theorem w_iload (X : Stand p l e R s m args below meth c T locs cells slots) (hx : p.tables.exec = Jvm.exec) {k : Nat} {v : Int32} (hd : decode c.code pc = .ok (.iload k, 2)) (hl : Ls[k]? = some (.val (.int v))) (hp : pc + 2 = pc') (k : Wp p e s below C S Q T (mkF m pc' Ls (Value.int v :: st))) : Wp p e s below C S Q T (mkF m pc Ls (st)) := by
  subst hp
  exact Wp.via (fun _ h => XS.iload X.here hx rfl hd hl h) k
theorem w_iloadN (X : Stand p l e R s m args below meth c T locs cells slots) (hx : p.tables.exec = Jvm.exec) {k : Fin 4} {v : Int32} (hd : decode c.code pc = .ok (.iload_n k, 1)) (hl : Ls[k.val]? = some (.val (.int v))) (hp : pc + 1 = pc') (k : Wp p e s below C S Q T (mkF m pc' Ls (Value.int v :: st))) : Wp p e s below C S Q T (mkF m pc Ls (st)) := by
  subst hp
  exact Wp.via (fun _ h => XS.iloadN X.here hx rfl hd hl h) k
theorem w_lload (X : Stand p l e R s m args below meth c T locs cells slots) (hx : p.tables.exec = Jvm.exec) {k : Nat} {v : Int64} (hd : decode c.code pc = .ok (.lload k, 2)) (hl : Ls[k]? = some (.val (.long v))) (hp : pc + 2 = pc') (k : Wp p e s below C S Q T (mkF m pc' Ls (Value.long v :: st))) : Wp p e s below C S Q T (mkF m pc Ls (st)) := by
  subst hp
  exact Wp.via (fun _ h => XT.lload X.here hx rfl hd hl h) k
theorem w_lloadN (X : Stand p l e R s m args below meth c T locs cells slots) (hx : p.tables.exec = Jvm.exec) {k : Fin 4} {v : Int64} (hd : decode c.code pc = .ok (.lload_n k, 1)) (hl : Ls[k.val]? = some (.val (.long v))) (hp : pc + 1 = pc') (k : Wp p e s below C S Q T (mkF m pc' Ls (Value.long v :: st))) : Wp p e s below C S Q T (mkF m pc Ls (st)) := by
  subst hp
  exact Wp.via (fun _ h => XT.lloadN X.here hx rfl hd hl h) k
theorem w_aload (X : Stand p l e R s m args below meth c T locs cells slots) (hx : p.tables.exec = Jvm.exec) {k : Nat} {v : Value} (hd : decode c.code pc = .ok (.aload k, 2)) (hl : Ls[k]? = some (.val v)) (hv : v.isRef = true) (hp : pc + 2 = pc') (k : Wp p e s below C S Q T (mkF m pc' Ls (v :: st))) : Wp p e s below C S Q T (mkF m pc Ls (st)) := by
  subst hp
  exact Wp.via (fun _ h => XS.aload X.here hx rfl hd hl hv h) k
theorem w_aloadN (X : Stand p l e R s m args below meth c T locs cells slots) (hx : p.tables.exec = Jvm.exec) {k : Fin 4} {v : Value} (hd : decode c.code pc = .ok (.aload_n k, 1)) (hl : Ls[k.val]? = some (.val v)) (hv : v.isRef = true) (hp : pc + 1 = pc') (k : Wp p e s below C S Q T (mkF m pc' Ls (v :: st))) : Wp p e s below C S Q T (mkF m pc Ls (st)) := by
  subst hp
  exact Wp.via (fun _ h => XS.aloadN X.here hx rfl hd hl hv h) k
theorem w_istore (X : Stand p l e R s m args below meth c T locs cells slots) (hx : p.tables.exec = Jvm.exec) {k : Nat} {v : Int32} {l' : Array Slot} (hd : decode c.code pc = .ok (.istore k, 2)) (hl : storeLocals Ls k (Value.int v) = some l') (hp : pc + 2 = pc') (k : Wp p e s below C S Q T (mkF m pc' l' (st))) : Wp p e s below C S Q T (mkF m pc Ls (Value.int v :: st)) := by
  subst hp
  exact Wp.via (fun _ h => XS.istore X.here hx rfl hd rfl hl h) k
theorem w_istoreN (X : Stand p l e R s m args below meth c T locs cells slots) (hx : p.tables.exec = Jvm.exec) {k : Fin 4} {v : Int32} {l' : Array Slot} (hd : decode c.code pc = .ok (.istore_n k, 1)) (hl : storeLocals Ls k.val (Value.int v) = some l') (hp : pc + 1 = pc') (k : Wp p e s below C S Q T (mkF m pc' l' (st))) : Wp p e s below C S Q T (mkF m pc Ls (Value.int v :: st)) := by
  subst hp
  exact Wp.via (fun _ h => XS.istoreN X.here hx rfl hd rfl hl h) k
theorem w_lstore (X : Stand p l e R s m args below meth c T locs cells slots) (hx : p.tables.exec = Jvm.exec) {k : Nat} {v : Int64} {l' : Array Slot} (hd : decode c.code pc = .ok (.lstore k, 2)) (hl : storeLocals Ls k (Value.long v) = some l') (hp : pc + 2 = pc') (k : Wp p e s below C S Q T (mkF m pc' l' (st))) : Wp p e s below C S Q T (mkF m pc Ls (Value.long v :: st)) := by
  subst hp
  exact Wp.via (fun _ h => XT.lstore X.here hx rfl hd rfl hl h) k
theorem w_lstoreN (X : Stand p l e R s m args below meth c T locs cells slots) (hx : p.tables.exec = Jvm.exec) {k : Fin 4} {v : Int64} {l' : Array Slot} (hd : decode c.code pc = .ok (.lstore_n k, 1)) (hl : storeLocals Ls k.val (Value.long v) = some l') (hp : pc + 1 = pc') (k : Wp p e s below C S Q T (mkF m pc' l' (st))) : Wp p e s below C S Q T (mkF m pc Ls (Value.long v :: st)) := by
  subst hp
  exact Wp.via (fun _ h => XT.lstoreN X.here hx rfl hd rfl hl h) k
theorem w_istoreS (X : Stand p l e R s m args below meth c T locs cells slots) (hx : p.tables.exec = Jvm.exec) {k : Nat} {v : Int32} {o : Slot} (hd : decode c.code pc = .ok (.istore k, 2)) (hold : Ls[k]? = some o) (ho : One o) (hp : pc + 2 = pc') (k : Wp p e s below C S Q T (mkF m pc' (Ls.setIfInBounds k (.val (.int v))) (st))) : Wp p e s below C S Q T (mkF m pc Ls (Value.int v :: st)) := by
  subst hp
  exact Wp.via (fun _ h => XS.istoreS X.here hx rfl hd rfl hold ho h) k
theorem w_astore (X : Stand p l e R s m args below meth c T locs cells slots) (hx : p.tables.exec = Jvm.exec) {k : Nat} {v : Value} {l' : Array Slot} (hd : decode c.code pc = .ok (.astore k, 2)) (hv : v.isRef = true) (hl : storeLocals Ls k v = some l') (hp : pc + 2 = pc') (k : Wp p e s below C S Q T (mkF m pc' l' (st))) : Wp p e s below C S Q T (mkF m pc Ls (v :: st)) := by
  subst hp
  exact Wp.via (fun _ h => XS.astore X.here hx rfl hd rfl hv hl h) k
theorem w_astoreN (X : Stand p l e R s m args below meth c T locs cells slots) (hx : p.tables.exec = Jvm.exec) {k : Fin 4} {v : Value} {l' : Array Slot} (hd : decode c.code pc = .ok (.astore_n k, 1)) (hv : v.isRef = true) (hl : storeLocals Ls k.val v = some l') (hp : pc + 1 = pc') (k : Wp p e s below C S Q T (mkF m pc' l' (st))) : Wp p e s below C S Q T (mkF m pc Ls (v :: st)) := by
  subst hp
  exact Wp.via (fun _ h => XS.astoreN X.here hx rfl hd rfl hv hl h) k
theorem w_iconst (X : Stand p l e R s m args below meth c T locs cells slots) (hx : p.tables.exec = Jvm.exec) {i : Int} {v : Int32} (hd : decode c.code pc = .ok (.iconst i, 1)) (hv : Int32.ofInt i = v) (hp : pc + 1 = pc') (k : Wp p e s below C S Q T (mkF m pc' Ls (Value.int v :: st))) : Wp p e s below C S Q T (mkF m pc Ls (st)) := by
  subst hp hv
  exact Wp.via (fun _ h => XS.iconst X.here hx rfl hd h) k
theorem w_bipush (X : Stand p l e R s m args below meth c T locs cells slots) (hx : p.tables.exec = Jvm.exec) {i : Int} {v : Int32} (hd : decode c.code pc = .ok (.bipush i, 2)) (hv : (Int8.ofInt i).toInt32 = v) (hp : pc + 2 = pc') (k : Wp p e s below C S Q T (mkF m pc' Ls (Value.int v :: st))) : Wp p e s below C S Q T (mkF m pc Ls (st)) := by
  subst hp hv
  exact Wp.via (fun _ h => XS.bipush X.here hx rfl hd h) k
theorem w_sipush (X : Stand p l e R s m args below meth c T locs cells slots) (hx : p.tables.exec = Jvm.exec) {i : Int} {v : Int32} (hd : decode c.code pc = .ok (.sipush i, 3)) (hv : (Int16.ofInt i).toInt32 = v) (hp : pc + 3 = pc') (k : Wp p e s below C S Q T (mkF m pc' Ls (Value.int v :: st))) : Wp p e s below C S Q T (mkF m pc Ls (st)) := by
  subst hp hv
  exact Wp.via (fun _ h => XS.sipush X.here hx rfl hd h) k
theorem w_lconst (X : Stand p l e R s m args below meth c T locs cells slots) (hx : p.tables.exec = Jvm.exec) {k : Fin 2} {v : Int64} (hd : decode c.code pc = .ok (.lconst k, 1)) (hv : Int64.ofNat k = v) (hp : pc + 1 = pc') (k : Wp p e s below C S Q T (mkF m pc' Ls (Value.long v :: st))) : Wp p e s below C S Q T (mkF m pc Ls (st)) := by
  subst hp hv
  exact Wp.via (fun _ h => XT.lconst X.here hx rfl hd h) k
theorem w_aconst (X : Stand p l e R s m args below meth c T locs cells slots) (hx : p.tables.exec = Jvm.exec)  (hd : decode c.code pc = .ok (.aconst_null, 1))  (hp : pc + 1 = pc') (k : Wp p e s below C S Q T (mkF m pc' Ls (Value.null :: st))) : Wp p e s below C S Q T (mkF m pc Ls (st)) := by
  subst hp
  exact Wp.via (fun _ h => XS.aconstNull X.here hx rfl hd h) k
theorem w_ldc (X : Stand p l e R s m args below meth c T locs cells slots) (hx : p.tables.exec = Jvm.exec) {i : Nat} {v : Int32} {own : String} (hd : decode c.code pc = .ok (.ldc i, 2)) (hown : s.vm.findClass own = some m.cls) (hc : (Jvm.Cond.constant own i v).before args s = true) (hp : pc + 2 = pc') (k : Wp p e s below C S Q T (mkF m pc' Ls (Value.int v :: st))) : Wp p e s below C S Q T (mkF m pc Ls (st)) := by
  subst hp
  exact Wp.via (fun _ h => X.ldcInt hx hown hc (g := mkF m pc Ls st) rfl hd _ h) k
theorem w_ldc2 (X : Stand p l e R s m args below meth c T locs cells slots) (hx : p.tables.exec = Jvm.exec) {i : Nat} {v : Int64} {own : String} (hd : decode c.code pc = .ok (.ldc2_w i, 3)) (hown : s.vm.findClass own = some m.cls) (hc : (Jvm.Cond.constantLong own i v).before args s = true) (hp : pc + 3 = pc') (k : Wp p e s below C S Q T (mkF m pc' Ls (Value.long v :: st))) : Wp p e s below C S Q T (mkF m pc Ls (st)) := by
  subst hp
  exact Wp.via (fun _ h => X.ldc2Long hx hown hc (g := mkF m pc Ls st) rfl hd _ h) k
theorem w_iadd (X : Stand p l e R s m args below meth c T locs cells slots) (hx : p.tables.exec = Jvm.exec) {x y : Int32} (hd : decode c.code pc = .ok (.iadd, 1))  (hp : pc + 1 = pc') (k : Wp p e s below C S Q T (mkF m pc' Ls (Value.int (x + y) :: st))) : Wp p e s below C S Q T (mkF m pc Ls (Value.int y :: Value.int x :: st)) := by
  subst hp
  exact Wp.via (fun _ h => XS.iadd X.here hx rfl hd rfl h) k
theorem w_isub (X : Stand p l e R s m args below meth c T locs cells slots) (hx : p.tables.exec = Jvm.exec) {x y : Int32} (hd : decode c.code pc = .ok (.isub, 1))  (hp : pc + 1 = pc') (k : Wp p e s below C S Q T (mkF m pc' Ls (Value.int (x - y) :: st))) : Wp p e s below C S Q T (mkF m pc Ls (Value.int y :: Value.int x :: st)) := by
  subst hp
  exact Wp.via (fun _ h => XS.isub X.here hx rfl hd rfl h) k
theorem w_iand (X : Stand p l e R s m args below meth c T locs cells slots) (hx : p.tables.exec = Jvm.exec) {x y : Int32} (hd : decode c.code pc = .ok (.iand, 1))  (hp : pc + 1 = pc') (k : Wp p e s below C S Q T (mkF m pc' Ls (Value.int (x &&& y) :: st))) : Wp p e s below C S Q T (mkF m pc Ls (Value.int y :: Value.int x :: st)) := by
  subst hp
  exact Wp.via (fun _ h => XS.iand X.here hx rfl hd rfl h) k
theorem w_imul (X : Stand p l e R s m args below meth c T locs cells slots) (hx : p.tables.exec = Jvm.exec) {x y : Int32} (hd : decode c.code pc = .ok (.imul, 1))  (hp : pc + 1 = pc') (k : Wp p e s below C S Q T (mkF m pc' Ls (Value.int (x * y) :: st))) : Wp p e s below C S Q T (mkF m pc Ls (Value.int y :: Value.int x :: st)) := by
  subst hp
  exact Wp.via (fun _ h => XS.imul X.here hx rfl hd rfl h) k
theorem w_ixor (X : Stand p l e R s m args below meth c T locs cells slots) (hx : p.tables.exec = Jvm.exec) {x y : Int32} (hd : decode c.code pc = .ok (.ixor, 1))  (hp : pc + 1 = pc') (k : Wp p e s below C S Q T (mkF m pc' Ls (Value.int (x ^^^ y) :: st))) : Wp p e s below C S Q T (mkF m pc Ls (Value.int y :: Value.int x :: st)) := by
  subst hp
  exact Wp.via (fun _ h => XT.ixor X.here hx rfl hd rfl h) k
theorem w_ior (X : Stand p l e R s m args below meth c T locs cells slots) (hx : p.tables.exec = Jvm.exec) {x y : Int32} (hd : decode c.code pc = .ok (.ior, 1))  (hp : pc + 1 = pc') (k : Wp p e s below C S Q T (mkF m pc' Ls (Value.int (x ||| y) :: st))) : Wp p e s below C S Q T (mkF m pc Ls (Value.int y :: Value.int x :: st)) := by
  subst hp
  exact Wp.via (fun _ h => XT.ior X.here hx rfl hd rfl h) k
theorem w_ishl (X : Stand p l e R s m args below meth c T locs cells slots) (hx : p.tables.exec = Jvm.exec) {x y : Int32} (hd : decode c.code pc = .ok (.ishl, 1))  (hp : pc + 1 = pc') (k : Wp p e s below C S Q T (mkF m pc' Ls (Value.int (x <<< (y &&& 31)) :: st))) : Wp p e s below C S Q T (mkF m pc Ls (Value.int y :: Value.int x :: st)) := by
  subst hp
  exact Wp.via (fun _ h => XT.ishl X.here hx rfl hd rfl h) k
theorem w_ishr (X : Stand p l e R s m args below meth c T locs cells slots) (hx : p.tables.exec = Jvm.exec) {x y : Int32} (hd : decode c.code pc = .ok (.ishr, 1))  (hp : pc + 1 = pc') (k : Wp p e s below C S Q T (mkF m pc' Ls (Value.int (x >>> (y &&& 31)) :: st))) : Wp p e s below C S Q T (mkF m pc Ls (Value.int y :: Value.int x :: st)) := by
  subst hp
  exact Wp.via (fun _ h => XT.ishr X.here hx rfl hd rfl h) k
theorem w_iushr (X : Stand p l e R s m args below meth c T locs cells slots) (hx : p.tables.exec = Jvm.exec) {x y : Int32} (hd : decode c.code pc = .ok (.iushr, 1))  (hp : pc + 1 = pc') (k : Wp p e s below C S Q T (mkF m pc' Ls (Value.int (XT.ushr x y) :: st))) : Wp p e s below C S Q T (mkF m pc Ls (Value.int y :: Value.int x :: st)) := by
  subst hp
  exact Wp.via (fun _ h => XT.iushr X.here hx rfl hd rfl h) k
theorem w_idiv (X : Stand p l e R s m args below meth c T locs cells slots) (hx : p.tables.exec = Jvm.exec) {x y : Int32} (hd : decode c.code pc = .ok (.idiv, 1)) (hy : y ≠ 0) (hp : pc + 1 = pc') (k : Wp p e s below C S Q T (mkF m pc' Ls (Value.int (x / y) :: st))) : Wp p e s below C S Q T (mkF m pc Ls (Value.int y :: Value.int x :: st)) := by
  subst hp
  exact Wp.via (fun _ h => XS.idiv X.here hx rfl hd rfl hy h) k
theorem w_irem (X : Stand p l e R s m args below meth c T locs cells slots) (hx : p.tables.exec = Jvm.exec) {x y : Int32} (hd : decode c.code pc = .ok (.irem, 1)) (hy : y ≠ 0) (hp : pc + 1 = pc') (k : Wp p e s below C S Q T (mkF m pc' Ls (Value.int (x % y) :: st))) : Wp p e s below C S Q T (mkF m pc Ls (Value.int y :: Value.int x :: st)) := by
  subst hp
  exact Wp.via (fun _ h => iremM X hx rfl hd rfl hy h) k
theorem w_ladd (X : Stand p l e R s m args below meth c T locs cells slots) (hx : p.tables.exec = Jvm.exec) {x y : Int64} (hd : decode c.code pc = .ok (.ladd, 1))  (hp : pc + 1 = pc') (k : Wp p e s below C S Q T (mkF m pc' Ls (Value.long (x + y) :: st))) : Wp p e s below C S Q T (mkF m pc Ls (Value.long y :: Value.long x :: st)) := by
  subst hp
  exact Wp.via (fun _ h => XT.ladd X.here hx rfl hd rfl h) k
theorem w_lsub (X : Stand p l e R s m args below meth c T locs cells slots) (hx : p.tables.exec = Jvm.exec) {x y : Int64} (hd : decode c.code pc = .ok (.lsub, 1))  (hp : pc + 1 = pc') (k : Wp p e s below C S Q T (mkF m pc' Ls (Value.long (x - y) :: st))) : Wp p e s below C S Q T (mkF m pc Ls (Value.long y :: Value.long x :: st)) := by
  subst hp
  exact Wp.via (fun _ h => XT.lsub X.here hx rfl hd rfl h) k
theorem w_lmul (X : Stand p l e R s m args below meth c T locs cells slots) (hx : p.tables.exec = Jvm.exec) {x y : Int64} (hd : decode c.code pc = .ok (.lmul, 1))  (hp : pc + 1 = pc') (k : Wp p e s below C S Q T (mkF m pc' Ls (Value.long (x * y) :: st))) : Wp p e s below C S Q T (mkF m pc Ls (Value.long y :: Value.long x :: st)) := by
  subst hp
  exact Wp.via (fun _ h => XT.lmul X.here hx rfl hd rfl h) k
theorem w_land (X : Stand p l e R s m args below meth c T locs cells slots) (hx : p.tables.exec = Jvm.exec) {x y : Int64} (hd : decode c.code pc = .ok (.land, 1))  (hp : pc + 1 = pc') (k : Wp p e s below C S Q T (mkF m pc' Ls (Value.long (x &&& y) :: st))) : Wp p e s below C S Q T (mkF m pc Ls (Value.long y :: Value.long x :: st)) := by
  subst hp
  exact Wp.via (fun _ h => XT.land X.here hx rfl hd rfl h) k
theorem w_lor (X : Stand p l e R s m args below meth c T locs cells slots) (hx : p.tables.exec = Jvm.exec) {x y : Int64} (hd : decode c.code pc = .ok (.lor, 1))  (hp : pc + 1 = pc') (k : Wp p e s below C S Q T (mkF m pc' Ls (Value.long (x ||| y) :: st))) : Wp p e s below C S Q T (mkF m pc Ls (Value.long y :: Value.long x :: st)) := by
  subst hp
  exact Wp.via (fun _ h => XT.lor X.here hx rfl hd rfl h) k
theorem w_lxor (X : Stand p l e R s m args below meth c T locs cells slots) (hx : p.tables.exec = Jvm.exec) {x y : Int64} (hd : decode c.code pc = .ok (.lxor, 1))  (hp : pc + 1 = pc') (k : Wp p e s below C S Q T (mkF m pc' Ls (Value.long (x ^^^ y) :: st))) : Wp p e s below C S Q T (mkF m pc Ls (Value.long y :: Value.long x :: st)) := by
  subst hp
  exact Wp.via (fun _ h => XT.lxor X.here hx rfl hd rfl h) k
theorem w_ldiv (X : Stand p l e R s m args below meth c T locs cells slots) (hx : p.tables.exec = Jvm.exec) {x y : Int64} (hd : decode c.code pc = .ok (.ldiv, 1)) (hy : y ≠ 0) (hp : pc + 1 = pc') (k : Wp p e s below C S Q T (mkF m pc' Ls (Value.long (x / y) :: st))) : Wp p e s below C S Q T (mkF m pc Ls (Value.long y :: Value.long x :: st)) := by
  subst hp
  exact Wp.via (fun _ h => XT.ldiv X.here hx rfl hd rfl hy h) k
theorem w_lrem (X : Stand p l e R s m args below meth c T locs cells slots) (hx : p.tables.exec = Jvm.exec) {x y : Int64} (hd : decode c.code pc = .ok (.lrem, 1)) (hy : y ≠ 0) (hp : pc + 1 = pc') (k : Wp p e s below C S Q T (mkF m pc' Ls (Value.long (x % y) :: st))) : Wp p e s below C S Q T (mkF m pc Ls (Value.long y :: Value.long x :: st)) := by
  subst hp
  exact Wp.via (fun _ h => XT.lrem X.here hx rfl hd rfl hy (by rw [lrem_mod]; exact h)) k
theorem w_lshl (X : Stand p l e R s m args below meth c T locs cells slots) (hx : p.tables.exec = Jvm.exec) {x : Int64} {y : Int32} (hd : decode c.code pc = .ok (.lshl, 1))  (hp : pc + 1 = pc') (k : Wp p e s below C S Q T (mkF m pc' Ls (Value.long (x <<< (y.toInt64 &&& 63)) :: st))) : Wp p e s below C S Q T (mkF m pc Ls (Value.int y :: Value.long x :: st)) := by
  subst hp
  exact Wp.via (fun _ h => XT.lshl X.here hx rfl hd rfl h) k
theorem w_lshr (X : Stand p l e R s m args below meth c T locs cells slots) (hx : p.tables.exec = Jvm.exec) {x : Int64} {y : Int32} (hd : decode c.code pc = .ok (.lshr, 1))  (hp : pc + 1 = pc') (k : Wp p e s below C S Q T (mkF m pc' Ls (Value.long (x >>> (y.toInt64 &&& 63)) :: st))) : Wp p e s below C S Q T (mkF m pc Ls (Value.int y :: Value.long x :: st)) := by
  subst hp
  exact Wp.via (fun _ h => XT.lshr X.here hx rfl hd rfl h) k
theorem w_lushr (X : Stand p l e R s m args below meth c T locs cells slots) (hx : p.tables.exec = Jvm.exec) {x : Int64} {y : Int32} (hd : decode c.code pc = .ok (.lushr, 1))  (hp : pc + 1 = pc') (k : Wp p e s below C S Q T (mkF m pc' Ls (Value.long (XT.ushrL x y) :: st))) : Wp p e s below C S Q T (mkF m pc Ls (Value.int y :: Value.long x :: st)) := by
  subst hp
  exact Wp.via (fun _ h => XT.lushr X.here hx rfl hd rfl h) k
theorem w_lcmp (X : Stand p l e R s m args below meth c T locs cells slots) (hx : p.tables.exec = Jvm.exec) {x y : Int64} (hd : decode c.code pc = .ok (.lcmp, 1))  (hp : pc + 1 = pc') (k : Wp p e s below C S Q T (mkF m pc' Ls (Value.int (XT.cmpL x y) :: st))) : Wp p e s below C S Q T (mkF m pc Ls (Value.long y :: Value.long x :: st)) := by
  subst hp
  exact Wp.via (fun _ h => XT.lcmp X.here hx rfl hd rfl h) k
theorem w_ineg (X : Stand p l e R s m args below meth c T locs cells slots) (hx : p.tables.exec = Jvm.exec) {x : Int32} (hd : decode c.code pc = .ok (.ineg, 1))  (hp : pc + 1 = pc') (k : Wp p e s below C S Q T (mkF m pc' Ls (Value.int (-x) :: st))) : Wp p e s below C S Q T (mkF m pc Ls (Value.int x :: st)) := by
  subst hp
  exact Wp.via (fun _ h => XS.ineg X.here hx rfl hd rfl h) k
theorem w_lneg (X : Stand p l e R s m args below meth c T locs cells slots) (hx : p.tables.exec = Jvm.exec) {x : Int64} (hd : decode c.code pc = .ok (.lneg, 1))  (hp : pc + 1 = pc') (k : Wp p e s below C S Q T (mkF m pc' Ls (Value.long (-x) :: st))) : Wp p e s below C S Q T (mkF m pc Ls (Value.long x :: st)) := by
  subst hp
  exact Wp.via (fun _ h => XT.lneg X.here hx rfl hd rfl h) k
theorem w_i2l (X : Stand p l e R s m args below meth c T locs cells slots) (hx : p.tables.exec = Jvm.exec) {x : Int32} (hd : decode c.code pc = .ok (.i2l, 1))  (hp : pc + 1 = pc') (k : Wp p e s below C S Q T (mkF m pc' Ls (Value.long x.toInt64 :: st))) : Wp p e s below C S Q T (mkF m pc Ls (Value.int x :: st)) := by
  subst hp
  exact Wp.via (fun _ h => XT.i2l X.here hx rfl hd rfl h) k
theorem w_l2i (X : Stand p l e R s m args below meth c T locs cells slots) (hx : p.tables.exec = Jvm.exec) {x : Int64} (hd : decode c.code pc = .ok (.l2i, 1))  (hp : pc + 1 = pc') (k : Wp p e s below C S Q T (mkF m pc' Ls (Value.int x.toInt32 :: st))) : Wp p e s below C S Q T (mkF m pc Ls (Value.long x :: st)) := by
  subst hp
  exact Wp.via (fun _ h => XT.l2i X.here hx rfl hd rfl h) k
theorem w_i2b (X : Stand p l e R s m args below meth c T locs cells slots) (hx : p.tables.exec = Jvm.exec) {x : Int32} (hd : decode c.code pc = .ok (.i2b, 1))  (hp : pc + 1 = pc') (k : Wp p e s below C S Q T (mkF m pc' Ls (Value.int x.toInt8.toInt32 :: st))) : Wp p e s below C S Q T (mkF m pc Ls (Value.int x :: st)) := by
  subst hp
  exact Wp.via (fun _ h => XT.i2b X.here hx rfl hd rfl h) k
theorem w_i2c (X : Stand p l e R s m args below meth c T locs cells slots) (hx : p.tables.exec = Jvm.exec) {x : Int32} (hd : decode c.code pc = .ok (.i2c, 1))  (hp : pc + 1 = pc') (k : Wp p e s below C S Q T (mkF m pc' Ls (Value.int x.toUInt32.toUInt16.toUInt32.toInt32 :: st))) : Wp p e s below C S Q T (mkF m pc Ls (Value.int x :: st)) := by
  subst hp
  exact Wp.via (fun _ h => XT.i2c X.here hx rfl hd rfl h) k
theorem w_iinc (X : Stand p l e R s m args below meth c T locs cells slots) (hx : p.tables.exec = Jvm.exec) {k : Nat} {cst : Int} {v : Int32} {l' : Array Slot} (hd : decode c.code pc = .ok (.iinc k cst, 3)) (hl : Ls[k]? = some (.val (.int v))) (hl' : storeLocals Ls k (.int (v + Int32.ofInt cst)) = some l') (hp : pc + 3 = pc') (k : Wp p e s below C S Q T (mkF m pc' l' (st))) : Wp p e s below C S Q T (mkF m pc Ls (st)) := by
  subst hp
  exact Wp.via (fun _ h => XS.iinc X.here hx rfl hd hl hl' h) k
theorem w_dup (X : Stand p l e R s m args below meth c T locs cells slots) (hx : p.tables.exec = Jvm.exec) {x : Value} (hd : decode c.code pc = .ok (.dup, 1)) (hc : x.category = 1) (hp : pc + 1 = pc') (k : Wp p e s below C S Q T (mkF m pc' Ls (x :: x :: st))) : Wp p e s below C S Q T (mkF m pc Ls (x :: st)) := by
  subst hp
  exact Wp.via (fun _ h => XS.dup X.here hx rfl hd rfl hc h) k
theorem w_dup2 (X : Stand p l e R s m args below meth c T locs cells slots) (hx : p.tables.exec = Jvm.exec) {x y : Value} (hd : decode c.code pc = .ok (.dup2, 1)) (hc : x.category = 1) (hc' : y.category = 1) (hp : pc + 1 = pc') (k : Wp p e s below C S Q T (mkF m pc' Ls (x :: y :: x :: y :: st))) : Wp p e s below C S Q T (mkF m pc Ls (x :: y :: st)) := by
  subst hp
  exact Wp.via (fun _ h => XT.dup2 X.here hx rfl hd rfl hc hc' h) k
theorem w_dup2L (X : Stand p l e R s m args below meth c T locs cells slots) (hx : p.tables.exec = Jvm.exec) {x : Int64} (hd : decode c.code pc = .ok (.dup2, 1))  (hp : pc + 1 = pc') (k : Wp p e s below C S Q T (mkF m pc' Ls (Value.long x :: Value.long x :: st))) : Wp p e s below C S Q T (mkF m pc Ls (Value.long x :: st)) := by
  subst hp
  exact Wp.via (fun _ h => XT.dup2L X.here hx rfl hd rfl h) k
theorem w_dupX1 (X : Stand p l e R s m args below meth c T locs cells slots) (hx : p.tables.exec = Jvm.exec) {x y : Value} (hd : decode c.code pc = .ok (.dup_x1, 1)) (hc : x.category = 1) (hc' : y.category = 1) (hp : pc + 1 = pc') (k : Wp p e s below C S Q T (mkF m pc' Ls (x :: y :: x :: st))) : Wp p e s below C S Q T (mkF m pc Ls (x :: y :: st)) := by
  subst hp
  exact Wp.via (fun _ h => XT.dupX1 X.here hx rfl hd rfl hc hc' h) k
theorem w_pop (X : Stand p l e R s m args below meth c T locs cells slots) (hx : p.tables.exec = Jvm.exec) {x : Value} (hd : decode c.code pc = .ok (.pop, 1)) (hc : x.category = 1) (hp : pc + 1 = pc') (k : Wp p e s below C S Q T (mkF m pc' Ls (st))) : Wp p e s below C S Q T (mkF m pc Ls (x :: st)) := by
  subst hp
  exact Wp.via (fun _ h => XT.pop X.here hx rfl hd rfl hc h) k
theorem w_goto (X : Stand p l e R s m args below meth c T locs cells slots) (hx : p.tables.exec = Jvm.exec) {o : Int} (hd : decode c.code pc = .ok (.goto o, 3)) (ho : 0 ≤ (pc : Int) + o) (hp : ((pc : Int) + o).toNat = pc') (k : Wp p e s below C S Q T (mkF m pc' Ls st)) : Wp p e s below C S Q T (mkF m pc Ls st) :=
  Wp.via (fun _ h => XS.goto X.here hx rfl (pc0 := pc) (pc' := pc') rfl hd ho hp h) k
theorem w_icmp_eq (X : Stand p l e R s m args below meth c T locs cells slots) (hx : p.tables.exec = Jvm.exec) {o : Int} {pcY : Nat} {x y : Int32} (hd : decode c.code pc = .ok (.if_icmp .eq o, 3)) (ho : 0 ≤ (pc : Int) + o) (hy : ((pc : Int) + o).toNat = pcY) (hp : pc + 3 = pc') (kY : x = y → Wp p e s below C S Q T (mkF m pcY Ls st)) (kN : ¬ x = y → Wp p e s below C S Q T (mkF m pc' Ls st)) : Wp p e s below C S Q T (mkF m pc Ls (Value.int y :: Value.int x :: st)) := by
  by_cases q : x = y
  · exact Wp.via (fun _ h => XS.icmpYes X.here hx rfl (pc0 := pc) (pc' := pcY) rfl hd rfl (teq q).1 ho hy h) (kY q)
  · exact Wp.via (fun _ h => XS.icmpNo X.here hx rfl hd rfl (feq (by simpa using q)).1 h) (by subst hp; exact kN (by simpa using q))
theorem w_if_eq (X : Stand p l e R s m args below meth c T locs cells slots) (hx : p.tables.exec = Jvm.exec) {o : Int} {pcY : Nat} {x : Int32} (hd : decode c.code pc = .ok (.ifCond .eq o, 3)) (ho : 0 ≤ (pc : Int) + o) (hy : ((pc : Int) + o).toNat = pcY) (hp : pc + 3 = pc') (kY : x = 0 → Wp p e s below C S Q T (mkF m pcY Ls st)) (kN : ¬ x = 0 → Wp p e s below C S Q T (mkF m pc' Ls st)) : Wp p e s below C S Q T (mkF m pc Ls (Value.int x :: st)) := by
  by_cases q : x = 0
  · exact Wp.via (fun _ h => XS.ifYes X.here hx rfl (pc0 := pc) (pc' := pcY) rfl hd rfl ((if0 _ _).trans (teq q).1) ho hy h) (kY q)
  · exact Wp.via (fun _ h => XS.ifNo X.here hx rfl hd rfl ((if0 _ _).trans (feq (by simpa using q)).1) h) (by subst hp; exact kN (by simpa using q))
theorem w_icmp_ne (X : Stand p l e R s m args below meth c T locs cells slots) (hx : p.tables.exec = Jvm.exec) {o : Int} {pcY : Nat} {x y : Int32} (hd : decode c.code pc = .ok (.if_icmp .ne o, 3)) (ho : 0 ≤ (pc : Int) + o) (hy : ((pc : Int) + o).toNat = pcY) (hp : pc + 3 = pc') (kY : ¬ x = y → Wp p e s below C S Q T (mkF m pcY Ls st)) (kN : x = y → Wp p e s below C S Q T (mkF m pc' Ls st)) : Wp p e s below C S Q T (mkF m pc Ls (Value.int y :: Value.int x :: st)) := by
  by_cases q : ¬ x = y
  · exact Wp.via (fun _ h => XS.icmpYes X.here hx rfl (pc0 := pc) (pc' := pcY) rfl hd rfl (feq q).2 ho hy h) (kY q)
  · exact Wp.via (fun _ h => XS.icmpNo X.here hx rfl hd rfl (teq (by simpa using q)).2 h) (by subst hp; exact kN (by simpa using q))
theorem w_if_ne (X : Stand p l e R s m args below meth c T locs cells slots) (hx : p.tables.exec = Jvm.exec) {o : Int} {pcY : Nat} {x : Int32} (hd : decode c.code pc = .ok (.ifCond .ne o, 3)) (ho : 0 ≤ (pc : Int) + o) (hy : ((pc : Int) + o).toNat = pcY) (hp : pc + 3 = pc') (kY : ¬ x = 0 → Wp p e s below C S Q T (mkF m pcY Ls st)) (kN : x = 0 → Wp p e s below C S Q T (mkF m pc' Ls st)) : Wp p e s below C S Q T (mkF m pc Ls (Value.int x :: st)) := by
  by_cases q : ¬ x = 0
  · exact Wp.via (fun _ h => XS.ifYes X.here hx rfl (pc0 := pc) (pc' := pcY) rfl hd rfl ((if0 _ _).trans (feq q).2) ho hy h) (kY q)
  · exact Wp.via (fun _ h => XS.ifNo X.here hx rfl hd rfl ((if0 _ _).trans (teq (by simpa using q)).2) h) (by subst hp; exact kN (by simpa using q))
theorem w_icmp_lt (X : Stand p l e R s m args below meth c T locs cells slots) (hx : p.tables.exec = Jvm.exec) {o : Int} {pcY : Nat} {x y : Int32} (hd : decode c.code pc = .ok (.if_icmp .lt o, 3)) (ho : 0 ≤ (pc : Int) + o) (hy : ((pc : Int) + o).toNat = pcY) (hp : pc + 3 = pc') (kY : x < y → Wp p e s below C S Q T (mkF m pcY Ls st)) (kN : ¬ x < y → Wp p e s below C S Q T (mkF m pc' Ls st)) : Wp p e s below C S Q T (mkF m pc Ls (Value.int y :: Value.int x :: st)) := by
  by_cases q : x < y
  · exact Wp.via (fun _ h => XS.icmpYes X.here hx rfl (pc0 := pc) (pc' := pcY) rfl hd rfl (tlt q).1 ho hy h) (kY q)
  · exact Wp.via (fun _ h => XS.icmpNo X.here hx rfl hd rfl (flt (by simpa using q)).1 h) (by subst hp; exact kN (by simpa using q))
theorem w_if_lt (X : Stand p l e R s m args below meth c T locs cells slots) (hx : p.tables.exec = Jvm.exec) {o : Int} {pcY : Nat} {x : Int32} (hd : decode c.code pc = .ok (.ifCond .lt o, 3)) (ho : 0 ≤ (pc : Int) + o) (hy : ((pc : Int) + o).toNat = pcY) (hp : pc + 3 = pc') (kY : x < 0 → Wp p e s below C S Q T (mkF m pcY Ls st)) (kN : ¬ x < 0 → Wp p e s below C S Q T (mkF m pc' Ls st)) : Wp p e s below C S Q T (mkF m pc Ls (Value.int x :: st)) := by
  by_cases q : x < 0
  · exact Wp.via (fun _ h => XS.ifYes X.here hx rfl (pc0 := pc) (pc' := pcY) rfl hd rfl ((if0 _ _).trans (tlt q).1) ho hy h) (kY q)
  · exact Wp.via (fun _ h => XS.ifNo X.here hx rfl hd rfl ((if0 _ _).trans (flt (by simpa using q)).1) h) (by subst hp; exact kN (by simpa using q))
theorem w_icmp_ge (X : Stand p l e R s m args below meth c T locs cells slots) (hx : p.tables.exec = Jvm.exec) {o : Int} {pcY : Nat} {x y : Int32} (hd : decode c.code pc = .ok (.if_icmp .ge o, 3)) (ho : 0 ≤ (pc : Int) + o) (hy : ((pc : Int) + o).toNat = pcY) (hp : pc + 3 = pc') (kY : ¬ x < y → Wp p e s below C S Q T (mkF m pcY Ls st)) (kN : x < y → Wp p e s below C S Q T (mkF m pc' Ls st)) : Wp p e s below C S Q T (mkF m pc Ls (Value.int y :: Value.int x :: st)) := by
  by_cases q : ¬ x < y
  · exact Wp.via (fun _ h => XS.icmpYes X.here hx rfl (pc0 := pc) (pc' := pcY) rfl hd rfl (flt q).2.1 ho hy h) (kY q)
  · exact Wp.via (fun _ h => XS.icmpNo X.here hx rfl hd rfl (tlt (by simpa using q)).2.1 h) (by subst hp; exact kN (by simpa using q))
theorem w_if_ge (X : Stand p l e R s m args below meth c T locs cells slots) (hx : p.tables.exec = Jvm.exec) {o : Int} {pcY : Nat} {x : Int32} (hd : decode c.code pc = .ok (.ifCond .ge o, 3)) (ho : 0 ≤ (pc : Int) + o) (hy : ((pc : Int) + o).toNat = pcY) (hp : pc + 3 = pc') (kY : ¬ x < 0 → Wp p e s below C S Q T (mkF m pcY Ls st)) (kN : x < 0 → Wp p e s below C S Q T (mkF m pc' Ls st)) : Wp p e s below C S Q T (mkF m pc Ls (Value.int x :: st)) := by
  by_cases q : ¬ x < 0
  · exact Wp.via (fun _ h => XS.ifYes X.here hx rfl (pc0 := pc) (pc' := pcY) rfl hd rfl ((if0 _ _).trans (flt q).2.1) ho hy h) (kY q)
  · exact Wp.via (fun _ h => XS.ifNo X.here hx rfl hd rfl ((if0 _ _).trans (tlt (by simpa using q)).2.1) h) (by subst hp; exact kN (by simpa using q))
theorem w_icmp_gt (X : Stand p l e R s m args below meth c T locs cells slots) (hx : p.tables.exec = Jvm.exec) {o : Int} {pcY : Nat} {x y : Int32} (hd : decode c.code pc = .ok (.if_icmp .gt o, 3)) (ho : 0 ≤ (pc : Int) + o) (hy : ((pc : Int) + o).toNat = pcY) (hp : pc + 3 = pc') (kY : y < x → Wp p e s below C S Q T (mkF m pcY Ls st)) (kN : ¬ y < x → Wp p e s below C S Q T (mkF m pc' Ls st)) : Wp p e s below C S Q T (mkF m pc Ls (Value.int y :: Value.int x :: st)) := by
  by_cases q : y < x
  · exact Wp.via (fun _ h => XS.icmpYes X.here hx rfl (pc0 := pc) (pc' := pcY) rfl hd rfl (tlt q).2.2.1 ho hy h) (kY q)
  · exact Wp.via (fun _ h => XS.icmpNo X.here hx rfl hd rfl (flt (by simpa using q)).2.2.1 h) (by subst hp; exact kN (by simpa using q))
theorem w_if_gt (X : Stand p l e R s m args below meth c T locs cells slots) (hx : p.tables.exec = Jvm.exec) {o : Int} {pcY : Nat} {x : Int32} (hd : decode c.code pc = .ok (.ifCond .gt o, 3)) (ho : 0 ≤ (pc : Int) + o) (hy : ((pc : Int) + o).toNat = pcY) (hp : pc + 3 = pc') (kY : 0 < x → Wp p e s below C S Q T (mkF m pcY Ls st)) (kN : ¬ 0 < x → Wp p e s below C S Q T (mkF m pc' Ls st)) : Wp p e s below C S Q T (mkF m pc Ls (Value.int x :: st)) := by
  by_cases q : 0 < x
  · exact Wp.via (fun _ h => XS.ifYes X.here hx rfl (pc0 := pc) (pc' := pcY) rfl hd rfl ((if0 _ _).trans (tlt q).2.2.1) ho hy h) (kY q)
  · exact Wp.via (fun _ h => XS.ifNo X.here hx rfl hd rfl ((if0 _ _).trans (flt (by simpa using q)).2.2.1) h) (by subst hp; exact kN (by simpa using q))
theorem w_icmp_le (X : Stand p l e R s m args below meth c T locs cells slots) (hx : p.tables.exec = Jvm.exec) {o : Int} {pcY : Nat} {x y : Int32} (hd : decode c.code pc = .ok (.if_icmp .le o, 3)) (ho : 0 ≤ (pc : Int) + o) (hy : ((pc : Int) + o).toNat = pcY) (hp : pc + 3 = pc') (kY : ¬ y < x → Wp p e s below C S Q T (mkF m pcY Ls st)) (kN : y < x → Wp p e s below C S Q T (mkF m pc' Ls st)) : Wp p e s below C S Q T (mkF m pc Ls (Value.int y :: Value.int x :: st)) := by
  by_cases q : ¬ y < x
  · exact Wp.via (fun _ h => XS.icmpYes X.here hx rfl (pc0 := pc) (pc' := pcY) rfl hd rfl (flt q).2.2.2 ho hy h) (kY q)
  · exact Wp.via (fun _ h => XS.icmpNo X.here hx rfl hd rfl (tlt (by simpa using q)).2.2.2 h) (by subst hp; exact kN (by simpa using q))
theorem w_if_le (X : Stand p l e R s m args below meth c T locs cells slots) (hx : p.tables.exec = Jvm.exec) {o : Int} {pcY : Nat} {x : Int32} (hd : decode c.code pc = .ok (.ifCond .le o, 3)) (ho : 0 ≤ (pc : Int) + o) (hy : ((pc : Int) + o).toNat = pcY) (hp : pc + 3 = pc') (kY : ¬ 0 < x → Wp p e s below C S Q T (mkF m pcY Ls st)) (kN : 0 < x → Wp p e s below C S Q T (mkF m pc' Ls st)) : Wp p e s below C S Q T (mkF m pc Ls (Value.int x :: st)) := by
  by_cases q : ¬ 0 < x
  · exact Wp.via (fun _ h => XS.ifYes X.here hx rfl (pc0 := pc) (pc' := pcY) rfl hd rfl ((if0 _ _).trans (flt q).2.2.2) ho hy h) (kY q)
  · exact Wp.via (fun _ h => XS.ifNo X.here hx rfl hd rfl ((if0 _ _).trans (tlt (by simpa using q)).2.2.2) h) (by subst hp; exact kN (by simpa using q))
theorem own_cl_lt (x y : Int64) : XT.cmpL x y < 0 ↔ x < y := by
  unfold XT.cmpL
  by_cases h1 : y < x
  · rw [if_pos h1]
    refine ⟨fun h => absurd h (by decide), fun h => absurd (Int64.lt_trans h1 h) Int64.lt_irrefl⟩
  · rw [if_neg h1]
    by_cases h2 : x = y
    · rw [if_pos h2]
      refine ⟨fun h => absurd h (by decide), fun h => absurd (h2 ▸ h) Int64.lt_irrefl⟩
    · rw [if_neg h2]
      refine ⟨fun _ => ?_, fun _ => by decide⟩
      rw [Int64.lt_iff_toInt_lt] at *
      have : x.toInt ≠ y.toInt := fun q => h2 (Int64.toInt_inj.mp q)
      omega
theorem own_cl_gt (x y : Int64) : 0 < XT.cmpL x y ↔ y < x := by
  unfold XT.cmpL
  by_cases h1 : y < x
  · rw [if_pos h1]
    exact ⟨fun _ => h1, fun _ => by decide⟩
  · rw [if_neg h1]
    by_cases h2 : x = y
    · rw [if_pos h2]
      exact ⟨fun h => absurd h (by decide), fun h => absurd h h1⟩
    · rw [if_neg h2]
      exact ⟨fun h => absurd h (by decide), fun h => absurd h h1⟩
theorem own_cl_eq (x y : Int64) : XT.cmpL x y = 0 ↔ x = y := by
  unfold XT.cmpL
  by_cases h1 : y < x
  · rw [if_pos h1]
    exact ⟨fun h => absurd h (by decide), fun h => absurd (h ▸ h1) Int64.lt_irrefl⟩
  · rw [if_neg h1]
    by_cases h2 : x = y
    · rw [if_pos h2]
      exact ⟨fun _ => h2, fun _ => rfl⟩
    · rw [if_neg h2]
      exact ⟨fun h => absurd h (by decide), fun h => absurd h h2⟩
theorem w_lcmp_eq (X : Stand p l e R s m args below meth c T locs cells slots) (hx : p.tables.exec = Jvm.exec) {o : Int} {pcY pc1 : Nat} {x y : Int64} (hd : decode c.code pc = .ok (.lcmp, 1)) (hp1 : pc + 1 = pc1) (hd1 : decode c.code pc1 = .ok (.ifCond .eq o, 3)) (ho : 0 ≤ (pc1 : Int) + o) (hy : ((pc1 : Int) + o).toNat = pcY) (hp : pc1 + 3 = pc') (kY : x = y → Wp p e s below C S Q T (mkF m pcY Ls st)) (kN : ¬ x = y → Wp p e s below C S Q T (mkF m pc' Ls st)) : Wp p e s below C S Q T (mkF m pc Ls (Value.long y :: Value.long x :: st)) :=
  w_lcmp X hx hd hp1 (w_if_eq X hx hd1 ho hy hp (fun q => kY ((own_cl_eq x y).mp q)) (fun q => kN fun r => q ((own_cl_eq x y).mpr r)))
theorem w_lcmp_ne (X : Stand p l e R s m args below meth c T locs cells slots) (hx : p.tables.exec = Jvm.exec) {o : Int} {pcY pc1 : Nat} {x y : Int64} (hd : decode c.code pc = .ok (.lcmp, 1)) (hp1 : pc + 1 = pc1) (hd1 : decode c.code pc1 = .ok (.ifCond .ne o, 3)) (ho : 0 ≤ (pc1 : Int) + o) (hy : ((pc1 : Int) + o).toNat = pcY) (hp : pc1 + 3 = pc') (kY : ¬ x = y → Wp p e s below C S Q T (mkF m pcY Ls st)) (kN : x = y → Wp p e s below C S Q T (mkF m pc' Ls st)) : Wp p e s below C S Q T (mkF m pc Ls (Value.long y :: Value.long x :: st)) :=
  w_lcmp X hx hd hp1 (w_if_ne X hx hd1 ho hy hp (fun q => kY fun r => q ((own_cl_eq x y).mpr r)) (fun q => kN ((own_cl_eq x y).mp q)))
theorem w_lcmp_lt (X : Stand p l e R s m args below meth c T locs cells slots) (hx : p.tables.exec = Jvm.exec) {o : Int} {pcY pc1 : Nat} {x y : Int64} (hd : decode c.code pc = .ok (.lcmp, 1)) (hp1 : pc + 1 = pc1) (hd1 : decode c.code pc1 = .ok (.ifCond .lt o, 3)) (ho : 0 ≤ (pc1 : Int) + o) (hy : ((pc1 : Int) + o).toNat = pcY) (hp : pc1 + 3 = pc') (kY : x < y → Wp p e s below C S Q T (mkF m pcY Ls st)) (kN : ¬ x < y → Wp p e s below C S Q T (mkF m pc' Ls st)) : Wp p e s below C S Q T (mkF m pc Ls (Value.long y :: Value.long x :: st)) :=
  w_lcmp X hx hd hp1 (w_if_lt X hx hd1 ho hy hp (fun q => kY ((own_cl_lt x y).mp q)) (fun q => kN fun r => q ((own_cl_lt x y).mpr r)))
theorem w_lcmp_ge (X : Stand p l e R s m args below meth c T locs cells slots) (hx : p.tables.exec = Jvm.exec) {o : Int} {pcY pc1 : Nat} {x y : Int64} (hd : decode c.code pc = .ok (.lcmp, 1)) (hp1 : pc + 1 = pc1) (hd1 : decode c.code pc1 = .ok (.ifCond .ge o, 3)) (ho : 0 ≤ (pc1 : Int) + o) (hy : ((pc1 : Int) + o).toNat = pcY) (hp : pc1 + 3 = pc') (kY : ¬ x < y → Wp p e s below C S Q T (mkF m pcY Ls st)) (kN : x < y → Wp p e s below C S Q T (mkF m pc' Ls st)) : Wp p e s below C S Q T (mkF m pc Ls (Value.long y :: Value.long x :: st)) :=
  w_lcmp X hx hd hp1 (w_if_ge X hx hd1 ho hy hp (fun q => kY fun r => q ((own_cl_lt x y).mpr r)) (fun q => kN ((own_cl_lt x y).mp q)))
theorem w_lcmp_gt (X : Stand p l e R s m args below meth c T locs cells slots) (hx : p.tables.exec = Jvm.exec) {o : Int} {pcY pc1 : Nat} {x y : Int64} (hd : decode c.code pc = .ok (.lcmp, 1)) (hp1 : pc + 1 = pc1) (hd1 : decode c.code pc1 = .ok (.ifCond .gt o, 3)) (ho : 0 ≤ (pc1 : Int) + o) (hy : ((pc1 : Int) + o).toNat = pcY) (hp : pc1 + 3 = pc') (kY : y < x → Wp p e s below C S Q T (mkF m pcY Ls st)) (kN : ¬ y < x → Wp p e s below C S Q T (mkF m pc' Ls st)) : Wp p e s below C S Q T (mkF m pc Ls (Value.long y :: Value.long x :: st)) :=
  w_lcmp X hx hd hp1 (w_if_gt X hx hd1 ho hy hp (fun q => kY ((own_cl_gt x y).mp q)) (fun q => kN fun r => q ((own_cl_gt x y).mpr r)))
theorem w_lcmp_le (X : Stand p l e R s m args below meth c T locs cells slots) (hx : p.tables.exec = Jvm.exec) {o : Int} {pcY pc1 : Nat} {x y : Int64} (hd : decode c.code pc = .ok (.lcmp, 1)) (hp1 : pc + 1 = pc1) (hd1 : decode c.code pc1 = .ok (.ifCond .le o, 3)) (ho : 0 ≤ (pc1 : Int) + o) (hy : ((pc1 : Int) + o).toNat = pcY) (hp : pc1 + 3 = pc') (kY : ¬ y < x → Wp p e s below C S Q T (mkF m pcY Ls st)) (kN : y < x → Wp p e s below C S Q T (mkF m pc' Ls st)) : Wp p e s below C S Q T (mkF m pc Ls (Value.long y :: Value.long x :: st)) :=
  w_lcmp X hx hd hp1 (w_if_le X hx hd1 ho hy hp (fun q => kY fun r => q ((own_cl_gt x y).mpr r)) (fun q => kN ((own_cl_gt x y).mp q)))
theorem w_eqI {x z : Int32} (h : x = z) (k : Wp p e s below C S Q T (mkF m pc Ls (Value.int z :: st))) : Wp p e s below C S Q T (mkF m pc Ls (Value.int x :: st)) := h ▸ k
theorem w_genI {x : Int32} (k : ∀ z, z = x → Wp p e s below C S Q T (mkF m pc Ls (Value.int z :: st))) : Wp p e s below C S Q T (mkF m pc Ls (Value.int x :: st)) := k x rfl
theorem w_eqJ {x z : Int64} (h : x = z) (k : Wp p e s below C S Q T (mkF m pc Ls (Value.long z :: st))) : Wp p e s below C S Q T (mkF m pc Ls (Value.long x :: st)) := h ▸ k
theorem w_genJ {x : Int64} (k : ∀ z, z = x → Wp p e s below C S Q T (mkF m pc Ls (Value.long z :: st))) : Wp p e s below C S Q T (mkF m pc Ls (Value.long x :: st)) := k x rfl
theorem w_iincE (X : Stand p l e R s m args below meth c T locs cells slots) (hx : p.tables.exec = Jvm.exec) {k : Nat} {cst : Int} {v z : Int32} {l' : Array Slot} (hd : decode c.code pc = .ok (.iinc k cst, 3)) (hl : Ls[k]? = some (.val (.int v))) (hz : v + Int32.ofInt cst = z) (hl' : storeLocals Ls k (.int z) = some l') (hp : pc + 3 = pc') (k : Wp p e s below C S Q T (mkF m pc' l' (st))) : Wp p e s below C S Q T (mkF m pc Ls (st)) := by
  subst hp
  exact Wp.via (fun _ h => XS.iinc X.here hx rfl hd hl (hz ▸ hl') h) k
theorem w_ifnullY (X : Stand p l e R s m args below meth c T locs cells slots) (hx : p.tables.exec = Jvm.exec) {o : Int}  (hd : decode c.code pc = .ok (.ifnull o, 3)) (ho : 0 ≤ (pc : Int) + o) (hp : ((pc : Int) + o).toNat = pc') (k : Wp p e s below C S Q T (mkF m pc' Ls st)) : Wp p e s below C S Q T (mkF m pc Ls (Value.null :: st)) :=
  Wp.via (fun _ h => XS.ifnullYes X.here hx rfl (pc0 := pc) (pc' := pc') rfl hd rfl ho hp h) k
theorem w_ifnonnullY (X : Stand p l e R s m args below meth c T locs cells slots) (hx : p.tables.exec = Jvm.exec) {o : Int} {b : Addr} (hd : decode c.code pc = .ok (.ifnonnull o, 3)) (ho : 0 ≤ (pc : Int) + o) (hp : ((pc : Int) + o).toNat = pc') (k : Wp p e s below C S Q T (mkF m pc' Ls st)) : Wp p e s below C S Q T (mkF m pc Ls (Value.ref b :: st)) :=
  Wp.via (fun _ h => XT.ifnonnullYes X.here hx rfl (pc0 := pc) (pc' := pc') rfl hd rfl ho hp h) k
theorem w_ifnullN (X : Stand p l e R s m args below meth c T locs cells slots) (hx : p.tables.exec = Jvm.exec) {o : Int} {b : Addr} (hd : decode c.code pc = .ok (.ifnull o, 3))  (hp : pc + 3 = pc') (k : Wp p e s below C S Q T (mkF m pc' Ls (st))) : Wp p e s below C S Q T (mkF m pc Ls (Value.ref b :: st)) := by
  subst hp
  exact Wp.via (fun _ h => XS.ifnullNo X.here hx rfl hd rfl h) k
theorem w_ifnonnullN (X : Stand p l e R s m args below meth c T locs cells slots) (hx : p.tables.exec = Jvm.exec) {o : Int} (hd : decode c.code pc = .ok (.ifnonnull o, 3))  (hp : pc + 3 = pc') (k : Wp p e s below C S Q T (mkF m pc' Ls (st))) : Wp p e s below C S Q T (mkF m pc Ls (Value.null :: st)) := by
  subst hp
  exact Wp.via (fun _ h => XT.ifnonnullNo X.here hx rfl hd rfl h) k
theorem own_out {fs : List Frame} {v : Option Value} {g : JFrame} (hs : Steps p.tables e below (T.setTop g) (T.setFrames fs)) (h1 : (T.setFrames fs).status = .running) (h2 : Ended (T.setFrames fs) below (.returned v)) (h3 : s.WarmedH (T.setFrames fs).vm) (h4 : s.sameButNew ({ T.setFrames fs with vm := s.vm } : State) locs cells slots)
    (hc : cells ≤ C) (hl : slots ≤ S) (hq : Q v T.heap locs) : Wp p e s below C S Q T g :=
  ⟨_, _, hs, h1, h2, _, _, rfl, hq, ⟨_, rfl⟩, h3, h4.mono hc hl⟩
theorem w_ret_i (X : Stand p l e R s m args below meth c T locs cells slots) (hx : p.tables.exec = Jvm.exec) {z : Int32} (hret : meth.sig.returnType = some .int) (hlk : meth.locks = false) (hd : decode c.code pc = .ok (.ireturn, 1)) (hc : cells ≤ C) (hl : slots ≤ S) (hq : Q (some (.int z)) T.heap locs) : Wp p e s below C S Q T (mkF m pc Ls (Value.int z :: st)) := by
  obtain ⟨fs, hr, h1, h2, h3, h4⟩ := X.leave (v := some (.int z)) (fun h => by rw [hret] at h; cases h) hlk
  exact own_out (retI X hx hret hd hr) h1 h2 h3 h4 hc hl hq
theorem w_ret_n (X : Stand p l e R s m args below meth c T locs cells slots) (hx : p.tables.exec = Jvm.exec) {z z' : Int32} {t : FieldType} (hret : meth.sig.returnType = some t) (hlk : meth.locks = false) (ht : t = .boolean ∨ t = .byte ∨ t = .char ∨ t = .short) (hd : decode c.code pc = .ok (.ireturn, 1)) (hz : nar t z = z') (hc : cells ≤ C) (hl : slots ≤ S) (hq : Q (some (.int z')) T.heap locs) : Wp p e s below C S Q T (mkF m pc Ls (Value.int z :: st)) := by
  subst hz
  obtain ⟨fs, hr, h1, h2, h3, h4⟩ := X.leave (v := some (.int (nar t z))) (fun h => by rw [hret] at h; cases h) hlk
  exact own_out (retN X hx hret ht hd hr) h1 h2 h3 h4 hc hl hq
theorem w_ret_l (X : Stand p l e R s m args below meth c T locs cells slots) (hx : p.tables.exec = Jvm.exec) {z : Int64} (hret : meth.sig.returnType = some .long) (hlk : meth.locks = false) (hd : decode c.code pc = .ok (.lreturn, 1)) (hc : cells ≤ C) (hl : slots ≤ S) (hq : Q (some (.long z)) T.heap locs) : Wp p e s below C S Q T (mkF m pc Ls [Value.long z]) := by
  obtain ⟨fs, hr, h1, h2, h3, h4⟩ := X.leave (v := some (.long z)) (fun h => by rw [hret] at h; cases h) hlk
  exact own_out (X.lreturnOut hx hret hd hr) h1 h2 h3 h4 hc hl hq
theorem w_ret_a (X : Stand p l e R s m args below meth c T locs cells slots) (hx : p.tables.exec = Jvm.exec) {w : Value} {t : FieldType} (hw : w.isRef = true) (hret : meth.sig.returnType = some t) (ht : t.isReference = true) (hlk : meth.locks = false) (hd : decode c.code pc = .ok (.areturn, 1)) (hc : cells ≤ C) (hl : slots ≤ S) (hq : Q (some w) T.heap locs) : Wp p e s below C S Q T (mkF m pc Ls [w]) := by
  obtain ⟨fs, hr, h1, h2, h3, h4⟩ := X.leave (v := some w) (fun h => by rw [hret] at h; cases h) hlk
  exact own_out (X.areturnOut hx hw hret ht hd hr) h1 h2 h3 h4 hc hl hq
theorem w_ret_v (X : Stand p l e R s m args below meth c T locs cells slots) (hx : p.tables.exec = Jvm.exec) (hret : meth.sig.returnType = none) (hlk : meth.locks = false) (hd : decode c.code pc = .ok (.return_, 1)) (hc : cells ≤ C) (hl : slots ≤ S) (hq : Q none T.heap locs) : Wp p e s below C S Q T (mkF m pc Ls []) := by
  obtain ⟨fs, hr, h1, h2, h3, h4⟩ := X.leave (v := none) (fun h => rfl) hlk
  exact own_out (X.returnOut hx hret hd hr) h1 h2 h3 h4 hc hl hq
theorem own_call (X : Stand p l e R s m args below meth c T locs cells slots) (hx : p.tables.exec = Jvm.exec) {Z : State} {a0 : Array Value} {h : Heap} (hZ : Z.Warmed39 s.vm) (eT : T.heap = h) {own : String} {i : Nat} {y : MethodName} {bytes : ByteArray} {maxL : Nat} {ret : Option FieldType} {rm : Room} {W : Nat} {as' : Array Value} {Qc : Option Value → Heap → List Loc → Prop}
    (hown : s.vm.findClass own = some m.cls) (hml : Ls.size = c.maxLocals) (w1 : (Jvm.Cond.methodLink own i y).before a0 Z = true) (w2 : (Jvm.Cond.static y).before a0 Z = true) (w3 : (Jvm.Cond.initialized y.cls).before a0 Z = true) (w4 : (Jvm.Cond.code y bytes maxL ret).before a0 Z = true)
    (hM : MetFree l y (head1 [Jvm.Cond.code y bytes maxL ret] rm) (fun a U => a = as' ∧ Z.Warmed39 U.vm ∧ U.heap = h) (fun _ _ _ _ _ => True) (fun _ U o U' => ∃ v L, o = .returned v ∧ Qc v U'.heap L ∧ FrameEnd U o U' L rm.cells rm.slots))
    (hy : y.cls ≠ "java/lang/invoke/MethodHandle" ∧ y.cls ≠ "java/lang/invoke/VarHandle") (hf : rm.frames + 1 ≤ R.frames) (hl : W + (maxL + 11) + rm.locals ≤ R.locals) (hc : cells + rm.cells ≤ R.cells) (hsl : slots + rm.slots ≤ R.slots)
    {argsL rest : List Value} {ps : List FieldType} {r : Option FieldType} (hpd : parseMethodDescriptor y.desc = some ⟨ps, r⟩) (hlen : argsL.length = ps.length) (has : argsL.toArray = as') (hst : st = argsL.reverse ++ rest) (hW : (rest.map fun v => v.category).sum ≤ W) (hd : decode c.code pc = .ok (.invokestatic i, 3)) (hp : pc + 3 = pc')
    (k : ∀ (v : Option Value) (T' : State) (L : List Loc), Stand p l e R s m args below meth c T' (locs ++ L) (cells + rm.cells) (slots + rm.slots) → Qc v T'.heap L → Wp p e s below C S Q T' (mkF m pc' Ls (v.toList ++ rest))) : Wp p e s below C S Q T (mkF m pc Ls st) := by
  obtain ⟨v, _, ⟨T1, L1, k1, n1⟩, -, X1, ⟨Lc1, hQ1, l1, y1, z1⟩, st1⟩ := Jvm.LawKit.callS X hx (y := y) hown (mvT hZ w1) (mvT hZ w2) (mvT hZ w3) (mvT hZ w4) hy (backOf (W := W) hM hZ w4 w3 hf hl) (g := mkF m pc Ls st) rfl hml (argsL := argsL) (rest := rest) (lenOf hpd hlen) hst (by show 2 * 0 + _ ≤ _; omega) hd (fun _ _ => ⟨has, eT, hc, hsl⟩)
  dsimp only [Pt.U, Pt.locs, Pt.cells, Pt.slots] at X1 l1 y1 z1 st1 hQ1
  subst l1 y1 z1
  subst hp
  exact Wp.via st1 (k v T1 Lc1 X1 hQ1)
theorem own_cast {g g' : JFrame} (q : g = g') (k : Wp p e s below C S Q T g') : Wp p e s below C S Q T g := q ▸ k
def PureQ (r : Value) (h0 : Heap) (v : Option Value) (h : Heap) (L : List Loc) : Prop := v = some r ∧ L = [] ∧ h = h0
theorem w_callP (X : Stand p l e R s m args below meth c T locs cells slots) (hx : p.tables.exec = Jvm.exec) {Z : State} {a0 : Array Value} {h : Heap} (hZ : Z.Warmed39 s.vm) (eT : T.heap = h) {own : String} {i : Nat} {y : MethodName} {bytes : ByteArray} {maxL : Nat} {ret : Option FieldType} {rm : Room} {W : Nat} {as' : Array Value} {r0 : Value}
    (hown : s.vm.findClass own = some m.cls) (hml : Ls.size = c.maxLocals) (w1 : (Jvm.Cond.methodLink own i y).before a0 Z = true) (w2 : (Jvm.Cond.static y).before a0 Z = true) (w3 : (Jvm.Cond.initialized y.cls).before a0 Z = true) (w4 : (Jvm.Cond.code y bytes maxL ret).before a0 Z = true)
    (hM : MetFree l y (head1 [Jvm.Cond.code y bytes maxL ret] rm) (fun a U => a = as' ∧ Z.Warmed39 U.vm ∧ U.heap = h) (fun _ _ _ _ _ => True) (fun _ U o U' => ∃ v L, o = .returned v ∧ PureQ r0 h v U'.heap L ∧ FrameEnd U o U' L rm.cells rm.slots))
    (hy : y.cls ≠ "java/lang/invoke/MethodHandle" ∧ y.cls ≠ "java/lang/invoke/VarHandle") (hf : rm.frames + 1 ≤ R.frames) (hl : W + (maxL + 11) + rm.locals ≤ R.locals) (hc : rm.cells = 0) (hsl : rm.slots = 0) (hc' : cells ≤ R.cells) (hsl' : slots ≤ R.slots)
    {argsL rest : List Value} {ps : List FieldType} {r : Option FieldType} (hpd : parseMethodDescriptor y.desc = some ⟨ps, r⟩) (hlen : argsL.length = ps.length) (has : argsL.toArray = as') (hst : st = argsL.reverse ++ rest) (hW : (rest.map fun v => v.category).sum ≤ W) (hd : decode c.code pc = .ok (.invokestatic i, 3)) (hp : pc + 3 = pc')
    (k : ∀ (T' : State), Stand p l e R s m args below meth c T' locs cells slots → T'.heap = h → Wp p e s below C S Q T' (mkF m pc' Ls (r0 :: rest))) : Wp p e s below C S Q T (mkF m pc Ls st) := by
  refine own_call X hx hZ eT hown hml w1 w2 w3 w4 hM hy hf hl (by omega) (by omega) hpd hlen has hst hW hd hp ?_
  intro v T' L X' hq
  obtain ⟨rfl, rfl, e1⟩ := hq
  rw [List.append_nil, hc, hsl] at X'
  exact k T' X' e1
def PureQV (h0 : Heap) (v : Option Value) (h : Heap) (L : List Loc) : Prop := v = none ∧ L = [] ∧ h = h0
theorem w_callPV (X : Stand p l e R s m args below meth c T locs cells slots) (hx : p.tables.exec = Jvm.exec) {Z : State} {a0 : Array Value} {h : Heap} (hZ : Z.Warmed39 s.vm) (eT : T.heap = h) {own : String} {i : Nat} {y : MethodName} {bytes : ByteArray} {maxL : Nat} {ret : Option FieldType} {rm : Room} {W : Nat} {as' : Array Value}
    (hown : s.vm.findClass own = some m.cls) (hml : Ls.size = c.maxLocals) (w1 : (Jvm.Cond.methodLink own i y).before a0 Z = true) (w2 : (Jvm.Cond.static y).before a0 Z = true) (w3 : (Jvm.Cond.initialized y.cls).before a0 Z = true) (w4 : (Jvm.Cond.code y bytes maxL ret).before a0 Z = true)
    (hM : MetFree l y (head1 [Jvm.Cond.code y bytes maxL ret] rm) (fun a U => a = as' ∧ Z.Warmed39 U.vm ∧ U.heap = h) (fun _ _ _ _ _ => True) (fun _ U o U' => ∃ v L, o = .returned v ∧ PureQV h v U'.heap L ∧ FrameEnd U o U' L rm.cells rm.slots))
    (hy : y.cls ≠ "java/lang/invoke/MethodHandle" ∧ y.cls ≠ "java/lang/invoke/VarHandle") (hf : rm.frames + 1 ≤ R.frames) (hl : W + (maxL + 11) + rm.locals ≤ R.locals) (hc : rm.cells = 0) (hsl : rm.slots = 0) (hc' : cells ≤ R.cells) (hsl' : slots ≤ R.slots)
    {argsL rest : List Value} {ps : List FieldType} {r : Option FieldType} (hpd : parseMethodDescriptor y.desc = some ⟨ps, r⟩) (hlen : argsL.length = ps.length) (has : argsL.toArray = as') (hst : st = argsL.reverse ++ rest) (hW : (rest.map fun v => v.category).sum ≤ W) (hd : decode c.code pc = .ok (.invokestatic i, 3)) (hp : pc + 3 = pc')
    (k : ∀ (T' : State), Stand p l e R s m args below meth c T' locs cells slots → T'.heap = h → Wp p e s below C S Q T' (mkF m pc' Ls rest)) : Wp p e s below C S Q T (mkF m pc Ls st) := by
  refine own_call X hx hZ eT hown hml w1 w2 w3 w4 hM hy hf hl (by omega) (by omega) hpd hlen has hst hW hd hp ?_
  intro v T' L X' hq
  obtain ⟨rfl, rfl, e1⟩ := hq
  rw [List.append_nil, hc, hsl] at X'
  exact k T' X' e1
theorem own_body {x : MethodName} {code : ByteArray} {maxL : Nat} {ret : Option FieldType} {ws : List Jvm.Cond} {rm : Room} {Z : State} {as : Array Value} {h0 : Heap} (hx : plainFor x = true)
    (body : ∀ (p : Program) (e : Env) (s : State) (m : MethodId) (below : List Frame) (meth : Method) (c : Code) (T : State), p.tables.exec = Jvm.exec → c.code = code → c.maxLocals = maxL → meth.sig.returnType = ret → meth.locks = false → s.vm.findClass x.cls = some m.cls → meth.name = x.name → Z.Warmed39 s.vm → Stand p l e rm s m as below meth c T [] 0 0 → T.heap = h0 → Wp p e s below rm.cells rm.slots Q T (entryFrame m as maxL)) :
    MetFree l x (head1 (Jvm.Cond.code x code maxL ret :: ws) rm) (fun a U => a = as ∧ Z.Warmed39 U.vm ∧ U.heap = h0) (fun _ _ _ _ _ => True) (fun _ U o U' => ∃ v L, o = .returned v ∧ Q v U'.heap L ∧ FrameEnd U o U' L rm.cells rm.slots) := by
  refine MetFree.of_bodySF hx hisR ?_
  intro p e s m args below meth c s₁ Bd hml0 hP hK
  obtain ⟨rfl, hZ, hh⟩ := hP
  exact body p e s m below meth c s₁ Bd.exec Bd.bytes hml0 Bd.returns Bd.notSynchronized (findClass_of_methodNamed Bd.named) (name_of_methodNamed Bd.named Bd.method).1 hZ (Stand.of_body Bd) (by rw [← hh, Bd.state]; rfl)
end OwnW
/-! cells made since the start: explicit -/
def HP (n0 : Nat) (h : Heap) (cs : List Cell) : Prop := h.size = n0 + cs.length ∧ ∀ (i : Nat) (c : Cell), cs[i]? = some c → h[n0 + i]? = some c
def IsA (Z : State) (k : ClassId) (ty : FieldType) : Prop := (∃ kc, Z.vm.classes[k]? = some kc ∧ ∃ comp, kc.kind = .array comp ty) ∧ Z.vm.findClass ("[" ++ ty.toString) = some k
def AC (k : ClassId) (vs : List Value) : Cell := { cls := k, slots := vs.toArray, vm := .none }
def FldC (Z : State) (cell : Cell) (C n d : String) (v : Value) : Prop := ∃ (cf : ClassId) (k : Class) (i : Nat) (f : Field), Z.fieldFound? C n d = some (cf, k, i, f) ∧ f.isStatic = false ∧ cell.vm ≠ .unknown ∧ cell.vm.isStatics = false ∧ Z.vm.assignable cell.cls cf = true ∧ cell.slots[f.slot]? = some v
def ExaC (Z : State) (cell : Cell) (C : String) : Prop := ∃ (k : Class), Z.vm.findClass C = some cell.cls ∧ Z.vm.classes[cell.cls]? = some k ∧ cell.vm.isStatics = false ∧ (k.kind = .ordinary → cell.slots.size = k.instanceTypes.size)
def ObjF (Z : State) (cell : Cell) (C : String) (fl : List (String × String)) (vs : List Value) : Prop := ExaC Z cell C ∧ vs.length = fl.length ∧ ∀ (j : Nat) (n d : String) (v : Value), fl[j]? = some (n, d) → vs[j]? = some v → FldC Z cell C n d v
def Dis (Z : State) (C : String) (fl : List (String × String)) : Prop := ∀ (i j : Nat) (a b : String × String), fl[i]? = some a → fl[j]? = some b → i ≠ j → Jvm.RoadKit.slotOf Z C a.1 a.2 ≠ Jvm.RoadKit.slotOf Z C b.1 b.2
section OwnHP
variable {Z : State} {h h' : Heap} {n0 : Nat} {cs : List Cell} {i sl : Nat} {cell : Cell} {v : Value} {k : ClassId} {vs : List Value} {ty : FieldType} {C : String} {fl : List (String × String)}
theorem HP.nil (h : Heap) : HP h.size h [] := ⟨by simp, fun i c q => by simp at q⟩
theorem HP.push (P : HP n0 h cs) (c : Cell) : HP n0 (h.push c) (cs ++ [c]) := by
  refine ⟨by simp [P.1]; omega, fun i c' q => ?_⟩
  by_cases hi : i < cs.length
  · rw [List.getElem?_append_left hi] at q
    have := P.2 i c' q
    rw [Array.getElem?_push_lt (by rw [P.1]; omega)]
    rw [Array.getElem?_eq_getElem (by rw [P.1]; omega)] at this
    exact this
  · have hl : i < (cs ++ [c]).length := (List.getElem?_eq_some_iff.mp q).1
    have e : i = cs.length := by simp at hl; omega
    subst e
    rw [List.getElem?_append_right (Nat.le_refl _)] at q
    simp at q
    subst q
    rw [← P.1]; simp
theorem HP.wr (P : HP n0 h cs) (W : Wr h h' (n0 + i) sl v) (q : cs[i]? = some cell) : HP n0 h' (cs.set i (cell.setSlot sl v)) := by
  obtain ⟨c0, h1, h2, h3, rfl⟩ := W
  cases h1.symm.trans (P.2 i cell q)
  refine ⟨by simp [P.1], fun j c' r => ?_⟩
  by_cases e : i = j
  · subst e
    have hl : i < cs.length := (List.getElem?_eq_some_iff.mp q).1
    rw [List.getElem?_set_self hl] at r
    cases r
    rw [Array.getElem?_setIfInBounds_self_of_lt (by rw [P.1]; omega)]
  · rw [List.getElem?_set_ne e] at r
    rw [Array.getElem?_setIfInBounds_ne (by omega)]
    exact P.2 j c' r
theorem HP.arr (P : HP n0 h cs) (q : cs[i]? = some (AC k vs)) (a : IsA Z k ty) : Arr Z h (n0 + i) (AC k vs) ty := ⟨P.2 _ _ q, ⟨fun _ => by simp [AC], a.1⟩, by simp [AC]⟩
theorem HP.exaA (P : HP n0 h cs) (q : cs[i]? = some (AC k vs)) (a : IsA Z k ty) {ad : String} (had : "[" ++ ty.toString = ad) : Exa Z h (n0 + i) ad := by
  obtain ⟨⟨kc, h1, comp, h2⟩, h3⟩ := a
  exact ⟨AC k vs, kc, P.2 _ _ q, by rw [← had]; exact h3, h1, rfl, fun z => by rw [h2] at z; cases z⟩
theorem HP.fld (P : HP n0 h cs) (q : cs[i]? = some cell) {n d : String} (F : FldC Z cell C n d v) : Fld Z h (n0 + i) C n d v := by
  obtain ⟨cf, k, j, f, r⟩ := F
  exact ⟨cell, cf, k, j, f, P.2 _ _ q, r⟩
theorem HP.exa (P : HP n0 h cs) (q : cs[i]? = some cell) (F : ExaC Z cell C) : Exa Z h (n0 + i) C := by
  obtain ⟨k, r⟩ := F
  exact ⟨cell, k, P.2 _ _ q, r⟩
theorem AC.set (k : ClassId) (vs : List Value) (j : Nat) (v : Value) : (AC k vs).setSlot j v = AC k (vs.set j v) := by simp [AC, Cell.setSlot]
theorem ExaC.set (F : ExaC Z cell C) (sl : Nat) (v : Value) : ExaC Z (cell.setSlot sl v) C := by
  obtain ⟨k, h1, h2, h3, h4⟩ := F
  exact ⟨k, h1, h2, h3, fun q => by rw [← h4 q]; simp [Cell.setSlot]⟩
theorem ObjF.set (F : ObjF Z cell C fl vs) (D : Dis Z C fl) {j : Nat} {n d : String} (hj : fl[j]? = some (n, d)) (v : Value) : ObjF Z (cell.setSlot (Jvm.RoadKit.slotOf Z C n d) v) C fl (vs.set j v) := by
  obtain ⟨E, hl, F⟩ := F
  refine ⟨E.set _ _, by simp [hl], fun i n' d' v' h1 h2 => ?_⟩
  have hjl : j < fl.length := (List.getElem?_eq_some_iff.mp hj).1
  by_cases e : j = i
  · subst e
    cases hj.symm.trans h1
    rw [List.getElem?_set_self (by omega)] at h2
    cases h2
    obtain ⟨cf, k, x, f, g1, g2, g3, g4, g5, g6⟩ := F j n d _ hj (List.getElem?_eq_getElem (by omega))
    have es : Jvm.RoadKit.slotOf Z C n d = f.slot := by simp [Jvm.RoadKit.slotOf, g1]
    refine ⟨cf, k, x, f, g1, g2, g3, g4, g5, ?_⟩
    rw [es]
    have := (Array.getElem?_eq_some_iff.mp g6).1
    simp [Cell.setSlot, this]
  · rw [List.getElem?_set_ne e] at h2
    obtain ⟨cf, k, x, f, g1, g2, g3, g4, g5, g6⟩ := F i n' d' v' h1 h2
    have es : Jvm.RoadKit.slotOf Z C n' d' = f.slot := by simp [Jvm.RoadKit.slotOf, g1]
    have ne := D j i _ _ hj h1 e
    refine ⟨cf, k, x, f, g1, g2, g3, g4, g5, ?_⟩
    show ((cell.slots.setIfInBounds _ _)[_]?) = _
    rw [Array.getElem?_setIfInBounds_ne (by rw [← es]; exact ne)]
    exact g6
theorem own_dis {a0 : Array Value} (hL : ∀ (j : Nat) (n d : String), fl[j]? = some (n, d) → Laid Z a0 C C n d ∧ ∃ t, parseFieldDescriptor d = some t) (hN : (fl.map Prod.fst).Nodup) : Dis Z C fl := by
  intro i j a b h1 h2 hne
  obtain ⟨L1, t1, p1⟩ := hL i a.1 a.2 h1
  obtain ⟨L2, t2, p2⟩ := hL j b.1 b.2 h2
  refine slot_ne L1 L2 (fun q => hne ?_) p1 p2
  have i1 := (List.getElem?_eq_some_iff.mp h1).1
  have i2 := (List.getElem?_eq_some_iff.mp h2).1
  have e1 : (fl.map Prod.fst)[i]? = some a.1 := by simp [h1]
  have e2 : (fl.map Prod.fst)[j]? = some b.1 := by simp [h2]
  exact (List.getElem?_inj (by simpa using i1) hN).mp (by rw [e1, e2, q])
theorem own_one {n0 : Nat} {L : List Loc} (N : Fr n0 L) (i sl : Nat) : Fr n0 (L ++ [⟨n0 + i, sl⟩]) := N.app fun y hy => by cases List.mem_singleton.mp hy; exact Nat.le_add_right _ _
theorem own_idx {j : Int32} {jn N : Nat} (hj : j.toInt = (jn : Int)) (hn : jn < N) : j.toNatClampNeg = jn ∧ ¬ (j < 0 ∨ N ≤ j.toNatClampNeg) := by
  have e : j.toNatClampNeg = jn := by simp [Int32.toNatClampNeg, hj]
  refine ⟨e, ?_⟩
  rw [e, Int32.lt_iff_toInt_lt, hj]
  simp
  omega
end OwnHP
theorem own_get {α : Type} {f : α → Value} {l : List α} {j : Nat} {d : α} (h : j < l.length) : (List.map f l)[j]? = some (f (l.getD j d)) := by
  simp [List.getD_eq_getElem?_getD, h]
theorem own_sl {α : Type} {l : List α} {i N : Nat} {x : α} (h : l.length = N) : (l.set i x).length = N := by simp [h]
theorem own_llt {α : Type} {l : List α} {j N : Nat} (h : l.length = N) (q : j < N) : j < l.length := by omega
theorem own_oN {n : Nat} (h : n < 2147483648) : (Int32.ofNat n).toInt = (n : Int) := Int32.toInt_ofNat_of_lt h
theorem own_oadd (a b : Nat) : Int32.ofNat a + Int32.ofNat b = Int32.ofNat (a + b) := (Int32.ofNat_add a b).symm
theorem own_osub {a b : Nat} (h : b ≤ a) : Int32.ofNat a - Int32.ofNat b = Int32.ofNat (a - b) := by
  have := own_oadd (a - b) b
  rw [Nat.sub_add_cancel h] at this
  rw [← this, Int32.add_sub_cancel]
theorem own_omul (a b : Nat) : Int32.ofNat a * Int32.ofNat b = Int32.ofNat (a * b) := (Int32.ofNat_mul a b).symm
theorem own_olt {a b : Nat} (ha : a < 2147483648) (hb : b < 2147483648) : Int32.ofNat a < Int32.ofNat b ↔ a < b := by
  rw [Int32.lt_iff_toInt_lt, own_oN ha, own_oN hb]; omega
theorem own_oeq {a b : Nat} (ha : a < 2147483648) (hb : b < 2147483648) : Int32.ofNat a = Int32.ofNat b ↔ a = b := by
  rw [← Int32.toInt_inj, own_oN ha, own_oN hb]; omega
theorem own_len {α : Type} {f : α → Value} {l : List α} {N : Nat} (h : l.length = N) : (List.map f l).length.toInt32 = Int32.ofNat N := by
  rw [List.length_map, h]
section OwnH
variable {p : Program} {l : Launch} {e : Env} {R : Room} {s : State} {m : MethodId} {args : Array Value} {below : List Frame} {meth : Method} {c : Code} {T : State} {locs : List Loc} {cells slots : Nat} {C S : Nat} {Q : Option Value → Heap → List Loc → Prop} {pc pc' : Nat} {Ls : Array Slot} {st : List Value}
  {Z : State} {a0 : Array Value} {n0 : Nat} {cs : List Cell}
theorem w_newarr (X : Stand p l e R s m args below meth c T locs cells slots) (hx : p.tables.exec = Jvm.exec) (hZ : Z.Warmed39 s.vm) (P : HP n0 T.heap cs) {aty : ArrayType} {ty : FieldType} (hty : newarray.typeOf aty = ty) (w : (Jvm.Cond.arrayClass ty).before a0 Z = true) (hd : decode c.code pc = .ok (.newarray aty, 2))
    {n : Int32} {N j : Nat} (hn : n.toInt = (N : Int)) (hN : N ≤ 1000) (hc : cells + 1 ≤ R.cells) (hl : slots + N ≤ R.slots) (hj : cs.length = j) (hp : pc + 2 = pc')
    (k : ∀ (T' : State) (kA : ClassId), Stand p l e R s m args below meth c T' locs (cells + 1) (slots + N) → IsA Z kA ty → HP n0 T'.heap (cs ++ [AC kA (List.replicate N (defaultValue ty))]) → Wp p e s below C S Q T' (mkF m pc' Ls (.ref (n0 + j) :: st))) :
    Wp p e s below C S Q T (mkF m pc Ls (.int n :: st)) := by
  subst hp hty hj
  have en : n.toNatClampNeg = N := by simp [Int32.toNatClampNeg, hn]
  have hcb : componentBytes (newarray.typeOf aty) ≤ 8 := by cases aty <;> decide
  obtain ⟨cA, kA, comp, h1, h2, h3, X', st1⟩ := X.newarrayPrim hx (mvA hZ w) (g := mkF m pc Ls (.int n :: st)) rfl hd rfl (by rw [Int32.lt_iff_toInt_lt, hn]; simp) (by rw [en]; exact Nat.le_trans (Nat.mul_le_mul hN hcb) (by decide)) hc (by rw [en]; exact hl)
  rw [en] at X' st1
  rw [hZ.alike.findClass] at h1
  obtain ⟨kZ, z1, -⟩ := Vm.findClass_spec h1
  obtain ⟨k', z2, z3⟩ := hZ.alike.2.2 _ _ z1
  cases h2.symm.trans z2
  rw [P.1] at st1
  have ec : ({ cls := cA, slots := Array.replicate N (defaultValue (newarray.typeOf aty)), vm := .none } : Cell) = AC cA (List.replicate N (defaultValue (newarray.typeOf aty))) := by simp [AC]
  rw [ec] at X' st1
  exact Wp.via st1 (k _ cA X' ⟨⟨kZ, z1, comp, by rw [← h3, z3]⟩, h1⟩ (P.push _))
theorem w_newarrC (X : Stand p l e R s m args below meth c T locs cells slots) (hx : p.tables.exec = Jvm.exec) (hZ : Z.Warmed39 s.vm) (P : HP n0 T.heap cs) {aty : ArrayType} {ty : FieldType} (hty : newarray.typeOf aty = ty) (w : (Jvm.Cond.arrayClass ty).before a0 Z = true) (hd : decode c.code pc = .ok (.newarray aty, 2))
    {n : Int32} {N j cap : Nat} (hcap : N ≤ cap) (hn : n.toInt = (N : Int)) (hN : N ≤ 1000) (hc : cells + 1 ≤ R.cells) (hl : slots + cap ≤ R.slots) (hj : cs.length = j) (hp : pc + 2 = pc')
    (k : ∀ (T' : State) (kA : ClassId), Stand p l e R s m args below meth c T' locs (cells + 1) (slots + cap) → IsA Z kA ty → HP n0 T'.heap (cs ++ [AC kA (List.replicate N (defaultValue ty))]) → Wp p e s below C S Q T' (mkF m pc' Ls (.ref (n0 + j) :: st))) :
    Wp p e s below C S Q T (mkF m pc Ls (.int n :: st)) := by
  subst hp hty hj
  have en : n.toNatClampNeg = N := by simp [Int32.toNatClampNeg, hn]
  have hcb : componentBytes (newarray.typeOf aty) ≤ 8 := by cases aty <;> decide
  obtain ⟨cA, kA, comp, h1, h2, h3, X', st1⟩ := X.newarrayPrim hx (mvA hZ w) (g := mkF m pc Ls (.int n :: st)) rfl hd rfl (by rw [Int32.lt_iff_toInt_lt, hn]; simp) (by rw [en]; exact Nat.le_trans (Nat.mul_le_mul hN hcb) (by decide)) hc (by rw [en]; omega)
  rw [en] at X' st1
  rw [hZ.alike.findClass] at h1
  obtain ⟨kZ, z1, -⟩ := Vm.findClass_spec h1
  obtain ⟨k', z2, z3⟩ := hZ.alike.2.2 _ _ z1
  cases h2.symm.trans z2
  rw [P.1] at st1
  have ec : ({ cls := cA, slots := Array.replicate N (defaultValue (newarray.typeOf aty)), vm := .none } : Cell) = AC cA (List.replicate N (defaultValue (newarray.typeOf aty))) := by simp [AC]
  rw [ec] at X' st1
  exact Wp.via st1 (k _ cA (X'.more (Nat.le_refl _) (by omega)) ⟨⟨kZ, z1, comp, by rw [← h3, z3]⟩, h1⟩ (P.push _))
theorem own_mr {n0 : Nat} {h : Heap} {cs : List Cell} {k : ClassId} {N : Nat} (P : HP n0 h (cs ++ [AC k (List.replicate N (Value.int 0))])) : HP n0 h (cs ++ [AC k (List.map Value.int (List.replicate N 0))]) := by rw [List.map_replicate]; exact P
theorem w_arrlen (X : Stand p l e R s m args below meth c T locs cells slots) (hx : p.tables.exec = Jvm.exec) (hZ : Z.Warmed39 s.vm) (P : HP n0 T.heap cs) {i : Nat} {kA : ClassId} {vs : List Value} {ty : FieldType} (q : cs[i]? = some (AC kA vs)) (hk : IsA Z kA ty) (hd : decode c.code pc = .ok (.arraylength, 1)) {z : Int32} (hz : vs.length.toInt32 = z) (hp : pc + 1 = pc')
    (k : Wp p e s below C S Q T (mkF m pc' Ls (.int z :: st))) : Wp p e s below C S Q T (mkF m pc Ls (.ref (n0 + i) :: st)) := by
  subst hp hz
  have A := P.arr q hk
  refine Wp.via (fun t ht => X.arraylength hx (cell := AC kA vs) A.1 (State.isArrayOf_alike hZ.alike A.2.1) (g := mkF m pc Ls (.ref (n0 + i) :: st)) rfl (rest := st) rfl hd _ ?_) k
  simpa [AC] using ht
theorem w_iaload (X : Stand p l e R s m args below meth c T locs cells slots) (hx : p.tables.exec = Jvm.exec) (hZ : Z.Warmed39 s.vm) (P : HP n0 T.heap cs) {i : Nat} {kA : ClassId} {vs : List Value} (q : cs[i]? = some (AC kA vs)) (hk : IsA Z kA .int) (hd : decode c.code pc = .ok (.iaload, 1)) {j : Int32} {jn : Nat} (hj : j.toInt = (jn : Int)) {v : Value} (hv : vs[jn]? = some v) (hp : pc + 1 = pc')
    (k : Wp p e s below C S Q T (mkF m pc' Ls (v :: st))) : Wp p e s below C S Q T (mkF m pc Ls (.int j :: .ref (n0 + i) :: st)) := by
  subst hp
  have A := P.arr q hk
  have hl : jn < (AC kA vs).slots.size := by simp [AC]; exact (List.getElem?_eq_some_iff.mp hv).1
  obtain ⟨e1, e2⟩ := own_idx hj hl
  exact Wp.via (fun t ht => X.iaload hx (j := j) (v := v) A.1 (State.isArrayOf_alike hZ.alike A.2.1) A.2.2 e2 (by rw [e1]; simpa [AC] using hv) (g := mkF m pc Ls (.int j :: .ref (n0 + i) :: st)) rfl rfl hd _ ht) k
theorem w_laload (X : Stand p l e R s m args below meth c T locs cells slots) (hx : p.tables.exec = Jvm.exec) (hZ : Z.Warmed39 s.vm) (P : HP n0 T.heap cs) {i : Nat} {kA : ClassId} {vs : List Value} (q : cs[i]? = some (AC kA vs)) (hk : IsA Z kA .long) (hd : decode c.code pc = .ok (.laload, 1)) {j : Int32} {jn : Nat} (hj : j.toInt = (jn : Int)) {v : Value} (hv : vs[jn]? = some v) (hp : pc + 1 = pc')
    (k : Wp p e s below C S Q T (mkF m pc' Ls (v :: st))) : Wp p e s below C S Q T (mkF m pc Ls (.int j :: .ref (n0 + i) :: st)) := by
  subst hp
  have A := P.arr q hk
  have hl : jn < (AC kA vs).slots.size := by simp [AC]; exact (List.getElem?_eq_some_iff.mp hv).1
  obtain ⟨e1, e2⟩ := own_idx hj hl
  exact Wp.via (fun t ht => X.laload hx (j := j) (v := v) A.1 (State.isArrayOf_alike hZ.alike A.2.1) A.2.2 e2 (by rw [e1]; simpa [AC] using hv) (g := mkF m pc Ls (.int j :: .ref (n0 + i) :: st)) rfl rfl hd _ ht) k
theorem w_baload (X : Stand p l e R s m args below meth c T locs cells slots) (hx : p.tables.exec = Jvm.exec) (hZ : Z.Warmed39 s.vm) (P : HP n0 T.heap cs) {i : Nat} {kA : ClassId} {vs : List Value} (q : cs[i]? = some (AC kA vs)) (hk : IsA Z kA .byte) (hd : decode c.code pc = .ok (.baload, 1)) {j : Int32} {jn : Nat} (hj : j.toInt = (jn : Int)) {v : Value} (hv : vs[jn]? = some v) (hp : pc + 1 = pc')
    (k : Wp p e s below C S Q T (mkF m pc' Ls (v :: st))) : Wp p e s below C S Q T (mkF m pc Ls (.int j :: .ref (n0 + i) :: st)) := by
  subst hp
  have A := P.arr q hk
  have hl : jn < (AC kA vs).slots.size := by simp [AC]; exact (List.getElem?_eq_some_iff.mp hv).1
  obtain ⟨e1, e2⟩ := own_idx hj hl
  exact Wp.via (fun t ht => X.baloadBytes hx (j := j) (v := v) A.1 (State.isArrayOf_alike hZ.alike A.2.1) A.2.2 e2 (by rw [e1]; simpa [AC] using hv) (g := mkF m pc Ls (.int j :: .ref (n0 + i) :: st)) rfl rfl hd _ ht) k
theorem w_caload (X : Stand p l e R s m args below meth c T locs cells slots) (hx : p.tables.exec = Jvm.exec) (hZ : Z.Warmed39 s.vm) (P : HP n0 T.heap cs) {i : Nat} {kA : ClassId} {vs : List Value} (q : cs[i]? = some (AC kA vs)) (hk : IsA Z kA .char) (hd : decode c.code pc = .ok (.caload, 1)) {j : Int32} {jn : Nat} (hj : j.toInt = (jn : Int)) {v : Value} (hv : vs[jn]? = some v) (hp : pc + 1 = pc')
    (k : Wp p e s below C S Q T (mkF m pc' Ls (v :: st))) : Wp p e s below C S Q T (mkF m pc Ls (.int j :: .ref (n0 + i) :: st)) := by
  subst hp
  have A := P.arr q hk
  have hl : jn < (AC kA vs).slots.size := by simp [AC]; exact (List.getElem?_eq_some_iff.mp hv).1
  obtain ⟨e1, e2⟩ := own_idx hj hl
  exact Wp.via (fun t ht => X.caload hx (j := j) (v := v) A.1 (State.isArrayOf_alike hZ.alike A.2.1) A.2.2 e2 (by rw [e1]; simpa [AC] using hv) (g := mkF m pc Ls (.int j :: .ref (n0 + i) :: st)) rfl rfl hd _ ht) k
theorem w_iastore (X : Stand p l e R s m args below meth c T locs cells slots) (hx : p.tables.exec = Jvm.exec) (hZ : Z.Warmed39 s.vm) (N : Fr n0 locs) (P : HP n0 T.heap cs) {i : Nat} {kA : ClassId} {vs : List Value} (q : cs[i]? = some (AC kA vs)) (hk : IsA Z kA .int) (hd : decode c.code pc = .ok (.iastore, 1)) {j : Int32} {x : Int32} {jn : Nat} (hj : j.toInt = (jn : Int)) (hl : jn < vs.length) (hp : pc + 1 = pc')
    (k : ∀ (T' : State) (L' : List Loc), Fr n0 L' → Stand p l e R s m args below meth c T' L' cells slots → HP n0 T'.heap (cs.set i (AC kA (vs.set jn (.int x)))) → Wp p e s below C S Q T' (mkF m pc' Ls st)) : Wp p e s below C S Q T (mkF m pc Ls (.int x :: .int j :: .ref (n0 + i) :: st)) := by
  subst hp
  have A := P.arr q hk
  obtain ⟨e1, e2⟩ := own_idx hj (N := (AC kA vs).slots.size) (by simpa [AC] using hl)
  obtain ⟨T', h', X', eh, W, st1⟩ := stI X hx hZ rfl A e2 (g := mkF m pc Ls (.int x :: .int j :: .ref (n0 + i) :: st)) rfl rfl hd
  rw [e1] at X' W
  subst eh
  have P' := P.wr W q
  rw [AC.set] at P'
  exact Wp.via st1 (k T' _ (own_one N _ _) X' P')
theorem w_lastore (X : Stand p l e R s m args below meth c T locs cells slots) (hx : p.tables.exec = Jvm.exec) (hZ : Z.Warmed39 s.vm) (N : Fr n0 locs) (P : HP n0 T.heap cs) {i : Nat} {kA : ClassId} {vs : List Value} (q : cs[i]? = some (AC kA vs)) (hk : IsA Z kA .long) (hd : decode c.code pc = .ok (.lastore, 1)) {j : Int32} {x : Int64} {jn : Nat} (hj : j.toInt = (jn : Int)) (hl : jn < vs.length) (hp : pc + 1 = pc')
    (k : ∀ (T' : State) (L' : List Loc), Fr n0 L' → Stand p l e R s m args below meth c T' L' cells slots → HP n0 T'.heap (cs.set i (AC kA (vs.set jn (.long x)))) → Wp p e s below C S Q T' (mkF m pc' Ls st)) : Wp p e s below C S Q T (mkF m pc Ls (.long x :: .int j :: .ref (n0 + i) :: st)) := by
  subst hp
  have A := P.arr q hk
  obtain ⟨e1, e2⟩ := own_idx hj (N := (AC kA vs).slots.size) (by simpa [AC] using hl)
  obtain ⟨T', h', X', eh, W, st1⟩ := stJ X hx hZ rfl A e2 (g := mkF m pc Ls (.long x :: .int j :: .ref (n0 + i) :: st)) rfl rfl hd
  rw [e1] at X' W
  subst eh
  have P' := P.wr W q
  rw [AC.set] at P'
  exact Wp.via st1 (k T' _ (own_one N _ _) X' P')
theorem w_bastore (X : Stand p l e R s m args below meth c T locs cells slots) (hx : p.tables.exec = Jvm.exec) (hZ : Z.Warmed39 s.vm) (N : Fr n0 locs) (P : HP n0 T.heap cs) {i : Nat} {kA : ClassId} {vs : List Value} (q : cs[i]? = some (AC kA vs)) (hk : IsA Z kA .byte) (hd : decode c.code pc = .ok (.bastore, 1)) {j : Int32} {x : Int32} {jn : Nat} (hj : j.toInt = (jn : Int)) (hl : jn < vs.length) (hp : pc + 1 = pc')
    (k : ∀ (T' : State) (L' : List Loc), Fr n0 L' → Stand p l e R s m args below meth c T' L' cells slots → HP n0 T'.heap (cs.set i (AC kA (vs.set jn (.int (nar .byte x))))) → Wp p e s below C S Q T' (mkF m pc' Ls st)) : Wp p e s below C S Q T (mkF m pc Ls (.int x :: .int j :: .ref (n0 + i) :: st)) := by
  subst hp
  have A := P.arr q hk
  obtain ⟨e1, e2⟩ := own_idx hj (N := (AC kA vs).slots.size) (by simpa [AC] using hl)
  obtain ⟨T', h', X', eh, W, st1⟩ := stB X hx hZ rfl A e2 (g := mkF m pc Ls (.int x :: .int j :: .ref (n0 + i) :: st)) rfl rfl hd
  rw [e1] at X' W
  subst eh
  have P' := P.wr W q
  rw [AC.set] at P'
  exact Wp.via st1 (k T' _ (own_one N _ _) X' P')
theorem w_bastoreE (X : Stand p l e R s m args below meth c T locs cells slots) (hx : p.tables.exec = Jvm.exec) (hZ : Z.Warmed39 s.vm) (N : Fr n0 locs) (P : HP n0 T.heap cs) {i : Nat} {kA : ClassId} {vs : List Value} (q : cs[i]? = some (AC kA vs)) (hk : IsA Z kA .byte) (hd : decode c.code pc = .ok (.bastore, 1)) {j : Int32} {x z : Int32} {jn : Nat} (hz : nar .byte x = z) (hj : j.toInt = (jn : Int)) (hl : jn < vs.length) (hp : pc + 1 = pc')
    (k : ∀ (T' : State) (L' : List Loc), Fr n0 L' → Stand p l e R s m args below meth c T' L' cells slots → HP n0 T'.heap (cs.set i (AC kA (vs.set jn (.int z)))) → Wp p e s below C S Q T' (mkF m pc' Ls st)) : Wp p e s below C S Q T (mkF m pc Ls (.int x :: .int j :: .ref (n0 + i) :: st)) := by
  subst hp hz
  have A := P.arr q hk
  obtain ⟨e1, e2⟩ := own_idx hj (N := (AC kA vs).slots.size) (by simpa [AC] using hl)
  obtain ⟨T', h', X', eh, W, st1⟩ := stB X hx hZ rfl A e2 (g := mkF m pc Ls (.int x :: .int j :: .ref (n0 + i) :: st)) rfl rfl hd
  rw [e1] at X' W
  subst eh
  have P' := P.wr W q
  rw [AC.set] at P'
  exact Wp.via st1 (k T' _ (own_one N _ _) X' P')
theorem w_getf (X : Stand p l e R s m args below meth c T locs cells slots) (hx : p.tables.exec = Jvm.exec) (hZ : Z.Warmed39 s.vm) {own O n d : String} {idx : Nat} (hown : s.vm.findClass own = some m.cls) (w : (Jvm.Cond.fieldLink own idx O n d).before a0 Z = true) (P : HP n0 T.heap cs) {i : Nat} {cell : Cell} (q : cs[i]? = some cell) {fl : List (String × String)} {vs : List Value} (F : ObjF Z cell O fl vs) (j : Nat) (hf : fl[j]? = some (n, d)) {v : Value} (hv : vs[j]? = some v) (hd : decode c.code pc = .ok (.getfield idx, 3)) (hp : pc + 3 = pc')
    (k : ∀ (T' : State), Stand p l e R s m args below meth c T' locs cells slots → HP n0 T'.heap cs → Wp p e s below C S Q T' (mkF m pc' Ls (v :: st))) : Wp p e s below C S Q T (mkF m pc Ls (.ref (n0 + i) :: st)) := by
  subst hp
  obtain ⟨T', X', eh, st1⟩ := getF X hx hZ hown (host := "") (Or.inl w) Via.refl rfl (P.fld q (F.2.2 j n d v hf hv)) (g := mkF m pc Ls (.ref (n0 + i) :: st)) rfl rfl hd
  exact Wp.via st1 (k T' X' (by rw [eh]; exact P))
theorem w_putf (X : Stand p l e R s m args below meth c T locs cells slots) (hx : p.tables.exec = Jvm.exec) (hZ : Z.Warmed39 s.vm) {own O n d : String} {idx kk : Nat} {ty : FieldType} (hown : s.vm.findClass own = some m.cls) (w : (Jvm.Cond.fieldLink own idx O n d).before a0 Z = true) (N : Fr n0 locs) (P : HP n0 T.heap cs) {i : Nat} {cell : Cell} (q : cs[i]? = some cell) {fl : List (String × String)} {vs : List Value} (F : ObjF Z cell O fl vs) (D : Dis Z O fl) (j : Nat) (hf : fl[j]? = some (n, d))
    (L : (Jvm.Cond.lays O O n d).before a0 Z = true ∨ ((Jvm.Cond.laysFinal O O n d).before a0 Z = true ∧ own = O ∧ meth.name = "<init>")) (wi : (Jvm.Cond.instantiable O kk).before a0 Z = true) (hty : parseFieldDescriptor d = some ty) {v : Value} (hn : narrow ty v = v) (hfit : fits ty v = true) (hd : decode c.code pc = .ok (.putfield idx, 3)) (hp : pc + 3 = pc')
    (k : ∀ (T' : State) (L' : List Loc) (cell' : Cell), Fr n0 L' → Stand p l e R s m args below meth c T' L' cells slots → HP n0 T'.heap (cs.set i cell') → ObjF Z cell' O fl (vs.set j v) → Wp p e s below C S Q T' (mkF m pc' Ls st)) : Wp p e s below C S Q T (mkF m pc Ls (v :: .ref (n0 + i) :: st)) := by
  subst hp
  have hjl : j < vs.length := by rw [F.2.1]; exact (List.getElem?_eq_some_iff.mp hf).1
  obtain ⟨T', h', X', eh, W, st1⟩ := putF X hx hZ hown (host := "") (Or.inl w) Via.refl rfl (P.fld q (F.2.2 j n d _ hf (List.getElem?_eq_getElem hjl))) (P.exa q F.1) L wi hty hn hfit (g := mkF m pc Ls (v :: .ref (n0 + i) :: st)) rfl rfl hd
  subst eh
  exact Wp.via st1 (k T' _ _ (own_one N _ _) X' (P.wr W q) (F.set D hf v))
theorem w_new (X : Stand p l e R s m args below meth c T locs cells slots) (hx : p.tables.exec = Jvm.exec) (hZ : Z.Warmed39 s.vm) {own K : String} {idx n j : Nat} (hown : s.vm.findClass own = some m.cls) (w : (Jvm.Cond.classLink own idx K).before a0 Z = true) (wi : (Jvm.Cond.instantiable K n).before a0 Z = true) (wz : (Jvm.Cond.initialized K).before a0 Z = true) (P : HP n0 T.heap cs)
    (fl : List (String × String)) (vs : List Value) (hfl : vs.length = fl.length) (hlay : ∀ (j : Nat) (n d : String) (v : Value), fl[j]? = some (n, d) → vs[j]? = some v → Laid Z a0 K K n d ∧ ∃ ty, parseFieldDescriptor d = some ty ∧ defaultValue ty = v) (hd : decode c.code pc = .ok (.new idx, 3)) (hc : cells + 1 ≤ R.cells) (hl : slots + n ≤ R.slots) (hj : cs.length = j) (hp : pc + 3 = pc')
    (k : ∀ (T' : State) (cell' : Cell), Stand p l e R s m args below meth c T' locs (cells + 1) (slots + n) → HP n0 T'.heap (cs ++ [cell']) → ObjF Z cell' K fl vs → Wp p e s below C S Q T' (mkF m pc' Ls (.ref (n0 + j) :: st))) : Wp p e s below C S Q T (mkF m pc Ls st) := by
  subst hp hj
  obtain ⟨vm', cC, kC, h1, h2, h3, h4, X', st1⟩ := X.newCold hx hown (mv hZ w) (mv hZ wi) (mv hZ wz) (g := mkF m pc Ls st) rfl hd hc hl
  rw [hZ.alike.findClass] at h1
  obtain ⟨kZ, z1, -⟩ := Vm.findClass_spec h1
  obtain ⟨k', z2, z3⟩ := hZ.alike.2.2 _ _ z1
  cases h2.symm.trans z2
  have ei : kC.instanceTypes = kZ.instanceTypes := by rw [z3]
  rw [P.1] at st1
  refine Wp.via st1 (k _ _ X' (P.push _) ⟨⟨kZ, h1, z1, rfl, fun _ => by simp [ei]⟩, hfl, fun j n d v a b => ?_⟩)
  obtain ⟨L, ty, ht, hv⟩ := hlay j n d v a b
  obtain ⟨c1, k1, cf, kf, i, f, a1, a2, a3, a4, a5, a6, -⟩ := L.spec
  cases h1.symm.trans a1
  cases z1.symm.trans a2
  exact ⟨cf, kf, i, f, a3, a4, by simp, rfl, a5, by simp [ei, a6, (State.fieldFound?_type a3 ht).2, hv]⟩
theorem w_initO (X : Stand p l e R s m args below meth c T locs cells slots) (hx : p.tables.exec = Jvm.exec) (hZ : Z.Warmed39 s.vm) {own : String} {idx : Nat} (hown : s.vm.findClass own = some m.cls) (hml : Ls.size = c.maxLocals) (w1 : (Jvm.Cond.methodLink own idx Lib.objectInit).before a0 Z = true) (w2 : (Jvm.Cond.instanceMethod Lib.objectInit).before a0 Z = true)
    (w3 : (Jvm.Cond.code Lib.objectInit ⟨#[0xb1]⟩ 1 none).before a0 Z = true) (P : HP n0 T.heap cs) {a : Addr} (hd : decode c.code pc = .ok (.invokespecial idx, 3)) (hf : 1 ≤ R.frames) {W : Nat} (hW : (st.map fun v => v.category).sum ≤ W) (hl : W + 12 ≤ R.locals) (hp : pc + 3 = pc')
    (k : ∀ (T' : State), Stand p l e R s m args below meth c T' locs cells slots → HP n0 T'.heap cs → Wp p e s below C S Q T' (mkF m pc' Ls st)) : Wp p e s below C S Q T (mkF m pc Ls (.ref a :: st)) := by
  subst hp
  obtain ⟨T', X', eh, st1⟩ := initO X hx hZ hown w1 w2 w3 rfl (g := mkF m pc Ls (.ref a :: st)) rfl hml (rest := st) rfl hd hf (W := W) (by show 2 * 0 + _ ≤ _; omega) hl
  exact Wp.via st1 (k T' X' (by rw [eh]; exact P))
theorem own_callI (X : Stand p l e R s m args below meth c T locs cells slots) (hx : p.tables.exec = Jvm.exec) {h : Heap} (hZ : Z.Warmed39 s.vm) (eT : T.heap = h) {own : String} {i : Nat} {y : MethodName} {bytes : ByteArray} {maxL : Nat} {rm : Room} {W : Nat} {as' : Array Value} {Qc : Option Value → Heap → List Loc → Prop} (hy1 : y.name = "<init>")
    (hown : s.vm.findClass own = some m.cls) (hml : Ls.size = c.maxLocals) (w1 : (Jvm.Cond.methodLink own i y).before a0 Z = true) (w2 : (Jvm.Cond.instanceMethod y).before a0 Z = true) (w3 : (Jvm.Cond.initialized y.cls).before a0 Z = true) (w4 : (Jvm.Cond.code y bytes maxL none).before a0 Z = true)
    (hM : MetFree l y (head1 [Jvm.Cond.code y bytes maxL none] rm) (fun a U => a = as' ∧ Z.Warmed39 U.vm ∧ U.heap = h) (fun _ _ _ _ _ => True) (fun _ U o U' => ∃ v L, o = .returned v ∧ Qc v U'.heap L ∧ FrameEnd U o U' L rm.cells rm.slots))
    (hy : y.cls ≠ "java/lang/invoke/MethodHandle" ∧ y.cls ≠ "java/lang/invoke/VarHandle") (hf : rm.frames + 1 ≤ R.frames) (hl : W + (maxL + 11) + rm.locals ≤ R.locals) (hc : cells + rm.cells ≤ R.cells) (hsl : slots + rm.slots ≤ R.slots)
    {a : Addr} {argsL rest : List Value} {ps : List FieldType} {r : Option FieldType} (hpd : parseMethodDescriptor y.desc = some ⟨ps, r⟩) (hlen : argsL.length = ps.length) (has : (.ref a :: argsL).toArray = as') (hst : st = argsL.reverse ++ .ref a :: rest) (hW : (rest.map fun v => v.category).sum ≤ W) (hd : decode c.code pc = .ok (.invokespecial i, 3)) (hp : pc + 3 = pc')
    (k : ∀ (v : Option Value) (T' : State) (L : List Loc), Stand p l e R s m args below meth c T' (locs ++ L) (cells + rm.cells) (slots + rm.slots) → Qc v T'.heap L → Wp p e s below C S Q T' (mkF m pc' Ls (v.toList ++ rest))) : Wp p e s below C S Q T (mkF m pc Ls st) := by
  obtain ⟨v, _, ⟨T1, L1, k1, n1⟩, -, X1, ⟨Lc1, hQ1, l1, y1, z1⟩, st1⟩ := X.specialBack hx (y := y) hy1 hown (mvT hZ w1) (mvT hZ w2) (mvT hZ w4) hy (backOf (W := W) hM hZ w4 w3 hf hl) (g := mkF m pc Ls st) rfl hml (Steps.refl _) (a := a) (argsL := argsL) (rest := rest) (lenOf hpd hlen) hst (by show 2 * 0 + _ ≤ _; omega) hd (fun _ _ => ⟨has, eT, hc, hsl⟩)
  dsimp only [Pt.U, Pt.locs, Pt.cells, Pt.slots] at X1 l1 y1 z1 st1 hQ1
  subst l1 y1 z1
  subst hp
  exact Wp.via (fun _ h => st1.trans h) (k v T1 Lc1 X1 hQ1)
theorem own_callV (X : Stand p l e R s m args below meth c T locs cells slots) (hx : p.tables.exec = Jvm.exec) {h : Heap} (hZ : Z.Warmed39 s.vm) (eT : T.heap = h) {own K : String} {i : Nat} {y : MethodName} {bytes : ByteArray} {maxL : Nat} {ret : Option FieldType} {rm : Room} {W : Nat} {as' : Array Value} {Qc : Option Value → Heap → List Loc → Prop}
    (hown : s.vm.findClass own = some m.cls) (hml : Ls.size = c.maxLocals) (w1 : (Jvm.Cond.methodLink own i y).before a0 Z = true) (w2 : (Jvm.Cond.declares y).before a0 Z = true) (w5 : (Jvm.Cond.selects K y y).before a0 Z = true) (w6 : (Jvm.Cond.instanceMethod y).before a0 Z = true) (w3 : (Jvm.Cond.initialized y.cls).before a0 Z = true) (w4 : (Jvm.Cond.code y bytes maxL ret).before a0 Z = true)
    (hM : MetFree l y (head1 [Jvm.Cond.code y bytes maxL ret] rm) (fun a U => a = as' ∧ Z.Warmed39 U.vm ∧ U.heap = h) (fun _ _ _ _ _ => True) (fun _ U o U' => ∃ v L, o = .returned v ∧ Qc v U'.heap L ∧ FrameEnd U o U' L rm.cells rm.slots))
    {a : Addr} (E : Exa Z h a K) (hy : y.cls ≠ "java/lang/invoke/MethodHandle" ∧ y.cls ≠ "java/lang/invoke/VarHandle") (hf : rm.frames + 1 ≤ R.frames) (hl : W + (maxL + 11) + rm.locals ≤ R.locals) (hc : cells + rm.cells ≤ R.cells) (hsl : slots + rm.slots ≤ R.slots)
    {argsL rest : List Value} {ps : List FieldType} {r : Option FieldType} (hpd : parseMethodDescriptor y.desc = some ⟨ps, r⟩) (hlen : argsL.length = ps.length) (has : (.ref a :: argsL).toArray = as') (hst : st = argsL.reverse ++ .ref a :: rest) (hW : (rest.map fun v => v.category).sum ≤ W) (hd : decode c.code pc = .ok (.invokevirtual i, 3)) (hp : pc + 3 = pc')
    (k : ∀ (v : Option Value) (T' : State) (L : List Loc), Stand p l e R s m args below meth c T' (locs ++ L) (cells + rm.cells) (slots + rm.slots) → Qc v T'.heap L → Wp p e s below C S Q T' (mkF m pc' Ls (v.toList ++ rest))) : Wp p e s below C S Q T (mkF m pc Ls st) := by
  obtain ⟨cq, kq, qa, qb, qc⟩ := isOf hZ eT E
  obtain ⟨v, _, ⟨T1, L1, k1, n1⟩, -, X1, ⟨Lc1, hQ1, l1, y1, z1⟩, st1⟩ := X.virtualBack hx (y := y) (z := y) hown (mvT hZ w1) (mvT hZ w2) (notFace_of_selects (args := #[]) (mvT hZ w5)) (mvT hZ w5) (mvT hZ w6) hy (backOf (W := W) hM hZ w4 w3 hf hl) qa qc (g := mkF m pc Ls st) rfl hml (Steps.refl _) (argsL := argsL) (rest := rest) (lenOf hpd hlen) hst (by show 2 * 0 + _ ≤ _; omega) hd (fun _ _ => ⟨has, eT, hc, hsl⟩)
  dsimp only [Pt.U, Pt.locs, Pt.cells, Pt.slots] at X1 l1 y1 z1 st1 hQ1
  subst l1 y1 z1
  subst hp
  exact Wp.via (fun _ h => st1.trans h) (k v T1 Lc1 X1 hQ1)
theorem w_clone (X : Stand p l e R s m args below meth c T locs cells slots) (hx : p.tables.exec = Jvm.exec) (hZ : Z.Warmed39 s.vm) {own ad : String} {idx : Nat} (hown : s.vm.findClass own = some m.cls) (hml : Ls.size = c.maxLocals)
    (w1 : (Jvm.Cond.methodLink own idx ⟨ad, "clone", "()Ljava/lang/Object;"⟩).before a0 Z = true) (w2 : (Jvm.Cond.sameMethod ad "java/lang/Object" "clone" "()Ljava/lang/Object;").before a0 Z = true) (w3 : (Jvm.Cond.native ⟨"java/lang/Object", "clone", "()Ljava/lang/Object;"⟩).before a0 Z = true)
    (w4 : (Jvm.Cond.instanceMethod ⟨"java/lang/Object", "clone", "()Ljava/lang/Object;"⟩).before a0 Z = true) (w5 : (Jvm.Cond.selects ad ⟨ad, "clone", "()Ljava/lang/Object;"⟩ ⟨"java/lang/Object", "clone", "()Ljava/lang/Object;"⟩).before a0 Z = true) (w6 : (Jvm.Cond.castable ad "java/lang/Cloneable").before a0 Z = true)
    (P : HP n0 T.heap cs) {i : Nat} {kA : ClassId} {vs : List Value} {ty : FieldType} (q : cs[i]? = some (AC kA vs)) (hk : IsA Z kA ty) (had : "[" ++ ty.toString = ad) (hfit : ∀ v ∈ vs, fits ty v = true) (hd : decode c.code pc = .ok (.invokevirtual idx, 3)) (hf : 1 ≤ R.frames) {W N j : Nat} (hW : (st.map fun v => v.category).sum ≤ W) (hl : W + 14 ≤ R.locals) (hN : vs.length = N) (hc : cells + 1 ≤ R.cells) (hsl : slots + N ≤ R.slots) (hj : cs.length = j) (hp : pc + 3 = pc')
    (k : ∀ (T' : State), Stand p l e R s m args below meth c T' locs (cells + 1) (slots + N) → HP n0 T'.heap (cs ++ [AC kA vs]) → Wp p e s below C S Q T' (mkF m pc' Ls (.ref (n0 + j) :: st))) : Wp p e s below C S Q T (mkF m pc Ls (.ref (n0 + i) :: st)) := by
  subst hp hj hN
  have A := P.arr q hk
  have E := P.exaA q hk had
  have F : FitC Z (AC kA vs) := fitC_of A fun i hi v hv => hfit v (by simp [AC] at hv; exact List.mem_of_getElem? hv)
  obtain ⟨c1, cC, g1, g2, g3⟩ := Cond.castable_spec w6
  have e2 : Z.vm.findClass ad = some (AC kA vs).cls := by rw [← had]; exact hk.2
  cases e2.symm.trans g1
  have hal : Z.vm.Alike T.vm := hZ.alike.trans X.warmed.alike
  obtain ⟨vm', X', st1⟩ := X.cloneArray hx hown (mv hZ w1) (mv hZ w2) (mv hZ w3) (mv hZ w4) (mv hZ w5) (a := n0 + i) A.1 A.2.1.1 A.2.2 (by rw [hZ.alike.findClass]; exact e2) (by rw [hZ.alike.findClass]; exact g2) (by rw [hZ.alike.assignable]; exact g3)
    (fun i v hv => by have q := F i v hv; rw [← State.fitsSlot_setVm hal] at q; exact q) (g := mkF m pc Ls (.ref (n0 + i) :: st)) rfl hml rfl hd hf (by show 2 * 0 + _ + 14 ≤ _; omega) hc (by simpa [AC] using hsl)
    (by obtain ⟨-, k2, hk2, comp, hkind⟩ := A.2.1; rw [hZ.alike.clonesLoader]; exact Vm.clonesLoader_of_array hk2 hkind)
  rw [P.1] at st1
  have es : (AC kA vs).slots.size = vs.length := by simp [AC]
  rw [es] at X'
  exact Wp.via st1 (k _ X' (P.push _))
theorem w_ccastA (X : Stand p l e R s m args below meth c T locs cells slots) (hx : p.tables.exec = Jvm.exec) (hZ : Z.Warmed39 s.vm) {own ad : String} {idx : Nat} (hown : s.vm.findClass own = some m.cls) (w : (Jvm.Cond.classLink own idx ad).before a0 Z = true) (P : HP n0 T.heap cs) {i : Nat} {kA : ClassId} {vs : List Value} {ty : FieldType} (q : cs[i]? = some (AC kA vs)) (hk : IsA Z kA ty) (had : "[" ++ ty.toString = ad) (hd : decode c.code pc = .ok (.checkcast idx, 3)) (hp : pc + 3 = pc')
    (k : ∀ (T' : State), Stand p l e R s m args below meth c T' locs cells slots → HP n0 T'.heap cs → Wp p e s below C S Q T' (mkF m pc' Ls (.ref (n0 + i) :: st))) : Wp p e s below C S Q T (mkF m pc Ls (.ref (n0 + i) :: st)) := by
  subst hp
  obtain ⟨T', X', eh, st1⟩ := castY X hx hZ hown w rfl (Ins.self (P.exaA q hk had)) (g := mkF m pc Ls (.ref (n0 + i) :: st)) rfl rfl hd
  exact Wp.via st1 (k T' X' (by rw [eh]; exact P))
theorem w_ialoadL (X : Stand p l e R s m args below meth c T locs cells slots) (hx : p.tables.exec = Jvm.exec) (hZ : Z.Warmed39 s.vm) (P : HP n0 T.heap cs) {i : Nat} {kA : ClassId} {ll : List Int32} (q : cs[i]? = some (AC kA (List.map Value.int ll))) (hk : IsA Z kA .int) (hd : decode c.code pc = .ok (.iaload, 1)) {j : Int32} {jn : Nat} (hj : j.toInt = (jn : Int)) (hl : jn < ll.length) (hp : pc + 1 = pc')
    (k : Wp p e s below C S Q T (mkF m pc' Ls (.int (ll.getD jn 0) :: st))) : Wp p e s below C S Q T (mkF m pc Ls (.int j :: .ref (n0 + i) :: st)) :=
  w_iaload X hx hZ P q hk hd hj (own_get hl) hp k
theorem w_laloadL (X : Stand p l e R s m args below meth c T locs cells slots) (hx : p.tables.exec = Jvm.exec) (hZ : Z.Warmed39 s.vm) (P : HP n0 T.heap cs) {i : Nat} {kA : ClassId} {ll : List Int64} (q : cs[i]? = some (AC kA (List.map Value.long ll))) (hk : IsA Z kA .long) (hd : decode c.code pc = .ok (.laload, 1)) {j : Int32} {jn : Nat} (hj : j.toInt = (jn : Int)) (hl : jn < ll.length) (hp : pc + 1 = pc')
    (k : Wp p e s below C S Q T (mkF m pc' Ls (.long (ll.getD jn 0) :: st))) : Wp p e s below C S Q T (mkF m pc Ls (.int j :: .ref (n0 + i) :: st)) :=
  w_laload X hx hZ P q hk hd hj (own_get hl) hp k
theorem w_baloadL (X : Stand p l e R s m args below meth c T locs cells slots) (hx : p.tables.exec = Jvm.exec) (hZ : Z.Warmed39 s.vm) (P : HP n0 T.heap cs) {i : Nat} {kA : ClassId} {ll : List Int32} (q : cs[i]? = some (AC kA (List.map Value.int ll))) (hk : IsA Z kA .byte) (hd : decode c.code pc = .ok (.baload, 1)) {j : Int32} {jn : Nat} (hj : j.toInt = (jn : Int)) (hl : jn < ll.length) (hp : pc + 1 = pc')
    (k : Wp p e s below C S Q T (mkF m pc' Ls (.int (ll.getD jn 0) :: st))) : Wp p e s below C S Q T (mkF m pc Ls (.int j :: .ref (n0 + i) :: st)) :=
  w_baload X hx hZ P q hk hd hj (own_get hl) hp k
theorem w_iastoreL (X : Stand p l e R s m args below meth c T locs cells slots) (hx : p.tables.exec = Jvm.exec) (hZ : Z.Warmed39 s.vm) (N : Fr n0 locs) (P : HP n0 T.heap cs) {i : Nat} {kA : ClassId} {ll : List Int32} (q : cs[i]? = some (AC kA (List.map Value.int ll))) (hk : IsA Z kA .int) (hd : decode c.code pc = .ok (.iastore, 1)) {j : Int32} {x : Int32} {jn : Nat} (hj : j.toInt = (jn : Int)) (hl : jn < ll.length) (hp : pc + 1 = pc')
    (k : ∀ (T' : State) (L' : List Loc), Fr n0 L' → Stand p l e R s m args below meth c T' L' cells slots → HP n0 T'.heap (cs.set i (AC kA (List.map Value.int (ll.set jn x)))) → Wp p e s below C S Q T' (mkF m pc' Ls st)) : Wp p e s below C S Q T (mkF m pc Ls (.int x :: .int j :: .ref (n0 + i) :: st)) :=
  w_iastore X hx hZ N P q hk hd hj (by simpa using hl) hp (fun T' L' N' X' P' => k T' L' N' X' (by rw [List.map_set]; exact P'))
theorem w_lastoreL (X : Stand p l e R s m args below meth c T locs cells slots) (hx : p.tables.exec = Jvm.exec) (hZ : Z.Warmed39 s.vm) (N : Fr n0 locs) (P : HP n0 T.heap cs) {i : Nat} {kA : ClassId} {ll : List Int64} (q : cs[i]? = some (AC kA (List.map Value.long ll))) (hk : IsA Z kA .long) (hd : decode c.code pc = .ok (.lastore, 1)) {j : Int32} {x : Int64} {jn : Nat} (hj : j.toInt = (jn : Int)) (hl : jn < ll.length) (hp : pc + 1 = pc')
    (k : ∀ (T' : State) (L' : List Loc), Fr n0 L' → Stand p l e R s m args below meth c T' L' cells slots → HP n0 T'.heap (cs.set i (AC kA (List.map Value.long (ll.set jn x)))) → Wp p e s below C S Q T' (mkF m pc' Ls st)) : Wp p e s below C S Q T (mkF m pc Ls (.long x :: .int j :: .ref (n0 + i) :: st)) :=
  w_lastore X hx hZ N P q hk hd hj (by simpa using hl) hp (fun T' L' N' X' P' => k T' L' N' X' (by rw [List.map_set]; exact P'))
theorem w_bastoreEL (X : Stand p l e R s m args below meth c T locs cells slots) (hx : p.tables.exec = Jvm.exec) (hZ : Z.Warmed39 s.vm) (N : Fr n0 locs) (P : HP n0 T.heap cs) {i : Nat} {kA : ClassId} {ll : List Int32} (q : cs[i]? = some (AC kA (List.map Value.int ll))) (hk : IsA Z kA .byte) (hd : decode c.code pc = .ok (.bastore, 1)) {j : Int32} {x : Int32} {z : Int32} (hz : nar .byte x = z) {jn : Nat} (hj : j.toInt = (jn : Int)) (hl : jn < ll.length) (hp : pc + 1 = pc')
    (k : ∀ (T' : State) (L' : List Loc), Fr n0 L' → Stand p l e R s m args below meth c T' L' cells slots → HP n0 T'.heap (cs.set i (AC kA (List.map Value.int (ll.set jn z)))) → Wp p e s below C S Q T' (mkF m pc' Ls st)) : Wp p e s below C S Q T (mkF m pc Ls (.int x :: .int j :: .ref (n0 + i) :: st)) :=
  w_bastoreE X hx hZ N P q hk hd hz hj (by simpa using hl) hp (fun T' L' N' X' P' => k T' L' N' X' (by rw [List.map_set]; exact P'))
end OwnH
/-! small numbers -/
theorem own_small {x : Int32} {n : Nat} (h0 : 0 ≤ x.toInt) (h1 : x.toInt < n) (hn : n ≤ 2147483648) : ∃ k : Nat, k < n ∧ x = Int32.ofNat k := by
  refine ⟨x.toInt.toNat, by omega, Int32.toInt_inj.mp ?_⟩
  rw [Int32.toInt_ofNat_of_lt (by omega)]
  omega
theorem own_mask (a : Int32) : 0 ≤ (a &&& 2147483647).toInt ∧ (a &&& 2147483647).toInt < 2147483648 := by
  have h := c_mask a 2147483647 31 (by decide) (by decide)
  omega
theorem own_rem (a d : Int32) (D : Nat) (hd : d.toInt = (D : Int)) (h0 : 0 < D) : ∃ k : Nat, k < D ∧ (a &&& 2147483647) % d = Int32.ofNat k := by
  have h := own_mask a
  have h2 := (c_irem (a &&& 2147483647) d D hd).1 h.1
  have h3 := Int.emod_nonneg (a &&& 2147483647).toInt (b := (D : Int)) (by omega)
  have h4 := Int.emod_lt_of_pos (a &&& 2147483647).toInt (b := (D : Int)) (by omega)
  have h5 := d.toInt_lt
  exact own_small (by omega) (by omega) (by omega)
theorem own_remP (y d : Int32) (D : Nat) (h0 : 0 ≤ y.toInt) (hd : d.toInt = (D : Int)) (h1 : 0 < D) : ∃ k : Nat, k < D ∧ y % d = Int32.ofNat k := by
  have h2 := (c_irem y d D hd).1 h0
  have h3 := Int.emod_nonneg y.toInt (b := (D : Int)) (by omega)
  have h4 := Int.emod_lt_of_pos y.toInt (b := (D : Int)) (by omega)
  have h5 := d.toInt_lt
  exact own_small (by omega) (by omega) (by omega)
theorem own_andk (a m : Int32) (M : Nat) (hm : m.toInt = (M : Int)) : ∃ k : Nat, k < M + 1 ∧ a &&& m = Int32.ofNat k := by
  have h := c_and a m (by omega)
  have h5 := m.toInt_lt
  exact own_small h.1 (by omega) (by omega)
theorem own_c1 {x : Int32} (h : ∃ k : Nat, k < 1 ∧ x = Int32.ofNat k) : x = 0 := by
  obtain ⟨k, hk, e⟩ := h
  obtain rfl : k = 0 := by omega
  exact e
theorem own_c2 {x : Int32} (h : ∃ k : Nat, k < 2 ∧ x = Int32.ofNat k) : x = 0 ∨ x = 1 := by
  obtain ⟨k, hk, e⟩ := h
  have q : k = 0 ∨ k = 1 := by omega
  rcases q with rfl | rfl
  · exact Or.inl e
  · exact Or.inr (e)
theorem own_c3 {x : Int32} (h : ∃ k : Nat, k < 3 ∧ x = Int32.ofNat k) : x = 0 ∨ x = 1 ∨ x = 2 := by
  obtain ⟨k, hk, e⟩ := h
  have q : k = 0 ∨ k = 1 ∨ k = 2 := by omega
  rcases q with rfl | rfl | rfl
  · exact Or.inl e
  · exact Or.inr (Or.inl e)
  · exact Or.inr (Or.inr (e))
theorem own_c4 {x : Int32} (h : ∃ k : Nat, k < 4 ∧ x = Int32.ofNat k) : x = 0 ∨ x = 1 ∨ x = 2 ∨ x = 3 := by
  obtain ⟨k, hk, e⟩ := h
  have q : k = 0 ∨ k = 1 ∨ k = 2 ∨ k = 3 := by omega
  rcases q with rfl | rfl | rfl | rfl
  · exact Or.inl e
  · exact Or.inr (Or.inl e)
  · exact Or.inr (Or.inr (Or.inl e))
  · exact Or.inr (Or.inr (Or.inr (e)))
theorem own_c5 {x : Int32} (h : ∃ k : Nat, k < 5 ∧ x = Int32.ofNat k) : x = 0 ∨ x = 1 ∨ x = 2 ∨ x = 3 ∨ x = 4 := by
  obtain ⟨k, hk, e⟩ := h
  have q : k = 0 ∨ k = 1 ∨ k = 2 ∨ k = 3 ∨ k = 4 := by omega
  rcases q with rfl | rfl | rfl | rfl | rfl
  · exact Or.inl e
  · exact Or.inr (Or.inl e)
  · exact Or.inr (Or.inr (Or.inl e))
  · exact Or.inr (Or.inr (Or.inr (Or.inl e)))
  · exact Or.inr (Or.inr (Or.inr (Or.inr (e))))
theorem own_c6 {x : Int32} (h : ∃ k : Nat, k < 6 ∧ x = Int32.ofNat k) : x = 0 ∨ x = 1 ∨ x = 2 ∨ x = 3 ∨ x = 4 ∨ x = 5 := by
  obtain ⟨k, hk, e⟩ := h
  have q : k = 0 ∨ k = 1 ∨ k = 2 ∨ k = 3 ∨ k = 4 ∨ k = 5 := by omega
  rcases q with rfl | rfl | rfl | rfl | rfl | rfl
  · exact Or.inl e
  · exact Or.inr (Or.inl e)
  · exact Or.inr (Or.inr (Or.inl e))
  · exact Or.inr (Or.inr (Or.inr (Or.inl e)))
  · exact Or.inr (Or.inr (Or.inr (Or.inr (Or.inl e))))
  · exact Or.inr (Or.inr (Or.inr (Or.inr (Or.inr (e)))))
theorem own_c7 {x : Int32} (h : ∃ k : Nat, k < 7 ∧ x = Int32.ofNat k) : x = 0 ∨ x = 1 ∨ x = 2 ∨ x = 3 ∨ x = 4 ∨ x = 5 ∨ x = 6 := by
  obtain ⟨k, hk, e⟩ := h
  have q : k = 0 ∨ k = 1 ∨ k = 2 ∨ k = 3 ∨ k = 4 ∨ k = 5 ∨ k = 6 := by omega
  rcases q with rfl | rfl | rfl | rfl | rfl | rfl | rfl
  · exact Or.inl e
  · exact Or.inr (Or.inl e)
  · exact Or.inr (Or.inr (Or.inl e))
  · exact Or.inr (Or.inr (Or.inr (Or.inl e)))
  · exact Or.inr (Or.inr (Or.inr (Or.inr (Or.inl e))))
  · exact Or.inr (Or.inr (Or.inr (Or.inr (Or.inr (Or.inl e)))))
  · exact Or.inr (Or.inr (Or.inr (Or.inr (Or.inr (Or.inr (e))))))
theorem own_c8 {x : Int32} (h : ∃ k : Nat, k < 8 ∧ x = Int32.ofNat k) : x = 0 ∨ x = 1 ∨ x = 2 ∨ x = 3 ∨ x = 4 ∨ x = 5 ∨ x = 6 ∨ x = 7 := by
  obtain ⟨k, hk, e⟩ := h
  have q : k = 0 ∨ k = 1 ∨ k = 2 ∨ k = 3 ∨ k = 4 ∨ k = 5 ∨ k = 6 ∨ k = 7 := by omega
  rcases q with rfl | rfl | rfl | rfl | rfl | rfl | rfl | rfl
  · exact Or.inl e
  · exact Or.inr (Or.inl e)
  · exact Or.inr (Or.inr (Or.inl e))
  · exact Or.inr (Or.inr (Or.inr (Or.inl e)))
  · exact Or.inr (Or.inr (Or.inr (Or.inr (Or.inl e))))
  · exact Or.inr (Or.inr (Or.inr (Or.inr (Or.inr (Or.inl e)))))
  · exact Or.inr (Or.inr (Or.inr (Or.inr (Or.inr (Or.inr (Or.inl e))))))
  · exact Or.inr (Or.inr (Or.inr (Or.inr (Or.inr (Or.inr (Or.inr (e)))))))
theorem own_c9 {x : Int32} (h : ∃ k : Nat, k < 9 ∧ x = Int32.ofNat k) : x = 0 ∨ x = 1 ∨ x = 2 ∨ x = 3 ∨ x = 4 ∨ x = 5 ∨ x = 6 ∨ x = 7 ∨ x = 8 := by
  obtain ⟨k, hk, e⟩ := h
  have q : k = 0 ∨ k = 1 ∨ k = 2 ∨ k = 3 ∨ k = 4 ∨ k = 5 ∨ k = 6 ∨ k = 7 ∨ k = 8 := by omega
  rcases q with rfl | rfl | rfl | rfl | rfl | rfl | rfl | rfl | rfl
  · exact Or.inl e
  · exact Or.inr (Or.inl e)
  · exact Or.inr (Or.inr (Or.inl e))
  · exact Or.inr (Or.inr (Or.inr (Or.inl e)))
  · exact Or.inr (Or.inr (Or.inr (Or.inr (Or.inl e))))
  · exact Or.inr (Or.inr (Or.inr (Or.inr (Or.inr (Or.inl e)))))
  · exact Or.inr (Or.inr (Or.inr (Or.inr (Or.inr (Or.inr (Or.inl e))))))
  · exact Or.inr (Or.inr (Or.inr (Or.inr (Or.inr (Or.inr (Or.inr (Or.inl e)))))))
  · exact Or.inr (Or.inr (Or.inr (Or.inr (Or.inr (Or.inr (Or.inr (Or.inr (e))))))))
theorem own_c10 {x : Int32} (h : ∃ k : Nat, k < 10 ∧ x = Int32.ofNat k) : x = 0 ∨ x = 1 ∨ x = 2 ∨ x = 3 ∨ x = 4 ∨ x = 5 ∨ x = 6 ∨ x = 7 ∨ x = 8 ∨ x = 9 := by
  obtain ⟨k, hk, e⟩ := h
  have q : k = 0 ∨ k = 1 ∨ k = 2 ∨ k = 3 ∨ k = 4 ∨ k = 5 ∨ k = 6 ∨ k = 7 ∨ k = 8 ∨ k = 9 := by omega
  rcases q with rfl | rfl | rfl | rfl | rfl | rfl | rfl | rfl | rfl | rfl
  · exact Or.inl e
  · exact Or.inr (Or.inl e)
  · exact Or.inr (Or.inr (Or.inl e))
  · exact Or.inr (Or.inr (Or.inr (Or.inl e)))
  · exact Or.inr (Or.inr (Or.inr (Or.inr (Or.inl e))))
  · exact Or.inr (Or.inr (Or.inr (Or.inr (Or.inr (Or.inl e)))))
  · exact Or.inr (Or.inr (Or.inr (Or.inr (Or.inr (Or.inr (Or.inl e))))))
  · exact Or.inr (Or.inr (Or.inr (Or.inr (Or.inr (Or.inr (Or.inr (Or.inl e)))))))
  · exact Or.inr (Or.inr (Or.inr (Or.inr (Or.inr (Or.inr (Or.inr (Or.inr (Or.inl e))))))))
  · exact Or.inr (Or.inr (Or.inr (Or.inr (Or.inr (Or.inr (Or.inr (Or.inr (Or.inr (e)))))))))
theorem own_c11 {x : Int32} (h : ∃ k : Nat, k < 11 ∧ x = Int32.ofNat k) : x = 0 ∨ x = 1 ∨ x = 2 ∨ x = 3 ∨ x = 4 ∨ x = 5 ∨ x = 6 ∨ x = 7 ∨ x = 8 ∨ x = 9 ∨ x = 10 := by
  obtain ⟨k, hk, e⟩ := h
  have q : k = 0 ∨ k = 1 ∨ k = 2 ∨ k = 3 ∨ k = 4 ∨ k = 5 ∨ k = 6 ∨ k = 7 ∨ k = 8 ∨ k = 9 ∨ k = 10 := by omega
  rcases q with rfl | rfl | rfl | rfl | rfl | rfl | rfl | rfl | rfl | rfl | rfl
  · exact Or.inl e
  · exact Or.inr (Or.inl e)
  · exact Or.inr (Or.inr (Or.inl e))
  · exact Or.inr (Or.inr (Or.inr (Or.inl e)))
  · exact Or.inr (Or.inr (Or.inr (Or.inr (Or.inl e))))
  · exact Or.inr (Or.inr (Or.inr (Or.inr (Or.inr (Or.inl e)))))
  · exact Or.inr (Or.inr (Or.inr (Or.inr (Or.inr (Or.inr (Or.inl e))))))
  · exact Or.inr (Or.inr (Or.inr (Or.inr (Or.inr (Or.inr (Or.inr (Or.inl e)))))))
  · exact Or.inr (Or.inr (Or.inr (Or.inr (Or.inr (Or.inr (Or.inr (Or.inr (Or.inl e))))))))
  · exact Or.inr (Or.inr (Or.inr (Or.inr (Or.inr (Or.inr (Or.inr (Or.inr (Or.inr (Or.inl e)))))))))
  · exact Or.inr (Or.inr (Or.inr (Or.inr (Or.inr (Or.inr (Or.inr (Or.inr (Or.inr (Or.inr (e))))))))))
theorem own_c12 {x : Int32} (h : ∃ k : Nat, k < 12 ∧ x = Int32.ofNat k) : x = 0 ∨ x = 1 ∨ x = 2 ∨ x = 3 ∨ x = 4 ∨ x = 5 ∨ x = 6 ∨ x = 7 ∨ x = 8 ∨ x = 9 ∨ x = 10 ∨ x = 11 := by
  obtain ⟨k, hk, e⟩ := h
  have q : k = 0 ∨ k = 1 ∨ k = 2 ∨ k = 3 ∨ k = 4 ∨ k = 5 ∨ k = 6 ∨ k = 7 ∨ k = 8 ∨ k = 9 ∨ k = 10 ∨ k = 11 := by omega
  rcases q with rfl | rfl | rfl | rfl | rfl | rfl | rfl | rfl | rfl | rfl | rfl | rfl
  · exact Or.inl e
  · exact Or.inr (Or.inl e)
  · exact Or.inr (Or.inr (Or.inl e))
  · exact Or.inr (Or.inr (Or.inr (Or.inl e)))
  · exact Or.inr (Or.inr (Or.inr (Or.inr (Or.inl e))))
  · exact Or.inr (Or.inr (Or.inr (Or.inr (Or.inr (Or.inl e)))))
  · exact Or.inr (Or.inr (Or.inr (Or.inr (Or.inr (Or.inr (Or.inl e))))))
  · exact Or.inr (Or.inr (Or.inr (Or.inr (Or.inr (Or.inr (Or.inr (Or.inl e)))))))
  · exact Or.inr (Or.inr (Or.inr (Or.inr (Or.inr (Or.inr (Or.inr (Or.inr (Or.inl e))))))))
  · exact Or.inr (Or.inr (Or.inr (Or.inr (Or.inr (Or.inr (Or.inr (Or.inr (Or.inr (Or.inl e)))))))))
  · exact Or.inr (Or.inr (Or.inr (Or.inr (Or.inr (Or.inr (Or.inr (Or.inr (Or.inr (Or.inr (Or.inl e))))))))))
  · exact Or.inr (Or.inr (Or.inr (Or.inr (Or.inr (Or.inr (Or.inr (Or.inr (Or.inr (Or.inr (Or.inr (e)))))))))))
theorem own_c13 {x : Int32} (h : ∃ k : Nat, k < 13 ∧ x = Int32.ofNat k) : x = 0 ∨ x = 1 ∨ x = 2 ∨ x = 3 ∨ x = 4 ∨ x = 5 ∨ x = 6 ∨ x = 7 ∨ x = 8 ∨ x = 9 ∨ x = 10 ∨ x = 11 ∨ x = 12 := by
  obtain ⟨k, hk, e⟩ := h
  have q : k = 0 ∨ k = 1 ∨ k = 2 ∨ k = 3 ∨ k = 4 ∨ k = 5 ∨ k = 6 ∨ k = 7 ∨ k = 8 ∨ k = 9 ∨ k = 10 ∨ k = 11 ∨ k = 12 := by omega
  rcases q with rfl | rfl | rfl | rfl | rfl | rfl | rfl | rfl | rfl | rfl | rfl | rfl | rfl
  · exact Or.inl e
  · exact Or.inr (Or.inl e)
  · exact Or.inr (Or.inr (Or.inl e))
  · exact Or.inr (Or.inr (Or.inr (Or.inl e)))
  · exact Or.inr (Or.inr (Or.inr (Or.inr (Or.inl e))))
  · exact Or.inr (Or.inr (Or.inr (Or.inr (Or.inr (Or.inl e)))))
  · exact Or.inr (Or.inr (Or.inr (Or.inr (Or.inr (Or.inr (Or.inl e))))))
  · exact Or.inr (Or.inr (Or.inr (Or.inr (Or.inr (Or.inr (Or.inr (Or.inl e)))))))
  · exact Or.inr (Or.inr (Or.inr (Or.inr (Or.inr (Or.inr (Or.inr (Or.inr (Or.inl e))))))))
  · exact Or.inr (Or.inr (Or.inr (Or.inr (Or.inr (Or.inr (Or.inr (Or.inr (Or.inr (Or.inl e)))))))))
  · exact Or.inr (Or.inr (Or.inr (Or.inr (Or.inr (Or.inr (Or.inr (Or.inr (Or.inr (Or.inr (Or.inl e))))))))))
  · exact Or.inr (Or.inr (Or.inr (Or.inr (Or.inr (Or.inr (Or.inr (Or.inr (Or.inr (Or.inr (Or.inr (Or.inl e)))))))))))
  · exact Or.inr (Or.inr (Or.inr (Or.inr (Or.inr (Or.inr (Or.inr (Or.inr (Or.inr (Or.inr (Or.inr (Or.inr (e))))))))))))
theorem own_c14 {x : Int32} (h : ∃ k : Nat, k < 14 ∧ x = Int32.ofNat k) : x = 0 ∨ x = 1 ∨ x = 2 ∨ x = 3 ∨ x = 4 ∨ x = 5 ∨ x = 6 ∨ x = 7 ∨ x = 8 ∨ x = 9 ∨ x = 10 ∨ x = 11 ∨ x = 12 ∨ x = 13 := by
  obtain ⟨k, hk, e⟩ := h
  have q : k = 0 ∨ k = 1 ∨ k = 2 ∨ k = 3 ∨ k = 4 ∨ k = 5 ∨ k = 6 ∨ k = 7 ∨ k = 8 ∨ k = 9 ∨ k = 10 ∨ k = 11 ∨ k = 12 ∨ k = 13 := by omega
  rcases q with rfl | rfl | rfl | rfl | rfl | rfl | rfl | rfl | rfl | rfl | rfl | rfl | rfl | rfl
  · exact Or.inl e
  · exact Or.inr (Or.inl e)
  · exact Or.inr (Or.inr (Or.inl e))
  · exact Or.inr (Or.inr (Or.inr (Or.inl e)))
  · exact Or.inr (Or.inr (Or.inr (Or.inr (Or.inl e))))
  · exact Or.inr (Or.inr (Or.inr (Or.inr (Or.inr (Or.inl e)))))
  · exact Or.inr (Or.inr (Or.inr (Or.inr (Or.inr (Or.inr (Or.inl e))))))
  · exact Or.inr (Or.inr (Or.inr (Or.inr (Or.inr (Or.inr (Or.inr (Or.inl e)))))))
  · exact Or.inr (Or.inr (Or.inr (Or.inr (Or.inr (Or.inr (Or.inr (Or.inr (Or.inl e))))))))
  · exact Or.inr (Or.inr (Or.inr (Or.inr (Or.inr (Or.inr (Or.inr (Or.inr (Or.inr (Or.inl e)))))))))
  · exact Or.inr (Or.inr (Or.inr (Or.inr (Or.inr (Or.inr (Or.inr (Or.inr (Or.inr (Or.inr (Or.inl e))))))))))
  · exact Or.inr (Or.inr (Or.inr (Or.inr (Or.inr (Or.inr (Or.inr (Or.inr (Or.inr (Or.inr (Or.inr (Or.inl e)))))))))))
  · exact Or.inr (Or.inr (Or.inr (Or.inr (Or.inr (Or.inr (Or.inr (Or.inr (Or.inr (Or.inr (Or.inr (Or.inr (Or.inl e))))))))))))
  · exact Or.inr (Or.inr (Or.inr (Or.inr (Or.inr (Or.inr (Or.inr (Or.inr (Or.inr (Or.inr (Or.inr (Or.inr (Or.inr (e)))))))))))))
theorem own_c15 {x : Int32} (h : ∃ k : Nat, k < 15 ∧ x = Int32.ofNat k) : x = 0 ∨ x = 1 ∨ x = 2 ∨ x = 3 ∨ x = 4 ∨ x = 5 ∨ x = 6 ∨ x = 7 ∨ x = 8 ∨ x = 9 ∨ x = 10 ∨ x = 11 ∨ x = 12 ∨ x = 13 ∨ x = 14 := by
  obtain ⟨k, hk, e⟩ := h
  have q : k = 0 ∨ k = 1 ∨ k = 2 ∨ k = 3 ∨ k = 4 ∨ k = 5 ∨ k = 6 ∨ k = 7 ∨ k = 8 ∨ k = 9 ∨ k = 10 ∨ k = 11 ∨ k = 12 ∨ k = 13 ∨ k = 14 := by omega
  rcases q with rfl | rfl | rfl | rfl | rfl | rfl | rfl | rfl | rfl | rfl | rfl | rfl | rfl | rfl | rfl
  · exact Or.inl e
  · exact Or.inr (Or.inl e)
  · exact Or.inr (Or.inr (Or.inl e))
  · exact Or.inr (Or.inr (Or.inr (Or.inl e)))
  · exact Or.inr (Or.inr (Or.inr (Or.inr (Or.inl e))))
  · exact Or.inr (Or.inr (Or.inr (Or.inr (Or.inr (Or.inl e)))))
  · exact Or.inr (Or.inr (Or.inr (Or.inr (Or.inr (Or.inr (Or.inl e))))))
  · exact Or.inr (Or.inr (Or.inr (Or.inr (Or.inr (Or.inr (Or.inr (Or.inl e)))))))
  · exact Or.inr (Or.inr (Or.inr (Or.inr (Or.inr (Or.inr (Or.inr (Or.inr (Or.inl e))))))))
  · exact Or.inr (Or.inr (Or.inr (Or.inr (Or.inr (Or.inr (Or.inr (Or.inr (Or.inr (Or.inl e)))))))))
  · exact Or.inr (Or.inr (Or.inr (Or.inr (Or.inr (Or.inr (Or.inr (Or.inr (Or.inr (Or.inr (Or.inl e))))))))))
  · exact Or.inr (Or.inr (Or.inr (Or.inr (Or.inr (Or.inr (Or.inr (Or.inr (Or.inr (Or.inr (Or.inr (Or.inl e)))))))))))
  · exact Or.inr (Or.inr (Or.inr (Or.inr (Or.inr (Or.inr (Or.inr (Or.inr (Or.inr (Or.inr (Or.inr (Or.inr (Or.inl e))))))))))))
  · exact Or.inr (Or.inr (Or.inr (Or.inr (Or.inr (Or.inr (Or.inr (Or.inr (Or.inr (Or.inr (Or.inr (Or.inr (Or.inr (Or.inl e)))))))))))))
  · exact Or.inr (Or.inr (Or.inr (Or.inr (Or.inr (Or.inr (Or.inr (Or.inr (Or.inr (Or.inr (Or.inr (Or.inr (Or.inr (Or.inr (e))))))))))))))
theorem own_c16 {x : Int32} (h : ∃ k : Nat, k < 16 ∧ x = Int32.ofNat k) : x = 0 ∨ x = 1 ∨ x = 2 ∨ x = 3 ∨ x = 4 ∨ x = 5 ∨ x = 6 ∨ x = 7 ∨ x = 8 ∨ x = 9 ∨ x = 10 ∨ x = 11 ∨ x = 12 ∨ x = 13 ∨ x = 14 ∨ x = 15 := by
  obtain ⟨k, hk, e⟩ := h
  have q : k = 0 ∨ k = 1 ∨ k = 2 ∨ k = 3 ∨ k = 4 ∨ k = 5 ∨ k = 6 ∨ k = 7 ∨ k = 8 ∨ k = 9 ∨ k = 10 ∨ k = 11 ∨ k = 12 ∨ k = 13 ∨ k = 14 ∨ k = 15 := by omega
  rcases q with rfl | rfl | rfl | rfl | rfl | rfl | rfl | rfl | rfl | rfl | rfl | rfl | rfl | rfl | rfl | rfl
  · exact Or.inl e
  · exact Or.inr (Or.inl e)
  · exact Or.inr (Or.inr (Or.inl e))
  · exact Or.inr (Or.inr (Or.inr (Or.inl e)))
  · exact Or.inr (Or.inr (Or.inr (Or.inr (Or.inl e))))
  · exact Or.inr (Or.inr (Or.inr (Or.inr (Or.inr (Or.inl e)))))
  · exact Or.inr (Or.inr (Or.inr (Or.inr (Or.inr (Or.inr (Or.inl e))))))
  · exact Or.inr (Or.inr (Or.inr (Or.inr (Or.inr (Or.inr (Or.inr (Or.inl e)))))))
  · exact Or.inr (Or.inr (Or.inr (Or.inr (Or.inr (Or.inr (Or.inr (Or.inr (Or.inl e))))))))
  · exact Or.inr (Or.inr (Or.inr (Or.inr (Or.inr (Or.inr (Or.inr (Or.inr (Or.inr (Or.inl e)))))))))
  · exact Or.inr (Or.inr (Or.inr (Or.inr (Or.inr (Or.inr (Or.inr (Or.inr (Or.inr (Or.inr (Or.inl e))))))))))
  · exact Or.inr (Or.inr (Or.inr (Or.inr (Or.inr (Or.inr (Or.inr (Or.inr (Or.inr (Or.inr (Or.inr (Or.inl e)))))))))))
  · exact Or.inr (Or.inr (Or.inr (Or.inr (Or.inr (Or.inr (Or.inr (Or.inr (Or.inr (Or.inr (Or.inr (Or.inr (Or.inl e))))))))))))
  · exact Or.inr (Or.inr (Or.inr (Or.inr (Or.inr (Or.inr (Or.inr (Or.inr (Or.inr (Or.inr (Or.inr (Or.inr (Or.inr (Or.inl e)))))))))))))
  · exact Or.inr (Or.inr (Or.inr (Or.inr (Or.inr (Or.inr (Or.inr (Or.inr (Or.inr (Or.inr (Or.inr (Or.inr (Or.inr (Or.inr (Or.inl e))))))))))))))
  · exact Or.inr (Or.inr (Or.inr (Or.inr (Or.inr (Or.inr (Or.inr (Or.inr (Or.inr (Or.inr (Or.inr (Or.inr (Or.inr (Or.inr (Or.inr (e)))))))))))))))
theorem own_c17 {x : Int32} (h : ∃ k : Nat, k < 17 ∧ x = Int32.ofNat k) : x = 0 ∨ x = 1 ∨ x = 2 ∨ x = 3 ∨ x = 4 ∨ x = 5 ∨ x = 6 ∨ x = 7 ∨ x = 8 ∨ x = 9 ∨ x = 10 ∨ x = 11 ∨ x = 12 ∨ x = 13 ∨ x = 14 ∨ x = 15 ∨ x = 16 := by
  obtain ⟨k, hk, e⟩ := h
  have q : k = 0 ∨ k = 1 ∨ k = 2 ∨ k = 3 ∨ k = 4 ∨ k = 5 ∨ k = 6 ∨ k = 7 ∨ k = 8 ∨ k = 9 ∨ k = 10 ∨ k = 11 ∨ k = 12 ∨ k = 13 ∨ k = 14 ∨ k = 15 ∨ k = 16 := by omega
  rcases q with rfl | rfl | rfl | rfl | rfl | rfl | rfl | rfl | rfl | rfl | rfl | rfl | rfl | rfl | rfl | rfl | rfl
  · exact Or.inl e
  · exact Or.inr (Or.inl e)
  · exact Or.inr (Or.inr (Or.inl e))
  · exact Or.inr (Or.inr (Or.inr (Or.inl e)))
  · exact Or.inr (Or.inr (Or.inr (Or.inr (Or.inl e))))
  · exact Or.inr (Or.inr (Or.inr (Or.inr (Or.inr (Or.inl e)))))
  · exact Or.inr (Or.inr (Or.inr (Or.inr (Or.inr (Or.inr (Or.inl e))))))
  · exact Or.inr (Or.inr (Or.inr (Or.inr (Or.inr (Or.inr (Or.inr (Or.inl e)))))))
  · exact Or.inr (Or.inr (Or.inr (Or.inr (Or.inr (Or.inr (Or.inr (Or.inr (Or.inl e))))))))
  · exact Or.inr (Or.inr (Or.inr (Or.inr (Or.inr (Or.inr (Or.inr (Or.inr (Or.inr (Or.inl e)))))))))
  · exact Or.inr (Or.inr (Or.inr (Or.inr (Or.inr (Or.inr (Or.inr (Or.inr (Or.inr (Or.inr (Or.inl e))))))))))
  · exact Or.inr (Or.inr (Or.inr (Or.inr (Or.inr (Or.inr (Or.inr (Or.inr (Or.inr (Or.inr (Or.inr (Or.inl e)))))))))))
  · exact Or.inr (Or.inr (Or.inr (Or.inr (Or.inr (Or.inr (Or.inr (Or.inr (Or.inr (Or.inr (Or.inr (Or.inr (Or.inl e))))))))))))
  · exact Or.inr (Or.inr (Or.inr (Or.inr (Or.inr (Or.inr (Or.inr (Or.inr (Or.inr (Or.inr (Or.inr (Or.inr (Or.inr (Or.inl e)))))))))))))
  · exact Or.inr (Or.inr (Or.inr (Or.inr (Or.inr (Or.inr (Or.inr (Or.inr (Or.inr (Or.inr (Or.inr (Or.inr (Or.inr (Or.inr (Or.inl e))))))))))))))
  · exact Or.inr (Or.inr (Or.inr (Or.inr (Or.inr (Or.inr (Or.inr (Or.inr (Or.inr (Or.inr (Or.inr (Or.inr (Or.inr (Or.inr (Or.inr (Or.inl e)))))))))))))))
  · exact Or.inr (Or.inr (Or.inr (Or.inr (Or.inr (Or.inr (Or.inr (Or.inr (Or.inr (Or.inr (Or.inr (Or.inr (Or.inr (Or.inr (Or.inr (Or.inr (e))))))))))))))))
theorem wd0 {Z : State} {a0 : Array Value} (hw : ∀ d ∈ tables_1, d.before a0 Z = true) : (Jvm.Cond.methodLink "com/example/protomata/protomata/PartitionPutPinLaw" (8 : Nat) ({ cls := "com/example/protomata/protomata/PartitionPutPinLaw", name := "bef", desc := "(II)I" } : Jvm.MethodName)).before a0 Z = true := hw _ (List.mem_of_getElem? (i := 0) rfl)
theorem wd1 {Z : State} {a0 : Array Value} (hw : ∀ d ∈ tables_1, d.before a0 Z = true) : (Jvm.Cond.static ({ cls := "com/example/protomata/protomata/PartitionPutPinLaw", name := "bef", desc := "(II)I" } : Jvm.MethodName)).before a0 Z = true := hw _ (List.mem_of_getElem? (i := 1) rfl)
theorem wd2 {Z : State} {a0 : Array Value} (hw : ∀ d ∈ tables_1, d.before a0 Z = true) : (Jvm.Cond.initialized "com/example/protomata/protomata/PartitionPutPinLaw").before a0 Z = true := hw _ (List.mem_of_getElem? (i := 2) rfl)
theorem wd3 {Z : State} {a0 : Array Value} (hw : ∀ d ∈ tables_1, d.before a0 Z = true) : (Jvm.Cond.code ({ cls := "com/example/protomata/protomata/PartitionPutPinLaw", name := "bef", desc := "(II)I" } : Jvm.MethodName) method_2_code (2 : Nat) (Option.some Jvm.ClassFile.FieldType.int)).before a0 Z = true := hw _ (List.mem_of_getElem? (i := 3) rfl)
theorem wd4 {Z : State} {a0 : Array Value} (hw : ∀ d ∈ tables_1, d.before a0 Z = true) : (Jvm.Cond.methodLink "com/example/protomata/protomata/PartitionPutPinLaw" (14 : Nat) ({ cls := "com/example/protomata/protomata/PartitionPutPinLaw", name := "ans", desc := "(II)I" } : Jvm.MethodName)).before a0 Z = true := hw _ (List.mem_of_getElem? (i := 4) rfl)
theorem wd5 {Z : State} {a0 : Array Value} (hw : ∀ d ∈ tables_1, d.before a0 Z = true) : (Jvm.Cond.static ({ cls := "com/example/protomata/protomata/PartitionPutPinLaw", name := "ans", desc := "(II)I" } : Jvm.MethodName)).before a0 Z = true := hw _ (List.mem_of_getElem? (i := 5) rfl)
theorem wd6 {Z : State} {a0 : Array Value} (hw : ∀ d ∈ tables_1, d.before a0 Z = true) : (Jvm.Cond.code ({ cls := "com/example/protomata/protomata/PartitionPutPinLaw", name := "ans", desc := "(II)I" } : Jvm.MethodName) method_3_code (2 : Nat) (Option.some Jvm.ClassFile.FieldType.int)).before a0 Z = true := hw _ (List.mem_of_getElem? (i := 6) rfl)
theorem wd7 {Z : State} {a0 : Array Value} (hw : ∀ d ∈ tables_1, d.before a0 Z = true) : (Jvm.Cond.constant "com/example/protomata/protomata/PartitionPutPinLaw" (7 : Nat) (65535 : Int32)).before a0 Z = true := hw _ (List.mem_of_getElem? (i := 7) rfl)
theorem wd8 {Z : State} {a0 : Array Value} (hw : ∀ d ∈ tables_1, d.before a0 Z = true) : (Jvm.Cond.classLink "com/example/protomata/protomata/PartitionPutPinLaw" (17 : Nat) "com/example/protomata/protomata/Partition").before a0 Z = true := hw _ (List.mem_of_getElem? (i := 8) rfl)
theorem wd9 {Z : State} {a0 : Array Value} (hw : ∀ d ∈ tables_1, d.before a0 Z = true) : (Jvm.Cond.instantiable "com/example/protomata/protomata/Partition" (7 : Nat)).before a0 Z = true := hw _ (List.mem_of_getElem? (i := 9) rfl)
theorem wd10 {Z : State} {a0 : Array Value} (hw : ∀ d ∈ tables_1, d.before a0 Z = true) : (Jvm.Cond.initialized "com/example/protomata/protomata/Partition").before a0 Z = true := hw _ (List.mem_of_getElem? (i := 10) rfl)
theorem wd11 {Z : State} {a0 : Array Value} (hw : ∀ d ∈ tables_1, d.before a0 Z = true) : (Jvm.Cond.methodLink "com/example/protomata/protomata/PartitionPutPinLaw" (19 : Nat) ({ cls := "com/example/protomata/protomata/Partition", name := "<init>", desc := "()V" } : Jvm.MethodName)).before a0 Z = true := hw _ (List.mem_of_getElem? (i := 11) rfl)
theorem wd12 {Z : State} {a0 : Array Value} (hw : ∀ d ∈ tables_1, d.before a0 Z = true) : (Jvm.Cond.instanceMethod ({ cls := "com/example/protomata/protomata/Partition", name := "<init>", desc := "()V" } : Jvm.MethodName)).before a0 Z = true := hw _ (List.mem_of_getElem? (i := 12) rfl)
theorem wd13 {Z : State} {a0 : Array Value} (hw : ∀ d ∈ tables_1, d.before a0 Z = true) : (Jvm.Cond.code ({ cls := "com/example/protomata/protomata/Partition", name := "<init>", desc := "()V" } : Jvm.MethodName) prog_101_method_1_code (1 : Nat) (Option.none : Option Jvm.ClassFile.FieldType)).before a0 Z = true := hw _ (List.mem_of_getElem? (i := 13) rfl)
theorem wd14 {Z : State} {a0 : Array Value} (hw : ∀ d ∈ tables_1, d.before a0 Z = true) : (Jvm.Cond.methodLink "com/example/protomata/protomata/Partition" (1 : Nat) ({ cls := "java/lang/Object", name := "<init>", desc := "()V" } : Jvm.MethodName)).before a0 Z = true := hw _ (List.mem_of_getElem? (i := 14) rfl)
theorem wd15 {Z : State} {a0 : Array Value} (hw : ∀ d ∈ tables_1, d.before a0 Z = true) : (Jvm.Cond.instanceMethod ({ cls := "java/lang/Object", name := "<init>", desc := "()V" } : Jvm.MethodName)).before a0 Z = true := hw _ (List.mem_of_getElem? (i := 15) rfl)
theorem wd16 {Z : State} {a0 : Array Value} (hw : ∀ d ∈ tables_1, d.before a0 Z = true) : (Jvm.Cond.code ({ cls := "java/lang/Object", name := "<init>", desc := "()V" } : Jvm.MethodName) object_method_1_code (1 : Nat) (Option.none : Option Jvm.ClassFile.FieldType)).before a0 Z = true := hw _ (List.mem_of_getElem? (i := 16) rfl)
theorem wd17 {Z : State} {a0 : Array Value} (hw : ∀ d ∈ tables_1, d.before a0 Z = true) : (Jvm.Cond.arrayClass Jvm.ClassFile.FieldType.int).before a0 Z = true := hw _ (List.mem_of_getElem? (i := 17) rfl)
theorem wd18 {Z : State} {a0 : Array Value} (hw : ∀ d ∈ tables_1, d.before a0 Z = true) : (Jvm.Cond.fieldLink "com/example/protomata/protomata/Partition" (7 : Nat) "com/example/protomata/protomata/Partition" "cells" "[I").before a0 Z = true := hw _ (List.mem_of_getElem? (i := 18) rfl)
theorem wd19 {Z : State} {a0 : Array Value} (hw : ∀ d ∈ tables_1, d.before a0 Z = true) : (Jvm.Cond.lays "com/example/protomata/protomata/Partition" "com/example/protomata/protomata/Partition" "cells" "[I").before a0 Z = true := hw _ (List.mem_of_getElem? (i := 19) rfl)
theorem wd20 {Z : State} {a0 : Array Value} (hw : ∀ d ∈ tables_1, d.before a0 Z = true) : (Jvm.Cond.fieldLink "com/example/protomata/protomata/Partition" (13 : Nat) "com/example/protomata/protomata/Partition" "stamps" "[I").before a0 Z = true := hw _ (List.mem_of_getElem? (i := 20) rfl)
theorem wd21 {Z : State} {a0 : Array Value} (hw : ∀ d ∈ tables_1, d.before a0 Z = true) : (Jvm.Cond.lays "com/example/protomata/protomata/Partition" "com/example/protomata/protomata/Partition" "stamps" "[I").before a0 Z = true := hw _ (List.mem_of_getElem? (i := 21) rfl)
theorem wd22 {Z : State} {a0 : Array Value} (hw : ∀ d ∈ tables_1, d.before a0 Z = true) : (Jvm.Cond.fieldLink "com/example/protomata/protomata/Partition" (16 : Nat) "com/example/protomata/protomata/Partition" "sizes" "[I").before a0 Z = true := hw _ (List.mem_of_getElem? (i := 22) rfl)
theorem wd23 {Z : State} {a0 : Array Value} (hw : ∀ d ∈ tables_1, d.before a0 Z = true) : (Jvm.Cond.lays "com/example/protomata/protomata/Partition" "com/example/protomata/protomata/Partition" "sizes" "[I").before a0 Z = true := hw _ (List.mem_of_getElem? (i := 23) rfl)
theorem wd24 {Z : State} {a0 : Array Value} (hw : ∀ d ∈ tables_1, d.before a0 Z = true) : (Jvm.Cond.methodLink "com/example/protomata/protomata/PartitionPutPinLaw" (20 : Nat) ({ cls := "com/example/protomata/protomata/Partition", name := "begin", desc := "(III)Lcom/example/protomata/protomata/Partition;" } : Jvm.MethodName)).before a0 Z = true := hw _ (List.mem_of_getElem? (i := 24) rfl)
theorem wd25 {Z : State} {a0 : Array Value} (hw : ∀ d ∈ tables_1, d.before a0 Z = true) : (Jvm.Cond.declares ({ cls := "com/example/protomata/protomata/Partition", name := "begin", desc := "(III)Lcom/example/protomata/protomata/Partition;" } : Jvm.MethodName)).before a0 Z = true := hw _ (List.mem_of_getElem? (i := 25) rfl)
theorem wd26 {Z : State} {a0 : Array Value} (hw : ∀ d ∈ tables_1, d.before a0 Z = true) : (Jvm.Cond.instanceMethod ({ cls := "com/example/protomata/protomata/Partition", name := "begin", desc := "(III)Lcom/example/protomata/protomata/Partition;" } : Jvm.MethodName)).before a0 Z = true := hw _ (List.mem_of_getElem? (i := 26) rfl)
theorem wd27 {Z : State} {a0 : Array Value} (hw : ∀ d ∈ tables_1, d.before a0 Z = true) : (Jvm.Cond.selects "com/example/protomata/protomata/Partition" ({ cls := "com/example/protomata/protomata/Partition", name := "begin", desc := "(III)Lcom/example/protomata/protomata/Partition;" } : Jvm.MethodName) ({ cls := "com/example/protomata/protomata/Partition", name := "begin", desc := "(III)Lcom/example/protomata/protomata/Partition;" } : Jvm.MethodName)).before a0 Z = true := hw _ (List.mem_of_getElem? (i := 27) rfl)
theorem wd28 {Z : State} {a0 : Array Value} (hw : ∀ d ∈ tables_1, d.before a0 Z = true) : (Jvm.Cond.code ({ cls := "com/example/protomata/protomata/Partition", name := "begin", desc := "(III)Lcom/example/protomata/protomata/Partition;" } : Jvm.MethodName) prog_101_method_2_code (5 : Nat) (Option.some (Jvm.ClassFile.FieldType.object "com/example/protomata/protomata/Partition"))).before a0 Z = true := hw _ (List.mem_of_getElem? (i := 28) rfl)
theorem wd29 {Z : State} {a0 : Array Value} (hw : ∀ d ∈ tables_1, d.before a0 Z = true) : (Jvm.Cond.fieldLink "com/example/protomata/protomata/Partition" (19 : Nat) "com/example/protomata/protomata/Partition" "answerCount" "I").before a0 Z = true := hw _ (List.mem_of_getElem? (i := 29) rfl)
theorem wd30 {Z : State} {a0 : Array Value} (hw : ∀ d ∈ tables_1, d.before a0 Z = true) : (Jvm.Cond.lays "com/example/protomata/protomata/Partition" "com/example/protomata/protomata/Partition" "answerCount" "I").before a0 Z = true := hw _ (List.mem_of_getElem? (i := 30) rfl)
theorem wd31 {Z : State} {a0 : Array Value} (hw : ∀ d ∈ tables_1, d.before a0 Z = true) : (Jvm.Cond.methodLink "com/example/protomata/protomata/Partition" (23 : Nat) ({ cls := "java/lang/Math", name := "multiplyExact", desc := "(II)I" } : Jvm.MethodName)).before a0 Z = true := hw _ (List.mem_of_getElem? (i := 31) rfl)
theorem wd32 {Z : State} {a0 : Array Value} (hw : ∀ d ∈ tables_1, d.before a0 Z = true) : (Jvm.Cond.static ({ cls := "java/lang/Math", name := "multiplyExact", desc := "(II)I" } : Jvm.MethodName)).before a0 Z = true := hw _ (List.mem_of_getElem? (i := 32) rfl)
theorem wd33 {Z : State} {a0 : Array Value} (hw : ∀ d ∈ tables_1, d.before a0 Z = true) : (Jvm.Cond.initialized "java/lang/Math").before a0 Z = true := hw _ (List.mem_of_getElem? (i := 33) rfl)
theorem wd34 {Z : State} {a0 : Array Value} (hw : ∀ d ∈ tables_1, d.before a0 Z = true) : (Jvm.Cond.code ({ cls := "java/lang/Math", name := "multiplyExact", desc := "(II)I" } : Jvm.MethodName) jdk_29_method_28_code (4 : Nat) (Option.some Jvm.ClassFile.FieldType.int)).before a0 Z = true := hw _ (List.mem_of_getElem? (i := 34) rfl)
theorem wd35 {Z : State} {a0 : Array Value} (hw : ∀ d ∈ tables_1, d.before a0 Z = true) : (Jvm.Cond.fieldLink "com/example/protomata/protomata/Partition" (29 : Nat) "com/example/protomata/protomata/Partition" "stamp" "I").before a0 Z = true := hw _ (List.mem_of_getElem? (i := 35) rfl)
theorem wd36 {Z : State} {a0 : Array Value} (hw : ∀ d ∈ tables_1, d.before a0 Z = true) : (Jvm.Cond.lays "com/example/protomata/protomata/Partition" "com/example/protomata/protomata/Partition" "stamp" "I").before a0 Z = true := hw _ (List.mem_of_getElem? (i := 36) rfl)
theorem wd37 {Z : State} {a0 : Array Value} (hw : ∀ d ∈ tables_1, d.before a0 Z = true) : (Jvm.Cond.constant "com/example/protomata/protomata/Partition" (34 : Nat) (2147483647 : Int32)).before a0 Z = true := hw _ (List.mem_of_getElem? (i := 37) rfl)
theorem wd38 {Z : State} {a0 : Array Value} (hw : ∀ d ∈ tables_1, d.before a0 Z = true) : (Jvm.Cond.fieldLink "com/example/protomata/protomata/Partition" (41 : Nat) "com/example/protomata/protomata/Partition" "groupCount" "I").before a0 Z = true := hw _ (List.mem_of_getElem? (i := 38) rfl)
theorem wd39 {Z : State} {a0 : Array Value} (hw : ∀ d ∈ tables_1, d.before a0 Z = true) : (Jvm.Cond.lays "com/example/protomata/protomata/Partition" "com/example/protomata/protomata/Partition" "groupCount" "I").before a0 Z = true := hw _ (List.mem_of_getElem? (i := 39) rfl)
theorem wd40 {Z : State} {a0 : Array Value} (hw : ∀ d ∈ tables_1, d.before a0 Z = true) : (Jvm.Cond.fieldLink "com/example/protomata/protomata/Partition" (44 : Nat) "com/example/protomata/protomata/Partition" "squares" "J").before a0 Z = true := hw _ (List.mem_of_getElem? (i := 40) rfl)
theorem wd41 {Z : State} {a0 : Array Value} (hw : ∀ d ∈ tables_1, d.before a0 Z = true) : (Jvm.Cond.lays "com/example/protomata/protomata/Partition" "com/example/protomata/protomata/Partition" "squares" "J").before a0 Z = true := hw _ (List.mem_of_getElem? (i := 41) rfl)
theorem wd42 {Z : State} {a0 : Array Value} (hw : ∀ d ∈ tables_1, d.before a0 Z = true) : (Jvm.Cond.methodLink "com/example/protomata/protomata/PartitionPutPinLaw" (24 : Nat) ({ cls := "com/example/protomata/protomata/Partition", name := "put", desc := "(II)I" } : Jvm.MethodName)).before a0 Z = true := hw _ (List.mem_of_getElem? (i := 42) rfl)
theorem wd43 {Z : State} {a0 : Array Value} (hw : ∀ d ∈ tables_1, d.before a0 Z = true) : (Jvm.Cond.declares ({ cls := "com/example/protomata/protomata/Partition", name := "put", desc := "(II)I" } : Jvm.MethodName)).before a0 Z = true := hw _ (List.mem_of_getElem? (i := 43) rfl)
theorem wd44 {Z : State} {a0 : Array Value} (hw : ∀ d ∈ tables_1, d.before a0 Z = true) : (Jvm.Cond.instanceMethod ({ cls := "com/example/protomata/protomata/Partition", name := "put", desc := "(II)I" } : Jvm.MethodName)).before a0 Z = true := hw _ (List.mem_of_getElem? (i := 44) rfl)
theorem wd45 {Z : State} {a0 : Array Value} (hw : ∀ d ∈ tables_1, d.before a0 Z = true) : (Jvm.Cond.selects "com/example/protomata/protomata/Partition" ({ cls := "com/example/protomata/protomata/Partition", name := "put", desc := "(II)I" } : Jvm.MethodName) ({ cls := "com/example/protomata/protomata/Partition", name := "put", desc := "(II)I" } : Jvm.MethodName)).before a0 Z = true := hw _ (List.mem_of_getElem? (i := 45) rfl)
theorem wd46 {Z : State} {a0 : Array Value} (hw : ∀ d ∈ tables_1, d.before a0 Z = true) : (Jvm.Cond.code ({ cls := "com/example/protomata/protomata/Partition", name := "put", desc := "(II)I" } : Jvm.MethodName) prog_101_method_3_code (5 : Nat) (Option.some Jvm.ClassFile.FieldType.int)).before a0 Z = true := hw _ (List.mem_of_getElem? (i := 46) rfl)
theorem wd47 {Z : State} {a0 : Array Value} (hw : ∀ d ∈ tables_1, d.before a0 Z = true) : (Jvm.Cond.constantLong "com/example/protomata/protomata/Partition" (48 : Nat) (2 : Int64)).before a0 Z = true := hw _ (List.mem_of_getElem? (i := 47) rfl)
theorem wd48 {Z : State} {a0 : Array Value} (hw : ∀ d ∈ tables_1, d.before a0 Z = true) : (Jvm.Cond.methodLink "com/example/protomata/protomata/PartitionPutPinLaw" (27 : Nat) ({ cls := "com/example/protomata/protomata/PartitionPutPinLaw", name := "same", desc := "(IIII)Z" } : Jvm.MethodName)).before a0 Z = true := hw _ (List.mem_of_getElem? (i := 48) rfl)
theorem wd49 {Z : State} {a0 : Array Value} (hw : ∀ d ∈ tables_1, d.before a0 Z = true) : (Jvm.Cond.static ({ cls := "com/example/protomata/protomata/PartitionPutPinLaw", name := "same", desc := "(IIII)Z" } : Jvm.MethodName)).before a0 Z = true := hw _ (List.mem_of_getElem? (i := 49) rfl)
theorem wd50 {Z : State} {a0 : Array Value} (hw : ∀ d ∈ tables_1, d.before a0 Z = true) : (Jvm.Cond.code ({ cls := "com/example/protomata/protomata/PartitionPutPinLaw", name := "same", desc := "(IIII)Z" } : Jvm.MethodName) method_4_code (4 : Nat) (Option.some Jvm.ClassFile.FieldType.boolean)).before a0 Z = true := hw _ (List.mem_of_getElem? (i := 50) rfl)
theorem wd51 {Z : State} {a0 : Array Value} (hw : ∀ d ∈ tables_1, d.before a0 Z = true) : (Jvm.Cond.methodLink "com/example/protomata/protomata/PartitionPutPinLaw" (31 : Nat) ({ cls := "com/example/protomata/protomata/PartitionPutPinLaw", name := "one", desc := "(Z)I" } : Jvm.MethodName)).before a0 Z = true := hw _ (List.mem_of_getElem? (i := 51) rfl)
theorem wd52 {Z : State} {a0 : Array Value} (hw : ∀ d ∈ tables_1, d.before a0 Z = true) : (Jvm.Cond.static ({ cls := "com/example/protomata/protomata/PartitionPutPinLaw", name := "one", desc := "(Z)I" } : Jvm.MethodName)).before a0 Z = true := hw _ (List.mem_of_getElem? (i := 52) rfl)
theorem wd53 {Z : State} {a0 : Array Value} (hw : ∀ d ∈ tables_1, d.before a0 Z = true) : (Jvm.Cond.code ({ cls := "com/example/protomata/protomata/PartitionPutPinLaw", name := "one", desc := "(Z)I" } : Jvm.MethodName) method_5_code (1 : Nat) (Option.some Jvm.ClassFile.FieldType.int)).before a0 Z = true := hw _ (List.mem_of_getElem? (i := 53) rfl)
theorem wd54 {Z : State} {a0 : Array Value} (hw : ∀ d ∈ tables_1, d.before a0 Z = true) : (Jvm.Cond.constantLong "com/example/protomata/protomata/PartitionPutPinLaw" (35 : Nat) (4 : Int64)).before a0 Z = true := hw _ (List.mem_of_getElem? (i := 54) rfl)
theorem wd55 {Z : State} {a0 : Array Value} (hw : ∀ d ∈ tables_1, d.before a0 Z = true) : (Jvm.Cond.constantLong "com/example/protomata/protomata/PartitionPutPinLaw" (37 : Nat) (2 : Int64)).before a0 Z = true := hw _ (List.mem_of_getElem? (i := 55) rfl)
theorem wd56 {Z : State} {a0 : Array Value} (hw : ∀ d ∈ tables_1, d.before a0 Z = true) : (Jvm.Cond.methodLink "com/example/protomata/protomata/PartitionPutPinLaw" (39 : Nat) ({ cls := "com/example/protomata/protomata/Partition", name := "groupCount", desc := "()I" } : Jvm.MethodName)).before a0 Z = true := hw _ (List.mem_of_getElem? (i := 56) rfl)
theorem wd57 {Z : State} {a0 : Array Value} (hw : ∀ d ∈ tables_1, d.before a0 Z = true) : (Jvm.Cond.declares ({ cls := "com/example/protomata/protomata/Partition", name := "groupCount", desc := "()I" } : Jvm.MethodName)).before a0 Z = true := hw _ (List.mem_of_getElem? (i := 57) rfl)
theorem wd58 {Z : State} {a0 : Array Value} (hw : ∀ d ∈ tables_1, d.before a0 Z = true) : (Jvm.Cond.instanceMethod ({ cls := "com/example/protomata/protomata/Partition", name := "groupCount", desc := "()I" } : Jvm.MethodName)).before a0 Z = true := hw _ (List.mem_of_getElem? (i := 58) rfl)
theorem wd59 {Z : State} {a0 : Array Value} (hw : ∀ d ∈ tables_1, d.before a0 Z = true) : (Jvm.Cond.selects "com/example/protomata/protomata/Partition" ({ cls := "com/example/protomata/protomata/Partition", name := "groupCount", desc := "()I" } : Jvm.MethodName) ({ cls := "com/example/protomata/protomata/Partition", name := "groupCount", desc := "()I" } : Jvm.MethodName)).before a0 Z = true := hw _ (List.mem_of_getElem? (i := 59) rfl)
theorem wd60 {Z : State} {a0 : Array Value} (hw : ∀ d ∈ tables_1, d.before a0 Z = true) : (Jvm.Cond.code ({ cls := "com/example/protomata/protomata/Partition", name := "groupCount", desc := "()I" } : Jvm.MethodName) prog_101_method_4_code (1 : Nat) (Option.some Jvm.ClassFile.FieldType.int)).before a0 Z = true := hw _ (List.mem_of_getElem? (i := 60) rfl)
theorem wd61 {Z : State} {a0 : Array Value} (hw : ∀ d ∈ tables_1, d.before a0 Z = true) : (Jvm.Cond.methodLink "com/example/protomata/protomata/PartitionPutPinLaw" (43 : Nat) ({ cls := "com/example/protomata/protomata/Partition", name := "squares", desc := "()J" } : Jvm.MethodName)).before a0 Z = true := hw _ (List.mem_of_getElem? (i := 61) rfl)
theorem wd62 {Z : State} {a0 : Array Value} (hw : ∀ d ∈ tables_1, d.before a0 Z = true) : (Jvm.Cond.declares ({ cls := "com/example/protomata/protomata/Partition", name := "squares", desc := "()J" } : Jvm.MethodName)).before a0 Z = true := hw _ (List.mem_of_getElem? (i := 62) rfl)
theorem wd63 {Z : State} {a0 : Array Value} (hw : ∀ d ∈ tables_1, d.before a0 Z = true) : (Jvm.Cond.instanceMethod ({ cls := "com/example/protomata/protomata/Partition", name := "squares", desc := "()J" } : Jvm.MethodName)).before a0 Z = true := hw _ (List.mem_of_getElem? (i := 63) rfl)
theorem wd64 {Z : State} {a0 : Array Value} (hw : ∀ d ∈ tables_1, d.before a0 Z = true) : (Jvm.Cond.selects "com/example/protomata/protomata/Partition" ({ cls := "com/example/protomata/protomata/Partition", name := "squares", desc := "()J" } : Jvm.MethodName) ({ cls := "com/example/protomata/protomata/Partition", name := "squares", desc := "()J" } : Jvm.MethodName)).before a0 Z = true := hw _ (List.mem_of_getElem? (i := 64) rfl)
theorem wd65 {Z : State} {a0 : Array Value} (hw : ∀ d ∈ tables_1, d.before a0 Z = true) : (Jvm.Cond.code ({ cls := "com/example/protomata/protomata/Partition", name := "squares", desc := "()J" } : Jvm.MethodName) prog_101_method_6_code (1 : Nat) (Option.some Jvm.ClassFile.FieldType.long)).before a0 Z = true := hw _ (List.mem_of_getElem? (i := 65) rfl)
def fl_C0 : List (String × String) := [("cells", "[I"), ("stamps", "[I"), ("sizes", "[I"), ("answerCount", "I"), ("stamp", "I"), ("groupCount", "I"), ("squares", "J")]
def dv_C0 : List Value := [Value.null, Value.null, Value.null, Value.int 0, Value.int 0, Value.int 0, Value.long 0]
theorem la_C0 {Z : State} {a0 : Array Value} (hw : ∀ d ∈ tables_1, d.before a0 Z = true) : ∀ (j : Nat) (n d : String), fl_C0[j]? = some (n, d) → Laid Z a0 "com/example/protomata/protomata/Partition" "com/example/protomata/protomata/Partition" n d ∧ ∃ t, parseFieldDescriptor d = some t
  | 0, n, d, h => by have h : some ("cells", "[I") = some (n, d) := h; cases h; exact ⟨Or.inl (wd19 hw), (.array .int), by decide⟩
  | 1, n, d, h => by have h : some ("stamps", "[I") = some (n, d) := h; cases h; exact ⟨Or.inl (wd21 hw), (.array .int), by decide⟩
  | 2, n, d, h => by have h : some ("sizes", "[I") = some (n, d) := h; cases h; exact ⟨Or.inl (wd23 hw), (.array .int), by decide⟩
  | 3, n, d, h => by have h : some ("answerCount", "I") = some (n, d) := h; cases h; exact ⟨Or.inl (wd30 hw), .int, by decide⟩
  | 4, n, d, h => by have h : some ("stamp", "I") = some (n, d) := h; cases h; exact ⟨Or.inl (wd36 hw), .int, by decide⟩
  | 5, n, d, h => by have h : some ("groupCount", "I") = some (n, d) := h; cases h; exact ⟨Or.inl (wd39 hw), .int, by decide⟩
  | 6, n, d, h => by have h : some ("squares", "J") = some (n, d) := h; cases h; exact ⟨Or.inl (wd41 hw), .long, by decide⟩
  | j + 7, n, d, h => by have h : none = some (n, d) := h; cases h
theorem ly_C0 {Z : State} {a0 : Array Value} (hw : ∀ d ∈ tables_1, d.before a0 Z = true) : ∀ (j : Nat) (n d : String) (v : Value), fl_C0[j]? = some (n, d) → dv_C0[j]? = some v → Laid Z a0 "com/example/protomata/protomata/Partition" "com/example/protomata/protomata/Partition" n d ∧ ∃ ty, parseFieldDescriptor d = some ty ∧ defaultValue ty = v
  | 0, n, d, v, h, h' => by have h : some ("cells", "[I") = some (n, d) := h; have h' : some _ = some v := h'; cases h; cases h'; exact ⟨Or.inl (wd19 hw), (.array .int), by decide, rfl⟩
  | 1, n, d, v, h, h' => by have h : some ("stamps", "[I") = some (n, d) := h; have h' : some _ = some v := h'; cases h; cases h'; exact ⟨Or.inl (wd21 hw), (.array .int), by decide, rfl⟩
  | 2, n, d, v, h, h' => by have h : some ("sizes", "[I") = some (n, d) := h; have h' : some _ = some v := h'; cases h; cases h'; exact ⟨Or.inl (wd23 hw), (.array .int), by decide, rfl⟩
  | 3, n, d, v, h, h' => by have h : some ("answerCount", "I") = some (n, d) := h; have h' : some _ = some v := h'; cases h; cases h'; exact ⟨Or.inl (wd30 hw), .int, by decide, rfl⟩
  | 4, n, d, v, h, h' => by have h : some ("stamp", "I") = some (n, d) := h; have h' : some _ = some v := h'; cases h; cases h'; exact ⟨Or.inl (wd36 hw), .int, by decide, rfl⟩
  | 5, n, d, v, h, h' => by have h : some ("groupCount", "I") = some (n, d) := h; have h' : some _ = some v := h'; cases h; cases h'; exact ⟨Or.inl (wd39 hw), .int, by decide, rfl⟩
  | 6, n, d, v, h, h' => by have h : some ("squares", "J") = some (n, d) := h; have h' : some _ = some v := h'; cases h; cases h'; exact ⟨Or.inl (wd41 hw), .long, by decide, rfl⟩
  | j + 7, n, d, v, h, h' => by have h : none = some (n, d) := h; cases h
theorem di_C0 {Z : State} {a0 : Array Value} (hw : ∀ d ∈ tables_1, d.before a0 Z = true) : Dis Z "com/example/protomata/protomata/Partition" fl_C0 := own_dis (la_C0 hw) (by decide +kernel)
theorem own_nz {n : Nat} (h : 0 < n) (h2 : n < 2147483648) : Int32.ofNat n ≠ 0 := fun q => by
  have := (own_oeq (a := n) (b := 0) h2 (by omega)).mp q
  omega
theorem own_g (y : Int32) : ∃ g : Nat, 1 ≤ g ∧ g ≤ 4 ∧ (1 : Int32) + (y &&& (3 : Int32)) = Int32.ofNat g := by
  obtain ⟨k, hk, e⟩ := own_andk y 3 3 (by decide)
  exact ⟨1 + k, by omega, by omega, by rw [e]; exact own_oadd 1 k⟩
theorem own_m16 {x y : Nat} (h1 : 1 ≤ x) (h2 : x ≤ 4) (h3 : 1 ≤ y) (h4 : y ≤ 4) : 1 ≤ x * y ∧ x * y ≤ 16 :=
  ⟨Nat.mul_le_mul h1 h3, Nat.mul_le_mul h2 h4⟩
theorem own_key {b c g a : Nat} (hb : b < g) (hc : c < a) : b * a + c < g * a := by
  have h : (b + 1) * a ≤ g * a := Nat.mul_le_mul_right a hb
  rw [Nat.add_mul] at h
  omega
theorem own_inj {b c b' c' a : Nat} (hc : c < a) (hc' : c' < a) (h : b * a + c = b' * a + c') : b = b' ∧ c = c' := by
  have e1 : (b * a + c) / a = b := by rw [Nat.mul_comm, Nat.mul_add_div (by omega), Nat.div_eq_of_lt hc]; rfl
  have e2 : (b' * a + c') / a = b' := by rw [Nat.mul_comm, Nat.mul_add_div (by omega), Nat.div_eq_of_lt hc']; rfl
  have e3 : b = b' := by rw [← e1, ← e2, h]
  subst e3
  exact ⟨rfl, by omega⟩
theorem own_rep0 (n i : Nat) : (List.replicate n (0 : Int32)).getD i 0 = 0 := by
  rw [List.getD_eq_getElem?_getD, List.getElem?_replicate]
  split <;> rfl
theorem own_gs (l : List Int32) (i j : Nat) (x : Int32) : (l.set i x).getD j 0 = if i = j ∧ j < l.length then x else l.getD j 0 := by
  simp only [List.getD_eq_getElem?_getD, List.getElem?_set]
  by_cases h : i = j
  · subst h
    by_cases h2 : i < l.length
    · simp [h2]
    · simp [h2]
  · simp [h]
theorem own_01r (n : Nat) : ∀ x, (List.replicate n (0 : Int32)).getD x 0 = 0 ∨ (List.replicate n (0 : Int32)).getD x 0 = 1 := fun x => Or.inl (own_rep0 n x)
theorem own_01s {l : List Int32} {i : Nat} (h : ∀ x, l.getD x 0 = 0 ∨ l.getD x 0 = 1) : ∀ x, (l.set i 1).getD x 0 = 0 ∨ (l.set i 1).getD x 0 = 1 := fun x => by
  rw [own_gs]
  by_cases q : i = x ∧ x < l.length
  · rw [if_pos q]; exact Or.inr rfl
  · rw [if_neg q]; exact h x
theorem d1_0 : decode method_2_code 0 = .ok (.iload_n 0, 1) := by decide +kernel
theorem d1_1 : decode method_2_code 1 = .ok (.bipush 16, 2) := by decide +kernel
theorem d1_3 : decode method_2_code 3 = .ok (.iushr, 1) := by decide +kernel
theorem d1_4 : decode method_2_code 4 = .ok (.sipush 32767, 3) := by decide +kernel
theorem d1_7 : decode method_2_code 7 = .ok (.iand, 1) := by decide +kernel
theorem d1_8 : decode method_2_code 8 = .ok (.iload_n 1, 1) := by decide +kernel
theorem d1_9 : decode method_2_code 9 = .ok (.irem, 1) := by decide +kernel
theorem d1_10 : decode method_2_code 10 = .ok (.ireturn, 1) := by decide +kernel
theorem pn1 : plainFor (⟨"com/example/protomata/protomata/PartitionPutPinLaw", "bef", "(II)I"⟩ : MethodName) = true := plainFor_of_name (by first | (simp [plainName, overriddenIn]; done) | decide +kernel)
theorem pd1 : parseMethodDescriptor (⟨"com/example/protomata/protomata/PartitionPutPinLaw", "bef", "(II)I"⟩ : MethodName).desc = some ⟨[.int, .int], some .int⟩ := by decide +kernel
theorem ef1 (m : MethodId) (x0 : Int32) (x1 : Int32) : entryFrame m #[Value.int x0, Value.int x1] 2 = mkF m 0 #[.val (.int x0), .val (.int x1)] [] := by first | (simp [entryFrame, mkF, argsToLocals, Value.category]; done) | rfl
def sp1 (x0 : Int32) (x1 : Int32) : Int32 := (((XT.ushr x0 (16 : Int32)) &&& (32767 : Int32)) % x1)
set_option maxRecDepth 65536 in
set_option maxHeartbeats 40000000 in
theorem rm1 (l : Launch) (Z : State) (a0 : Array Value) (hw : ∀ d ∈ tables_1, d.before a0 Z = true) (ws : List Jvm.Cond) (x0 : Int32) (x1 : Int32) (hh : Heap) (hp : x1 ≠ 0) :
    MetFree l (⟨"com/example/protomata/protomata/PartitionPutPinLaw", "bef", "(II)I"⟩ : MethodName) (head1 (Jvm.Cond.code (⟨"com/example/protomata/protomata/PartitionPutPinLaw", "bef", "(II)I"⟩ : MethodName) method_2_code 2 (some .int) :: ws) ({ frames := 0, cells := 0, slots := 0, locals := 0 } : Room)) (fun aa U => aa = #[Value.int x0, Value.int x1] ∧ Z.Warmed39 U.vm ∧ U.heap = hh) (fun _ _ _ _ _ => True) (fun _ U o U' => ∃ v L, o = .returned v ∧ PureQ (Value.int (sp1 x0 x1)) hh v U'.heap L ∧ FrameEnd U o U' L ({ frames := 0, cells := 0, slots := 0, locals := 0 } : Room).cells ({ frames := 0, cells := 0, slots := 0, locals := 0 } : Room).slots) := by
  refine own_body pn1 ?_
  intro p e s m below meth c T0 hx hby hml hret hlk hown hnm hZ X0 e0
  refine own_cast (ef1 m x0 x1) ?_
  refine w_iloadN X0 hx (hb hby d1_0) rfl (pc' := 1) rfl ?_
  refine w_bipush (v := (16 : Int32)) X0 hx (hb hby d1_1) rfl (pc' := 3) rfl ?_
  refine w_iushr X0 hx (hb hby d1_3) (pc' := 4) rfl ?_
  refine w_sipush (v := (32767 : Int32)) X0 hx (hb hby d1_4) rfl (pc' := 7) rfl ?_
  refine w_iand X0 hx (hb hby d1_7) (pc' := 8) rfl ?_
  refine w_iloadN X0 hx (hb hby d1_8) rfl (pc' := 9) rfl ?_
  refine w_irem X0 hx (hb hby d1_9) hp (pc' := 10) rfl ?_
  exact w_ret_i X0 hx hret hlk (hb hby d1_10) (by decide) (by decide) ⟨(congrArg (fun q => some (Value.int q)) (show (((XT.ushr x0 (16 : Int32)) &&& (32767 : Int32)) % x1) = sp1 x0 x1 from by rw [sp1])), rfl, e0⟩
theorem d2_0 : decode method_3_code 0 = .ok (.iload_n 0, 1) := by decide +kernel
theorem d2_1 : decode method_3_code 1 = .ok (.ldc 7, 2) := by decide +kernel
theorem d2_3 : decode method_3_code 3 = .ok (.iand, 1) := by decide +kernel
theorem d2_4 : decode method_3_code 4 = .ok (.iload_n 1, 1) := by decide +kernel
theorem d2_5 : decode method_3_code 5 = .ok (.irem, 1) := by decide +kernel
theorem d2_6 : decode method_3_code 6 = .ok (.ireturn, 1) := by decide +kernel
theorem pn2 : plainFor (⟨"com/example/protomata/protomata/PartitionPutPinLaw", "ans", "(II)I"⟩ : MethodName) = true := plainFor_of_name (by first | (simp [plainName, overriddenIn]; done) | decide +kernel)
theorem pd2 : parseMethodDescriptor (⟨"com/example/protomata/protomata/PartitionPutPinLaw", "ans", "(II)I"⟩ : MethodName).desc = some ⟨[.int, .int], some .int⟩ := by decide +kernel
theorem ef2 (m : MethodId) (x0 : Int32) (x1 : Int32) : entryFrame m #[Value.int x0, Value.int x1] 2 = mkF m 0 #[.val (.int x0), .val (.int x1)] [] := by first | (simp [entryFrame, mkF, argsToLocals, Value.category]; done) | rfl
def sp2 (x0 : Int32) (x1 : Int32) : Int32 := ((x0 &&& (65535 : Int32)) % x1)
set_option maxRecDepth 65536 in
set_option maxHeartbeats 40000000 in
theorem rm2 (l : Launch) (Z : State) (a0 : Array Value) (hw : ∀ d ∈ tables_1, d.before a0 Z = true) (ws : List Jvm.Cond) (x0 : Int32) (x1 : Int32) (hh : Heap) (hp : x1 ≠ 0) :
    MetFree l (⟨"com/example/protomata/protomata/PartitionPutPinLaw", "ans", "(II)I"⟩ : MethodName) (head1 (Jvm.Cond.code (⟨"com/example/protomata/protomata/PartitionPutPinLaw", "ans", "(II)I"⟩ : MethodName) method_3_code 2 (some .int) :: ws) ({ frames := 0, cells := 0, slots := 0, locals := 0 } : Room)) (fun aa U => aa = #[Value.int x0, Value.int x1] ∧ Z.Warmed39 U.vm ∧ U.heap = hh) (fun _ _ _ _ _ => True) (fun _ U o U' => ∃ v L, o = .returned v ∧ PureQ (Value.int (sp2 x0 x1)) hh v U'.heap L ∧ FrameEnd U o U' L ({ frames := 0, cells := 0, slots := 0, locals := 0 } : Room).cells ({ frames := 0, cells := 0, slots := 0, locals := 0 } : Room).slots) := by
  refine own_body pn2 ?_
  intro p e s m below meth c T0 hx hby hml hret hlk hown hnm hZ X0 e0
  refine own_cast (ef2 m x0 x1) ?_
  refine w_iloadN X0 hx (hb hby d2_0) rfl (pc' := 1) rfl ?_
  refine w_ldc X0 hx (hb hby d2_1) hown (mvT hZ (wd7 hw)) (pc' := 3) rfl ?_
  refine w_iand X0 hx (hb hby d2_3) (pc' := 4) rfl ?_
  refine w_iloadN X0 hx (hb hby d2_4) rfl (pc' := 5) rfl ?_
  refine w_irem X0 hx (hb hby d2_5) hp (pc' := 6) rfl ?_
  exact w_ret_i X0 hx hret hlk (hb hby d2_6) (by decide) (by decide) ⟨(congrArg (fun q => some (Value.int q)) (show ((x0 &&& (65535 : Int32)) % x1) = sp2 x0 x1 from by rw [sp2])), rfl, e0⟩
theorem d8_0 : decode method_4_code 0 = .ok (.iload_n 0, 1) := by decide +kernel
theorem d8_1 : decode method_4_code 1 = .ok (.iload_n 2, 1) := by decide +kernel
theorem d8_2 : decode method_4_code 2 = .ok (.if_icmp .ne 12, 3) := by decide +kernel
theorem d8_5 : decode method_4_code 5 = .ok (.iload_n 1, 1) := by decide +kernel
theorem d8_6 : decode method_4_code 6 = .ok (.iload_n 3, 1) := by decide +kernel
theorem d8_7 : decode method_4_code 7 = .ok (.if_icmp .ne 7, 3) := by decide +kernel
theorem d8_10 : decode method_4_code 10 = .ok (.iconst 1, 1) := by decide +kernel
theorem d8_11 : decode method_4_code 11 = .ok (.goto 4, 3) := by decide +kernel
theorem d8_14 : decode method_4_code 14 = .ok (.iconst 0, 1) := by decide +kernel
theorem d8_15 : decode method_4_code 15 = .ok (.ireturn, 1) := by decide +kernel
theorem pn8 : plainFor (⟨"com/example/protomata/protomata/PartitionPutPinLaw", "same", "(IIII)Z"⟩ : MethodName) = true := plainFor_of_name (by first | (simp [plainName, overriddenIn]; done) | decide +kernel)
theorem pd8 : parseMethodDescriptor (⟨"com/example/protomata/protomata/PartitionPutPinLaw", "same", "(IIII)Z"⟩ : MethodName).desc = some ⟨[.int, .int, .int, .int], some .boolean⟩ := by decide +kernel
theorem ef8 (m : MethodId) (x0 : Int32) (x1 : Int32) (x2 : Int32) (x3 : Int32) : entryFrame m #[Value.int x0, Value.int x1, Value.int x2, Value.int x3] 4 = mkF m 0 #[.val (.int x0), .val (.int x1), .val (.int x2), .val (.int x3)] [] := by first | (simp [entryFrame, mkF, argsToLocals, Value.category]; done) | rfl
def sp8 (x0 : Int32) (x1 : Int32) (x2 : Int32) (x3 : Int32) : Int32 := (if x0 = x2 then (if x1 = x3 then (1 : Int32) else (0 : Int32)) else (0 : Int32))
set_option maxRecDepth 65536 in
set_option maxHeartbeats 40000000 in
theorem rm8 (l : Launch) (Z : State) (a0 : Array Value) (hw : ∀ d ∈ tables_1, d.before a0 Z = true) (ws : List Jvm.Cond) (x0 : Int32) (x1 : Int32) (x2 : Int32) (x3 : Int32) (hh : Heap) :
    MetFree l (⟨"com/example/protomata/protomata/PartitionPutPinLaw", "same", "(IIII)Z"⟩ : MethodName) (head1 (Jvm.Cond.code (⟨"com/example/protomata/protomata/PartitionPutPinLaw", "same", "(IIII)Z"⟩ : MethodName) method_4_code 4 (some .boolean) :: ws) ({ frames := 0, cells := 0, slots := 0, locals := 0 } : Room)) (fun aa U => aa = #[Value.int x0, Value.int x1, Value.int x2, Value.int x3] ∧ Z.Warmed39 U.vm ∧ U.heap = hh) (fun _ _ _ _ _ => True) (fun _ U o U' => ∃ v L, o = .returned v ∧ PureQ (Value.int (sp8 x0 x1 x2 x3)) hh v U'.heap L ∧ FrameEnd U o U' L ({ frames := 0, cells := 0, slots := 0, locals := 0 } : Room).cells ({ frames := 0, cells := 0, slots := 0, locals := 0 } : Room).slots) := by
  refine own_body pn8 ?_
  intro p e s m below meth c T0 hx hby hml hret hlk hown hnm hZ X0 e0
  refine own_cast (ef8 m x0 x1 x2 x3) ?_
  refine w_iloadN X0 hx (hb hby d8_0) rfl (pc' := 1) rfl ?_
  refine w_iloadN X0 hx (hb hby d8_1) rfl (pc' := 2) rfl ?_
  refine w_icmp_ne X0 hx (hb hby d8_2) (by decide) (pcY := 14) (by decide) (pc' := 5) rfl (fun h0 => ?_) (fun h0 => ?_)
  · refine w_iconst (v := (0 : Int32)) X0 hx (hb hby d8_14) rfl (pc' := 15) rfl ?_
    exact w_ret_n (t := .boolean) X0 hx hret hlk (by simp) (hb hby d8_15) (z' := (0 : Int32)) rfl (by decide) (by decide) ⟨(congrArg (fun q => some (Value.int q)) (show (0 : Int32) = sp8 x0 x1 x2 x3 from by rw [sp8, if_neg h0])), rfl, e0⟩
  · refine w_iloadN X0 hx (hb hby d8_5) rfl (pc' := 6) rfl ?_
    refine w_iloadN X0 hx (hb hby d8_6) rfl (pc' := 7) rfl ?_
    refine w_icmp_ne X0 hx (hb hby d8_7) (by decide) (pcY := 14) (by decide) (pc' := 10) rfl (fun h1 => ?_) (fun h1 => ?_)
    · refine w_iconst (v := (0 : Int32)) X0 hx (hb hby d8_14) rfl (pc' := 15) rfl ?_
      exact w_ret_n (t := .boolean) X0 hx hret hlk (by simp) (hb hby d8_15) (z' := (0 : Int32)) rfl (by decide) (by decide) ⟨(congrArg (fun q => some (Value.int q)) (show (0 : Int32) = sp8 x0 x1 x2 x3 from by rw [sp8, if_pos h0, if_neg h1])), rfl, e0⟩
    · refine w_iconst (v := (1 : Int32)) X0 hx (hb hby d8_10) rfl (pc' := 11) rfl ?_
      refine w_goto X0 hx (hb hby d8_11) (by decide) (pc' := 15) (by decide) ?_
      exact w_ret_n (t := .boolean) X0 hx hret hlk (by simp) (hb hby d8_15) (z' := (1 : Int32)) rfl (by decide) (by decide) ⟨(congrArg (fun q => some (Value.int q)) (show (1 : Int32) = sp8 x0 x1 x2 x3 from by rw [sp8, if_pos h0, if_pos h1])), rfl, e0⟩
theorem d9_0 : decode method_5_code 0 = .ok (.iload_n 0, 1) := by decide +kernel
theorem d9_1 : decode method_5_code 1 = .ok (.ifCond .eq 7, 3) := by decide +kernel
theorem d9_4 : decode method_5_code 4 = .ok (.iconst 1, 1) := by decide +kernel
theorem d9_5 : decode method_5_code 5 = .ok (.goto 4, 3) := by decide +kernel
theorem d9_8 : decode method_5_code 8 = .ok (.iconst 0, 1) := by decide +kernel
theorem d9_9 : decode method_5_code 9 = .ok (.ireturn, 1) := by decide +kernel
theorem pn9 : plainFor (⟨"com/example/protomata/protomata/PartitionPutPinLaw", "one", "(Z)I"⟩ : MethodName) = true := plainFor_of_name (by first | (simp [plainName, overriddenIn]; done) | decide +kernel)
theorem pd9 : parseMethodDescriptor (⟨"com/example/protomata/protomata/PartitionPutPinLaw", "one", "(Z)I"⟩ : MethodName).desc = some ⟨[.boolean], some .int⟩ := by decide +kernel
theorem ef9 (m : MethodId) (x0 : Int32) : entryFrame m #[Value.int x0] 1 = mkF m 0 #[.val (.int x0)] [] := by first | (simp [entryFrame, mkF, argsToLocals, Value.category]; done) | rfl
def sp9 (x0 : Int32) : Int32 := (if x0 = 0 then (0 : Int32) else (1 : Int32))
set_option maxRecDepth 65536 in
set_option maxHeartbeats 40000000 in
theorem rm9 (l : Launch) (Z : State) (a0 : Array Value) (hw : ∀ d ∈ tables_1, d.before a0 Z = true) (ws : List Jvm.Cond) (x0 : Int32) (hh : Heap) :
    MetFree l (⟨"com/example/protomata/protomata/PartitionPutPinLaw", "one", "(Z)I"⟩ : MethodName) (head1 (Jvm.Cond.code (⟨"com/example/protomata/protomata/PartitionPutPinLaw", "one", "(Z)I"⟩ : MethodName) method_5_code 1 (some .int) :: ws) ({ frames := 0, cells := 0, slots := 0, locals := 0 } : Room)) (fun aa U => aa = #[Value.int x0] ∧ Z.Warmed39 U.vm ∧ U.heap = hh) (fun _ _ _ _ _ => True) (fun _ U o U' => ∃ v L, o = .returned v ∧ PureQ (Value.int (sp9 x0)) hh v U'.heap L ∧ FrameEnd U o U' L ({ frames := 0, cells := 0, slots := 0, locals := 0 } : Room).cells ({ frames := 0, cells := 0, slots := 0, locals := 0 } : Room).slots) := by
  refine own_body pn9 ?_
  intro p e s m below meth c T0 hx hby hml hret hlk hown hnm hZ X0 e0
  refine own_cast (ef9 m x0) ?_
  refine w_iloadN X0 hx (hb hby d9_0) rfl (pc' := 1) rfl ?_
  refine w_if_eq X0 hx (hb hby d9_1) (by decide) (pcY := 8) (by decide) (pc' := 4) rfl (fun h0 => ?_) (fun h0 => ?_)
  · refine w_iconst (v := (0 : Int32)) X0 hx (hb hby d9_8) rfl (pc' := 9) rfl ?_
    exact w_ret_i X0 hx hret hlk (hb hby d9_9) (by decide) (by decide) ⟨(congrArg (fun q => some (Value.int q)) (show (0 : Int32) = sp9 x0 from by rw [sp9, if_pos h0])), rfl, e0⟩
  · refine w_iconst (v := (1 : Int32)) X0 hx (hb hby d9_4) rfl (pc' := 5) rfl ?_
    refine w_goto X0 hx (hb hby d9_5) (by decide) (pc' := 9) (by decide) ?_
    exact w_ret_i X0 hx hret hlk (hb hby d9_9) (by decide) (by decide) ⟨(congrArg (fun q => some (Value.int q)) (show (1 : Int32) = sp9 x0 from by rw [sp9, if_neg h0])), rfl, e0⟩
theorem d6_0 : decode jdk_29_method_28_code 0 = .ok (.iload_n 0, 1) := by decide +kernel
theorem d6_1 : decode jdk_29_method_28_code 1 = .ok (.i2l, 1) := by decide +kernel
theorem d6_2 : decode jdk_29_method_28_code 2 = .ok (.iload_n 1, 1) := by decide +kernel
theorem d6_3 : decode jdk_29_method_28_code 3 = .ok (.i2l, 1) := by decide +kernel
theorem d6_4 : decode jdk_29_method_28_code 4 = .ok (.lmul, 1) := by decide +kernel
theorem d6_5 : decode jdk_29_method_28_code 5 = .ok (.lstore_n 2, 1) := by decide +kernel
theorem d6_6 : decode jdk_29_method_28_code 6 = .ok (.lload_n 2, 1) := by decide +kernel
theorem d6_7 : decode jdk_29_method_28_code 7 = .ok (.l2i, 1) := by decide +kernel
theorem d6_8 : decode jdk_29_method_28_code 8 = .ok (.i2l, 1) := by decide +kernel
theorem d6_9 : decode jdk_29_method_28_code 9 = .ok (.lload_n 2, 1) := by decide +kernel
theorem d6_10 : decode jdk_29_method_28_code 10 = .ok (.lcmp, 1) := by decide +kernel
theorem d6_11 : decode jdk_29_method_28_code 11 = .ok (.ifCond .eq 13, 3) := by decide +kernel
theorem d6_14 : decode jdk_29_method_28_code 14 = .ok (.new 109, 3) := by decide +kernel
theorem d6_17 : decode jdk_29_method_28_code 17 = .ok (.dup, 1) := by decide +kernel
theorem d6_18 : decode jdk_29_method_28_code 18 = .ok (.ldc 111, 2) := by decide +kernel
theorem d6_20 : decode jdk_29_method_28_code 20 = .ok (.invokespecial 113, 3) := by decide +kernel
theorem d6_23 : decode jdk_29_method_28_code 23 = .ok (.athrow, 1) := by decide +kernel
theorem d6_24 : decode jdk_29_method_28_code 24 = .ok (.lload_n 2, 1) := by decide +kernel
theorem d6_25 : decode jdk_29_method_28_code 25 = .ok (.l2i, 1) := by decide +kernel
theorem d6_26 : decode jdk_29_method_28_code 26 = .ok (.ireturn, 1) := by decide +kernel
theorem pn6 : plainFor (⟨"java/lang/Math", "multiplyExact", "(II)I"⟩ : MethodName) = true := Jvm.Free.JP.mathPlain rfl (by decide +kernel)
theorem pd6 : parseMethodDescriptor (⟨"java/lang/Math", "multiplyExact", "(II)I"⟩ : MethodName).desc = some ⟨[.int, .int], some .int⟩ := by decide +kernel
theorem ef6 (m : MethodId) (x0 : Int32) (x1 : Int32) : entryFrame m #[Value.int x0, Value.int x1] 4 = mkF m 0 #[.val (.int x0), .val (.int x1), .unset, .unset] [] := by first | (simp [entryFrame, mkF, argsToLocals, Value.category]; done) | rfl
def sp6 (x0 : Int32) (x1 : Int32) : Int32 := (Int64.toInt32 ((Int32.toInt64 x0) * (Int32.toInt64 x1)))
set_option maxRecDepth 65536 in
set_option maxHeartbeats 40000000 in
theorem rm6 (l : Launch) (Z : State) (a0 : Array Value) (hw : ∀ d ∈ tables_1, d.before a0 Z = true) (ws : List Jvm.Cond) (x0 : Int32) (x1 : Int32) (hh : Heap) (hp : Int32.toInt64 (Int64.toInt32 (Int32.toInt64 x0 * Int32.toInt64 x1)) = Int32.toInt64 x0 * Int32.toInt64 x1) :
    MetFree l (⟨"java/lang/Math", "multiplyExact", "(II)I"⟩ : MethodName) (head1 (Jvm.Cond.code (⟨"java/lang/Math", "multiplyExact", "(II)I"⟩ : MethodName) jdk_29_method_28_code 4 (some .int) :: ws) ({ frames := 0, cells := 0, slots := 0, locals := 0 } : Room)) (fun aa U => aa = #[Value.int x0, Value.int x1] ∧ Z.Warmed39 U.vm ∧ U.heap = hh) (fun _ _ _ _ _ => True) (fun _ U o U' => ∃ v L, o = .returned v ∧ PureQ (Value.int (sp6 x0 x1)) hh v U'.heap L ∧ FrameEnd U o U' L ({ frames := 0, cells := 0, slots := 0, locals := 0 } : Room).cells ({ frames := 0, cells := 0, slots := 0, locals := 0 } : Room).slots) := by
  refine own_body pn6 ?_
  intro p e s m below meth c T0 hx hby hml hret hlk hown hnm hZ X0 e0
  refine own_cast (ef6 m x0 x1) ?_
  refine w_iloadN X0 hx (hb hby d6_0) rfl (pc' := 1) rfl ?_
  refine w_i2l X0 hx (hb hby d6_1) (pc' := 2) rfl ?_
  refine w_iloadN X0 hx (hb hby d6_2) rfl (pc' := 3) rfl ?_
  refine w_i2l X0 hx (hb hby d6_3) (pc' := 4) rfl ?_
  refine w_lmul X0 hx (hb hby d6_4) (pc' := 5) rfl ?_
  refine w_lstoreN (l' := #[.val (.int x0), .val (.int x1), .val (.long ((Int32.toInt64 x0) * (Int32.toInt64 x1))), .second]) X0 hx (hb hby d6_5) rfl (pc' := 6) rfl ?_
  refine w_lloadN X0 hx (hb hby d6_6) rfl (pc' := 7) rfl ?_
  refine w_l2i X0 hx (hb hby d6_7) (pc' := 8) rfl ?_
  refine w_i2l X0 hx (hb hby d6_8) (pc' := 9) rfl ?_
  refine w_lloadN X0 hx (hb hby d6_9) rfl (pc' := 10) rfl ?_
  refine w_lcmp_eq X0 hx (hb hby d6_10) rfl (hb hby d6_11) (by decide) (pcY := 24) (by decide) (pc' := 14) rfl (fun h0 => ?_) (fun h0 => absurd hp h0)
  refine w_lloadN X0 hx (hb hby d6_24) rfl (pc' := 25) rfl ?_
  refine w_l2i X0 hx (hb hby d6_25) (pc' := 26) rfl ?_
  exact w_ret_i X0 hx hret hlk (hb hby d6_26) (by decide) (by decide) ⟨(congrArg (fun q => some (Value.int q)) (show (Int64.toInt32 ((Int32.toInt64 x0) * (Int32.toInt64 x1))) = sp6 x0 x1 from by rw [sp6])), rfl, e0⟩
theorem own_mxp {a b : Nat} (ha : a < 5) (hb : b < 5) : Int32.toInt64 (Int64.toInt32 (Int32.toInt64 (Int32.ofNat a) * Int32.toInt64 (Int32.ofNat b))) = Int32.toInt64 (Int32.ofNat a) * Int32.toInt64 (Int32.ofNat b) := by
  revert hb; revert b; revert ha; revert a; decide +kernel
theorem own_mxe0 {a b : Nat} (ha : a < 5) (hb : b < 5) : sp6 (Int32.ofNat a) (Int32.ofNat b) = Int32.ofNat (a * b) := by
  revert hb; revert b; revert ha; revert a; decide +kernel
theorem own_mxe {a b M : Nat} (ha : a < 5) (hb : b < 5) (hM : a * b = M) : sp6 (Int32.ofNat a) (Int32.ofNat b) = Int32.ofNat M := by
  rw [← hM]; exact own_mxe0 ha hb
theorem own_sm1 {b c b' c' : Nat} (h1 : b = b') (h2 : c = c') : sp8 (Int32.ofNat b) (Int32.ofNat c) (Int32.ofNat b') (Int32.ofNat c') = 1 := by
  subst h1 h2; unfold sp8; rw [if_pos rfl, if_pos rfl]
theorem own_sm0 {b c b' c' : Nat} (q1 : b < 4) (q2 : b' < 4) (q3 : c < 4) (q4 : c' < 4) (h : ¬ (b = b' ∧ c = c')) : sp8 (Int32.ofNat b) (Int32.ofNat c) (Int32.ofNat b') (Int32.ofNat c') = 0 := by
  unfold sp8
  by_cases h1 : b = b'
  · rw [if_pos (by rw [h1]), if_neg fun z => h ⟨h1, (own_oeq (by omega) (by omega)).mp z⟩]
  · rw [if_neg fun z => h1 ((own_oeq (by omega) (by omega)).mp z)]
theorem d5_0 : decode prog_101_method_2_code 0 = .ok (.aload_n 0, 1) := by decide +kernel
theorem d5_1 : decode prog_101_method_2_code 1 = .ok (.iload_n 3, 1) := by decide +kernel
theorem d5_2 : decode prog_101_method_2_code 2 = .ok (.putfield 19, 3) := by decide +kernel
theorem d5_5 : decode prog_101_method_2_code 5 = .ok (.iload_n 2, 1) := by decide +kernel
theorem d5_6 : decode prog_101_method_2_code 6 = .ok (.iload_n 3, 1) := by decide +kernel
theorem d5_7 : decode prog_101_method_2_code 7 = .ok (.invokestatic 23, 3) := by decide +kernel
theorem d5_10 : decode prog_101_method_2_code 10 = .ok (.istore 4, 2) := by decide +kernel
theorem d5_12 : decode prog_101_method_2_code 12 = .ok (.aload_n 0, 1) := by decide +kernel
theorem d5_13 : decode prog_101_method_2_code 13 = .ok (.getfield 7, 3) := by decide +kernel
theorem d5_16 : decode prog_101_method_2_code 16 = .ok (.arraylength, 1) := by decide +kernel
theorem d5_17 : decode prog_101_method_2_code 17 = .ok (.iload 4, 2) := by decide +kernel
theorem d5_19 : decode prog_101_method_2_code 19 = .ok (.if_icmp .ge 24, 3) := by decide +kernel
theorem d5_22 : decode prog_101_method_2_code 22 = .ok (.aload_n 0, 1) := by decide +kernel
theorem d5_23 : decode prog_101_method_2_code 23 = .ok (.iload 4, 2) := by decide +kernel
theorem d5_25 : decode prog_101_method_2_code 25 = .ok (.newarray .int, 2) := by decide +kernel
theorem d5_27 : decode prog_101_method_2_code 27 = .ok (.putfield 7, 3) := by decide +kernel
theorem d5_30 : decode prog_101_method_2_code 30 = .ok (.aload_n 0, 1) := by decide +kernel
theorem d5_31 : decode prog_101_method_2_code 31 = .ok (.iload 4, 2) := by decide +kernel
theorem d5_33 : decode prog_101_method_2_code 33 = .ok (.newarray .int, 2) := by decide +kernel
theorem d5_35 : decode prog_101_method_2_code 35 = .ok (.putfield 13, 3) := by decide +kernel
theorem d5_38 : decode prog_101_method_2_code 38 = .ok (.aload_n 0, 1) := by decide +kernel
theorem d5_39 : decode prog_101_method_2_code 39 = .ok (.iconst 0, 1) := by decide +kernel
theorem d5_40 : decode prog_101_method_2_code 40 = .ok (.putfield 29, 3) := by decide +kernel
theorem d5_43 : decode prog_101_method_2_code 43 = .ok (.aload_n 0, 1) := by decide +kernel
theorem d5_44 : decode prog_101_method_2_code 44 = .ok (.getfield 16, 3) := by decide +kernel
theorem d5_47 : decode prog_101_method_2_code 47 = .ok (.arraylength, 1) := by decide +kernel
theorem d5_48 : decode prog_101_method_2_code 48 = .ok (.iload_n 1, 1) := by decide +kernel
theorem d5_49 : decode prog_101_method_2_code 49 = .ok (.if_icmp .ge 10, 3) := by decide +kernel
theorem d5_52 : decode prog_101_method_2_code 52 = .ok (.aload_n 0, 1) := by decide +kernel
theorem d5_53 : decode prog_101_method_2_code 53 = .ok (.iload_n 1, 1) := by decide +kernel
theorem d5_54 : decode prog_101_method_2_code 54 = .ok (.newarray .int, 2) := by decide +kernel
theorem d5_56 : decode prog_101_method_2_code 56 = .ok (.putfield 16, 3) := by decide +kernel
theorem d5_59 : decode prog_101_method_2_code 59 = .ok (.aload_n 0, 1) := by decide +kernel
theorem d5_60 : decode prog_101_method_2_code 60 = .ok (.dup, 1) := by decide +kernel
theorem d5_61 : decode prog_101_method_2_code 61 = .ok (.getfield 29, 3) := by decide +kernel
theorem d5_64 : decode prog_101_method_2_code 64 = .ok (.iconst 1, 1) := by decide +kernel
theorem d5_65 : decode prog_101_method_2_code 65 = .ok (.iadd, 1) := by decide +kernel
theorem d5_66 : decode prog_101_method_2_code 66 = .ok (.putfield 29, 3) := by decide +kernel
theorem d5_69 : decode prog_101_method_2_code 69 = .ok (.aload_n 0, 1) := by decide +kernel
theorem d5_70 : decode prog_101_method_2_code 70 = .ok (.getfield 29, 3) := by decide +kernel
theorem d5_73 : decode prog_101_method_2_code 73 = .ok (.ldc 34, 2) := by decide +kernel
theorem d5_75 : decode prog_101_method_2_code 75 = .ok (.if_icmp .ne 16, 3) := by decide +kernel
theorem d5_78 : decode prog_101_method_2_code 78 = .ok (.aload_n 0, 1) := by decide +kernel
theorem d5_79 : decode prog_101_method_2_code 79 = .ok (.getfield 13, 3) := by decide +kernel
theorem d5_82 : decode prog_101_method_2_code 82 = .ok (.iconst 0, 1) := by decide +kernel
theorem d5_83 : decode prog_101_method_2_code 83 = .ok (.invokestatic 35, 3) := by decide +kernel
theorem d5_86 : decode prog_101_method_2_code 86 = .ok (.aload_n 0, 1) := by decide +kernel
theorem d5_87 : decode prog_101_method_2_code 87 = .ok (.iconst 1, 1) := by decide +kernel
theorem d5_88 : decode prog_101_method_2_code 88 = .ok (.putfield 29, 3) := by decide +kernel
theorem d5_91 : decode prog_101_method_2_code 91 = .ok (.aload_n 0, 1) := by decide +kernel
theorem d5_92 : decode prog_101_method_2_code 92 = .ok (.iconst 0, 1) := by decide +kernel
theorem d5_93 : decode prog_101_method_2_code 93 = .ok (.putfield 41, 3) := by decide +kernel
theorem d5_96 : decode prog_101_method_2_code 96 = .ok (.aload_n 0, 1) := by decide +kernel
theorem d5_97 : decode prog_101_method_2_code 97 = .ok (.lconst 0, 1) := by decide +kernel
theorem d5_98 : decode prog_101_method_2_code 98 = .ok (.putfield 44, 3) := by decide +kernel
theorem d5_101 : decode prog_101_method_2_code 101 = .ok (.aload_n 0, 1) := by decide +kernel
theorem d5_102 : decode prog_101_method_2_code 102 = .ok (.areturn, 1) := by decide +kernel
theorem pn5 : plainFor (⟨"com/example/protomata/protomata/Partition", "begin", "(III)Lcom/example/protomata/protomata/Partition;"⟩ : MethodName) = true := plainFor_of_name (by first | (simp [plainName, overriddenIn]; done) | decide +kernel)
theorem pd5 : parseMethodDescriptor (⟨"com/example/protomata/protomata/Partition", "begin", "(III)Lcom/example/protomata/protomata/Partition;"⟩ : MethodName).desc = some ⟨[.int, .int, .int], some (.object "com/example/protomata/protomata/Partition")⟩ := by decide +kernel
theorem ef_beg1 (m : MethodId) (n0 : Nat) (pg : Nat) (pa : Nat) (pM : Nat) : entryFrame m #[.ref (n0 + 0), .int (2 : Int32), .int (Int32.ofNat pg), .int (Int32.ofNat pa)] 5 = mkF m 0 #[.val (.ref (n0 + 0)), .val (.int (2 : Int32)), .val (.int (Int32.ofNat pg)), .val (.int (Int32.ofNat pa)), .unset] [] := by first | (simp [entryFrame, mkF, argsToLocals, Value.category]; done) | rfl
def Q_beg1 (Z : State) (n0 : Nat) (k1 : ClassId) (k2 : ClassId) (k3 : ClassId) (o0 : Jvm.Cell) (pg : Nat) (pa : Nat) (pM : Nat) (v : Option Value) (h : Heap) (L : List Loc) : Prop := v = some (.ref (n0 + 0)) ∧ Fr n0 L ∧ ∃ c11 : Jvm.Cell, ObjF Z c11 "com/example/protomata/protomata/Partition" fl_C0 [.ref (n0 + 4), .ref (n0 + 5), .ref (n0 + 6), .int (Int32.ofNat pa), .int (1 : Int32), .int (0 : Int32), .long (0 : Int64)] ∧ ∃ kA2 : ClassId, IsA Z kA2 .int ∧ ∃ kA4 : ClassId, IsA Z kA4 .int ∧ ∃ kA7 : ClassId, IsA Z kA7 .int ∧ HP n0 h [c11, AC k1 [], AC k2 [], AC k3 [], AC kA2 (List.map Value.int (List.replicate pM 0)), AC kA4 (List.map Value.int (List.replicate pM 0)), AC kA7 [.int (0 : Int32), .int (0 : Int32)]]
set_option maxRecDepth 65536 in
set_option maxHeartbeats 40000000 in
theorem rm_beg1 (l : Launch) (Z : State) (a0 : Array Value) (hw : ∀ d ∈ tables_1, d.before a0 Z = true) (ws : List Jvm.Cond) (n0 : Nat) (k1 : ClassId) (k2 : ClassId) (k3 : ClassId) (o0 : Jvm.Cell) (pg : Nat) (pa : Nat) (pM : Nat) (h0 : Heap) (P0 : HP n0 h0 [o0, AC k1 [], AC k2 [], AC k3 []]) (hk1 : IsA Z k1 .int) (hk2 : IsA Z k2 .int) (hk3 : IsA Z k3 .int) (Fo0 : ObjF Z o0 "com/example/protomata/protomata/Partition" fl_C0 [.ref (n0 + 1), .ref (n0 + 2), .ref (n0 + 3), .int (0 : Int32), .int (0 : Int32), .int (0 : Int32), .long (0 : Int64)]) (hpg : pg < 5) (hpa : pa < 5) (hpM : pg * pa = pM) (hpM1 : 1 ≤ pM) (hpM2 : pM ≤ 16) :
    MetFree l (⟨"com/example/protomata/protomata/Partition", "begin", "(III)Lcom/example/protomata/protomata/Partition;"⟩ : MethodName) (head1 (Jvm.Cond.code (⟨"com/example/protomata/protomata/Partition", "begin", "(III)Lcom/example/protomata/protomata/Partition;"⟩ : MethodName) prog_101_method_2_code 5 (some (.object "com/example/protomata/protomata/Partition")) :: ws) ({ frames := 1, cells := 3, slots := 34, locals := 15 } : Room)) (fun aa U => aa = #[.ref (n0 + 0), .int (2 : Int32), .int (Int32.ofNat pg), .int (Int32.ofNat pa)] ∧ Z.Warmed39 U.vm ∧ U.heap = h0) (fun _ _ _ _ _ => True) (fun _ U o U' => ∃ v L, o = .returned v ∧ Q_beg1 Z n0 k1 k2 k3 o0 pg pa pM v U'.heap L ∧ FrameEnd U o U' L ({ frames := 1, cells := 3, slots := 34, locals := 15 } : Room).cells ({ frames := 1, cells := 3, slots := 34, locals := 15 } : Room).slots) := by
  refine own_body pn5 ?_
  intro p e s m below meth c T0 hx hby hml hret hlk hown hnm hZ X0 e0
  subst e0
  have N0 : Fr n0 [] := Fr.nil n0
  refine own_cast (ef_beg1 m n0 pg pa pM) ?_
  refine w_aloadN X0 hx (hb hby d5_0) rfl rfl (pc' := 1) rfl ?_
  refine w_iloadN X0 hx (hb hby d5_1) rfl (pc' := 2) rfl ?_
  refine w_putf (i := 0) (ty := .int) X0 hx hZ hown (wd29 hw) N0 P0 rfl Fo0 (di_C0 hw) 3 rfl (Or.inl (wd30 hw)) (wd9 hw) (by decide) rfl rfl (hb hby d5_2) (pc' := 5) rfl ?_
  intro T1 L1 c1 N1 X1 P1 F1
  replace P1 : HP n0 T1.heap [c1, AC k1 [], AC k2 [], AC k3 []] := P1
  replace F1 : ObjF Z c1 "com/example/protomata/protomata/Partition" fl_C0 [.ref (n0 + 1), .ref (n0 + 2), .ref (n0 + 3), .int (Int32.ofNat pa), .int (0 : Int32), .int (0 : Int32), .long (0 : Int64)] := F1
  refine w_iloadN X1 hx (hb hby d5_5) rfl (pc' := 6) rfl ?_
  refine w_iloadN X1 hx (hb hby d5_6) rfl (pc' := 7) rfl ?_
  refine w_callP (W := 0) X1 hx hZ rfl hown hml.symm (wd31 hw) (wd32 hw) (wd33 hw) (wd34 hw) (rm6 l Z a0 hw [] (Int32.ofNat pg) (Int32.ofNat pa) _ (own_mxp (by omega) (by omega))) (by decide) (by decide) (by decide) rfl rfl (by decide) (by decide) (argsL := [.int (Int32.ofNat pg), .int (Int32.ofNat pa)]) (rest := []) pd6 rfl rfl rfl (Nat.le_of_eq rfl) (hb hby d5_7) (pc' := 10) rfl ?_
  intro T2 X2 e2
  have P2 : HP n0 T2.heap [c1, AC k1 [], AC k2 [], AC k3 []] := by rw [e2]; exact P1
  refine w_eqI (z := (Int32.ofNat pM)) (own_mxe (by omega) (by omega) hpM) ?_
  refine w_istore (l' := #[.val (.ref (n0 + 0)), .val (.int (2 : Int32)), .val (.int (Int32.ofNat pg)), .val (.int (Int32.ofNat pa)), .val (.int (Int32.ofNat pM))]) X2 hx (hb hby d5_10) rfl (pc' := 12) rfl ?_
  refine w_aloadN X2 hx (hb hby d5_12) rfl rfl (pc' := 13) rfl ?_
  refine w_getf (i := 0) (v := .ref (n0 + 1)) X2 hx hZ hown (wd18 hw) P2 rfl F1 0 rfl rfl (hb hby d5_13) (pc' := 16) rfl ?_
  intro T3 X3 P3
  refine w_arrlen (i := 1) X3 hx hZ P3 rfl hk1 (hb hby d5_16) (z := (0 : Int32)) rfl (pc' := 17) rfl ?_
  refine w_iload X3 hx (hb hby d5_17) rfl (pc' := 19) rfl ?_
  refine w_icmp_ge X3 hx (hb hby d5_19) (by decide) (pcY := 43) (by decide) (pc' := 22) rfl (fun h0 => absurd ((own_olt (a := 0) (b := pM) (by omega) (by omega)).mpr (by omega)) h0) (fun h0 => ?_)
  refine w_aloadN X3 hx (hb hby d5_22) rfl rfl (pc' := 23) rfl ?_
  refine w_iload X3 hx (hb hby d5_23) rfl (pc' := 25) rfl ?_
  refine w_newarrC (N := pM) (cap := 16) (j := 4) X3 hx hZ P3 (ty := .int) rfl (wd17 hw) (hb hby d5_25) (by omega) (own_oN (by omega)) (by omega) (by decide) (by decide) rfl (pc' := 27) rfl ?_
  intro T4 kA2 X4 hkA2 P4
  replace P4 := own_mr P4
  replace P4 : HP n0 T4.heap [c1, AC k1 [], AC k2 [], AC k3 [], AC kA2 (List.map Value.int (List.replicate pM 0))] := P4
  refine w_putf (i := 0) (ty := (.array .int)) X4 hx hZ hown (wd18 hw) N1 P4 rfl F1 (di_C0 hw) 0 rfl (Or.inl (wd19 hw)) (wd9 hw) (by decide) rfl rfl (hb hby d5_27) (pc' := 30) rfl ?_
  intro T5 L2 c3 N2 X5 P5 F3
  replace P5 : HP n0 T5.heap [c3, AC k1 [], AC k2 [], AC k3 [], AC kA2 (List.map Value.int (List.replicate pM 0))] := P5
  replace F3 : ObjF Z c3 "com/example/protomata/protomata/Partition" fl_C0 [.ref (n0 + 4), .ref (n0 + 2), .ref (n0 + 3), .int (Int32.ofNat pa), .int (0 : Int32), .int (0 : Int32), .long (0 : Int64)] := F3
  refine w_aloadN X5 hx (hb hby d5_30) rfl rfl (pc' := 31) rfl ?_
  refine w_iload X5 hx (hb hby d5_31) rfl (pc' := 33) rfl ?_
  refine w_newarrC (N := pM) (cap := 16) (j := 5) X5 hx hZ P5 (ty := .int) rfl (wd17 hw) (hb hby d5_33) (by omega) (own_oN (by omega)) (by omega) (by decide) (by decide) rfl (pc' := 35) rfl ?_
  intro T6 kA4 X6 hkA4 P6
  replace P6 := own_mr P6
  replace P6 : HP n0 T6.heap [c3, AC k1 [], AC k2 [], AC k3 [], AC kA2 (List.map Value.int (List.replicate pM 0)), AC kA4 (List.map Value.int (List.replicate pM 0))] := P6
  refine w_putf (i := 0) (ty := (.array .int)) X6 hx hZ hown (wd20 hw) N2 P6 rfl F3 (di_C0 hw) 1 rfl (Or.inl (wd21 hw)) (wd9 hw) (by decide) rfl rfl (hb hby d5_35) (pc' := 38) rfl ?_
  intro T7 L3 c5 N3 X7 P7 F5
  replace P7 : HP n0 T7.heap [c5, AC k1 [], AC k2 [], AC k3 [], AC kA2 (List.map Value.int (List.replicate pM 0)), AC kA4 (List.map Value.int (List.replicate pM 0))] := P7
  replace F5 : ObjF Z c5 "com/example/protomata/protomata/Partition" fl_C0 [.ref (n0 + 4), .ref (n0 + 5), .ref (n0 + 3), .int (Int32.ofNat pa), .int (0 : Int32), .int (0 : Int32), .long (0 : Int64)] := F5
  refine w_aloadN X7 hx (hb hby d5_38) rfl rfl (pc' := 39) rfl ?_
  refine w_iconst (v := (0 : Int32)) X7 hx (hb hby d5_39) rfl (pc' := 40) rfl ?_
  refine w_putf (i := 0) (ty := .int) X7 hx hZ hown (wd35 hw) N3 P7 rfl F5 (di_C0 hw) 4 rfl (Or.inl (wd36 hw)) (wd9 hw) (by decide) rfl rfl (hb hby d5_40) (pc' := 43) rfl ?_
  intro T8 L4 c6 N4 X8 P8 F6
  replace P8 : HP n0 T8.heap [c6, AC k1 [], AC k2 [], AC k3 [], AC kA2 (List.map Value.int (List.replicate pM 0)), AC kA4 (List.map Value.int (List.replicate pM 0))] := P8
  replace F6 : ObjF Z c6 "com/example/protomata/protomata/Partition" fl_C0 [.ref (n0 + 4), .ref (n0 + 5), .ref (n0 + 3), .int (Int32.ofNat pa), .int (0 : Int32), .int (0 : Int32), .long (0 : Int64)] := F6
  refine w_aloadN X8 hx (hb hby d5_43) rfl rfl (pc' := 44) rfl ?_
  refine w_getf (i := 0) (v := .ref (n0 + 3)) X8 hx hZ hown (wd22 hw) P8 rfl F6 2 rfl rfl (hb hby d5_44) (pc' := 47) rfl ?_
  intro T9 X9 P9
  refine w_arrlen (i := 3) X9 hx hZ P9 rfl hk3 (hb hby d5_47) (z := (0 : Int32)) rfl (pc' := 48) rfl ?_
  refine w_iloadN X9 hx (hb hby d5_48) rfl (pc' := 49) rfl ?_
  refine w_icmp_ge X9 hx (hb hby d5_49) (by decide) (pcY := 59) (by decide) (pc' := 52) rfl (fun h1 => absurd h1 (by decide)) (fun h1 => ?_)
  refine w_aloadN X9 hx (hb hby d5_52) rfl rfl (pc' := 53) rfl ?_
  refine w_iloadN X9 hx (hb hby d5_53) rfl (pc' := 54) rfl ?_
  refine w_newarr (N := 2) (j := 6) X9 hx hZ P9 (ty := .int) rfl (wd17 hw) (hb hby d5_54) (by decide) (by decide) (by decide) (by decide) rfl (pc' := 56) rfl ?_
  intro T10 kA7 X10 hkA7 P10
  replace P10 : HP n0 T10.heap [c6, AC k1 [], AC k2 [], AC k3 [], AC kA2 (List.map Value.int (List.replicate pM 0)), AC kA4 (List.map Value.int (List.replicate pM 0)), AC kA7 [.int (0 : Int32), .int (0 : Int32)]] := P10
  refine w_putf (i := 0) (ty := (.array .int)) X10 hx hZ hown (wd22 hw) N4 P10 rfl F6 (di_C0 hw) 2 rfl (Or.inl (wd23 hw)) (wd9 hw) (by decide) rfl rfl (hb hby d5_56) (pc' := 59) rfl ?_
  intro T11 L5 c8 N5 X11 P11 F8
  replace P11 : HP n0 T11.heap [c8, AC k1 [], AC k2 [], AC k3 [], AC kA2 (List.map Value.int (List.replicate pM 0)), AC kA4 (List.map Value.int (List.replicate pM 0)), AC kA7 [.int (0 : Int32), .int (0 : Int32)]] := P11
  replace F8 : ObjF Z c8 "com/example/protomata/protomata/Partition" fl_C0 [.ref (n0 + 4), .ref (n0 + 5), .ref (n0 + 6), .int (Int32.ofNat pa), .int (0 : Int32), .int (0 : Int32), .long (0 : Int64)] := F8
  refine w_aloadN X11 hx (hb hby d5_59) rfl rfl (pc' := 60) rfl ?_
  refine w_dup X11 hx (hb hby d5_60) rfl (pc' := 61) rfl ?_
  refine w_getf (i := 0) (v := .int (0 : Int32)) X11 hx hZ hown (wd35 hw) P11 rfl F8 4 rfl rfl (hb hby d5_61) (pc' := 64) rfl ?_
  intro T12 X12 P12
  refine w_iconst (v := (1 : Int32)) X12 hx (hb hby d5_64) rfl (pc' := 65) rfl ?_
  refine w_iadd X12 hx (hb hby d5_65) (pc' := 66) rfl ?_
  refine w_eqI (z := (1 : Int32)) (by decide) ?_
  refine w_putf (i := 0) (ty := .int) X12 hx hZ hown (wd35 hw) N5 P12 rfl F8 (di_C0 hw) 4 rfl (Or.inl (wd36 hw)) (wd9 hw) (by decide) rfl rfl (hb hby d5_66) (pc' := 69) rfl ?_
  intro T13 L6 c9 N6 X13 P13 F9
  replace P13 : HP n0 T13.heap [c9, AC k1 [], AC k2 [], AC k3 [], AC kA2 (List.map Value.int (List.replicate pM 0)), AC kA4 (List.map Value.int (List.replicate pM 0)), AC kA7 [.int (0 : Int32), .int (0 : Int32)]] := P13
  replace F9 : ObjF Z c9 "com/example/protomata/protomata/Partition" fl_C0 [.ref (n0 + 4), .ref (n0 + 5), .ref (n0 + 6), .int (Int32.ofNat pa), .int (1 : Int32), .int (0 : Int32), .long (0 : Int64)] := F9
  refine w_aloadN X13 hx (hb hby d5_69) rfl rfl (pc' := 70) rfl ?_
  refine w_getf (i := 0) (v := .int (1 : Int32)) X13 hx hZ hown (wd35 hw) P13 rfl F9 4 rfl rfl (hb hby d5_70) (pc' := 73) rfl ?_
  intro T14 X14 P14
  refine w_ldc X14 hx (hb hby d5_73) hown (mvT hZ (wd37 hw)) (pc' := 75) rfl ?_
  refine w_icmp_ne X14 hx (hb hby d5_75) (by decide) (pcY := 91) (by decide) (pc' := 78) rfl (fun h2 => ?_) (fun h2 => absurd h2 (by decide))
  refine w_aloadN X14 hx (hb hby d5_91) rfl rfl (pc' := 92) rfl ?_
  refine w_iconst (v := (0 : Int32)) X14 hx (hb hby d5_92) rfl (pc' := 93) rfl ?_
  refine w_putf (i := 0) (ty := .int) X14 hx hZ hown (wd38 hw) N6 P14 rfl F9 (di_C0 hw) 5 rfl (Or.inl (wd39 hw)) (wd9 hw) (by decide) rfl rfl (hb hby d5_93) (pc' := 96) rfl ?_
  intro T15 L7 c10 N7 X15 P15 F10
  replace P15 : HP n0 T15.heap [c10, AC k1 [], AC k2 [], AC k3 [], AC kA2 (List.map Value.int (List.replicate pM 0)), AC kA4 (List.map Value.int (List.replicate pM 0)), AC kA7 [.int (0 : Int32), .int (0 : Int32)]] := P15
  replace F10 : ObjF Z c10 "com/example/protomata/protomata/Partition" fl_C0 [.ref (n0 + 4), .ref (n0 + 5), .ref (n0 + 6), .int (Int32.ofNat pa), .int (1 : Int32), .int (0 : Int32), .long (0 : Int64)] := F10
  refine w_aloadN X15 hx (hb hby d5_96) rfl rfl (pc' := 97) rfl ?_
  refine w_lconst (v := (0 : Int64)) X15 hx (hb hby d5_97) rfl (pc' := 98) rfl ?_
  refine w_putf (i := 0) (ty := .long) X15 hx hZ hown (wd40 hw) N7 P15 rfl F10 (di_C0 hw) 6 rfl (Or.inl (wd41 hw)) (wd9 hw) (by decide) rfl rfl (hb hby d5_98) (pc' := 101) rfl ?_
  intro T16 L8 c11 N8 X16 P16 F11
  replace P16 : HP n0 T16.heap [c11, AC k1 [], AC k2 [], AC k3 [], AC kA2 (List.map Value.int (List.replicate pM 0)), AC kA4 (List.map Value.int (List.replicate pM 0)), AC kA7 [.int (0 : Int32), .int (0 : Int32)]] := P16
  replace F11 : ObjF Z c11 "com/example/protomata/protomata/Partition" fl_C0 [.ref (n0 + 4), .ref (n0 + 5), .ref (n0 + 6), .int (Int32.ofNat pa), .int (1 : Int32), .int (0 : Int32), .long (0 : Int64)] := F11
  refine w_aloadN X16 hx (hb hby d5_101) rfl rfl (pc' := 102) rfl ?_
  exact w_ret_a X16 hx rfl hret rfl hlk (hb hby d5_102) (by decide) (by decide) ⟨rfl, N8, c11, F11, kA2, hkA2, kA4, hkA4, kA7, hkA7, P16⟩
theorem ef_beg2 (m : MethodId) (n0 : Nat) (pN : Nat) (pg : Nat) (pa : Nat) (pM : Nat) (pac : Int32) (pgc : Int32) (psq : Int64) (pz0 : Int32) (pz1 : Int32) : entryFrame m #[.ref (n0 + 0), .int (4 : Int32), .int (Int32.ofNat pg), .int (Int32.ofNat pa)] 5 = mkF m 0 #[.val (.ref (n0 + 0)), .val (.int (4 : Int32)), .val (.int (Int32.ofNat pg)), .val (.int (Int32.ofNat pa)), .unset] [] := by first | (simp [entryFrame, mkF, argsToLocals, Value.category]; done) | rfl
def Q_beg2 (Z : State) (n0 : Nat) (k1 : ClassId) (k2 : ClassId) (k3 : ClassId) (k4 : ClassId) (k5 : ClassId) (k6 : ClassId) (o0 : Jvm.Cell) (pC : List Int32) (pS : List Int32) (pN : Nat) (pg : Nat) (pa : Nat) (pM : Nat) (pac : Int32) (pgc : Int32) (psq : Int64) (pz0 : Int32) (pz1 : Int32) (v : Option Value) (h : Heap) (L : List Loc) : Prop := v = some (.ref (n0 + 0)) ∧ Fr n0 L ∧ ((pN < pM ∧ ∃ c16 : Jvm.Cell, ObjF Z c16 "com/example/protomata/protomata/Partition" fl_C0 [.ref (n0 + 7), .ref (n0 + 8), .ref (n0 + 9), .int (Int32.ofNat pa), .int (1 : Int32), .int (0 : Int32), .long (0 : Int64)] ∧ ∃ kA7 : ClassId, IsA Z kA7 .int ∧ ∃ kA9 : ClassId, IsA Z kA9 .int ∧ ∃ kA12 : ClassId, IsA Z kA12 .int ∧ HP n0 h [c16, AC k1 [], AC k2 [], AC k3 [], AC k4 (List.map Value.int pC), AC k5 (List.map Value.int pS), AC k6 [.int pz0, .int pz1], AC kA7 (List.map Value.int (List.replicate pM 0)), AC kA9 (List.map Value.int (List.replicate pM 0)), AC kA12 [.int (0 : Int32), .int (0 : Int32), .int (0 : Int32), .int (0 : Int32)]]) ∨ (¬ pN < pM ∧ ∃ c6 : Jvm.Cell, ObjF Z c6 "com/example/protomata/protomata/Partition" fl_C0 [.ref (n0 + 4), .ref (n0 + 5), .ref (n0 + 7), .int (Int32.ofNat pa), .int (2 : Int32), .int (0 : Int32), .long (0 : Int64)] ∧ ∃ kA2 : ClassId, IsA Z kA2 .int ∧ HP n0 h [c6, AC k1 [], AC k2 [], AC k3 [], AC k4 (List.map Value.int pC), AC k5 (List.map Value.int pS), AC k6 [.int pz0, .int pz1], AC kA2 [.int (0 : Int32), .int (0 : Int32), .int (0 : Int32), .int (0 : Int32)]]))
set_option maxRecDepth 65536 in
set_option maxHeartbeats 40000000 in
theorem rm_beg2 (l : Launch) (Z : State) (a0 : Array Value) (hw : ∀ d ∈ tables_1, d.before a0 Z = true) (ws : List Jvm.Cond) (n0 : Nat) (k1 : ClassId) (k2 : ClassId) (k3 : ClassId) (k4 : ClassId) (k5 : ClassId) (k6 : ClassId) (o0 : Jvm.Cell) (pC : List Int32) (pS : List Int32) (pN : Nat) (pg : Nat) (pa : Nat) (pM : Nat) (pac : Int32) (pgc : Int32) (psq : Int64) (pz0 : Int32) (pz1 : Int32) (h0 : Heap) (P0 : HP n0 h0 [o0, AC k1 [], AC k2 [], AC k3 [], AC k4 (List.map Value.int pC), AC k5 (List.map Value.int pS), AC k6 [.int pz0, .int pz1]]) (hk1 : IsA Z k1 .int) (hk2 : IsA Z k2 .int) (hk3 : IsA Z k3 .int) (hk4 : IsA Z k4 .int) (hk5 : IsA Z k5 .int) (hk6 : IsA Z k6 .int) (hpC : pC.length = pN) (hpS : pS.length = pN) (hpN : pN ≤ 16) (Fo0 : ObjF Z o0 "com/example/protomata/protomata/Partition" fl_C0 [.ref (n0 + 4), .ref (n0 + 5), .ref (n0 + 6), .int pac, .int (1 : Int32), .int pgc, .long psq]) (hpg : pg < 5) (hpa : pa < 5) (hpM : pg * pa = pM) (hpM1 : 1 ≤ pM) (hpM2 : pM ≤ 16) :
    MetFree l (⟨"com/example/protomata/protomata/Partition", "begin", "(III)Lcom/example/protomata/protomata/Partition;"⟩ : MethodName) (head1 (Jvm.Cond.code (⟨"com/example/protomata/protomata/Partition", "begin", "(III)Lcom/example/protomata/protomata/Partition;"⟩ : MethodName) prog_101_method_2_code 5 (some (.object "com/example/protomata/protomata/Partition")) :: ws) ({ frames := 1, cells := 4, slots := 40, locals := 15 } : Room)) (fun aa U => aa = #[.ref (n0 + 0), .int (4 : Int32), .int (Int32.ofNat pg), .int (Int32.ofNat pa)] ∧ Z.Warmed39 U.vm ∧ U.heap = h0) (fun _ _ _ _ _ => True) (fun _ U o U' => ∃ v L, o = .returned v ∧ Q_beg2 Z n0 k1 k2 k3 k4 k5 k6 o0 pC pS pN pg pa pM pac pgc psq pz0 pz1 v U'.heap L ∧ FrameEnd U o U' L ({ frames := 1, cells := 4, slots := 40, locals := 15 } : Room).cells ({ frames := 1, cells := 4, slots := 40, locals := 15 } : Room).slots) := by
  refine own_body pn5 ?_
  intro p e s m below meth c T0 hx hby hml hret hlk hown hnm hZ X0 e0
  subst e0
  have N0 : Fr n0 [] := Fr.nil n0
  refine own_cast (ef_beg2 m n0 pN pg pa pM pac pgc psq pz0 pz1) ?_
  refine w_aloadN X0 hx (hb hby d5_0) rfl rfl (pc' := 1) rfl ?_
  refine w_iloadN X0 hx (hb hby d5_1) rfl (pc' := 2) rfl ?_
  refine w_putf (i := 0) (ty := .int) X0 hx hZ hown (wd29 hw) N0 P0 rfl Fo0 (di_C0 hw) 3 rfl (Or.inl (wd30 hw)) (wd9 hw) (by decide) rfl rfl (hb hby d5_2) (pc' := 5) rfl ?_
  intro T1 L1 c1 N1 X1 P1 F1
  replace P1 : HP n0 T1.heap [c1, AC k1 [], AC k2 [], AC k3 [], AC k4 (List.map Value.int pC), AC k5 (List.map Value.int pS), AC k6 [.int pz0, .int pz1]] := P1
  replace F1 : ObjF Z c1 "com/example/protomata/protomata/Partition" fl_C0 [.ref (n0 + 4), .ref (n0 + 5), .ref (n0 + 6), .int (Int32.ofNat pa), .int (1 : Int32), .int pgc, .long psq] := F1
  refine w_iloadN X1 hx (hb hby d5_5) rfl (pc' := 6) rfl ?_
  refine w_iloadN X1 hx (hb hby d5_6) rfl (pc' := 7) rfl ?_
  refine w_callP (W := 0) X1 hx hZ rfl hown hml.symm (wd31 hw) (wd32 hw) (wd33 hw) (wd34 hw) (rm6 l Z a0 hw [] (Int32.ofNat pg) (Int32.ofNat pa) _ (own_mxp (by omega) (by omega))) (by decide) (by decide) (by decide) rfl rfl (by decide) (by decide) (argsL := [.int (Int32.ofNat pg), .int (Int32.ofNat pa)]) (rest := []) pd6 rfl rfl rfl (Nat.le_of_eq rfl) (hb hby d5_7) (pc' := 10) rfl ?_
  intro T2 X2 e2
  have P2 : HP n0 T2.heap [c1, AC k1 [], AC k2 [], AC k3 [], AC k4 (List.map Value.int pC), AC k5 (List.map Value.int pS), AC k6 [.int pz0, .int pz1]] := by rw [e2]; exact P1
  refine w_eqI (z := (Int32.ofNat pM)) (own_mxe (by omega) (by omega) hpM) ?_
  refine w_istore (l' := #[.val (.ref (n0 + 0)), .val (.int (4 : Int32)), .val (.int (Int32.ofNat pg)), .val (.int (Int32.ofNat pa)), .val (.int (Int32.ofNat pM))]) X2 hx (hb hby d5_10) rfl (pc' := 12) rfl ?_
  refine w_aloadN X2 hx (hb hby d5_12) rfl rfl (pc' := 13) rfl ?_
  refine w_getf (i := 0) (v := .ref (n0 + 4)) X2 hx hZ hown (wd18 hw) P2 rfl F1 0 rfl rfl (hb hby d5_13) (pc' := 16) rfl ?_
  intro T3 X3 P3
  refine w_arrlen (i := 4) X3 hx hZ P3 rfl hk4 (hb hby d5_16) (z := (Int32.ofNat pN)) (own_len hpC) (pc' := 17) rfl ?_
  refine w_iload X3 hx (hb hby d5_17) rfl (pc' := 19) rfl ?_
  refine w_icmp_ge X3 hx (hb hby d5_19) (by decide) (pcY := 43) (by decide) (pc' := 22) rfl (fun h0 => ?_) (fun h0 => ?_)
  · have h0n : ¬ pN < pM := fun q => h0 ((own_olt (a := pN) (b := pM) (by omega) (by omega)).mpr q)
    refine w_aloadN X3 hx (hb hby d5_43) rfl rfl (pc' := 44) rfl ?_
    refine w_getf (i := 0) (v := .ref (n0 + 6)) X3 hx hZ hown (wd22 hw) P3 rfl F1 2 rfl rfl (hb hby d5_44) (pc' := 47) rfl ?_
    intro T4 X4 P4
    refine w_arrlen (i := 6) X4 hx hZ P4 rfl hk6 (hb hby d5_47) (z := (2 : Int32)) rfl (pc' := 48) rfl ?_
    refine w_iloadN X4 hx (hb hby d5_48) rfl (pc' := 49) rfl ?_
    refine w_icmp_ge X4 hx (hb hby d5_49) (by decide) (pcY := 59) (by decide) (pc' := 52) rfl (fun h1 => absurd h1 (by decide)) (fun h1 => ?_)
    refine w_aloadN X4 hx (hb hby d5_52) rfl rfl (pc' := 53) rfl ?_
    refine w_iloadN X4 hx (hb hby d5_53) rfl (pc' := 54) rfl ?_
    refine w_newarr (N := 4) (j := 7) X4 hx hZ P4 (ty := .int) rfl (wd17 hw) (hb hby d5_54) (by decide) (by decide) (by decide) (by decide) rfl (pc' := 56) rfl ?_
    intro T5 kA2 X5 hkA2 P5
    replace P5 : HP n0 T5.heap [c1, AC k1 [], AC k2 [], AC k3 [], AC k4 (List.map Value.int pC), AC k5 (List.map Value.int pS), AC k6 [.int pz0, .int pz1], AC kA2 [.int (0 : Int32), .int (0 : Int32), .int (0 : Int32), .int (0 : Int32)]] := P5
    refine w_putf (i := 0) (ty := (.array .int)) X5 hx hZ hown (wd22 hw) N1 P5 rfl F1 (di_C0 hw) 2 rfl (Or.inl (wd23 hw)) (wd9 hw) (by decide) rfl rfl (hb hby d5_56) (pc' := 59) rfl ?_
    intro T6 L2 c3 N2 X6 P6 F3
    replace P6 : HP n0 T6.heap [c3, AC k1 [], AC k2 [], AC k3 [], AC k4 (List.map Value.int pC), AC k5 (List.map Value.int pS), AC k6 [.int pz0, .int pz1], AC kA2 [.int (0 : Int32), .int (0 : Int32), .int (0 : Int32), .int (0 : Int32)]] := P6
    replace F3 : ObjF Z c3 "com/example/protomata/protomata/Partition" fl_C0 [.ref (n0 + 4), .ref (n0 + 5), .ref (n0 + 7), .int (Int32.ofNat pa), .int (1 : Int32), .int pgc, .long psq] := F3
    refine w_aloadN X6 hx (hb hby d5_59) rfl rfl (pc' := 60) rfl ?_
    refine w_dup X6 hx (hb hby d5_60) rfl (pc' := 61) rfl ?_
    refine w_getf (i := 0) (v := .int (1 : Int32)) X6 hx hZ hown (wd35 hw) P6 rfl F3 4 rfl rfl (hb hby d5_61) (pc' := 64) rfl ?_
    intro T7 X7 P7
    refine w_iconst (v := (1 : Int32)) X7 hx (hb hby d5_64) rfl (pc' := 65) rfl ?_
    refine w_iadd X7 hx (hb hby d5_65) (pc' := 66) rfl ?_
    refine w_eqI (z := (2 : Int32)) (by decide) ?_
    refine w_putf (i := 0) (ty := .int) X7 hx hZ hown (wd35 hw) N2 P7 rfl F3 (di_C0 hw) 4 rfl (Or.inl (wd36 hw)) (wd9 hw) (by decide) rfl rfl (hb hby d5_66) (pc' := 69) rfl ?_
    intro T8 L3 c4 N3 X8 P8 F4
    replace P8 : HP n0 T8.heap [c4, AC k1 [], AC k2 [], AC k3 [], AC k4 (List.map Value.int pC), AC k5 (List.map Value.int pS), AC k6 [.int pz0, .int pz1], AC kA2 [.int (0 : Int32), .int (0 : Int32), .int (0 : Int32), .int (0 : Int32)]] := P8
    replace F4 : ObjF Z c4 "com/example/protomata/protomata/Partition" fl_C0 [.ref (n0 + 4), .ref (n0 + 5), .ref (n0 + 7), .int (Int32.ofNat pa), .int (2 : Int32), .int pgc, .long psq] := F4
    refine w_aloadN X8 hx (hb hby d5_69) rfl rfl (pc' := 70) rfl ?_
    refine w_getf (i := 0) (v := .int (2 : Int32)) X8 hx hZ hown (wd35 hw) P8 rfl F4 4 rfl rfl (hb hby d5_70) (pc' := 73) rfl ?_
    intro T9 X9 P9
    refine w_ldc X9 hx (hb hby d5_73) hown (mvT hZ (wd37 hw)) (pc' := 75) rfl ?_
    refine w_icmp_ne X9 hx (hb hby d5_75) (by decide) (pcY := 91) (by decide) (pc' := 78) rfl (fun h2 => ?_) (fun h2 => absurd h2 (by decide))
    refine w_aloadN X9 hx (hb hby d5_91) rfl rfl (pc' := 92) rfl ?_
    refine w_iconst (v := (0 : Int32)) X9 hx (hb hby d5_92) rfl (pc' := 93) rfl ?_
    refine w_putf (i := 0) (ty := .int) X9 hx hZ hown (wd38 hw) N3 P9 rfl F4 (di_C0 hw) 5 rfl (Or.inl (wd39 hw)) (wd9 hw) (by decide) rfl rfl (hb hby d5_93) (pc' := 96) rfl ?_
    intro T10 L4 c5 N4 X10 P10 F5
    replace P10 : HP n0 T10.heap [c5, AC k1 [], AC k2 [], AC k3 [], AC k4 (List.map Value.int pC), AC k5 (List.map Value.int pS), AC k6 [.int pz0, .int pz1], AC kA2 [.int (0 : Int32), .int (0 : Int32), .int (0 : Int32), .int (0 : Int32)]] := P10
    replace F5 : ObjF Z c5 "com/example/protomata/protomata/Partition" fl_C0 [.ref (n0 + 4), .ref (n0 + 5), .ref (n0 + 7), .int (Int32.ofNat pa), .int (2 : Int32), .int (0 : Int32), .long psq] := F5
    refine w_aloadN X10 hx (hb hby d5_96) rfl rfl (pc' := 97) rfl ?_
    refine w_lconst (v := (0 : Int64)) X10 hx (hb hby d5_97) rfl (pc' := 98) rfl ?_
    refine w_putf (i := 0) (ty := .long) X10 hx hZ hown (wd40 hw) N4 P10 rfl F5 (di_C0 hw) 6 rfl (Or.inl (wd41 hw)) (wd9 hw) (by decide) rfl rfl (hb hby d5_98) (pc' := 101) rfl ?_
    intro T11 L5 c6 N5 X11 P11 F6
    replace P11 : HP n0 T11.heap [c6, AC k1 [], AC k2 [], AC k3 [], AC k4 (List.map Value.int pC), AC k5 (List.map Value.int pS), AC k6 [.int pz0, .int pz1], AC kA2 [.int (0 : Int32), .int (0 : Int32), .int (0 : Int32), .int (0 : Int32)]] := P11
    replace F6 : ObjF Z c6 "com/example/protomata/protomata/Partition" fl_C0 [.ref (n0 + 4), .ref (n0 + 5), .ref (n0 + 7), .int (Int32.ofNat pa), .int (2 : Int32), .int (0 : Int32), .long (0 : Int64)] := F6
    refine w_aloadN X11 hx (hb hby d5_101) rfl rfl (pc' := 102) rfl ?_
    exact w_ret_a X11 hx rfl hret rfl hlk (hb hby d5_102) (by decide) (by decide) ⟨rfl, N5, Or.inr ⟨h0n, c6, F6, kA2, hkA2, P11⟩⟩
  · have h0n : pN < pM := (own_olt (a := pN) (b := pM) (by omega) (by omega)).mp h0
    refine w_aloadN X3 hx (hb hby d5_22) rfl rfl (pc' := 23) rfl ?_
    refine w_iload X3 hx (hb hby d5_23) rfl (pc' := 25) rfl ?_
    refine w_newarrC (N := pM) (cap := 16) (j := 7) X3 hx hZ P3 (ty := .int) rfl (wd17 hw) (hb hby d5_25) (by omega) (own_oN (by omega)) (by omega) (by decide) (by decide) rfl (pc' := 27) rfl ?_
    intro T12 kA7 X12 hkA7 P12
    replace P12 := own_mr P12
    replace P12 : HP n0 T12.heap [c1, AC k1 [], AC k2 [], AC k3 [], AC k4 (List.map Value.int pC), AC k5 (List.map Value.int pS), AC k6 [.int pz0, .int pz1], AC kA7 (List.map Value.int (List.replicate pM 0))] := P12
    refine w_putf (i := 0) (ty := (.array .int)) X12 hx hZ hown (wd18 hw) N1 P12 rfl F1 (di_C0 hw) 0 rfl (Or.inl (wd19 hw)) (wd9 hw) (by decide) rfl rfl (hb hby d5_27) (pc' := 30) rfl ?_
    intro T13 L6 c8 N6 X13 P13 F8
    replace P13 : HP n0 T13.heap [c8, AC k1 [], AC k2 [], AC k3 [], AC k4 (List.map Value.int pC), AC k5 (List.map Value.int pS), AC k6 [.int pz0, .int pz1], AC kA7 (List.map Value.int (List.replicate pM 0))] := P13
    replace F8 : ObjF Z c8 "com/example/protomata/protomata/Partition" fl_C0 [.ref (n0 + 7), .ref (n0 + 5), .ref (n0 + 6), .int (Int32.ofNat pa), .int (1 : Int32), .int pgc, .long psq] := F8
    refine w_aloadN X13 hx (hb hby d5_30) rfl rfl (pc' := 31) rfl ?_
    refine w_iload X13 hx (hb hby d5_31) rfl (pc' := 33) rfl ?_
    refine w_newarrC (N := pM) (cap := 16) (j := 8) X13 hx hZ P13 (ty := .int) rfl (wd17 hw) (hb hby d5_33) (by omega) (own_oN (by omega)) (by omega) (by decide) (by decide) rfl (pc' := 35) rfl ?_
    intro T14 kA9 X14 hkA9 P14
    replace P14 := own_mr P14
    replace P14 : HP n0 T14.heap [c8, AC k1 [], AC k2 [], AC k3 [], AC k4 (List.map Value.int pC), AC k5 (List.map Value.int pS), AC k6 [.int pz0, .int pz1], AC kA7 (List.map Value.int (List.replicate pM 0)), AC kA9 (List.map Value.int (List.replicate pM 0))] := P14
    refine w_putf (i := 0) (ty := (.array .int)) X14 hx hZ hown (wd20 hw) N6 P14 rfl F8 (di_C0 hw) 1 rfl (Or.inl (wd21 hw)) (wd9 hw) (by decide) rfl rfl (hb hby d5_35) (pc' := 38) rfl ?_
    intro T15 L7 c10 N7 X15 P15 F10
    replace P15 : HP n0 T15.heap [c10, AC k1 [], AC k2 [], AC k3 [], AC k4 (List.map Value.int pC), AC k5 (List.map Value.int pS), AC k6 [.int pz0, .int pz1], AC kA7 (List.map Value.int (List.replicate pM 0)), AC kA9 (List.map Value.int (List.replicate pM 0))] := P15
    replace F10 : ObjF Z c10 "com/example/protomata/protomata/Partition" fl_C0 [.ref (n0 + 7), .ref (n0 + 8), .ref (n0 + 6), .int (Int32.ofNat pa), .int (1 : Int32), .int pgc, .long psq] := F10
    refine w_aloadN X15 hx (hb hby d5_38) rfl rfl (pc' := 39) rfl ?_
    refine w_iconst (v := (0 : Int32)) X15 hx (hb hby d5_39) rfl (pc' := 40) rfl ?_
    refine w_putf (i := 0) (ty := .int) X15 hx hZ hown (wd35 hw) N7 P15 rfl F10 (di_C0 hw) 4 rfl (Or.inl (wd36 hw)) (wd9 hw) (by decide) rfl rfl (hb hby d5_40) (pc' := 43) rfl ?_
    intro T16 L8 c11 N8 X16 P16 F11
    replace P16 : HP n0 T16.heap [c11, AC k1 [], AC k2 [], AC k3 [], AC k4 (List.map Value.int pC), AC k5 (List.map Value.int pS), AC k6 [.int pz0, .int pz1], AC kA7 (List.map Value.int (List.replicate pM 0)), AC kA9 (List.map Value.int (List.replicate pM 0))] := P16
    replace F11 : ObjF Z c11 "com/example/protomata/protomata/Partition" fl_C0 [.ref (n0 + 7), .ref (n0 + 8), .ref (n0 + 6), .int (Int32.ofNat pa), .int (0 : Int32), .int pgc, .long psq] := F11
    refine w_aloadN X16 hx (hb hby d5_43) rfl rfl (pc' := 44) rfl ?_
    refine w_getf (i := 0) (v := .ref (n0 + 6)) X16 hx hZ hown (wd22 hw) P16 rfl F11 2 rfl rfl (hb hby d5_44) (pc' := 47) rfl ?_
    intro T17 X17 P17
    refine w_arrlen (i := 6) X17 hx hZ P17 rfl hk6 (hb hby d5_47) (z := (2 : Int32)) rfl (pc' := 48) rfl ?_
    refine w_iloadN X17 hx (hb hby d5_48) rfl (pc' := 49) rfl ?_
    refine w_icmp_ge X17 hx (hb hby d5_49) (by decide) (pcY := 59) (by decide) (pc' := 52) rfl (fun h3 => absurd h3 (by decide)) (fun h3 => ?_)
    refine w_aloadN X17 hx (hb hby d5_52) rfl rfl (pc' := 53) rfl ?_
    refine w_iloadN X17 hx (hb hby d5_53) rfl (pc' := 54) rfl ?_
    refine w_newarr (N := 4) (j := 9) X17 hx hZ P17 (ty := .int) rfl (wd17 hw) (hb hby d5_54) (by decide) (by decide) (by decide) (by decide) rfl (pc' := 56) rfl ?_
    intro T18 kA12 X18 hkA12 P18
    replace P18 : HP n0 T18.heap [c11, AC k1 [], AC k2 [], AC k3 [], AC k4 (List.map Value.int pC), AC k5 (List.map Value.int pS), AC k6 [.int pz0, .int pz1], AC kA7 (List.map Value.int (List.replicate pM 0)), AC kA9 (List.map Value.int (List.replicate pM 0)), AC kA12 [.int (0 : Int32), .int (0 : Int32), .int (0 : Int32), .int (0 : Int32)]] := P18
    refine w_putf (i := 0) (ty := (.array .int)) X18 hx hZ hown (wd22 hw) N8 P18 rfl F11 (di_C0 hw) 2 rfl (Or.inl (wd23 hw)) (wd9 hw) (by decide) rfl rfl (hb hby d5_56) (pc' := 59) rfl ?_
    intro T19 L9 c13 N9 X19 P19 F13
    replace P19 : HP n0 T19.heap [c13, AC k1 [], AC k2 [], AC k3 [], AC k4 (List.map Value.int pC), AC k5 (List.map Value.int pS), AC k6 [.int pz0, .int pz1], AC kA7 (List.map Value.int (List.replicate pM 0)), AC kA9 (List.map Value.int (List.replicate pM 0)), AC kA12 [.int (0 : Int32), .int (0 : Int32), .int (0 : Int32), .int (0 : Int32)]] := P19
    replace F13 : ObjF Z c13 "com/example/protomata/protomata/Partition" fl_C0 [.ref (n0 + 7), .ref (n0 + 8), .ref (n0 + 9), .int (Int32.ofNat pa), .int (0 : Int32), .int pgc, .long psq] := F13
    refine w_aloadN X19 hx (hb hby d5_59) rfl rfl (pc' := 60) rfl ?_
    refine w_dup X19 hx (hb hby d5_60) rfl (pc' := 61) rfl ?_
    refine w_getf (i := 0) (v := .int (0 : Int32)) X19 hx hZ hown (wd35 hw) P19 rfl F13 4 rfl rfl (hb hby d5_61) (pc' := 64) rfl ?_
    intro T20 X20 P20
    refine w_iconst (v := (1 : Int32)) X20 hx (hb hby d5_64) rfl (pc' := 65) rfl ?_
    refine w_iadd X20 hx (hb hby d5_65) (pc' := 66) rfl ?_
    refine w_eqI (z := (1 : Int32)) (by decide) ?_
    refine w_putf (i := 0) (ty := .int) X20 hx hZ hown (wd35 hw) N9 P20 rfl F13 (di_C0 hw) 4 rfl (Or.inl (wd36 hw)) (wd9 hw) (by decide) rfl rfl (hb hby d5_66) (pc' := 69) rfl ?_
    intro T21 L10 c14 N10 X21 P21 F14
    replace P21 : HP n0 T21.heap [c14, AC k1 [], AC k2 [], AC k3 [], AC k4 (List.map Value.int pC), AC k5 (List.map Value.int pS), AC k6 [.int pz0, .int pz1], AC kA7 (List.map Value.int (List.replicate pM 0)), AC kA9 (List.map Value.int (List.replicate pM 0)), AC kA12 [.int (0 : Int32), .int (0 : Int32), .int (0 : Int32), .int (0 : Int32)]] := P21
    replace F14 : ObjF Z c14 "com/example/protomata/protomata/Partition" fl_C0 [.ref (n0 + 7), .ref (n0 + 8), .ref (n0 + 9), .int (Int32.ofNat pa), .int (1 : Int32), .int pgc, .long psq] := F14
    refine w_aloadN X21 hx (hb hby d5_69) rfl rfl (pc' := 70) rfl ?_
    refine w_getf (i := 0) (v := .int (1 : Int32)) X21 hx hZ hown (wd35 hw) P21 rfl F14 4 rfl rfl (hb hby d5_70) (pc' := 73) rfl ?_
    intro T22 X22 P22
    refine w_ldc X22 hx (hb hby d5_73) hown (mvT hZ (wd37 hw)) (pc' := 75) rfl ?_
    refine w_icmp_ne X22 hx (hb hby d5_75) (by decide) (pcY := 91) (by decide) (pc' := 78) rfl (fun h4 => ?_) (fun h4 => absurd h4 (by decide))
    refine w_aloadN X22 hx (hb hby d5_91) rfl rfl (pc' := 92) rfl ?_
    refine w_iconst (v := (0 : Int32)) X22 hx (hb hby d5_92) rfl (pc' := 93) rfl ?_
    refine w_putf (i := 0) (ty := .int) X22 hx hZ hown (wd38 hw) N10 P22 rfl F14 (di_C0 hw) 5 rfl (Or.inl (wd39 hw)) (wd9 hw) (by decide) rfl rfl (hb hby d5_93) (pc' := 96) rfl ?_
    intro T23 L11 c15 N11 X23 P23 F15
    replace P23 : HP n0 T23.heap [c15, AC k1 [], AC k2 [], AC k3 [], AC k4 (List.map Value.int pC), AC k5 (List.map Value.int pS), AC k6 [.int pz0, .int pz1], AC kA7 (List.map Value.int (List.replicate pM 0)), AC kA9 (List.map Value.int (List.replicate pM 0)), AC kA12 [.int (0 : Int32), .int (0 : Int32), .int (0 : Int32), .int (0 : Int32)]] := P23
    replace F15 : ObjF Z c15 "com/example/protomata/protomata/Partition" fl_C0 [.ref (n0 + 7), .ref (n0 + 8), .ref (n0 + 9), .int (Int32.ofNat pa), .int (1 : Int32), .int (0 : Int32), .long psq] := F15
    refine w_aloadN X23 hx (hb hby d5_96) rfl rfl (pc' := 97) rfl ?_
    refine w_lconst (v := (0 : Int64)) X23 hx (hb hby d5_97) rfl (pc' := 98) rfl ?_
    refine w_putf (i := 0) (ty := .long) X23 hx hZ hown (wd40 hw) N11 P23 rfl F15 (di_C0 hw) 6 rfl (Or.inl (wd41 hw)) (wd9 hw) (by decide) rfl rfl (hb hby d5_98) (pc' := 101) rfl ?_
    intro T24 L12 c16 N12 X24 P24 F16
    replace P24 : HP n0 T24.heap [c16, AC k1 [], AC k2 [], AC k3 [], AC k4 (List.map Value.int pC), AC k5 (List.map Value.int pS), AC k6 [.int pz0, .int pz1], AC kA7 (List.map Value.int (List.replicate pM 0)), AC kA9 (List.map Value.int (List.replicate pM 0)), AC kA12 [.int (0 : Int32), .int (0 : Int32), .int (0 : Int32), .int (0 : Int32)]] := P24
    replace F16 : ObjF Z c16 "com/example/protomata/protomata/Partition" fl_C0 [.ref (n0 + 7), .ref (n0 + 8), .ref (n0 + 9), .int (Int32.ofNat pa), .int (1 : Int32), .int (0 : Int32), .long (0 : Int64)] := F16
    refine w_aloadN X24 hx (hb hby d5_101) rfl rfl (pc' := 102) rfl ?_
    exact w_ret_a X24 hx rfl hret rfl hlk (hb hby d5_102) (by decide) (by decide) ⟨rfl, N12, Or.inl ⟨h0n, c16, F16, kA7, hkA7, kA9, hkA9, kA12, hkA12, P24⟩⟩
theorem d7_0 : decode prog_101_method_3_code 0 = .ok (.iload_n 1, 1) := by decide +kernel
theorem d7_1 : decode prog_101_method_3_code 1 = .ok (.aload_n 0, 1) := by decide +kernel
theorem d7_2 : decode prog_101_method_3_code 2 = .ok (.getfield 19, 3) := by decide +kernel
theorem d7_5 : decode prog_101_method_3_code 5 = .ok (.imul, 1) := by decide +kernel
theorem d7_6 : decode prog_101_method_3_code 6 = .ok (.iload_n 2, 1) := by decide +kernel
theorem d7_7 : decode prog_101_method_3_code 7 = .ok (.iadd, 1) := by decide +kernel
theorem d7_8 : decode prog_101_method_3_code 8 = .ok (.istore_n 3, 1) := by decide +kernel
theorem d7_9 : decode prog_101_method_3_code 9 = .ok (.aload_n 0, 1) := by decide +kernel
theorem d7_10 : decode prog_101_method_3_code 10 = .ok (.getfield 13, 3) := by decide +kernel
theorem d7_13 : decode prog_101_method_3_code 13 = .ok (.iload_n 3, 1) := by decide +kernel
theorem d7_14 : decode prog_101_method_3_code 14 = .ok (.iaload, 1) := by decide +kernel
theorem d7_15 : decode prog_101_method_3_code 15 = .ok (.aload_n 0, 1) := by decide +kernel
theorem d7_16 : decode prog_101_method_3_code 16 = .ok (.getfield 29, 3) := by decide +kernel
theorem d7_19 : decode prog_101_method_3_code 19 = .ok (.if_icmp .ne 14, 3) := by decide +kernel
theorem d7_22 : decode prog_101_method_3_code 22 = .ok (.aload_n 0, 1) := by decide +kernel
theorem d7_23 : decode prog_101_method_3_code 23 = .ok (.getfield 7, 3) := by decide +kernel
theorem d7_26 : decode prog_101_method_3_code 26 = .ok (.iload_n 3, 1) := by decide +kernel
theorem d7_27 : decode prog_101_method_3_code 27 = .ok (.iaload, 1) := by decide +kernel
theorem d7_28 : decode prog_101_method_3_code 28 = .ok (.istore 4, 2) := by decide +kernel
theorem d7_30 : decode prog_101_method_3_code 30 = .ok (.goto 42, 3) := by decide +kernel
theorem d7_33 : decode prog_101_method_3_code 33 = .ok (.aload_n 0, 1) := by decide +kernel
theorem d7_34 : decode prog_101_method_3_code 34 = .ok (.dup, 1) := by decide +kernel
theorem d7_35 : decode prog_101_method_3_code 35 = .ok (.getfield 41, 3) := by decide +kernel
theorem d7_38 : decode prog_101_method_3_code 38 = .ok (.dup_x1, 1) := by decide +kernel
theorem d7_39 : decode prog_101_method_3_code 39 = .ok (.iconst 1, 1) := by decide +kernel
theorem d7_40 : decode prog_101_method_3_code 40 = .ok (.iadd, 1) := by decide +kernel
theorem d7_41 : decode prog_101_method_3_code 41 = .ok (.putfield 41, 3) := by decide +kernel
theorem d7_44 : decode prog_101_method_3_code 44 = .ok (.istore 4, 2) := by decide +kernel
theorem d7_46 : decode prog_101_method_3_code 46 = .ok (.aload_n 0, 1) := by decide +kernel
theorem d7_47 : decode prog_101_method_3_code 47 = .ok (.getfield 13, 3) := by decide +kernel
theorem d7_50 : decode prog_101_method_3_code 50 = .ok (.iload_n 3, 1) := by decide +kernel
theorem d7_51 : decode prog_101_method_3_code 51 = .ok (.aload_n 0, 1) := by decide +kernel
theorem d7_52 : decode prog_101_method_3_code 52 = .ok (.getfield 29, 3) := by decide +kernel
theorem d7_55 : decode prog_101_method_3_code 55 = .ok (.iastore, 1) := by decide +kernel
theorem d7_56 : decode prog_101_method_3_code 56 = .ok (.aload_n 0, 1) := by decide +kernel
theorem d7_57 : decode prog_101_method_3_code 57 = .ok (.getfield 7, 3) := by decide +kernel
theorem d7_60 : decode prog_101_method_3_code 60 = .ok (.iload_n 3, 1) := by decide +kernel
theorem d7_61 : decode prog_101_method_3_code 61 = .ok (.iload 4, 2) := by decide +kernel
theorem d7_63 : decode prog_101_method_3_code 63 = .ok (.iastore, 1) := by decide +kernel
theorem d7_64 : decode prog_101_method_3_code 64 = .ok (.aload_n 0, 1) := by decide +kernel
theorem d7_65 : decode prog_101_method_3_code 65 = .ok (.getfield 16, 3) := by decide +kernel
theorem d7_68 : decode prog_101_method_3_code 68 = .ok (.iload 4, 2) := by decide +kernel
theorem d7_70 : decode prog_101_method_3_code 70 = .ok (.iconst 0, 1) := by decide +kernel
theorem d7_71 : decode prog_101_method_3_code 71 = .ok (.iastore, 1) := by decide +kernel
theorem d7_72 : decode prog_101_method_3_code 72 = .ok (.aload_n 0, 1) := by decide +kernel
theorem d7_73 : decode prog_101_method_3_code 73 = .ok (.dup, 1) := by decide +kernel
theorem d7_74 : decode prog_101_method_3_code 74 = .ok (.getfield 44, 3) := by decide +kernel
theorem d7_77 : decode prog_101_method_3_code 77 = .ok (.ldc2_w 48, 3) := by decide +kernel
theorem d7_80 : decode prog_101_method_3_code 80 = .ok (.aload_n 0, 1) := by decide +kernel
theorem d7_81 : decode prog_101_method_3_code 81 = .ok (.getfield 16, 3) := by decide +kernel
theorem d7_84 : decode prog_101_method_3_code 84 = .ok (.iload 4, 2) := by decide +kernel
theorem d7_86 : decode prog_101_method_3_code 86 = .ok (.iaload, 1) := by decide +kernel
theorem d7_87 : decode prog_101_method_3_code 87 = .ok (.i2l, 1) := by decide +kernel
theorem d7_88 : decode prog_101_method_3_code 88 = .ok (.lmul, 1) := by decide +kernel
theorem d7_89 : decode prog_101_method_3_code 89 = .ok (.lconst 1, 1) := by decide +kernel
theorem d7_90 : decode prog_101_method_3_code 90 = .ok (.ladd, 1) := by decide +kernel
theorem d7_91 : decode prog_101_method_3_code 91 = .ok (.ladd, 1) := by decide +kernel
theorem d7_92 : decode prog_101_method_3_code 92 = .ok (.putfield 44, 3) := by decide +kernel
theorem d7_95 : decode prog_101_method_3_code 95 = .ok (.aload_n 0, 1) := by decide +kernel
theorem d7_96 : decode prog_101_method_3_code 96 = .ok (.getfield 16, 3) := by decide +kernel
theorem d7_99 : decode prog_101_method_3_code 99 = .ok (.iload 4, 2) := by decide +kernel
theorem d7_101 : decode prog_101_method_3_code 101 = .ok (.dup2, 1) := by decide +kernel
theorem d7_102 : decode prog_101_method_3_code 102 = .ok (.iaload, 1) := by decide +kernel
theorem d7_103 : decode prog_101_method_3_code 103 = .ok (.iconst 1, 1) := by decide +kernel
theorem d7_104 : decode prog_101_method_3_code 104 = .ok (.iadd, 1) := by decide +kernel
theorem d7_105 : decode prog_101_method_3_code 105 = .ok (.iastore, 1) := by decide +kernel
theorem d7_106 : decode prog_101_method_3_code 106 = .ok (.iload 4, 2) := by decide +kernel
theorem d7_108 : decode prog_101_method_3_code 108 = .ok (.ireturn, 1) := by decide +kernel
theorem pn7 : plainFor (⟨"com/example/protomata/protomata/Partition", "put", "(II)I"⟩ : MethodName) = true := plainFor_of_name (by first | (simp [plainName, overriddenIn]; done) | decide +kernel)
theorem pd7 : parseMethodDescriptor (⟨"com/example/protomata/protomata/Partition", "put", "(II)I"⟩ : MethodName).desc = some ⟨[.int, .int], some .int⟩ := by decide +kernel
theorem ef_msA0 (m : MethodId) (n0 : Nat) (pN : Nat) (pb : Nat) (pa : Nat) (pc_ : Nat) (pk : Nat) (psq : Int64) (pz0 : Int32) (pz1 : Int32) : entryFrame m #[.ref (n0 + 0), .int (Int32.ofNat pb), .int (Int32.ofNat pc_)] 5 = mkF m 0 #[.val (.ref (n0 + 0)), .val (.int (Int32.ofNat pb)), .val (.int (Int32.ofNat pc_)), .unset, .unset] [] := by first | (simp [entryFrame, mkF, argsToLocals, Value.category]; done) | rfl
def Q_msA0 (Z : State) (n0 : Nat) (k1 : ClassId) (k2 : ClassId) (k3 : ClassId) (k4 : ClassId) (k5 : ClassId) (k6 : ClassId) (o0 : Jvm.Cell) (pC : List Int32) (pS : List Int32) (pN : Nat) (pb : Nat) (pa : Nat) (pc_ : Nat) (pk : Nat) (psq : Int64) (pz0 : Int32) (pz1 : Int32) (v : Option Value) (h : Heap) (L : List Loc) : Prop := v = some (.int (0 : Int32)) ∧ Fr n0 L ∧ ∃ c2 : Jvm.Cell, ObjF Z c2 "com/example/protomata/protomata/Partition" fl_C0 [.ref (n0 + 4), .ref (n0 + 5), .ref (n0 + 6), .int (Int32.ofNat pa), .int (1 : Int32), .int (1 : Int32), .long (psq + (1 : Int64))] ∧ HP n0 h [c2, AC k1 [], AC k2 [], AC k3 [], AC k4 (List.map Value.int (pC.set pk (0 : Int32))), AC k5 (List.map Value.int (pS.set pk (1 : Int32))), AC k6 [.int (1 : Int32), .int pz1]]
set_option maxRecDepth 65536 in
set_option maxHeartbeats 40000000 in
theorem rm_msA0 (l : Launch) (Z : State) (a0 : Array Value) (hw : ∀ d ∈ tables_1, d.before a0 Z = true) (ws : List Jvm.Cond) (n0 : Nat) (k1 : ClassId) (k2 : ClassId) (k3 : ClassId) (k4 : ClassId) (k5 : ClassId) (k6 : ClassId) (o0 : Jvm.Cell) (pC : List Int32) (pS : List Int32) (pN : Nat) (pb : Nat) (pa : Nat) (pc_ : Nat) (pk : Nat) (psq : Int64) (pz0 : Int32) (pz1 : Int32) (h0 : Heap) (P0 : HP n0 h0 [o0, AC k1 [], AC k2 [], AC k3 [], AC k4 (List.map Value.int pC), AC k5 (List.map Value.int pS), AC k6 [.int pz0, .int pz1]]) (hk1 : IsA Z k1 .int) (hk2 : IsA Z k2 .int) (hk3 : IsA Z k3 .int) (hk4 : IsA Z k4 .int) (hk5 : IsA Z k5 .int) (hk6 : IsA Z k6 .int) (hpC : pC.length = pN) (hpS : pS.length = pN) (Fo0 : ObjF Z o0 "com/example/protomata/protomata/Partition" fl_C0 [.ref (n0 + 4), .ref (n0 + 5), .ref (n0 + 6), .int (Int32.ofNat pa), .int (1 : Int32), .int (0 : Int32), .long psq]) (hpk : pb * pa + pc_ = pk) (hpl : pk < pN) (hpN : pN ≤ 16) (hms : ¬ pS.getD pk 0 = (1 : Int32)) :
    MetFree l (⟨"com/example/protomata/protomata/Partition", "put", "(II)I"⟩ : MethodName) (head1 (Jvm.Cond.code (⟨"com/example/protomata/protomata/Partition", "put", "(II)I"⟩ : MethodName) prog_101_method_3_code 5 (some .int) :: ws) ({ frames := 0, cells := 0, slots := 0, locals := 0 } : Room)) (fun aa U => aa = #[.ref (n0 + 0), .int (Int32.ofNat pb), .int (Int32.ofNat pc_)] ∧ Z.Warmed39 U.vm ∧ U.heap = h0) (fun _ _ _ _ _ => True) (fun _ U o U' => ∃ v L, o = .returned v ∧ Q_msA0 Z n0 k1 k2 k3 k4 k5 k6 o0 pC pS pN pb pa pc_ pk psq pz0 pz1 v U'.heap L ∧ FrameEnd U o U' L ({ frames := 0, cells := 0, slots := 0, locals := 0 } : Room).cells ({ frames := 0, cells := 0, slots := 0, locals := 0 } : Room).slots) := by
  refine own_body pn7 ?_
  intro p e s m below meth c T0 hx hby hml hret hlk hown hnm hZ X0 e0
  subst e0
  have N0 : Fr n0 [] := Fr.nil n0
  refine own_cast (ef_msA0 m n0 pN pb pa pc_ pk psq pz0 pz1) ?_
  refine w_iloadN X0 hx (hb hby d7_0) rfl (pc' := 1) rfl ?_
  refine w_aloadN X0 hx (hb hby d7_1) rfl rfl (pc' := 2) rfl ?_
  refine w_getf (i := 0) (v := .int (Int32.ofNat pa)) X0 hx hZ hown (wd29 hw) P0 rfl Fo0 3 rfl rfl (hb hby d7_2) (pc' := 5) rfl ?_
  intro T1 X1 P1
  refine w_imul X1 hx (hb hby d7_5) (pc' := 6) rfl ?_
  refine w_eqI (z := (Int32.ofNat (pb * pa))) (own_omul pb pa) ?_
  refine w_iloadN X1 hx (hb hby d7_6) rfl (pc' := 7) rfl ?_
  refine w_iadd X1 hx (hb hby d7_7) (pc' := 8) rfl ?_
  refine w_eqI (z := (Int32.ofNat ((pb * pa) + pc_))) (own_oadd (pb * pa) pc_) ?_
  refine w_eqI (z := (Int32.ofNat pk)) (congrArg Int32.ofNat hpk) ?_
  refine w_istoreN (l' := #[.val (.ref (n0 + 0)), .val (.int (Int32.ofNat pb)), .val (.int (Int32.ofNat pc_)), .val (.int (Int32.ofNat pk)), .unset]) X1 hx (hb hby d7_8) rfl (pc' := 9) rfl ?_
  refine w_aloadN X1 hx (hb hby d7_9) rfl rfl (pc' := 10) rfl ?_
  refine w_getf (i := 0) (v := .ref (n0 + 5)) X1 hx hZ hown (wd20 hw) P1 rfl Fo0 1 rfl rfl (hb hby d7_10) (pc' := 13) rfl ?_
  intro T2 X2 P2
  refine w_iloadN X2 hx (hb hby d7_13) rfl (pc' := 14) rfl ?_
  refine w_ialoadL (i := 5) (jn := pk) X2 hx hZ P2 rfl hk5 (hb hby d7_14) (own_oN (by omega)) (own_llt hpS (by omega)) (pc' := 15) rfl ?_
  refine w_aloadN X2 hx (hb hby d7_15) rfl rfl (pc' := 16) rfl ?_
  refine w_getf (i := 0) (v := .int (1 : Int32)) X2 hx hZ hown (wd35 hw) P2 rfl Fo0 4 rfl rfl (hb hby d7_16) (pc' := 19) rfl ?_
  intro T3 X3 P3
  refine w_icmp_ne X3 hx (hb hby d7_19) (by decide) (pcY := 33) (by decide) (pc' := 22) rfl (fun h0 => ?_) (fun h0 => absurd h0 hms)
  refine w_aloadN X3 hx (hb hby d7_33) rfl rfl (pc' := 34) rfl ?_
  refine w_dup X3 hx (hb hby d7_34) rfl (pc' := 35) rfl ?_
  refine w_getf (i := 0) (v := .int (0 : Int32)) X3 hx hZ hown (wd38 hw) P3 rfl Fo0 5 rfl rfl (hb hby d7_35) (pc' := 38) rfl ?_
  intro T4 X4 P4
  refine w_dupX1 X4 hx (hb hby d7_38) rfl rfl (pc' := 39) rfl ?_
  refine w_iconst (v := (1 : Int32)) X4 hx (hb hby d7_39) rfl (pc' := 40) rfl ?_
  refine w_iadd X4 hx (hb hby d7_40) (pc' := 41) rfl ?_
  refine w_eqI (z := (1 : Int32)) (by decide) ?_
  refine w_putf (i := 0) (ty := .int) X4 hx hZ hown (wd38 hw) N0 P4 rfl Fo0 (di_C0 hw) 5 rfl (Or.inl (wd39 hw)) (wd9 hw) (by decide) rfl rfl (hb hby d7_41) (pc' := 44) rfl ?_
  intro T5 L1 c1 N1 X5 P5 F1
  replace P5 : HP n0 T5.heap [c1, AC k1 [], AC k2 [], AC k3 [], AC k4 (List.map Value.int pC), AC k5 (List.map Value.int pS), AC k6 [.int pz0, .int pz1]] := P5
  replace F1 : ObjF Z c1 "com/example/protomata/protomata/Partition" fl_C0 [.ref (n0 + 4), .ref (n0 + 5), .ref (n0 + 6), .int (Int32.ofNat pa), .int (1 : Int32), .int (1 : Int32), .long psq] := F1
  refine w_istore (l' := #[.val (.ref (n0 + 0)), .val (.int (Int32.ofNat pb)), .val (.int (Int32.ofNat pc_)), .val (.int (Int32.ofNat pk)), .val (.int (0 : Int32))]) X5 hx (hb hby d7_44) rfl (pc' := 46) rfl ?_
  refine w_aloadN X5 hx (hb hby d7_46) rfl rfl (pc' := 47) rfl ?_
  refine w_getf (i := 0) (v := .ref (n0 + 5)) X5 hx hZ hown (wd20 hw) P5 rfl F1 1 rfl rfl (hb hby d7_47) (pc' := 50) rfl ?_
  intro T6 X6 P6
  refine w_iloadN X6 hx (hb hby d7_50) rfl (pc' := 51) rfl ?_
  refine w_aloadN X6 hx (hb hby d7_51) rfl rfl (pc' := 52) rfl ?_
  refine w_getf (i := 0) (v := .int (1 : Int32)) X6 hx hZ hown (wd35 hw) P6 rfl F1 4 rfl rfl (hb hby d7_52) (pc' := 55) rfl ?_
  intro T7 X7 P7
  refine w_iastoreL (i := 5) (jn := pk) X7 hx hZ N1 P7 rfl hk5 (hb hby d7_55) (own_oN (by omega)) (own_llt hpS (by omega)) (pc' := 56) rfl ?_
  intro T8 L2 N2 X8 P8
  replace P8 : HP n0 T8.heap [c1, AC k1 [], AC k2 [], AC k3 [], AC k4 (List.map Value.int pC), AC k5 (List.map Value.int (pS.set pk (1 : Int32))), AC k6 [.int pz0, .int pz1]] := P8
  refine w_aloadN X8 hx (hb hby d7_56) rfl rfl (pc' := 57) rfl ?_
  refine w_getf (i := 0) (v := .ref (n0 + 4)) X8 hx hZ hown (wd18 hw) P8 rfl F1 0 rfl rfl (hb hby d7_57) (pc' := 60) rfl ?_
  intro T9 X9 P9
  refine w_iloadN X9 hx (hb hby d7_60) rfl (pc' := 61) rfl ?_
  refine w_iload X9 hx (hb hby d7_61) rfl (pc' := 63) rfl ?_
  refine w_iastoreL (i := 4) (jn := pk) X9 hx hZ N2 P9 rfl hk4 (hb hby d7_63) (own_oN (by omega)) (own_llt hpC (by omega)) (pc' := 64) rfl ?_
  intro T10 L3 N3 X10 P10
  replace P10 : HP n0 T10.heap [c1, AC k1 [], AC k2 [], AC k3 [], AC k4 (List.map Value.int (pC.set pk (0 : Int32))), AC k5 (List.map Value.int (pS.set pk (1 : Int32))), AC k6 [.int pz0, .int pz1]] := P10
  refine w_aloadN X10 hx (hb hby d7_64) rfl rfl (pc' := 65) rfl ?_
  refine w_getf (i := 0) (v := .ref (n0 + 6)) X10 hx hZ hown (wd22 hw) P10 rfl F1 2 rfl rfl (hb hby d7_65) (pc' := 68) rfl ?_
  intro T11 X11 P11
  refine w_iload X11 hx (hb hby d7_68) rfl (pc' := 70) rfl ?_
  refine w_iconst (v := (0 : Int32)) X11 hx (hb hby d7_70) rfl (pc' := 71) rfl ?_
  refine w_iastore (i := 6) (jn := 0) X11 hx hZ N3 P11 rfl hk6 (hb hby d7_71) (by decide) (Nat.le_of_ble_eq_true rfl) (pc' := 72) rfl ?_
  intro T12 L4 N4 X12 P12
  replace P12 : HP n0 T12.heap [c1, AC k1 [], AC k2 [], AC k3 [], AC k4 (List.map Value.int (pC.set pk (0 : Int32))), AC k5 (List.map Value.int (pS.set pk (1 : Int32))), AC k6 [.int (0 : Int32), .int pz1]] := P12
  refine w_aloadN X12 hx (hb hby d7_72) rfl rfl (pc' := 73) rfl ?_
  refine w_dup X12 hx (hb hby d7_73) rfl (pc' := 74) rfl ?_
  refine w_getf (i := 0) (v := .long psq) X12 hx hZ hown (wd40 hw) P12 rfl F1 6 rfl rfl (hb hby d7_74) (pc' := 77) rfl ?_
  intro T13 X13 P13
  refine w_ldc2 X13 hx (hb hby d7_77) hown (mvT hZ (wd47 hw)) (pc' := 80) rfl ?_
  refine w_aloadN X13 hx (hb hby d7_80) rfl rfl (pc' := 81) rfl ?_
  refine w_getf (i := 0) (v := .ref (n0 + 6)) X13 hx hZ hown (wd22 hw) P13 rfl F1 2 rfl rfl (hb hby d7_81) (pc' := 84) rfl ?_
  intro T14 X14 P14
  refine w_iload X14 hx (hb hby d7_84) rfl (pc' := 86) rfl ?_
  refine w_iaload (i := 6) (jn := 0) (v := .int (0 : Int32)) X14 hx hZ P14 rfl hk6 (hb hby d7_86) (by decide) rfl (pc' := 87) rfl ?_
  refine w_i2l X14 hx (hb hby d7_87) (pc' := 88) rfl ?_
  refine w_eqJ (z := (0 : Int64)) (by decide) ?_
  refine w_lmul X14 hx (hb hby d7_88) (pc' := 89) rfl ?_
  refine w_eqJ (z := (0 : Int64)) (by decide) ?_
  refine w_lconst (v := (1 : Int64)) X14 hx (hb hby d7_89) rfl (pc' := 90) rfl ?_
  refine w_ladd X14 hx (hb hby d7_90) (pc' := 91) rfl ?_
  refine w_eqJ (z := (1 : Int64)) (by decide) ?_
  refine w_ladd X14 hx (hb hby d7_91) (pc' := 92) rfl ?_
  refine w_putf (i := 0) (ty := .long) X14 hx hZ hown (wd40 hw) N4 P14 rfl F1 (di_C0 hw) 6 rfl (Or.inl (wd41 hw)) (wd9 hw) (by decide) rfl rfl (hb hby d7_92) (pc' := 95) rfl ?_
  intro T15 L5 c2 N5 X15 P15 F2
  replace P15 : HP n0 T15.heap [c2, AC k1 [], AC k2 [], AC k3 [], AC k4 (List.map Value.int (pC.set pk (0 : Int32))), AC k5 (List.map Value.int (pS.set pk (1 : Int32))), AC k6 [.int (0 : Int32), .int pz1]] := P15
  replace F2 : ObjF Z c2 "com/example/protomata/protomata/Partition" fl_C0 [.ref (n0 + 4), .ref (n0 + 5), .ref (n0 + 6), .int (Int32.ofNat pa), .int (1 : Int32), .int (1 : Int32), .long (psq + (1 : Int64))] := F2
  refine w_aloadN X15 hx (hb hby d7_95) rfl rfl (pc' := 96) rfl ?_
  refine w_getf (i := 0) (v := .ref (n0 + 6)) X15 hx hZ hown (wd22 hw) P15 rfl F2 2 rfl rfl (hb hby d7_96) (pc' := 99) rfl ?_
  intro T16 X16 P16
  refine w_iload X16 hx (hb hby d7_99) rfl (pc' := 101) rfl ?_
  refine w_dup2 X16 hx (hb hby d7_101) rfl rfl (pc' := 102) rfl ?_
  refine w_iaload (i := 6) (jn := 0) (v := .int (0 : Int32)) X16 hx hZ P16 rfl hk6 (hb hby d7_102) (by decide) rfl (pc' := 103) rfl ?_
  refine w_iconst (v := (1 : Int32)) X16 hx (hb hby d7_103) rfl (pc' := 104) rfl ?_
  refine w_iadd X16 hx (hb hby d7_104) (pc' := 105) rfl ?_
  refine w_eqI (z := (1 : Int32)) (by decide) ?_
  refine w_iastore (i := 6) (jn := 0) X16 hx hZ N5 P16 rfl hk6 (hb hby d7_105) (by decide) (Nat.le_of_ble_eq_true rfl) (pc' := 106) rfl ?_
  intro T17 L6 N6 X17 P17
  replace P17 : HP n0 T17.heap [c2, AC k1 [], AC k2 [], AC k3 [], AC k4 (List.map Value.int (pC.set pk (0 : Int32))), AC k5 (List.map Value.int (pS.set pk (1 : Int32))), AC k6 [.int (1 : Int32), .int pz1]] := P17
  refine w_iload X17 hx (hb hby d7_106) rfl (pc' := 108) rfl ?_
  exact w_ret_i X17 hx hret hlk (hb hby d7_108) (by decide) (by decide) ⟨rfl, N6, c2, F2, P17⟩
theorem ef_msA1 (m : MethodId) (n0 : Nat) (pN : Nat) (pb : Nat) (pa : Nat) (pc_ : Nat) (pk : Nat) (psq : Int64) (pz0 : Int32) (pz1 : Int32) : entryFrame m #[.ref (n0 + 0), .int (Int32.ofNat pb), .int (Int32.ofNat pc_)] 5 = mkF m 0 #[.val (.ref (n0 + 0)), .val (.int (Int32.ofNat pb)), .val (.int (Int32.ofNat pc_)), .unset, .unset] [] := by first | (simp [entryFrame, mkF, argsToLocals, Value.category]; done) | rfl
def Q_msA1 (Z : State) (n0 : Nat) (k1 : ClassId) (k2 : ClassId) (k3 : ClassId) (k4 : ClassId) (k5 : ClassId) (k6 : ClassId) (o0 : Jvm.Cell) (pC : List Int32) (pS : List Int32) (pN : Nat) (pb : Nat) (pa : Nat) (pc_ : Nat) (pk : Nat) (psq : Int64) (pz0 : Int32) (pz1 : Int32) (v : Option Value) (h : Heap) (L : List Loc) : Prop := v = some (.int (1 : Int32)) ∧ Fr n0 L ∧ ∃ c2 : Jvm.Cell, ObjF Z c2 "com/example/protomata/protomata/Partition" fl_C0 [.ref (n0 + 4), .ref (n0 + 5), .ref (n0 + 6), .int (Int32.ofNat pa), .int (1 : Int32), .int (2 : Int32), .long (psq + (1 : Int64))] ∧ HP n0 h [c2, AC k1 [], AC k2 [], AC k3 [], AC k4 (List.map Value.int (pC.set pk (1 : Int32))), AC k5 (List.map Value.int (pS.set pk (1 : Int32))), AC k6 [.int pz0, .int (1 : Int32)]]
set_option maxRecDepth 65536 in
set_option maxHeartbeats 40000000 in
theorem rm_msA1 (l : Launch) (Z : State) (a0 : Array Value) (hw : ∀ d ∈ tables_1, d.before a0 Z = true) (ws : List Jvm.Cond) (n0 : Nat) (k1 : ClassId) (k2 : ClassId) (k3 : ClassId) (k4 : ClassId) (k5 : ClassId) (k6 : ClassId) (o0 : Jvm.Cell) (pC : List Int32) (pS : List Int32) (pN : Nat) (pb : Nat) (pa : Nat) (pc_ : Nat) (pk : Nat) (psq : Int64) (pz0 : Int32) (pz1 : Int32) (h0 : Heap) (P0 : HP n0 h0 [o0, AC k1 [], AC k2 [], AC k3 [], AC k4 (List.map Value.int pC), AC k5 (List.map Value.int pS), AC k6 [.int pz0, .int pz1]]) (hk1 : IsA Z k1 .int) (hk2 : IsA Z k2 .int) (hk3 : IsA Z k3 .int) (hk4 : IsA Z k4 .int) (hk5 : IsA Z k5 .int) (hk6 : IsA Z k6 .int) (hpC : pC.length = pN) (hpS : pS.length = pN) (Fo0 : ObjF Z o0 "com/example/protomata/protomata/Partition" fl_C0 [.ref (n0 + 4), .ref (n0 + 5), .ref (n0 + 6), .int (Int32.ofNat pa), .int (1 : Int32), .int (1 : Int32), .long psq]) (hpk : pb * pa + pc_ = pk) (hpl : pk < pN) (hpN : pN ≤ 16) (hms : ¬ pS.getD pk 0 = (1 : Int32)) :
    MetFree l (⟨"com/example/protomata/protomata/Partition", "put", "(II)I"⟩ : MethodName) (head1 (Jvm.Cond.code (⟨"com/example/protomata/protomata/Partition", "put", "(II)I"⟩ : MethodName) prog_101_method_3_code 5 (some .int) :: ws) ({ frames := 0, cells := 0, slots := 0, locals := 0 } : Room)) (fun aa U => aa = #[.ref (n0 + 0), .int (Int32.ofNat pb), .int (Int32.ofNat pc_)] ∧ Z.Warmed39 U.vm ∧ U.heap = h0) (fun _ _ _ _ _ => True) (fun _ U o U' => ∃ v L, o = .returned v ∧ Q_msA1 Z n0 k1 k2 k3 k4 k5 k6 o0 pC pS pN pb pa pc_ pk psq pz0 pz1 v U'.heap L ∧ FrameEnd U o U' L ({ frames := 0, cells := 0, slots := 0, locals := 0 } : Room).cells ({ frames := 0, cells := 0, slots := 0, locals := 0 } : Room).slots) := by
  refine own_body pn7 ?_
  intro p e s m below meth c T0 hx hby hml hret hlk hown hnm hZ X0 e0
  subst e0
  have N0 : Fr n0 [] := Fr.nil n0
  refine own_cast (ef_msA1 m n0 pN pb pa pc_ pk psq pz0 pz1) ?_
  refine w_iloadN X0 hx (hb hby d7_0) rfl (pc' := 1) rfl ?_
  refine w_aloadN X0 hx (hb hby d7_1) rfl rfl (pc' := 2) rfl ?_
  refine w_getf (i := 0) (v := .int (Int32.ofNat pa)) X0 hx hZ hown (wd29 hw) P0 rfl Fo0 3 rfl rfl (hb hby d7_2) (pc' := 5) rfl ?_
  intro T1 X1 P1
  refine w_imul X1 hx (hb hby d7_5) (pc' := 6) rfl ?_
  refine w_eqI (z := (Int32.ofNat (pb * pa))) (own_omul pb pa) ?_
  refine w_iloadN X1 hx (hb hby d7_6) rfl (pc' := 7) rfl ?_
  refine w_iadd X1 hx (hb hby d7_7) (pc' := 8) rfl ?_
  refine w_eqI (z := (Int32.ofNat ((pb * pa) + pc_))) (own_oadd (pb * pa) pc_) ?_
  refine w_eqI (z := (Int32.ofNat pk)) (congrArg Int32.ofNat hpk) ?_
  refine w_istoreN (l' := #[.val (.ref (n0 + 0)), .val (.int (Int32.ofNat pb)), .val (.int (Int32.ofNat pc_)), .val (.int (Int32.ofNat pk)), .unset]) X1 hx (hb hby d7_8) rfl (pc' := 9) rfl ?_
  refine w_aloadN X1 hx (hb hby d7_9) rfl rfl (pc' := 10) rfl ?_
  refine w_getf (i := 0) (v := .ref (n0 + 5)) X1 hx hZ hown (wd20 hw) P1 rfl Fo0 1 rfl rfl (hb hby d7_10) (pc' := 13) rfl ?_
  intro T2 X2 P2
  refine w_iloadN X2 hx (hb hby d7_13) rfl (pc' := 14) rfl ?_
  refine w_ialoadL (i := 5) (jn := pk) X2 hx hZ P2 rfl hk5 (hb hby d7_14) (own_oN (by omega)) (own_llt hpS (by omega)) (pc' := 15) rfl ?_
  refine w_aloadN X2 hx (hb hby d7_15) rfl rfl (pc' := 16) rfl ?_
  refine w_getf (i := 0) (v := .int (1 : Int32)) X2 hx hZ hown (wd35 hw) P2 rfl Fo0 4 rfl rfl (hb hby d7_16) (pc' := 19) rfl ?_
  intro T3 X3 P3
  refine w_icmp_ne X3 hx (hb hby d7_19) (by decide) (pcY := 33) (by decide) (pc' := 22) rfl (fun h0 => ?_) (fun h0 => absurd h0 hms)
  refine w_aloadN X3 hx (hb hby d7_33) rfl rfl (pc' := 34) rfl ?_
  refine w_dup X3 hx (hb hby d7_34) rfl (pc' := 35) rfl ?_
  refine w_getf (i := 0) (v := .int (1 : Int32)) X3 hx hZ hown (wd38 hw) P3 rfl Fo0 5 rfl rfl (hb hby d7_35) (pc' := 38) rfl ?_
  intro T4 X4 P4
  refine w_dupX1 X4 hx (hb hby d7_38) rfl rfl (pc' := 39) rfl ?_
  refine w_iconst (v := (1 : Int32)) X4 hx (hb hby d7_39) rfl (pc' := 40) rfl ?_
  refine w_iadd X4 hx (hb hby d7_40) (pc' := 41) rfl ?_
  refine w_eqI (z := (2 : Int32)) (by decide) ?_
  refine w_putf (i := 0) (ty := .int) X4 hx hZ hown (wd38 hw) N0 P4 rfl Fo0 (di_C0 hw) 5 rfl (Or.inl (wd39 hw)) (wd9 hw) (by decide) rfl rfl (hb hby d7_41) (pc' := 44) rfl ?_
  intro T5 L1 c1 N1 X5 P5 F1
  replace P5 : HP n0 T5.heap [c1, AC k1 [], AC k2 [], AC k3 [], AC k4 (List.map Value.int pC), AC k5 (List.map Value.int pS), AC k6 [.int pz0, .int pz1]] := P5
  replace F1 : ObjF Z c1 "com/example/protomata/protomata/Partition" fl_C0 [.ref (n0 + 4), .ref (n0 + 5), .ref (n0 + 6), .int (Int32.ofNat pa), .int (1 : Int32), .int (2 : Int32), .long psq] := F1
  refine w_istore (l' := #[.val (.ref (n0 + 0)), .val (.int (Int32.ofNat pb)), .val (.int (Int32.ofNat pc_)), .val (.int (Int32.ofNat pk)), .val (.int (1 : Int32))]) X5 hx (hb hby d7_44) rfl (pc' := 46) rfl ?_
  refine w_aloadN X5 hx (hb hby d7_46) rfl rfl (pc' := 47) rfl ?_
  refine w_getf (i := 0) (v := .ref (n0 + 5)) X5 hx hZ hown (wd20 hw) P5 rfl F1 1 rfl rfl (hb hby d7_47) (pc' := 50) rfl ?_
  intro T6 X6 P6
  refine w_iloadN X6 hx (hb hby d7_50) rfl (pc' := 51) rfl ?_
  refine w_aloadN X6 hx (hb hby d7_51) rfl rfl (pc' := 52) rfl ?_
  refine w_getf (i := 0) (v := .int (1 : Int32)) X6 hx hZ hown (wd35 hw) P6 rfl F1 4 rfl rfl (hb hby d7_52) (pc' := 55) rfl ?_
  intro T7 X7 P7
  refine w_iastoreL (i := 5) (jn := pk) X7 hx hZ N1 P7 rfl hk5 (hb hby d7_55) (own_oN (by omega)) (own_llt hpS (by omega)) (pc' := 56) rfl ?_
  intro T8 L2 N2 X8 P8
  replace P8 : HP n0 T8.heap [c1, AC k1 [], AC k2 [], AC k3 [], AC k4 (List.map Value.int pC), AC k5 (List.map Value.int (pS.set pk (1 : Int32))), AC k6 [.int pz0, .int pz1]] := P8
  refine w_aloadN X8 hx (hb hby d7_56) rfl rfl (pc' := 57) rfl ?_
  refine w_getf (i := 0) (v := .ref (n0 + 4)) X8 hx hZ hown (wd18 hw) P8 rfl F1 0 rfl rfl (hb hby d7_57) (pc' := 60) rfl ?_
  intro T9 X9 P9
  refine w_iloadN X9 hx (hb hby d7_60) rfl (pc' := 61) rfl ?_
  refine w_iload X9 hx (hb hby d7_61) rfl (pc' := 63) rfl ?_
  refine w_iastoreL (i := 4) (jn := pk) X9 hx hZ N2 P9 rfl hk4 (hb hby d7_63) (own_oN (by omega)) (own_llt hpC (by omega)) (pc' := 64) rfl ?_
  intro T10 L3 N3 X10 P10
  replace P10 : HP n0 T10.heap [c1, AC k1 [], AC k2 [], AC k3 [], AC k4 (List.map Value.int (pC.set pk (1 : Int32))), AC k5 (List.map Value.int (pS.set pk (1 : Int32))), AC k6 [.int pz0, .int pz1]] := P10
  refine w_aloadN X10 hx (hb hby d7_64) rfl rfl (pc' := 65) rfl ?_
  refine w_getf (i := 0) (v := .ref (n0 + 6)) X10 hx hZ hown (wd22 hw) P10 rfl F1 2 rfl rfl (hb hby d7_65) (pc' := 68) rfl ?_
  intro T11 X11 P11
  refine w_iload X11 hx (hb hby d7_68) rfl (pc' := 70) rfl ?_
  refine w_iconst (v := (0 : Int32)) X11 hx (hb hby d7_70) rfl (pc' := 71) rfl ?_
  refine w_iastore (i := 6) (jn := 1) X11 hx hZ N3 P11 rfl hk6 (hb hby d7_71) (by decide) (Nat.le_of_ble_eq_true rfl) (pc' := 72) rfl ?_
  intro T12 L4 N4 X12 P12
  replace P12 : HP n0 T12.heap [c1, AC k1 [], AC k2 [], AC k3 [], AC k4 (List.map Value.int (pC.set pk (1 : Int32))), AC k5 (List.map Value.int (pS.set pk (1 : Int32))), AC k6 [.int pz0, .int (0 : Int32)]] := P12
  refine w_aloadN X12 hx (hb hby d7_72) rfl rfl (pc' := 73) rfl ?_
  refine w_dup X12 hx (hb hby d7_73) rfl (pc' := 74) rfl ?_
  refine w_getf (i := 0) (v := .long psq) X12 hx hZ hown (wd40 hw) P12 rfl F1 6 rfl rfl (hb hby d7_74) (pc' := 77) rfl ?_
  intro T13 X13 P13
  refine w_ldc2 X13 hx (hb hby d7_77) hown (mvT hZ (wd47 hw)) (pc' := 80) rfl ?_
  refine w_aloadN X13 hx (hb hby d7_80) rfl rfl (pc' := 81) rfl ?_
  refine w_getf (i := 0) (v := .ref (n0 + 6)) X13 hx hZ hown (wd22 hw) P13 rfl F1 2 rfl rfl (hb hby d7_81) (pc' := 84) rfl ?_
  intro T14 X14 P14
  refine w_iload X14 hx (hb hby d7_84) rfl (pc' := 86) rfl ?_
  refine w_iaload (i := 6) (jn := 1) (v := .int (0 : Int32)) X14 hx hZ P14 rfl hk6 (hb hby d7_86) (by decide) rfl (pc' := 87) rfl ?_
  refine w_i2l X14 hx (hb hby d7_87) (pc' := 88) rfl ?_
  refine w_eqJ (z := (0 : Int64)) (by decide) ?_
  refine w_lmul X14 hx (hb hby d7_88) (pc' := 89) rfl ?_
  refine w_eqJ (z := (0 : Int64)) (by decide) ?_
  refine w_lconst (v := (1 : Int64)) X14 hx (hb hby d7_89) rfl (pc' := 90) rfl ?_
  refine w_ladd X14 hx (hb hby d7_90) (pc' := 91) rfl ?_
  refine w_eqJ (z := (1 : Int64)) (by decide) ?_
  refine w_ladd X14 hx (hb hby d7_91) (pc' := 92) rfl ?_
  refine w_putf (i := 0) (ty := .long) X14 hx hZ hown (wd40 hw) N4 P14 rfl F1 (di_C0 hw) 6 rfl (Or.inl (wd41 hw)) (wd9 hw) (by decide) rfl rfl (hb hby d7_92) (pc' := 95) rfl ?_
  intro T15 L5 c2 N5 X15 P15 F2
  replace P15 : HP n0 T15.heap [c2, AC k1 [], AC k2 [], AC k3 [], AC k4 (List.map Value.int (pC.set pk (1 : Int32))), AC k5 (List.map Value.int (pS.set pk (1 : Int32))), AC k6 [.int pz0, .int (0 : Int32)]] := P15
  replace F2 : ObjF Z c2 "com/example/protomata/protomata/Partition" fl_C0 [.ref (n0 + 4), .ref (n0 + 5), .ref (n0 + 6), .int (Int32.ofNat pa), .int (1 : Int32), .int (2 : Int32), .long (psq + (1 : Int64))] := F2
  refine w_aloadN X15 hx (hb hby d7_95) rfl rfl (pc' := 96) rfl ?_
  refine w_getf (i := 0) (v := .ref (n0 + 6)) X15 hx hZ hown (wd22 hw) P15 rfl F2 2 rfl rfl (hb hby d7_96) (pc' := 99) rfl ?_
  intro T16 X16 P16
  refine w_iload X16 hx (hb hby d7_99) rfl (pc' := 101) rfl ?_
  refine w_dup2 X16 hx (hb hby d7_101) rfl rfl (pc' := 102) rfl ?_
  refine w_iaload (i := 6) (jn := 1) (v := .int (0 : Int32)) X16 hx hZ P16 rfl hk6 (hb hby d7_102) (by decide) rfl (pc' := 103) rfl ?_
  refine w_iconst (v := (1 : Int32)) X16 hx (hb hby d7_103) rfl (pc' := 104) rfl ?_
  refine w_iadd X16 hx (hb hby d7_104) (pc' := 105) rfl ?_
  refine w_eqI (z := (1 : Int32)) (by decide) ?_
  refine w_iastore (i := 6) (jn := 1) X16 hx hZ N5 P16 rfl hk6 (hb hby d7_105) (by decide) (Nat.le_of_ble_eq_true rfl) (pc' := 106) rfl ?_
  intro T17 L6 N6 X17 P17
  replace P17 : HP n0 T17.heap [c2, AC k1 [], AC k2 [], AC k3 [], AC k4 (List.map Value.int (pC.set pk (1 : Int32))), AC k5 (List.map Value.int (pS.set pk (1 : Int32))), AC k6 [.int pz0, .int (1 : Int32)]] := P17
  refine w_iload X17 hx (hb hby d7_106) rfl (pc' := 108) rfl ?_
  exact w_ret_i X17 hx hret hlk (hb hby d7_108) (by decide) (by decide) ⟨rfl, N6, c2, F2, P17⟩
theorem ef_htA0 (m : MethodId) (n0 : Nat) (pN : Nat) (pb : Nat) (pa : Nat) (pc_ : Nat) (pk : Nat) (psq : Int64) (pz0 : Int32) (pz1 : Int32) (pgc : Int32) : entryFrame m #[.ref (n0 + 0), .int (Int32.ofNat pb), .int (Int32.ofNat pc_)] 5 = mkF m 0 #[.val (.ref (n0 + 0)), .val (.int (Int32.ofNat pb)), .val (.int (Int32.ofNat pc_)), .unset, .unset] [] := by first | (simp [entryFrame, mkF, argsToLocals, Value.category]; done) | rfl
def Q_htA0 (Z : State) (n0 : Nat) (k1 : ClassId) (k2 : ClassId) (k3 : ClassId) (k4 : ClassId) (k5 : ClassId) (k6 : ClassId) (o0 : Jvm.Cell) (pC : List Int32) (pS : List Int32) (pN : Nat) (pb : Nat) (pa : Nat) (pc_ : Nat) (pk : Nat) (psq : Int64) (pz0 : Int32) (pz1 : Int32) (pgc : Int32) (v : Option Value) (h : Heap) (L : List Loc) : Prop := v = some (.int (0 : Int32)) ∧ Fr n0 L ∧ ∃ c1 : Jvm.Cell, ObjF Z c1 "com/example/protomata/protomata/Partition" fl_C0 [.ref (n0 + 4), .ref (n0 + 5), .ref (n0 + 6), .int (Int32.ofNat pa), .int (1 : Int32), .int pgc, .long (psq + (((2 : Int64) * (Int32.toInt64 pz0)) + (1 : Int64)))] ∧ HP n0 h [c1, AC k1 [], AC k2 [], AC k3 [], AC k4 (List.map Value.int pC), AC k5 (List.map Value.int pS), AC k6 [.int (pz0 + (1 : Int32)), .int pz1]]
set_option maxRecDepth 65536 in
set_option maxHeartbeats 40000000 in
theorem rm_htA0 (l : Launch) (Z : State) (a0 : Array Value) (hw : ∀ d ∈ tables_1, d.before a0 Z = true) (ws : List Jvm.Cond) (n0 : Nat) (k1 : ClassId) (k2 : ClassId) (k3 : ClassId) (k4 : ClassId) (k5 : ClassId) (k6 : ClassId) (o0 : Jvm.Cell) (pC : List Int32) (pS : List Int32) (pN : Nat) (pb : Nat) (pa : Nat) (pc_ : Nat) (pk : Nat) (psq : Int64) (pz0 : Int32) (pz1 : Int32) (pgc : Int32) (h0 : Heap) (P0 : HP n0 h0 [o0, AC k1 [], AC k2 [], AC k3 [], AC k4 (List.map Value.int pC), AC k5 (List.map Value.int pS), AC k6 [.int pz0, .int pz1]]) (hk1 : IsA Z k1 .int) (hk2 : IsA Z k2 .int) (hk3 : IsA Z k3 .int) (hk4 : IsA Z k4 .int) (hk5 : IsA Z k5 .int) (hk6 : IsA Z k6 .int) (hpC : pC.length = pN) (hpS : pS.length = pN) (Fo0 : ObjF Z o0 "com/example/protomata/protomata/Partition" fl_C0 [.ref (n0 + 4), .ref (n0 + 5), .ref (n0 + 6), .int (Int32.ofNat pa), .int (1 : Int32), .int pgc, .long psq]) (hpk : pb * pa + pc_ = pk) (hpl : pk < pN) (hpN : pN ≤ 16) (hht : pS.getD pk 0 = (1 : Int32)) (hgr : pC.getD pk 0 = (0 : Int32)) :
    MetFree l (⟨"com/example/protomata/protomata/Partition", "put", "(II)I"⟩ : MethodName) (head1 (Jvm.Cond.code (⟨"com/example/protomata/protomata/Partition", "put", "(II)I"⟩ : MethodName) prog_101_method_3_code 5 (some .int) :: ws) ({ frames := 0, cells := 0, slots := 0, locals := 0 } : Room)) (fun aa U => aa = #[.ref (n0 + 0), .int (Int32.ofNat pb), .int (Int32.ofNat pc_)] ∧ Z.Warmed39 U.vm ∧ U.heap = h0) (fun _ _ _ _ _ => True) (fun _ U o U' => ∃ v L, o = .returned v ∧ Q_htA0 Z n0 k1 k2 k3 k4 k5 k6 o0 pC pS pN pb pa pc_ pk psq pz0 pz1 pgc v U'.heap L ∧ FrameEnd U o U' L ({ frames := 0, cells := 0, slots := 0, locals := 0 } : Room).cells ({ frames := 0, cells := 0, slots := 0, locals := 0 } : Room).slots) := by
  refine own_body pn7 ?_
  intro p e s m below meth c T0 hx hby hml hret hlk hown hnm hZ X0 e0
  subst e0
  have N0 : Fr n0 [] := Fr.nil n0
  refine own_cast (ef_htA0 m n0 pN pb pa pc_ pk psq pz0 pz1 pgc) ?_
  refine w_iloadN X0 hx (hb hby d7_0) rfl (pc' := 1) rfl ?_
  refine w_aloadN X0 hx (hb hby d7_1) rfl rfl (pc' := 2) rfl ?_
  refine w_getf (i := 0) (v := .int (Int32.ofNat pa)) X0 hx hZ hown (wd29 hw) P0 rfl Fo0 3 rfl rfl (hb hby d7_2) (pc' := 5) rfl ?_
  intro T1 X1 P1
  refine w_imul X1 hx (hb hby d7_5) (pc' := 6) rfl ?_
  refine w_eqI (z := (Int32.ofNat (pb * pa))) (own_omul pb pa) ?_
  refine w_iloadN X1 hx (hb hby d7_6) rfl (pc' := 7) rfl ?_
  refine w_iadd X1 hx (hb hby d7_7) (pc' := 8) rfl ?_
  refine w_eqI (z := (Int32.ofNat ((pb * pa) + pc_))) (own_oadd (pb * pa) pc_) ?_
  refine w_eqI (z := (Int32.ofNat pk)) (congrArg Int32.ofNat hpk) ?_
  refine w_istoreN (l' := #[.val (.ref (n0 + 0)), .val (.int (Int32.ofNat pb)), .val (.int (Int32.ofNat pc_)), .val (.int (Int32.ofNat pk)), .unset]) X1 hx (hb hby d7_8) rfl (pc' := 9) rfl ?_
  refine w_aloadN X1 hx (hb hby d7_9) rfl rfl (pc' := 10) rfl ?_
  refine w_getf (i := 0) (v := .ref (n0 + 5)) X1 hx hZ hown (wd20 hw) P1 rfl Fo0 1 rfl rfl (hb hby d7_10) (pc' := 13) rfl ?_
  intro T2 X2 P2
  refine w_iloadN X2 hx (hb hby d7_13) rfl (pc' := 14) rfl ?_
  refine w_ialoadL (i := 5) (jn := pk) X2 hx hZ P2 rfl hk5 (hb hby d7_14) (own_oN (by omega)) (own_llt hpS (by omega)) (pc' := 15) rfl ?_
  refine w_aloadN X2 hx (hb hby d7_15) rfl rfl (pc' := 16) rfl ?_
  refine w_getf (i := 0) (v := .int (1 : Int32)) X2 hx hZ hown (wd35 hw) P2 rfl Fo0 4 rfl rfl (hb hby d7_16) (pc' := 19) rfl ?_
  intro T3 X3 P3
  refine w_icmp_ne X3 hx (hb hby d7_19) (by decide) (pcY := 33) (by decide) (pc' := 22) rfl (fun h0 => absurd hht h0) (fun h0 => ?_)
  refine w_aloadN X3 hx (hb hby d7_22) rfl rfl (pc' := 23) rfl ?_
  refine w_getf (i := 0) (v := .ref (n0 + 4)) X3 hx hZ hown (wd18 hw) P3 rfl Fo0 0 rfl rfl (hb hby d7_23) (pc' := 26) rfl ?_
  intro T4 X4 P4
  refine w_iloadN X4 hx (hb hby d7_26) rfl (pc' := 27) rfl ?_
  refine w_ialoadL (i := 4) (jn := pk) X4 hx hZ P4 rfl hk4 (hb hby d7_27) (own_oN (by omega)) (own_llt hpC (by omega)) (pc' := 28) rfl ?_
  refine w_eqI (z := (0 : Int32)) hgr ?_
  refine w_istore (l' := #[.val (.ref (n0 + 0)), .val (.int (Int32.ofNat pb)), .val (.int (Int32.ofNat pc_)), .val (.int (Int32.ofNat pk)), .val (.int (0 : Int32))]) X4 hx (hb hby d7_28) rfl (pc' := 30) rfl ?_
  refine w_goto X4 hx (hb hby d7_30) (by decide) (pc' := 72) (by decide) ?_
  refine w_aloadN X4 hx (hb hby d7_72) rfl rfl (pc' := 73) rfl ?_
  refine w_dup X4 hx (hb hby d7_73) rfl (pc' := 74) rfl ?_
  refine w_getf (i := 0) (v := .long psq) X4 hx hZ hown (wd40 hw) P4 rfl Fo0 6 rfl rfl (hb hby d7_74) (pc' := 77) rfl ?_
  intro T5 X5 P5
  refine w_ldc2 X5 hx (hb hby d7_77) hown (mvT hZ (wd47 hw)) (pc' := 80) rfl ?_
  refine w_aloadN X5 hx (hb hby d7_80) rfl rfl (pc' := 81) rfl ?_
  refine w_getf (i := 0) (v := .ref (n0 + 6)) X5 hx hZ hown (wd22 hw) P5 rfl Fo0 2 rfl rfl (hb hby d7_81) (pc' := 84) rfl ?_
  intro T6 X6 P6
  refine w_iload X6 hx (hb hby d7_84) rfl (pc' := 86) rfl ?_
  refine w_iaload (i := 6) (jn := 0) (v := .int pz0) X6 hx hZ P6 rfl hk6 (hb hby d7_86) (by decide) rfl (pc' := 87) rfl ?_
  refine w_i2l X6 hx (hb hby d7_87) (pc' := 88) rfl ?_
  refine w_lmul X6 hx (hb hby d7_88) (pc' := 89) rfl ?_
  refine w_lconst (v := (1 : Int64)) X6 hx (hb hby d7_89) rfl (pc' := 90) rfl ?_
  refine w_ladd X6 hx (hb hby d7_90) (pc' := 91) rfl ?_
  refine w_ladd X6 hx (hb hby d7_91) (pc' := 92) rfl ?_
  refine w_putf (i := 0) (ty := .long) X6 hx hZ hown (wd40 hw) N0 P6 rfl Fo0 (di_C0 hw) 6 rfl (Or.inl (wd41 hw)) (wd9 hw) (by decide) rfl rfl (hb hby d7_92) (pc' := 95) rfl ?_
  intro T7 L1 c1 N1 X7 P7 F1
  replace P7 : HP n0 T7.heap [c1, AC k1 [], AC k2 [], AC k3 [], AC k4 (List.map Value.int pC), AC k5 (List.map Value.int pS), AC k6 [.int pz0, .int pz1]] := P7
  replace F1 : ObjF Z c1 "com/example/protomata/protomata/Partition" fl_C0 [.ref (n0 + 4), .ref (n0 + 5), .ref (n0 + 6), .int (Int32.ofNat pa), .int (1 : Int32), .int pgc, .long (psq + (((2 : Int64) * (Int32.toInt64 pz0)) + (1 : Int64)))] := F1
  refine w_aloadN X7 hx (hb hby d7_95) rfl rfl (pc' := 96) rfl ?_
  refine w_getf (i := 0) (v := .ref (n0 + 6)) X7 hx hZ hown (wd22 hw) P7 rfl F1 2 rfl rfl (hb hby d7_96) (pc' := 99) rfl ?_
  intro T8 X8 P8
  refine w_iload X8 hx (hb hby d7_99) rfl (pc' := 101) rfl ?_
  refine w_dup2 X8 hx (hb hby d7_101) rfl rfl (pc' := 102) rfl ?_
  refine w_iaload (i := 6) (jn := 0) (v := .int pz0) X8 hx hZ P8 rfl hk6 (hb hby d7_102) (by decide) rfl (pc' := 103) rfl ?_
  refine w_iconst (v := (1 : Int32)) X8 hx (hb hby d7_103) rfl (pc' := 104) rfl ?_
  refine w_iadd X8 hx (hb hby d7_104) (pc' := 105) rfl ?_
  refine w_iastore (i := 6) (jn := 0) X8 hx hZ N1 P8 rfl hk6 (hb hby d7_105) (by decide) (Nat.le_of_ble_eq_true rfl) (pc' := 106) rfl ?_
  intro T9 L2 N2 X9 P9
  replace P9 : HP n0 T9.heap [c1, AC k1 [], AC k2 [], AC k3 [], AC k4 (List.map Value.int pC), AC k5 (List.map Value.int pS), AC k6 [.int (pz0 + (1 : Int32)), .int pz1]] := P9
  refine w_iload X9 hx (hb hby d7_106) rfl (pc' := 108) rfl ?_
  exact w_ret_i X9 hx hret hlk (hb hby d7_108) (by decide) (by decide) ⟨rfl, N2, c1, F1, P9⟩
theorem ef_msB0 (m : MethodId) (n0 : Nat) (pN : Nat) (py0 : Int32) (py1 : Int32) (pb : Nat) (pa : Nat) (pc_ : Nat) (pk : Nat) (psq : Int64) (pz0 : Int32) (pz1 : Int32) (pz2 : Int32) (pz3 : Int32) : entryFrame m #[.ref (n0 + 0), .int (Int32.ofNat pb), .int (Int32.ofNat pc_)] 5 = mkF m 0 #[.val (.ref (n0 + 0)), .val (.int (Int32.ofNat pb)), .val (.int (Int32.ofNat pc_)), .unset, .unset] [] := by first | (simp [entryFrame, mkF, argsToLocals, Value.category]; done) | rfl
def Q_msB0 (Z : State) (n0 : Nat) (k1 : ClassId) (k2 : ClassId) (k3 : ClassId) (k4 : ClassId) (k5 : ClassId) (k6 : ClassId) (k7 : ClassId) (k8 : ClassId) (k9 : ClassId) (o0 : Jvm.Cell) (pC : List Int32) (pS : List Int32) (pN : Nat) (pD : List Int32) (pE : List Int32) (py0 : Int32) (py1 : Int32) (pb : Nat) (pa : Nat) (pc_ : Nat) (pk : Nat) (psq : Int64) (pz0 : Int32) (pz1 : Int32) (pz2 : Int32) (pz3 : Int32) (v : Option Value) (h : Heap) (L : List Loc) : Prop := v = some (.int (0 : Int32)) ∧ Fr n0 L ∧ ∃ c2 : Jvm.Cell, ObjF Z c2 "com/example/protomata/protomata/Partition" fl_C0 [.ref (n0 + 7), .ref (n0 + 8), .ref (n0 + 9), .int (Int32.ofNat pa), .int (1 : Int32), .int (1 : Int32), .long (psq + (1 : Int64))] ∧ HP n0 h [c2, AC k1 [], AC k2 [], AC k3 [], AC k4 (List.map Value.int pD), AC k5 (List.map Value.int pE), AC k6 [.int py0, .int py1], AC k7 (List.map Value.int (pC.set pk (0 : Int32))), AC k8 (List.map Value.int (pS.set pk (1 : Int32))), AC k9 [.int (1 : Int32), .int pz1, .int pz2, .int pz3]]
set_option maxRecDepth 65536 in
set_option maxHeartbeats 40000000 in
theorem rm_msB0 (l : Launch) (Z : State) (a0 : Array Value) (hw : ∀ d ∈ tables_1, d.before a0 Z = true) (ws : List Jvm.Cond) (n0 : Nat) (k1 : ClassId) (k2 : ClassId) (k3 : ClassId) (k4 : ClassId) (k5 : ClassId) (k6 : ClassId) (k7 : ClassId) (k8 : ClassId) (k9 : ClassId) (o0 : Jvm.Cell) (pC : List Int32) (pS : List Int32) (pN : Nat) (pD : List Int32) (pE : List Int32) (py0 : Int32) (py1 : Int32) (pb : Nat) (pa : Nat) (pc_ : Nat) (pk : Nat) (psq : Int64) (pz0 : Int32) (pz1 : Int32) (pz2 : Int32) (pz3 : Int32) (h0 : Heap) (P0 : HP n0 h0 [o0, AC k1 [], AC k2 [], AC k3 [], AC k4 (List.map Value.int pD), AC k5 (List.map Value.int pE), AC k6 [.int py0, .int py1], AC k7 (List.map Value.int pC), AC k8 (List.map Value.int pS), AC k9 [.int pz0, .int pz1, .int pz2, .int pz3]]) (hk1 : IsA Z k1 .int) (hk2 : IsA Z k2 .int) (hk3 : IsA Z k3 .int) (hk4 : IsA Z k4 .int) (hk5 : IsA Z k5 .int) (hk6 : IsA Z k6 .int) (hk7 : IsA Z k7 .int) (hk8 : IsA Z k8 .int) (hk9 : IsA Z k9 .int) (hpC : pC.length = pN) (hpS : pS.length = pN) (Fo0 : ObjF Z o0 "com/example/protomata/protomata/Partition" fl_C0 [.ref (n0 + 7), .ref (n0 + 8), .ref (n0 + 9), .int (Int32.ofNat pa), .int (1 : Int32), .int (0 : Int32), .long psq]) (hpk : pb * pa + pc_ = pk) (hpl : pk < pN) (hpN : pN ≤ 16) (hms : ¬ pS.getD pk 0 = (1 : Int32)) :
    MetFree l (⟨"com/example/protomata/protomata/Partition", "put", "(II)I"⟩ : MethodName) (head1 (Jvm.Cond.code (⟨"com/example/protomata/protomata/Partition", "put", "(II)I"⟩ : MethodName) prog_101_method_3_code 5 (some .int) :: ws) ({ frames := 0, cells := 0, slots := 0, locals := 0 } : Room)) (fun aa U => aa = #[.ref (n0 + 0), .int (Int32.ofNat pb), .int (Int32.ofNat pc_)] ∧ Z.Warmed39 U.vm ∧ U.heap = h0) (fun _ _ _ _ _ => True) (fun _ U o U' => ∃ v L, o = .returned v ∧ Q_msB0 Z n0 k1 k2 k3 k4 k5 k6 k7 k8 k9 o0 pC pS pN pD pE py0 py1 pb pa pc_ pk psq pz0 pz1 pz2 pz3 v U'.heap L ∧ FrameEnd U o U' L ({ frames := 0, cells := 0, slots := 0, locals := 0 } : Room).cells ({ frames := 0, cells := 0, slots := 0, locals := 0 } : Room).slots) := by
  refine own_body pn7 ?_
  intro p e s m below meth c T0 hx hby hml hret hlk hown hnm hZ X0 e0
  subst e0
  have N0 : Fr n0 [] := Fr.nil n0
  refine own_cast (ef_msB0 m n0 pN py0 py1 pb pa pc_ pk psq pz0 pz1 pz2 pz3) ?_
  refine w_iloadN X0 hx (hb hby d7_0) rfl (pc' := 1) rfl ?_
  refine w_aloadN X0 hx (hb hby d7_1) rfl rfl (pc' := 2) rfl ?_
  refine w_getf (i := 0) (v := .int (Int32.ofNat pa)) X0 hx hZ hown (wd29 hw) P0 rfl Fo0 3 rfl rfl (hb hby d7_2) (pc' := 5) rfl ?_
  intro T1 X1 P1
  refine w_imul X1 hx (hb hby d7_5) (pc' := 6) rfl ?_
  refine w_eqI (z := (Int32.ofNat (pb * pa))) (own_omul pb pa) ?_
  refine w_iloadN X1 hx (hb hby d7_6) rfl (pc' := 7) rfl ?_
  refine w_iadd X1 hx (hb hby d7_7) (pc' := 8) rfl ?_
  refine w_eqI (z := (Int32.ofNat ((pb * pa) + pc_))) (own_oadd (pb * pa) pc_) ?_
  refine w_eqI (z := (Int32.ofNat pk)) (congrArg Int32.ofNat hpk) ?_
  refine w_istoreN (l' := #[.val (.ref (n0 + 0)), .val (.int (Int32.ofNat pb)), .val (.int (Int32.ofNat pc_)), .val (.int (Int32.ofNat pk)), .unset]) X1 hx (hb hby d7_8) rfl (pc' := 9) rfl ?_
  refine w_aloadN X1 hx (hb hby d7_9) rfl rfl (pc' := 10) rfl ?_
  refine w_getf (i := 0) (v := .ref (n0 + 8)) X1 hx hZ hown (wd20 hw) P1 rfl Fo0 1 rfl rfl (hb hby d7_10) (pc' := 13) rfl ?_
  intro T2 X2 P2
  refine w_iloadN X2 hx (hb hby d7_13) rfl (pc' := 14) rfl ?_
  refine w_ialoadL (i := 8) (jn := pk) X2 hx hZ P2 rfl hk8 (hb hby d7_14) (own_oN (by omega)) (own_llt hpS (by omega)) (pc' := 15) rfl ?_
  refine w_aloadN X2 hx (hb hby d7_15) rfl rfl (pc' := 16) rfl ?_
  refine w_getf (i := 0) (v := .int (1 : Int32)) X2 hx hZ hown (wd35 hw) P2 rfl Fo0 4 rfl rfl (hb hby d7_16) (pc' := 19) rfl ?_
  intro T3 X3 P3
  refine w_icmp_ne X3 hx (hb hby d7_19) (by decide) (pcY := 33) (by decide) (pc' := 22) rfl (fun h0 => ?_) (fun h0 => absurd h0 hms)
  refine w_aloadN X3 hx (hb hby d7_33) rfl rfl (pc' := 34) rfl ?_
  refine w_dup X3 hx (hb hby d7_34) rfl (pc' := 35) rfl ?_
  refine w_getf (i := 0) (v := .int (0 : Int32)) X3 hx hZ hown (wd38 hw) P3 rfl Fo0 5 rfl rfl (hb hby d7_35) (pc' := 38) rfl ?_
  intro T4 X4 P4
  refine w_dupX1 X4 hx (hb hby d7_38) rfl rfl (pc' := 39) rfl ?_
  refine w_iconst (v := (1 : Int32)) X4 hx (hb hby d7_39) rfl (pc' := 40) rfl ?_
  refine w_iadd X4 hx (hb hby d7_40) (pc' := 41) rfl ?_
  refine w_eqI (z := (1 : Int32)) (by decide) ?_
  refine w_putf (i := 0) (ty := .int) X4 hx hZ hown (wd38 hw) N0 P4 rfl Fo0 (di_C0 hw) 5 rfl (Or.inl (wd39 hw)) (wd9 hw) (by decide) rfl rfl (hb hby d7_41) (pc' := 44) rfl ?_
  intro T5 L1 c1 N1 X5 P5 F1
  replace P5 : HP n0 T5.heap [c1, AC k1 [], AC k2 [], AC k3 [], AC k4 (List.map Value.int pD), AC k5 (List.map Value.int pE), AC k6 [.int py0, .int py1], AC k7 (List.map Value.int pC), AC k8 (List.map Value.int pS), AC k9 [.int pz0, .int pz1, .int pz2, .int pz3]] := P5
  replace F1 : ObjF Z c1 "com/example/protomata/protomata/Partition" fl_C0 [.ref (n0 + 7), .ref (n0 + 8), .ref (n0 + 9), .int (Int32.ofNat pa), .int (1 : Int32), .int (1 : Int32), .long psq] := F1
  refine w_istore (l' := #[.val (.ref (n0 + 0)), .val (.int (Int32.ofNat pb)), .val (.int (Int32.ofNat pc_)), .val (.int (Int32.ofNat pk)), .val (.int (0 : Int32))]) X5 hx (hb hby d7_44) rfl (pc' := 46) rfl ?_
  refine w_aloadN X5 hx (hb hby d7_46) rfl rfl (pc' := 47) rfl ?_
  refine w_getf (i := 0) (v := .ref (n0 + 8)) X5 hx hZ hown (wd20 hw) P5 rfl F1 1 rfl rfl (hb hby d7_47) (pc' := 50) rfl ?_
  intro T6 X6 P6
  refine w_iloadN X6 hx (hb hby d7_50) rfl (pc' := 51) rfl ?_
  refine w_aloadN X6 hx (hb hby d7_51) rfl rfl (pc' := 52) rfl ?_
  refine w_getf (i := 0) (v := .int (1 : Int32)) X6 hx hZ hown (wd35 hw) P6 rfl F1 4 rfl rfl (hb hby d7_52) (pc' := 55) rfl ?_
  intro T7 X7 P7
  refine w_iastoreL (i := 8) (jn := pk) X7 hx hZ N1 P7 rfl hk8 (hb hby d7_55) (own_oN (by omega)) (own_llt hpS (by omega)) (pc' := 56) rfl ?_
  intro T8 L2 N2 X8 P8
  replace P8 : HP n0 T8.heap [c1, AC k1 [], AC k2 [], AC k3 [], AC k4 (List.map Value.int pD), AC k5 (List.map Value.int pE), AC k6 [.int py0, .int py1], AC k7 (List.map Value.int pC), AC k8 (List.map Value.int (pS.set pk (1 : Int32))), AC k9 [.int pz0, .int pz1, .int pz2, .int pz3]] := P8
  refine w_aloadN X8 hx (hb hby d7_56) rfl rfl (pc' := 57) rfl ?_
  refine w_getf (i := 0) (v := .ref (n0 + 7)) X8 hx hZ hown (wd18 hw) P8 rfl F1 0 rfl rfl (hb hby d7_57) (pc' := 60) rfl ?_
  intro T9 X9 P9
  refine w_iloadN X9 hx (hb hby d7_60) rfl (pc' := 61) rfl ?_
  refine w_iload X9 hx (hb hby d7_61) rfl (pc' := 63) rfl ?_
  refine w_iastoreL (i := 7) (jn := pk) X9 hx hZ N2 P9 rfl hk7 (hb hby d7_63) (own_oN (by omega)) (own_llt hpC (by omega)) (pc' := 64) rfl ?_
  intro T10 L3 N3 X10 P10
  replace P10 : HP n0 T10.heap [c1, AC k1 [], AC k2 [], AC k3 [], AC k4 (List.map Value.int pD), AC k5 (List.map Value.int pE), AC k6 [.int py0, .int py1], AC k7 (List.map Value.int (pC.set pk (0 : Int32))), AC k8 (List.map Value.int (pS.set pk (1 : Int32))), AC k9 [.int pz0, .int pz1, .int pz2, .int pz3]] := P10
  refine w_aloadN X10 hx (hb hby d7_64) rfl rfl (pc' := 65) rfl ?_
  refine w_getf (i := 0) (v := .ref (n0 + 9)) X10 hx hZ hown (wd22 hw) P10 rfl F1 2 rfl rfl (hb hby d7_65) (pc' := 68) rfl ?_
  intro T11 X11 P11
  refine w_iload X11 hx (hb hby d7_68) rfl (pc' := 70) rfl ?_
  refine w_iconst (v := (0 : Int32)) X11 hx (hb hby d7_70) rfl (pc' := 71) rfl ?_
  refine w_iastore (i := 9) (jn := 0) X11 hx hZ N3 P11 rfl hk9 (hb hby d7_71) (by decide) (Nat.le_of_ble_eq_true rfl) (pc' := 72) rfl ?_
  intro T12 L4 N4 X12 P12
  replace P12 : HP n0 T12.heap [c1, AC k1 [], AC k2 [], AC k3 [], AC k4 (List.map Value.int pD), AC k5 (List.map Value.int pE), AC k6 [.int py0, .int py1], AC k7 (List.map Value.int (pC.set pk (0 : Int32))), AC k8 (List.map Value.int (pS.set pk (1 : Int32))), AC k9 [.int (0 : Int32), .int pz1, .int pz2, .int pz3]] := P12
  refine w_aloadN X12 hx (hb hby d7_72) rfl rfl (pc' := 73) rfl ?_
  refine w_dup X12 hx (hb hby d7_73) rfl (pc' := 74) rfl ?_
  refine w_getf (i := 0) (v := .long psq) X12 hx hZ hown (wd40 hw) P12 rfl F1 6 rfl rfl (hb hby d7_74) (pc' := 77) rfl ?_
  intro T13 X13 P13
  refine w_ldc2 X13 hx (hb hby d7_77) hown (mvT hZ (wd47 hw)) (pc' := 80) rfl ?_
  refine w_aloadN X13 hx (hb hby d7_80) rfl rfl (pc' := 81) rfl ?_
  refine w_getf (i := 0) (v := .ref (n0 + 9)) X13 hx hZ hown (wd22 hw) P13 rfl F1 2 rfl rfl (hb hby d7_81) (pc' := 84) rfl ?_
  intro T14 X14 P14
  refine w_iload X14 hx (hb hby d7_84) rfl (pc' := 86) rfl ?_
  refine w_iaload (i := 9) (jn := 0) (v := .int (0 : Int32)) X14 hx hZ P14 rfl hk9 (hb hby d7_86) (by decide) rfl (pc' := 87) rfl ?_
  refine w_i2l X14 hx (hb hby d7_87) (pc' := 88) rfl ?_
  refine w_eqJ (z := (0 : Int64)) (by decide) ?_
  refine w_lmul X14 hx (hb hby d7_88) (pc' := 89) rfl ?_
  refine w_eqJ (z := (0 : Int64)) (by decide) ?_
  refine w_lconst (v := (1 : Int64)) X14 hx (hb hby d7_89) rfl (pc' := 90) rfl ?_
  refine w_ladd X14 hx (hb hby d7_90) (pc' := 91) rfl ?_
  refine w_eqJ (z := (1 : Int64)) (by decide) ?_
  refine w_ladd X14 hx (hb hby d7_91) (pc' := 92) rfl ?_
  refine w_putf (i := 0) (ty := .long) X14 hx hZ hown (wd40 hw) N4 P14 rfl F1 (di_C0 hw) 6 rfl (Or.inl (wd41 hw)) (wd9 hw) (by decide) rfl rfl (hb hby d7_92) (pc' := 95) rfl ?_
  intro T15 L5 c2 N5 X15 P15 F2
  replace P15 : HP n0 T15.heap [c2, AC k1 [], AC k2 [], AC k3 [], AC k4 (List.map Value.int pD), AC k5 (List.map Value.int pE), AC k6 [.int py0, .int py1], AC k7 (List.map Value.int (pC.set pk (0 : Int32))), AC k8 (List.map Value.int (pS.set pk (1 : Int32))), AC k9 [.int (0 : Int32), .int pz1, .int pz2, .int pz3]] := P15
  replace F2 : ObjF Z c2 "com/example/protomata/protomata/Partition" fl_C0 [.ref (n0 + 7), .ref (n0 + 8), .ref (n0 + 9), .int (Int32.ofNat pa), .int (1 : Int32), .int (1 : Int32), .long (psq + (1 : Int64))] := F2
  refine w_aloadN X15 hx (hb hby d7_95) rfl rfl (pc' := 96) rfl ?_
  refine w_getf (i := 0) (v := .ref (n0 + 9)) X15 hx hZ hown (wd22 hw) P15 rfl F2 2 rfl rfl (hb hby d7_96) (pc' := 99) rfl ?_
  intro T16 X16 P16
  refine w_iload X16 hx (hb hby d7_99) rfl (pc' := 101) rfl ?_
  refine w_dup2 X16 hx (hb hby d7_101) rfl rfl (pc' := 102) rfl ?_
  refine w_iaload (i := 9) (jn := 0) (v := .int (0 : Int32)) X16 hx hZ P16 rfl hk9 (hb hby d7_102) (by decide) rfl (pc' := 103) rfl ?_
  refine w_iconst (v := (1 : Int32)) X16 hx (hb hby d7_103) rfl (pc' := 104) rfl ?_
  refine w_iadd X16 hx (hb hby d7_104) (pc' := 105) rfl ?_
  refine w_eqI (z := (1 : Int32)) (by decide) ?_
  refine w_iastore (i := 9) (jn := 0) X16 hx hZ N5 P16 rfl hk9 (hb hby d7_105) (by decide) (Nat.le_of_ble_eq_true rfl) (pc' := 106) rfl ?_
  intro T17 L6 N6 X17 P17
  replace P17 : HP n0 T17.heap [c2, AC k1 [], AC k2 [], AC k3 [], AC k4 (List.map Value.int pD), AC k5 (List.map Value.int pE), AC k6 [.int py0, .int py1], AC k7 (List.map Value.int (pC.set pk (0 : Int32))), AC k8 (List.map Value.int (pS.set pk (1 : Int32))), AC k9 [.int (1 : Int32), .int pz1, .int pz2, .int pz3]] := P17
  refine w_iload X17 hx (hb hby d7_106) rfl (pc' := 108) rfl ?_
  exact w_ret_i X17 hx hret hlk (hb hby d7_108) (by decide) (by decide) ⟨rfl, N6, c2, F2, P17⟩
theorem ef_msB1 (m : MethodId) (n0 : Nat) (pN : Nat) (py0 : Int32) (py1 : Int32) (pb : Nat) (pa : Nat) (pc_ : Nat) (pk : Nat) (psq : Int64) (pz0 : Int32) (pz1 : Int32) (pz2 : Int32) (pz3 : Int32) : entryFrame m #[.ref (n0 + 0), .int (Int32.ofNat pb), .int (Int32.ofNat pc_)] 5 = mkF m 0 #[.val (.ref (n0 + 0)), .val (.int (Int32.ofNat pb)), .val (.int (Int32.ofNat pc_)), .unset, .unset] [] := by first | (simp [entryFrame, mkF, argsToLocals, Value.category]; done) | rfl
def Q_msB1 (Z : State) (n0 : Nat) (k1 : ClassId) (k2 : ClassId) (k3 : ClassId) (k4 : ClassId) (k5 : ClassId) (k6 : ClassId) (k7 : ClassId) (k8 : ClassId) (k9 : ClassId) (o0 : Jvm.Cell) (pC : List Int32) (pS : List Int32) (pN : Nat) (pD : List Int32) (pE : List Int32) (py0 : Int32) (py1 : Int32) (pb : Nat) (pa : Nat) (pc_ : Nat) (pk : Nat) (psq : Int64) (pz0 : Int32) (pz1 : Int32) (pz2 : Int32) (pz3 : Int32) (v : Option Value) (h : Heap) (L : List Loc) : Prop := v = some (.int (1 : Int32)) ∧ Fr n0 L ∧ ∃ c2 : Jvm.Cell, ObjF Z c2 "com/example/protomata/protomata/Partition" fl_C0 [.ref (n0 + 7), .ref (n0 + 8), .ref (n0 + 9), .int (Int32.ofNat pa), .int (1 : Int32), .int (2 : Int32), .long (psq + (1 : Int64))] ∧ HP n0 h [c2, AC k1 [], AC k2 [], AC k3 [], AC k4 (List.map Value.int pD), AC k5 (List.map Value.int pE), AC k6 [.int py0, .int py1], AC k7 (List.map Value.int (pC.set pk (1 : Int32))), AC k8 (List.map Value.int (pS.set pk (1 : Int32))), AC k9 [.int pz0, .int (1 : Int32), .int pz2, .int pz3]]
set_option maxRecDepth 65536 in
set_option maxHeartbeats 40000000 in
theorem rm_msB1 (l : Launch) (Z : State) (a0 : Array Value) (hw : ∀ d ∈ tables_1, d.before a0 Z = true) (ws : List Jvm.Cond) (n0 : Nat) (k1 : ClassId) (k2 : ClassId) (k3 : ClassId) (k4 : ClassId) (k5 : ClassId) (k6 : ClassId) (k7 : ClassId) (k8 : ClassId) (k9 : ClassId) (o0 : Jvm.Cell) (pC : List Int32) (pS : List Int32) (pN : Nat) (pD : List Int32) (pE : List Int32) (py0 : Int32) (py1 : Int32) (pb : Nat) (pa : Nat) (pc_ : Nat) (pk : Nat) (psq : Int64) (pz0 : Int32) (pz1 : Int32) (pz2 : Int32) (pz3 : Int32) (h0 : Heap) (P0 : HP n0 h0 [o0, AC k1 [], AC k2 [], AC k3 [], AC k4 (List.map Value.int pD), AC k5 (List.map Value.int pE), AC k6 [.int py0, .int py1], AC k7 (List.map Value.int pC), AC k8 (List.map Value.int pS), AC k9 [.int pz0, .int pz1, .int pz2, .int pz3]]) (hk1 : IsA Z k1 .int) (hk2 : IsA Z k2 .int) (hk3 : IsA Z k3 .int) (hk4 : IsA Z k4 .int) (hk5 : IsA Z k5 .int) (hk6 : IsA Z k6 .int) (hk7 : IsA Z k7 .int) (hk8 : IsA Z k8 .int) (hk9 : IsA Z k9 .int) (hpC : pC.length = pN) (hpS : pS.length = pN) (Fo0 : ObjF Z o0 "com/example/protomata/protomata/Partition" fl_C0 [.ref (n0 + 7), .ref (n0 + 8), .ref (n0 + 9), .int (Int32.ofNat pa), .int (1 : Int32), .int (1 : Int32), .long psq]) (hpk : pb * pa + pc_ = pk) (hpl : pk < pN) (hpN : pN ≤ 16) (hms : ¬ pS.getD pk 0 = (1 : Int32)) :
    MetFree l (⟨"com/example/protomata/protomata/Partition", "put", "(II)I"⟩ : MethodName) (head1 (Jvm.Cond.code (⟨"com/example/protomata/protomata/Partition", "put", "(II)I"⟩ : MethodName) prog_101_method_3_code 5 (some .int) :: ws) ({ frames := 0, cells := 0, slots := 0, locals := 0 } : Room)) (fun aa U => aa = #[.ref (n0 + 0), .int (Int32.ofNat pb), .int (Int32.ofNat pc_)] ∧ Z.Warmed39 U.vm ∧ U.heap = h0) (fun _ _ _ _ _ => True) (fun _ U o U' => ∃ v L, o = .returned v ∧ Q_msB1 Z n0 k1 k2 k3 k4 k5 k6 k7 k8 k9 o0 pC pS pN pD pE py0 py1 pb pa pc_ pk psq pz0 pz1 pz2 pz3 v U'.heap L ∧ FrameEnd U o U' L ({ frames := 0, cells := 0, slots := 0, locals := 0 } : Room).cells ({ frames := 0, cells := 0, slots := 0, locals := 0 } : Room).slots) := by
  refine own_body pn7 ?_
  intro p e s m below meth c T0 hx hby hml hret hlk hown hnm hZ X0 e0
  subst e0
  have N0 : Fr n0 [] := Fr.nil n0
  refine own_cast (ef_msB1 m n0 pN py0 py1 pb pa pc_ pk psq pz0 pz1 pz2 pz3) ?_
  refine w_iloadN X0 hx (hb hby d7_0) rfl (pc' := 1) rfl ?_
  refine w_aloadN X0 hx (hb hby d7_1) rfl rfl (pc' := 2) rfl ?_
  refine w_getf (i := 0) (v := .int (Int32.ofNat pa)) X0 hx hZ hown (wd29 hw) P0 rfl Fo0 3 rfl rfl (hb hby d7_2) (pc' := 5) rfl ?_
  intro T1 X1 P1
  refine w_imul X1 hx (hb hby d7_5) (pc' := 6) rfl ?_
  refine w_eqI (z := (Int32.ofNat (pb * pa))) (own_omul pb pa) ?_
  refine w_iloadN X1 hx (hb hby d7_6) rfl (pc' := 7) rfl ?_
  refine w_iadd X1 hx (hb hby d7_7) (pc' := 8) rfl ?_
  refine w_eqI (z := (Int32.ofNat ((pb * pa) + pc_))) (own_oadd (pb * pa) pc_) ?_
  refine w_eqI (z := (Int32.ofNat pk)) (congrArg Int32.ofNat hpk) ?_
  refine w_istoreN (l' := #[.val (.ref (n0 + 0)), .val (.int (Int32.ofNat pb)), .val (.int (Int32.ofNat pc_)), .val (.int (Int32.ofNat pk)), .unset]) X1 hx (hb hby d7_8) rfl (pc' := 9) rfl ?_
  refine w_aloadN X1 hx (hb hby d7_9) rfl rfl (pc' := 10) rfl ?_
  refine w_getf (i := 0) (v := .ref (n0 + 8)) X1 hx hZ hown (wd20 hw) P1 rfl Fo0 1 rfl rfl (hb hby d7_10) (pc' := 13) rfl ?_
  intro T2 X2 P2
  refine w_iloadN X2 hx (hb hby d7_13) rfl (pc' := 14) rfl ?_
  refine w_ialoadL (i := 8) (jn := pk) X2 hx hZ P2 rfl hk8 (hb hby d7_14) (own_oN (by omega)) (own_llt hpS (by omega)) (pc' := 15) rfl ?_
  refine w_aloadN X2 hx (hb hby d7_15) rfl rfl (pc' := 16) rfl ?_
  refine w_getf (i := 0) (v := .int (1 : Int32)) X2 hx hZ hown (wd35 hw) P2 rfl Fo0 4 rfl rfl (hb hby d7_16) (pc' := 19) rfl ?_
  intro T3 X3 P3
  refine w_icmp_ne X3 hx (hb hby d7_19) (by decide) (pcY := 33) (by decide) (pc' := 22) rfl (fun h0 => ?_) (fun h0 => absurd h0 hms)
  refine w_aloadN X3 hx (hb hby d7_33) rfl rfl (pc' := 34) rfl ?_
  refine w_dup X3 hx (hb hby d7_34) rfl (pc' := 35) rfl ?_
  refine w_getf (i := 0) (v := .int (1 : Int32)) X3 hx hZ hown (wd38 hw) P3 rfl Fo0 5 rfl rfl (hb hby d7_35) (pc' := 38) rfl ?_
  intro T4 X4 P4
  refine w_dupX1 X4 hx (hb hby d7_38) rfl rfl (pc' := 39) rfl ?_
  refine w_iconst (v := (1 : Int32)) X4 hx (hb hby d7_39) rfl (pc' := 40) rfl ?_
  refine w_iadd X4 hx (hb hby d7_40) (pc' := 41) rfl ?_
  refine w_eqI (z := (2 : Int32)) (by decide) ?_
  refine w_putf (i := 0) (ty := .int) X4 hx hZ hown (wd38 hw) N0 P4 rfl Fo0 (di_C0 hw) 5 rfl (Or.inl (wd39 hw)) (wd9 hw) (by decide) rfl rfl (hb hby d7_41) (pc' := 44) rfl ?_
  intro T5 L1 c1 N1 X5 P5 F1
  replace P5 : HP n0 T5.heap [c1, AC k1 [], AC k2 [], AC k3 [], AC k4 (List.map Value.int pD), AC k5 (List.map Value.int pE), AC k6 [.int py0, .int py1], AC k7 (List.map Value.int pC), AC k8 (List.map Value.int pS), AC k9 [.int pz0, .int pz1, .int pz2, .int pz3]] := P5
  replace F1 : ObjF Z c1 "com/example/protomata/protomata/Partition" fl_C0 [.ref (n0 + 7), .ref (n0 + 8), .ref (n0 + 9), .int (Int32.ofNat pa), .int (1 : Int32), .int (2 : Int32), .long psq] := F1
  refine w_istore (l' := #[.val (.ref (n0 + 0)), .val (.int (Int32.ofNat pb)), .val (.int (Int32.ofNat pc_)), .val (.int (Int32.ofNat pk)), .val (.int (1 : Int32))]) X5 hx (hb hby d7_44) rfl (pc' := 46) rfl ?_
  refine w_aloadN X5 hx (hb hby d7_46) rfl rfl (pc' := 47) rfl ?_
  refine w_getf (i := 0) (v := .ref (n0 + 8)) X5 hx hZ hown (wd20 hw) P5 rfl F1 1 rfl rfl (hb hby d7_47) (pc' := 50) rfl ?_
  intro T6 X6 P6
  refine w_iloadN X6 hx (hb hby d7_50) rfl (pc' := 51) rfl ?_
  refine w_aloadN X6 hx (hb hby d7_51) rfl rfl (pc' := 52) rfl ?_
  refine w_getf (i := 0) (v := .int (1 : Int32)) X6 hx hZ hown (wd35 hw) P6 rfl F1 4 rfl rfl (hb hby d7_52) (pc' := 55) rfl ?_
  intro T7 X7 P7
  refine w_iastoreL (i := 8) (jn := pk) X7 hx hZ N1 P7 rfl hk8 (hb hby d7_55) (own_oN (by omega)) (own_llt hpS (by omega)) (pc' := 56) rfl ?_
  intro T8 L2 N2 X8 P8
  replace P8 : HP n0 T8.heap [c1, AC k1 [], AC k2 [], AC k3 [], AC k4 (List.map Value.int pD), AC k5 (List.map Value.int pE), AC k6 [.int py0, .int py1], AC k7 (List.map Value.int pC), AC k8 (List.map Value.int (pS.set pk (1 : Int32))), AC k9 [.int pz0, .int pz1, .int pz2, .int pz3]] := P8
  refine w_aloadN X8 hx (hb hby d7_56) rfl rfl (pc' := 57) rfl ?_
  refine w_getf (i := 0) (v := .ref (n0 + 7)) X8 hx hZ hown (wd18 hw) P8 rfl F1 0 rfl rfl (hb hby d7_57) (pc' := 60) rfl ?_
  intro T9 X9 P9
  refine w_iloadN X9 hx (hb hby d7_60) rfl (pc' := 61) rfl ?_
  refine w_iload X9 hx (hb hby d7_61) rfl (pc' := 63) rfl ?_
  refine w_iastoreL (i := 7) (jn := pk) X9 hx hZ N2 P9 rfl hk7 (hb hby d7_63) (own_oN (by omega)) (own_llt hpC (by omega)) (pc' := 64) rfl ?_
  intro T10 L3 N3 X10 P10
  replace P10 : HP n0 T10.heap [c1, AC k1 [], AC k2 [], AC k3 [], AC k4 (List.map Value.int pD), AC k5 (List.map Value.int pE), AC k6 [.int py0, .int py1], AC k7 (List.map Value.int (pC.set pk (1 : Int32))), AC k8 (List.map Value.int (pS.set pk (1 : Int32))), AC k9 [.int pz0, .int pz1, .int pz2, .int pz3]] := P10
  refine w_aloadN X10 hx (hb hby d7_64) rfl rfl (pc' := 65) rfl ?_
  refine w_getf (i := 0) (v := .ref (n0 + 9)) X10 hx hZ hown (wd22 hw) P10 rfl F1 2 rfl rfl (hb hby d7_65) (pc' := 68) rfl ?_
  intro T11 X11 P11
  refine w_iload X11 hx (hb hby d7_68) rfl (pc' := 70) rfl ?_
  refine w_iconst (v := (0 : Int32)) X11 hx (hb hby d7_70) rfl (pc' := 71) rfl ?_
  refine w_iastore (i := 9) (jn := 1) X11 hx hZ N3 P11 rfl hk9 (hb hby d7_71) (by decide) (Nat.le_of_ble_eq_true rfl) (pc' := 72) rfl ?_
  intro T12 L4 N4 X12 P12
  replace P12 : HP n0 T12.heap [c1, AC k1 [], AC k2 [], AC k3 [], AC k4 (List.map Value.int pD), AC k5 (List.map Value.int pE), AC k6 [.int py0, .int py1], AC k7 (List.map Value.int (pC.set pk (1 : Int32))), AC k8 (List.map Value.int (pS.set pk (1 : Int32))), AC k9 [.int pz0, .int (0 : Int32), .int pz2, .int pz3]] := P12
  refine w_aloadN X12 hx (hb hby d7_72) rfl rfl (pc' := 73) rfl ?_
  refine w_dup X12 hx (hb hby d7_73) rfl (pc' := 74) rfl ?_
  refine w_getf (i := 0) (v := .long psq) X12 hx hZ hown (wd40 hw) P12 rfl F1 6 rfl rfl (hb hby d7_74) (pc' := 77) rfl ?_
  intro T13 X13 P13
  refine w_ldc2 X13 hx (hb hby d7_77) hown (mvT hZ (wd47 hw)) (pc' := 80) rfl ?_
  refine w_aloadN X13 hx (hb hby d7_80) rfl rfl (pc' := 81) rfl ?_
  refine w_getf (i := 0) (v := .ref (n0 + 9)) X13 hx hZ hown (wd22 hw) P13 rfl F1 2 rfl rfl (hb hby d7_81) (pc' := 84) rfl ?_
  intro T14 X14 P14
  refine w_iload X14 hx (hb hby d7_84) rfl (pc' := 86) rfl ?_
  refine w_iaload (i := 9) (jn := 1) (v := .int (0 : Int32)) X14 hx hZ P14 rfl hk9 (hb hby d7_86) (by decide) rfl (pc' := 87) rfl ?_
  refine w_i2l X14 hx (hb hby d7_87) (pc' := 88) rfl ?_
  refine w_eqJ (z := (0 : Int64)) (by decide) ?_
  refine w_lmul X14 hx (hb hby d7_88) (pc' := 89) rfl ?_
  refine w_eqJ (z := (0 : Int64)) (by decide) ?_
  refine w_lconst (v := (1 : Int64)) X14 hx (hb hby d7_89) rfl (pc' := 90) rfl ?_
  refine w_ladd X14 hx (hb hby d7_90) (pc' := 91) rfl ?_
  refine w_eqJ (z := (1 : Int64)) (by decide) ?_
  refine w_ladd X14 hx (hb hby d7_91) (pc' := 92) rfl ?_
  refine w_putf (i := 0) (ty := .long) X14 hx hZ hown (wd40 hw) N4 P14 rfl F1 (di_C0 hw) 6 rfl (Or.inl (wd41 hw)) (wd9 hw) (by decide) rfl rfl (hb hby d7_92) (pc' := 95) rfl ?_
  intro T15 L5 c2 N5 X15 P15 F2
  replace P15 : HP n0 T15.heap [c2, AC k1 [], AC k2 [], AC k3 [], AC k4 (List.map Value.int pD), AC k5 (List.map Value.int pE), AC k6 [.int py0, .int py1], AC k7 (List.map Value.int (pC.set pk (1 : Int32))), AC k8 (List.map Value.int (pS.set pk (1 : Int32))), AC k9 [.int pz0, .int (0 : Int32), .int pz2, .int pz3]] := P15
  replace F2 : ObjF Z c2 "com/example/protomata/protomata/Partition" fl_C0 [.ref (n0 + 7), .ref (n0 + 8), .ref (n0 + 9), .int (Int32.ofNat pa), .int (1 : Int32), .int (2 : Int32), .long (psq + (1 : Int64))] := F2
  refine w_aloadN X15 hx (hb hby d7_95) rfl rfl (pc' := 96) rfl ?_
  refine w_getf (i := 0) (v := .ref (n0 + 9)) X15 hx hZ hown (wd22 hw) P15 rfl F2 2 rfl rfl (hb hby d7_96) (pc' := 99) rfl ?_
  intro T16 X16 P16
  refine w_iload X16 hx (hb hby d7_99) rfl (pc' := 101) rfl ?_
  refine w_dup2 X16 hx (hb hby d7_101) rfl rfl (pc' := 102) rfl ?_
  refine w_iaload (i := 9) (jn := 1) (v := .int (0 : Int32)) X16 hx hZ P16 rfl hk9 (hb hby d7_102) (by decide) rfl (pc' := 103) rfl ?_
  refine w_iconst (v := (1 : Int32)) X16 hx (hb hby d7_103) rfl (pc' := 104) rfl ?_
  refine w_iadd X16 hx (hb hby d7_104) (pc' := 105) rfl ?_
  refine w_eqI (z := (1 : Int32)) (by decide) ?_
  refine w_iastore (i := 9) (jn := 1) X16 hx hZ N5 P16 rfl hk9 (hb hby d7_105) (by decide) (Nat.le_of_ble_eq_true rfl) (pc' := 106) rfl ?_
  intro T17 L6 N6 X17 P17
  replace P17 : HP n0 T17.heap [c2, AC k1 [], AC k2 [], AC k3 [], AC k4 (List.map Value.int pD), AC k5 (List.map Value.int pE), AC k6 [.int py0, .int py1], AC k7 (List.map Value.int (pC.set pk (1 : Int32))), AC k8 (List.map Value.int (pS.set pk (1 : Int32))), AC k9 [.int pz0, .int (1 : Int32), .int pz2, .int pz3]] := P17
  refine w_iload X17 hx (hb hby d7_106) rfl (pc' := 108) rfl ?_
  exact w_ret_i X17 hx hret hlk (hb hby d7_108) (by decide) (by decide) ⟨rfl, N6, c2, F2, P17⟩
theorem ef_msB2 (m : MethodId) (n0 : Nat) (pN : Nat) (py0 : Int32) (py1 : Int32) (pb : Nat) (pa : Nat) (pc_ : Nat) (pk : Nat) (psq : Int64) (pz0 : Int32) (pz1 : Int32) (pz2 : Int32) (pz3 : Int32) : entryFrame m #[.ref (n0 + 0), .int (Int32.ofNat pb), .int (Int32.ofNat pc_)] 5 = mkF m 0 #[.val (.ref (n0 + 0)), .val (.int (Int32.ofNat pb)), .val (.int (Int32.ofNat pc_)), .unset, .unset] [] := by first | (simp [entryFrame, mkF, argsToLocals, Value.category]; done) | rfl
def Q_msB2 (Z : State) (n0 : Nat) (k1 : ClassId) (k2 : ClassId) (k3 : ClassId) (k4 : ClassId) (k5 : ClassId) (k6 : ClassId) (k7 : ClassId) (k8 : ClassId) (k9 : ClassId) (o0 : Jvm.Cell) (pC : List Int32) (pS : List Int32) (pN : Nat) (pD : List Int32) (pE : List Int32) (py0 : Int32) (py1 : Int32) (pb : Nat) (pa : Nat) (pc_ : Nat) (pk : Nat) (psq : Int64) (pz0 : Int32) (pz1 : Int32) (pz2 : Int32) (pz3 : Int32) (v : Option Value) (h : Heap) (L : List Loc) : Prop := v = some (.int (2 : Int32)) ∧ Fr n0 L ∧ ∃ c2 : Jvm.Cell, ObjF Z c2 "com/example/protomata/protomata/Partition" fl_C0 [.ref (n0 + 7), .ref (n0 + 8), .ref (n0 + 9), .int (Int32.ofNat pa), .int (1 : Int32), .int (3 : Int32), .long (psq + (1 : Int64))] ∧ HP n0 h [c2, AC k1 [], AC k2 [], AC k3 [], AC k4 (List.map Value.int pD), AC k5 (List.map Value.int pE), AC k6 [.int py0, .int py1], AC k7 (List.map Value.int (pC.set pk (2 : Int32))), AC k8 (List.map Value.int (pS.set pk (1 : Int32))), AC k9 [.int pz0, .int pz1, .int (1 : Int32), .int pz3]]
set_option maxRecDepth 65536 in
set_option maxHeartbeats 40000000 in
theorem rm_msB2 (l : Launch) (Z : State) (a0 : Array Value) (hw : ∀ d ∈ tables_1, d.before a0 Z = true) (ws : List Jvm.Cond) (n0 : Nat) (k1 : ClassId) (k2 : ClassId) (k3 : ClassId) (k4 : ClassId) (k5 : ClassId) (k6 : ClassId) (k7 : ClassId) (k8 : ClassId) (k9 : ClassId) (o0 : Jvm.Cell) (pC : List Int32) (pS : List Int32) (pN : Nat) (pD : List Int32) (pE : List Int32) (py0 : Int32) (py1 : Int32) (pb : Nat) (pa : Nat) (pc_ : Nat) (pk : Nat) (psq : Int64) (pz0 : Int32) (pz1 : Int32) (pz2 : Int32) (pz3 : Int32) (h0 : Heap) (P0 : HP n0 h0 [o0, AC k1 [], AC k2 [], AC k3 [], AC k4 (List.map Value.int pD), AC k5 (List.map Value.int pE), AC k6 [.int py0, .int py1], AC k7 (List.map Value.int pC), AC k8 (List.map Value.int pS), AC k9 [.int pz0, .int pz1, .int pz2, .int pz3]]) (hk1 : IsA Z k1 .int) (hk2 : IsA Z k2 .int) (hk3 : IsA Z k3 .int) (hk4 : IsA Z k4 .int) (hk5 : IsA Z k5 .int) (hk6 : IsA Z k6 .int) (hk7 : IsA Z k7 .int) (hk8 : IsA Z k8 .int) (hk9 : IsA Z k9 .int) (hpC : pC.length = pN) (hpS : pS.length = pN) (Fo0 : ObjF Z o0 "com/example/protomata/protomata/Partition" fl_C0 [.ref (n0 + 7), .ref (n0 + 8), .ref (n0 + 9), .int (Int32.ofNat pa), .int (1 : Int32), .int (2 : Int32), .long psq]) (hpk : pb * pa + pc_ = pk) (hpl : pk < pN) (hpN : pN ≤ 16) (hms : ¬ pS.getD pk 0 = (1 : Int32)) :
    MetFree l (⟨"com/example/protomata/protomata/Partition", "put", "(II)I"⟩ : MethodName) (head1 (Jvm.Cond.code (⟨"com/example/protomata/protomata/Partition", "put", "(II)I"⟩ : MethodName) prog_101_method_3_code 5 (some .int) :: ws) ({ frames := 0, cells := 0, slots := 0, locals := 0 } : Room)) (fun aa U => aa = #[.ref (n0 + 0), .int (Int32.ofNat pb), .int (Int32.ofNat pc_)] ∧ Z.Warmed39 U.vm ∧ U.heap = h0) (fun _ _ _ _ _ => True) (fun _ U o U' => ∃ v L, o = .returned v ∧ Q_msB2 Z n0 k1 k2 k3 k4 k5 k6 k7 k8 k9 o0 pC pS pN pD pE py0 py1 pb pa pc_ pk psq pz0 pz1 pz2 pz3 v U'.heap L ∧ FrameEnd U o U' L ({ frames := 0, cells := 0, slots := 0, locals := 0 } : Room).cells ({ frames := 0, cells := 0, slots := 0, locals := 0 } : Room).slots) := by
  refine own_body pn7 ?_
  intro p e s m below meth c T0 hx hby hml hret hlk hown hnm hZ X0 e0
  subst e0
  have N0 : Fr n0 [] := Fr.nil n0
  refine own_cast (ef_msB2 m n0 pN py0 py1 pb pa pc_ pk psq pz0 pz1 pz2 pz3) ?_
  refine w_iloadN X0 hx (hb hby d7_0) rfl (pc' := 1) rfl ?_
  refine w_aloadN X0 hx (hb hby d7_1) rfl rfl (pc' := 2) rfl ?_
  refine w_getf (i := 0) (v := .int (Int32.ofNat pa)) X0 hx hZ hown (wd29 hw) P0 rfl Fo0 3 rfl rfl (hb hby d7_2) (pc' := 5) rfl ?_
  intro T1 X1 P1
  refine w_imul X1 hx (hb hby d7_5) (pc' := 6) rfl ?_
  refine w_eqI (z := (Int32.ofNat (pb * pa))) (own_omul pb pa) ?_
  refine w_iloadN X1 hx (hb hby d7_6) rfl (pc' := 7) rfl ?_
  refine w_iadd X1 hx (hb hby d7_7) (pc' := 8) rfl ?_
  refine w_eqI (z := (Int32.ofNat ((pb * pa) + pc_))) (own_oadd (pb * pa) pc_) ?_
  refine w_eqI (z := (Int32.ofNat pk)) (congrArg Int32.ofNat hpk) ?_
  refine w_istoreN (l' := #[.val (.ref (n0 + 0)), .val (.int (Int32.ofNat pb)), .val (.int (Int32.ofNat pc_)), .val (.int (Int32.ofNat pk)), .unset]) X1 hx (hb hby d7_8) rfl (pc' := 9) rfl ?_
  refine w_aloadN X1 hx (hb hby d7_9) rfl rfl (pc' := 10) rfl ?_
  refine w_getf (i := 0) (v := .ref (n0 + 8)) X1 hx hZ hown (wd20 hw) P1 rfl Fo0 1 rfl rfl (hb hby d7_10) (pc' := 13) rfl ?_
  intro T2 X2 P2
  refine w_iloadN X2 hx (hb hby d7_13) rfl (pc' := 14) rfl ?_
  refine w_ialoadL (i := 8) (jn := pk) X2 hx hZ P2 rfl hk8 (hb hby d7_14) (own_oN (by omega)) (own_llt hpS (by omega)) (pc' := 15) rfl ?_
  refine w_aloadN X2 hx (hb hby d7_15) rfl rfl (pc' := 16) rfl ?_
  refine w_getf (i := 0) (v := .int (1 : Int32)) X2 hx hZ hown (wd35 hw) P2 rfl Fo0 4 rfl rfl (hb hby d7_16) (pc' := 19) rfl ?_
  intro T3 X3 P3
  refine w_icmp_ne X3 hx (hb hby d7_19) (by decide) (pcY := 33) (by decide) (pc' := 22) rfl (fun h0 => ?_) (fun h0 => absurd h0 hms)
  refine w_aloadN X3 hx (hb hby d7_33) rfl rfl (pc' := 34) rfl ?_
  refine w_dup X3 hx (hb hby d7_34) rfl (pc' := 35) rfl ?_
  refine w_getf (i := 0) (v := .int (2 : Int32)) X3 hx hZ hown (wd38 hw) P3 rfl Fo0 5 rfl rfl (hb hby d7_35) (pc' := 38) rfl ?_
  intro T4 X4 P4
  refine w_dupX1 X4 hx (hb hby d7_38) rfl rfl (pc' := 39) rfl ?_
  refine w_iconst (v := (1 : Int32)) X4 hx (hb hby d7_39) rfl (pc' := 40) rfl ?_
  refine w_iadd X4 hx (hb hby d7_40) (pc' := 41) rfl ?_
  refine w_eqI (z := (3 : Int32)) (by decide) ?_
  refine w_putf (i := 0) (ty := .int) X4 hx hZ hown (wd38 hw) N0 P4 rfl Fo0 (di_C0 hw) 5 rfl (Or.inl (wd39 hw)) (wd9 hw) (by decide) rfl rfl (hb hby d7_41) (pc' := 44) rfl ?_
  intro T5 L1 c1 N1 X5 P5 F1
  replace P5 : HP n0 T5.heap [c1, AC k1 [], AC k2 [], AC k3 [], AC k4 (List.map Value.int pD), AC k5 (List.map Value.int pE), AC k6 [.int py0, .int py1], AC k7 (List.map Value.int pC), AC k8 (List.map Value.int pS), AC k9 [.int pz0, .int pz1, .int pz2, .int pz3]] := P5
  replace F1 : ObjF Z c1 "com/example/protomata/protomata/Partition" fl_C0 [.ref (n0 + 7), .ref (n0 + 8), .ref (n0 + 9), .int (Int32.ofNat pa), .int (1 : Int32), .int (3 : Int32), .long psq] := F1
  refine w_istore (l' := #[.val (.ref (n0 + 0)), .val (.int (Int32.ofNat pb)), .val (.int (Int32.ofNat pc_)), .val (.int (Int32.ofNat pk)), .val (.int (2 : Int32))]) X5 hx (hb hby d7_44) rfl (pc' := 46) rfl ?_
  refine w_aloadN X5 hx (hb hby d7_46) rfl rfl (pc' := 47) rfl ?_
  refine w_getf (i := 0) (v := .ref (n0 + 8)) X5 hx hZ hown (wd20 hw) P5 rfl F1 1 rfl rfl (hb hby d7_47) (pc' := 50) rfl ?_
  intro T6 X6 P6
  refine w_iloadN X6 hx (hb hby d7_50) rfl (pc' := 51) rfl ?_
  refine w_aloadN X6 hx (hb hby d7_51) rfl rfl (pc' := 52) rfl ?_
  refine w_getf (i := 0) (v := .int (1 : Int32)) X6 hx hZ hown (wd35 hw) P6 rfl F1 4 rfl rfl (hb hby d7_52) (pc' := 55) rfl ?_
  intro T7 X7 P7
  refine w_iastoreL (i := 8) (jn := pk) X7 hx hZ N1 P7 rfl hk8 (hb hby d7_55) (own_oN (by omega)) (own_llt hpS (by omega)) (pc' := 56) rfl ?_
  intro T8 L2 N2 X8 P8
  replace P8 : HP n0 T8.heap [c1, AC k1 [], AC k2 [], AC k3 [], AC k4 (List.map Value.int pD), AC k5 (List.map Value.int pE), AC k6 [.int py0, .int py1], AC k7 (List.map Value.int pC), AC k8 (List.map Value.int (pS.set pk (1 : Int32))), AC k9 [.int pz0, .int pz1, .int pz2, .int pz3]] := P8
  refine w_aloadN X8 hx (hb hby d7_56) rfl rfl (pc' := 57) rfl ?_
  refine w_getf (i := 0) (v := .ref (n0 + 7)) X8 hx hZ hown (wd18 hw) P8 rfl F1 0 rfl rfl (hb hby d7_57) (pc' := 60) rfl ?_
  intro T9 X9 P9
  refine w_iloadN X9 hx (hb hby d7_60) rfl (pc' := 61) rfl ?_
  refine w_iload X9 hx (hb hby d7_61) rfl (pc' := 63) rfl ?_
  refine w_iastoreL (i := 7) (jn := pk) X9 hx hZ N2 P9 rfl hk7 (hb hby d7_63) (own_oN (by omega)) (own_llt hpC (by omega)) (pc' := 64) rfl ?_
  intro T10 L3 N3 X10 P10
  replace P10 : HP n0 T10.heap [c1, AC k1 [], AC k2 [], AC k3 [], AC k4 (List.map Value.int pD), AC k5 (List.map Value.int pE), AC k6 [.int py0, .int py1], AC k7 (List.map Value.int (pC.set pk (2 : Int32))), AC k8 (List.map Value.int (pS.set pk (1 : Int32))), AC k9 [.int pz0, .int pz1, .int pz2, .int pz3]] := P10
  refine w_aloadN X10 hx (hb hby d7_64) rfl rfl (pc' := 65) rfl ?_
  refine w_getf (i := 0) (v := .ref (n0 + 9)) X10 hx hZ hown (wd22 hw) P10 rfl F1 2 rfl rfl (hb hby d7_65) (pc' := 68) rfl ?_
  intro T11 X11 P11
  refine w_iload X11 hx (hb hby d7_68) rfl (pc' := 70) rfl ?_
  refine w_iconst (v := (0 : Int32)) X11 hx (hb hby d7_70) rfl (pc' := 71) rfl ?_
  refine w_iastore (i := 9) (jn := 2) X11 hx hZ N3 P11 rfl hk9 (hb hby d7_71) (by decide) (Nat.le_of_ble_eq_true rfl) (pc' := 72) rfl ?_
  intro T12 L4 N4 X12 P12
  replace P12 : HP n0 T12.heap [c1, AC k1 [], AC k2 [], AC k3 [], AC k4 (List.map Value.int pD), AC k5 (List.map Value.int pE), AC k6 [.int py0, .int py1], AC k7 (List.map Value.int (pC.set pk (2 : Int32))), AC k8 (List.map Value.int (pS.set pk (1 : Int32))), AC k9 [.int pz0, .int pz1, .int (0 : Int32), .int pz3]] := P12
  refine w_aloadN X12 hx (hb hby d7_72) rfl rfl (pc' := 73) rfl ?_
  refine w_dup X12 hx (hb hby d7_73) rfl (pc' := 74) rfl ?_
  refine w_getf (i := 0) (v := .long psq) X12 hx hZ hown (wd40 hw) P12 rfl F1 6 rfl rfl (hb hby d7_74) (pc' := 77) rfl ?_
  intro T13 X13 P13
  refine w_ldc2 X13 hx (hb hby d7_77) hown (mvT hZ (wd47 hw)) (pc' := 80) rfl ?_
  refine w_aloadN X13 hx (hb hby d7_80) rfl rfl (pc' := 81) rfl ?_
  refine w_getf (i := 0) (v := .ref (n0 + 9)) X13 hx hZ hown (wd22 hw) P13 rfl F1 2 rfl rfl (hb hby d7_81) (pc' := 84) rfl ?_
  intro T14 X14 P14
  refine w_iload X14 hx (hb hby d7_84) rfl (pc' := 86) rfl ?_
  refine w_iaload (i := 9) (jn := 2) (v := .int (0 : Int32)) X14 hx hZ P14 rfl hk9 (hb hby d7_86) (by decide) rfl (pc' := 87) rfl ?_
  refine w_i2l X14 hx (hb hby d7_87) (pc' := 88) rfl ?_
  refine w_eqJ (z := (0 : Int64)) (by decide) ?_
  refine w_lmul X14 hx (hb hby d7_88) (pc' := 89) rfl ?_
  refine w_eqJ (z := (0 : Int64)) (by decide) ?_
  refine w_lconst (v := (1 : Int64)) X14 hx (hb hby d7_89) rfl (pc' := 90) rfl ?_
  refine w_ladd X14 hx (hb hby d7_90) (pc' := 91) rfl ?_
  refine w_eqJ (z := (1 : Int64)) (by decide) ?_
  refine w_ladd X14 hx (hb hby d7_91) (pc' := 92) rfl ?_
  refine w_putf (i := 0) (ty := .long) X14 hx hZ hown (wd40 hw) N4 P14 rfl F1 (di_C0 hw) 6 rfl (Or.inl (wd41 hw)) (wd9 hw) (by decide) rfl rfl (hb hby d7_92) (pc' := 95) rfl ?_
  intro T15 L5 c2 N5 X15 P15 F2
  replace P15 : HP n0 T15.heap [c2, AC k1 [], AC k2 [], AC k3 [], AC k4 (List.map Value.int pD), AC k5 (List.map Value.int pE), AC k6 [.int py0, .int py1], AC k7 (List.map Value.int (pC.set pk (2 : Int32))), AC k8 (List.map Value.int (pS.set pk (1 : Int32))), AC k9 [.int pz0, .int pz1, .int (0 : Int32), .int pz3]] := P15
  replace F2 : ObjF Z c2 "com/example/protomata/protomata/Partition" fl_C0 [.ref (n0 + 7), .ref (n0 + 8), .ref (n0 + 9), .int (Int32.ofNat pa), .int (1 : Int32), .int (3 : Int32), .long (psq + (1 : Int64))] := F2
  refine w_aloadN X15 hx (hb hby d7_95) rfl rfl (pc' := 96) rfl ?_
  refine w_getf (i := 0) (v := .ref (n0 + 9)) X15 hx hZ hown (wd22 hw) P15 rfl F2 2 rfl rfl (hb hby d7_96) (pc' := 99) rfl ?_
  intro T16 X16 P16
  refine w_iload X16 hx (hb hby d7_99) rfl (pc' := 101) rfl ?_
  refine w_dup2 X16 hx (hb hby d7_101) rfl rfl (pc' := 102) rfl ?_
  refine w_iaload (i := 9) (jn := 2) (v := .int (0 : Int32)) X16 hx hZ P16 rfl hk9 (hb hby d7_102) (by decide) rfl (pc' := 103) rfl ?_
  refine w_iconst (v := (1 : Int32)) X16 hx (hb hby d7_103) rfl (pc' := 104) rfl ?_
  refine w_iadd X16 hx (hb hby d7_104) (pc' := 105) rfl ?_
  refine w_eqI (z := (1 : Int32)) (by decide) ?_
  refine w_iastore (i := 9) (jn := 2) X16 hx hZ N5 P16 rfl hk9 (hb hby d7_105) (by decide) (Nat.le_of_ble_eq_true rfl) (pc' := 106) rfl ?_
  intro T17 L6 N6 X17 P17
  replace P17 : HP n0 T17.heap [c2, AC k1 [], AC k2 [], AC k3 [], AC k4 (List.map Value.int pD), AC k5 (List.map Value.int pE), AC k6 [.int py0, .int py1], AC k7 (List.map Value.int (pC.set pk (2 : Int32))), AC k8 (List.map Value.int (pS.set pk (1 : Int32))), AC k9 [.int pz0, .int pz1, .int (1 : Int32), .int pz3]] := P17
  refine w_iload X17 hx (hb hby d7_106) rfl (pc' := 108) rfl ?_
  exact w_ret_i X17 hx hret hlk (hb hby d7_108) (by decide) (by decide) ⟨rfl, N6, c2, F2, P17⟩
theorem ef_msB3 (m : MethodId) (n0 : Nat) (pN : Nat) (py0 : Int32) (py1 : Int32) (pb : Nat) (pa : Nat) (pc_ : Nat) (pk : Nat) (psq : Int64) (pz0 : Int32) (pz1 : Int32) (pz2 : Int32) (pz3 : Int32) : entryFrame m #[.ref (n0 + 0), .int (Int32.ofNat pb), .int (Int32.ofNat pc_)] 5 = mkF m 0 #[.val (.ref (n0 + 0)), .val (.int (Int32.ofNat pb)), .val (.int (Int32.ofNat pc_)), .unset, .unset] [] := by first | (simp [entryFrame, mkF, argsToLocals, Value.category]; done) | rfl
def Q_msB3 (Z : State) (n0 : Nat) (k1 : ClassId) (k2 : ClassId) (k3 : ClassId) (k4 : ClassId) (k5 : ClassId) (k6 : ClassId) (k7 : ClassId) (k8 : ClassId) (k9 : ClassId) (o0 : Jvm.Cell) (pC : List Int32) (pS : List Int32) (pN : Nat) (pD : List Int32) (pE : List Int32) (py0 : Int32) (py1 : Int32) (pb : Nat) (pa : Nat) (pc_ : Nat) (pk : Nat) (psq : Int64) (pz0 : Int32) (pz1 : Int32) (pz2 : Int32) (pz3 : Int32) (v : Option Value) (h : Heap) (L : List Loc) : Prop := v = some (.int (3 : Int32)) ∧ Fr n0 L ∧ ∃ c2 : Jvm.Cell, ObjF Z c2 "com/example/protomata/protomata/Partition" fl_C0 [.ref (n0 + 7), .ref (n0 + 8), .ref (n0 + 9), .int (Int32.ofNat pa), .int (1 : Int32), .int (4 : Int32), .long (psq + (1 : Int64))] ∧ HP n0 h [c2, AC k1 [], AC k2 [], AC k3 [], AC k4 (List.map Value.int pD), AC k5 (List.map Value.int pE), AC k6 [.int py0, .int py1], AC k7 (List.map Value.int (pC.set pk (3 : Int32))), AC k8 (List.map Value.int (pS.set pk (1 : Int32))), AC k9 [.int pz0, .int pz1, .int pz2, .int (1 : Int32)]]
set_option maxRecDepth 65536 in
set_option maxHeartbeats 40000000 in
theorem rm_msB3 (l : Launch) (Z : State) (a0 : Array Value) (hw : ∀ d ∈ tables_1, d.before a0 Z = true) (ws : List Jvm.Cond) (n0 : Nat) (k1 : ClassId) (k2 : ClassId) (k3 : ClassId) (k4 : ClassId) (k5 : ClassId) (k6 : ClassId) (k7 : ClassId) (k8 : ClassId) (k9 : ClassId) (o0 : Jvm.Cell) (pC : List Int32) (pS : List Int32) (pN : Nat) (pD : List Int32) (pE : List Int32) (py0 : Int32) (py1 : Int32) (pb : Nat) (pa : Nat) (pc_ : Nat) (pk : Nat) (psq : Int64) (pz0 : Int32) (pz1 : Int32) (pz2 : Int32) (pz3 : Int32) (h0 : Heap) (P0 : HP n0 h0 [o0, AC k1 [], AC k2 [], AC k3 [], AC k4 (List.map Value.int pD), AC k5 (List.map Value.int pE), AC k6 [.int py0, .int py1], AC k7 (List.map Value.int pC), AC k8 (List.map Value.int pS), AC k9 [.int pz0, .int pz1, .int pz2, .int pz3]]) (hk1 : IsA Z k1 .int) (hk2 : IsA Z k2 .int) (hk3 : IsA Z k3 .int) (hk4 : IsA Z k4 .int) (hk5 : IsA Z k5 .int) (hk6 : IsA Z k6 .int) (hk7 : IsA Z k7 .int) (hk8 : IsA Z k8 .int) (hk9 : IsA Z k9 .int) (hpC : pC.length = pN) (hpS : pS.length = pN) (Fo0 : ObjF Z o0 "com/example/protomata/protomata/Partition" fl_C0 [.ref (n0 + 7), .ref (n0 + 8), .ref (n0 + 9), .int (Int32.ofNat pa), .int (1 : Int32), .int (3 : Int32), .long psq]) (hpk : pb * pa + pc_ = pk) (hpl : pk < pN) (hpN : pN ≤ 16) (hms : ¬ pS.getD pk 0 = (1 : Int32)) :
    MetFree l (⟨"com/example/protomata/protomata/Partition", "put", "(II)I"⟩ : MethodName) (head1 (Jvm.Cond.code (⟨"com/example/protomata/protomata/Partition", "put", "(II)I"⟩ : MethodName) prog_101_method_3_code 5 (some .int) :: ws) ({ frames := 0, cells := 0, slots := 0, locals := 0 } : Room)) (fun aa U => aa = #[.ref (n0 + 0), .int (Int32.ofNat pb), .int (Int32.ofNat pc_)] ∧ Z.Warmed39 U.vm ∧ U.heap = h0) (fun _ _ _ _ _ => True) (fun _ U o U' => ∃ v L, o = .returned v ∧ Q_msB3 Z n0 k1 k2 k3 k4 k5 k6 k7 k8 k9 o0 pC pS pN pD pE py0 py1 pb pa pc_ pk psq pz0 pz1 pz2 pz3 v U'.heap L ∧ FrameEnd U o U' L ({ frames := 0, cells := 0, slots := 0, locals := 0 } : Room).cells ({ frames := 0, cells := 0, slots := 0, locals := 0 } : Room).slots) := by
  refine own_body pn7 ?_
  intro p e s m below meth c T0 hx hby hml hret hlk hown hnm hZ X0 e0
  subst e0
  have N0 : Fr n0 [] := Fr.nil n0
  refine own_cast (ef_msB3 m n0 pN py0 py1 pb pa pc_ pk psq pz0 pz1 pz2 pz3) ?_
  refine w_iloadN X0 hx (hb hby d7_0) rfl (pc' := 1) rfl ?_
  refine w_aloadN X0 hx (hb hby d7_1) rfl rfl (pc' := 2) rfl ?_
  refine w_getf (i := 0) (v := .int (Int32.ofNat pa)) X0 hx hZ hown (wd29 hw) P0 rfl Fo0 3 rfl rfl (hb hby d7_2) (pc' := 5) rfl ?_
  intro T1 X1 P1
  refine w_imul X1 hx (hb hby d7_5) (pc' := 6) rfl ?_
  refine w_eqI (z := (Int32.ofNat (pb * pa))) (own_omul pb pa) ?_
  refine w_iloadN X1 hx (hb hby d7_6) rfl (pc' := 7) rfl ?_
  refine w_iadd X1 hx (hb hby d7_7) (pc' := 8) rfl ?_
  refine w_eqI (z := (Int32.ofNat ((pb * pa) + pc_))) (own_oadd (pb * pa) pc_) ?_
  refine w_eqI (z := (Int32.ofNat pk)) (congrArg Int32.ofNat hpk) ?_
  refine w_istoreN (l' := #[.val (.ref (n0 + 0)), .val (.int (Int32.ofNat pb)), .val (.int (Int32.ofNat pc_)), .val (.int (Int32.ofNat pk)), .unset]) X1 hx (hb hby d7_8) rfl (pc' := 9) rfl ?_
  refine w_aloadN X1 hx (hb hby d7_9) rfl rfl (pc' := 10) rfl ?_
  refine w_getf (i := 0) (v := .ref (n0 + 8)) X1 hx hZ hown (wd20 hw) P1 rfl Fo0 1 rfl rfl (hb hby d7_10) (pc' := 13) rfl ?_
  intro T2 X2 P2
  refine w_iloadN X2 hx (hb hby d7_13) rfl (pc' := 14) rfl ?_
  refine w_ialoadL (i := 8) (jn := pk) X2 hx hZ P2 rfl hk8 (hb hby d7_14) (own_oN (by omega)) (own_llt hpS (by omega)) (pc' := 15) rfl ?_
  refine w_aloadN X2 hx (hb hby d7_15) rfl rfl (pc' := 16) rfl ?_
  refine w_getf (i := 0) (v := .int (1 : Int32)) X2 hx hZ hown (wd35 hw) P2 rfl Fo0 4 rfl rfl (hb hby d7_16) (pc' := 19) rfl ?_
  intro T3 X3 P3
  refine w_icmp_ne X3 hx (hb hby d7_19) (by decide) (pcY := 33) (by decide) (pc' := 22) rfl (fun h0 => ?_) (fun h0 => absurd h0 hms)
  refine w_aloadN X3 hx (hb hby d7_33) rfl rfl (pc' := 34) rfl ?_
  refine w_dup X3 hx (hb hby d7_34) rfl (pc' := 35) rfl ?_
  refine w_getf (i := 0) (v := .int (3 : Int32)) X3 hx hZ hown (wd38 hw) P3 rfl Fo0 5 rfl rfl (hb hby d7_35) (pc' := 38) rfl ?_
  intro T4 X4 P4
  refine w_dupX1 X4 hx (hb hby d7_38) rfl rfl (pc' := 39) rfl ?_
  refine w_iconst (v := (1 : Int32)) X4 hx (hb hby d7_39) rfl (pc' := 40) rfl ?_
  refine w_iadd X4 hx (hb hby d7_40) (pc' := 41) rfl ?_
  refine w_eqI (z := (4 : Int32)) (by decide) ?_
  refine w_putf (i := 0) (ty := .int) X4 hx hZ hown (wd38 hw) N0 P4 rfl Fo0 (di_C0 hw) 5 rfl (Or.inl (wd39 hw)) (wd9 hw) (by decide) rfl rfl (hb hby d7_41) (pc' := 44) rfl ?_
  intro T5 L1 c1 N1 X5 P5 F1
  replace P5 : HP n0 T5.heap [c1, AC k1 [], AC k2 [], AC k3 [], AC k4 (List.map Value.int pD), AC k5 (List.map Value.int pE), AC k6 [.int py0, .int py1], AC k7 (List.map Value.int pC), AC k8 (List.map Value.int pS), AC k9 [.int pz0, .int pz1, .int pz2, .int pz3]] := P5
  replace F1 : ObjF Z c1 "com/example/protomata/protomata/Partition" fl_C0 [.ref (n0 + 7), .ref (n0 + 8), .ref (n0 + 9), .int (Int32.ofNat pa), .int (1 : Int32), .int (4 : Int32), .long psq] := F1
  refine w_istore (l' := #[.val (.ref (n0 + 0)), .val (.int (Int32.ofNat pb)), .val (.int (Int32.ofNat pc_)), .val (.int (Int32.ofNat pk)), .val (.int (3 : Int32))]) X5 hx (hb hby d7_44) rfl (pc' := 46) rfl ?_
  refine w_aloadN X5 hx (hb hby d7_46) rfl rfl (pc' := 47) rfl ?_
  refine w_getf (i := 0) (v := .ref (n0 + 8)) X5 hx hZ hown (wd20 hw) P5 rfl F1 1 rfl rfl (hb hby d7_47) (pc' := 50) rfl ?_
  intro T6 X6 P6
  refine w_iloadN X6 hx (hb hby d7_50) rfl (pc' := 51) rfl ?_
  refine w_aloadN X6 hx (hb hby d7_51) rfl rfl (pc' := 52) rfl ?_
  refine w_getf (i := 0) (v := .int (1 : Int32)) X6 hx hZ hown (wd35 hw) P6 rfl F1 4 rfl rfl (hb hby d7_52) (pc' := 55) rfl ?_
  intro T7 X7 P7
  refine w_iastoreL (i := 8) (jn := pk) X7 hx hZ N1 P7 rfl hk8 (hb hby d7_55) (own_oN (by omega)) (own_llt hpS (by omega)) (pc' := 56) rfl ?_
  intro T8 L2 N2 X8 P8
  replace P8 : HP n0 T8.heap [c1, AC k1 [], AC k2 [], AC k3 [], AC k4 (List.map Value.int pD), AC k5 (List.map Value.int pE), AC k6 [.int py0, .int py1], AC k7 (List.map Value.int pC), AC k8 (List.map Value.int (pS.set pk (1 : Int32))), AC k9 [.int pz0, .int pz1, .int pz2, .int pz3]] := P8
  refine w_aloadN X8 hx (hb hby d7_56) rfl rfl (pc' := 57) rfl ?_
  refine w_getf (i := 0) (v := .ref (n0 + 7)) X8 hx hZ hown (wd18 hw) P8 rfl F1 0 rfl rfl (hb hby d7_57) (pc' := 60) rfl ?_
  intro T9 X9 P9
  refine w_iloadN X9 hx (hb hby d7_60) rfl (pc' := 61) rfl ?_
  refine w_iload X9 hx (hb hby d7_61) rfl (pc' := 63) rfl ?_
  refine w_iastoreL (i := 7) (jn := pk) X9 hx hZ N2 P9 rfl hk7 (hb hby d7_63) (own_oN (by omega)) (own_llt hpC (by omega)) (pc' := 64) rfl ?_
  intro T10 L3 N3 X10 P10
  replace P10 : HP n0 T10.heap [c1, AC k1 [], AC k2 [], AC k3 [], AC k4 (List.map Value.int pD), AC k5 (List.map Value.int pE), AC k6 [.int py0, .int py1], AC k7 (List.map Value.int (pC.set pk (3 : Int32))), AC k8 (List.map Value.int (pS.set pk (1 : Int32))), AC k9 [.int pz0, .int pz1, .int pz2, .int pz3]] := P10
  refine w_aloadN X10 hx (hb hby d7_64) rfl rfl (pc' := 65) rfl ?_
  refine w_getf (i := 0) (v := .ref (n0 + 9)) X10 hx hZ hown (wd22 hw) P10 rfl F1 2 rfl rfl (hb hby d7_65) (pc' := 68) rfl ?_
  intro T11 X11 P11
  refine w_iload X11 hx (hb hby d7_68) rfl (pc' := 70) rfl ?_
  refine w_iconst (v := (0 : Int32)) X11 hx (hb hby d7_70) rfl (pc' := 71) rfl ?_
  refine w_iastore (i := 9) (jn := 3) X11 hx hZ N3 P11 rfl hk9 (hb hby d7_71) (by decide) (Nat.le_of_ble_eq_true rfl) (pc' := 72) rfl ?_
  intro T12 L4 N4 X12 P12
  replace P12 : HP n0 T12.heap [c1, AC k1 [], AC k2 [], AC k3 [], AC k4 (List.map Value.int pD), AC k5 (List.map Value.int pE), AC k6 [.int py0, .int py1], AC k7 (List.map Value.int (pC.set pk (3 : Int32))), AC k8 (List.map Value.int (pS.set pk (1 : Int32))), AC k9 [.int pz0, .int pz1, .int pz2, .int (0 : Int32)]] := P12
  refine w_aloadN X12 hx (hb hby d7_72) rfl rfl (pc' := 73) rfl ?_
  refine w_dup X12 hx (hb hby d7_73) rfl (pc' := 74) rfl ?_
  refine w_getf (i := 0) (v := .long psq) X12 hx hZ hown (wd40 hw) P12 rfl F1 6 rfl rfl (hb hby d7_74) (pc' := 77) rfl ?_
  intro T13 X13 P13
  refine w_ldc2 X13 hx (hb hby d7_77) hown (mvT hZ (wd47 hw)) (pc' := 80) rfl ?_
  refine w_aloadN X13 hx (hb hby d7_80) rfl rfl (pc' := 81) rfl ?_
  refine w_getf (i := 0) (v := .ref (n0 + 9)) X13 hx hZ hown (wd22 hw) P13 rfl F1 2 rfl rfl (hb hby d7_81) (pc' := 84) rfl ?_
  intro T14 X14 P14
  refine w_iload X14 hx (hb hby d7_84) rfl (pc' := 86) rfl ?_
  refine w_iaload (i := 9) (jn := 3) (v := .int (0 : Int32)) X14 hx hZ P14 rfl hk9 (hb hby d7_86) (by decide) rfl (pc' := 87) rfl ?_
  refine w_i2l X14 hx (hb hby d7_87) (pc' := 88) rfl ?_
  refine w_eqJ (z := (0 : Int64)) (by decide) ?_
  refine w_lmul X14 hx (hb hby d7_88) (pc' := 89) rfl ?_
  refine w_eqJ (z := (0 : Int64)) (by decide) ?_
  refine w_lconst (v := (1 : Int64)) X14 hx (hb hby d7_89) rfl (pc' := 90) rfl ?_
  refine w_ladd X14 hx (hb hby d7_90) (pc' := 91) rfl ?_
  refine w_eqJ (z := (1 : Int64)) (by decide) ?_
  refine w_ladd X14 hx (hb hby d7_91) (pc' := 92) rfl ?_
  refine w_putf (i := 0) (ty := .long) X14 hx hZ hown (wd40 hw) N4 P14 rfl F1 (di_C0 hw) 6 rfl (Or.inl (wd41 hw)) (wd9 hw) (by decide) rfl rfl (hb hby d7_92) (pc' := 95) rfl ?_
  intro T15 L5 c2 N5 X15 P15 F2
  replace P15 : HP n0 T15.heap [c2, AC k1 [], AC k2 [], AC k3 [], AC k4 (List.map Value.int pD), AC k5 (List.map Value.int pE), AC k6 [.int py0, .int py1], AC k7 (List.map Value.int (pC.set pk (3 : Int32))), AC k8 (List.map Value.int (pS.set pk (1 : Int32))), AC k9 [.int pz0, .int pz1, .int pz2, .int (0 : Int32)]] := P15
  replace F2 : ObjF Z c2 "com/example/protomata/protomata/Partition" fl_C0 [.ref (n0 + 7), .ref (n0 + 8), .ref (n0 + 9), .int (Int32.ofNat pa), .int (1 : Int32), .int (4 : Int32), .long (psq + (1 : Int64))] := F2
  refine w_aloadN X15 hx (hb hby d7_95) rfl rfl (pc' := 96) rfl ?_
  refine w_getf (i := 0) (v := .ref (n0 + 9)) X15 hx hZ hown (wd22 hw) P15 rfl F2 2 rfl rfl (hb hby d7_96) (pc' := 99) rfl ?_
  intro T16 X16 P16
  refine w_iload X16 hx (hb hby d7_99) rfl (pc' := 101) rfl ?_
  refine w_dup2 X16 hx (hb hby d7_101) rfl rfl (pc' := 102) rfl ?_
  refine w_iaload (i := 9) (jn := 3) (v := .int (0 : Int32)) X16 hx hZ P16 rfl hk9 (hb hby d7_102) (by decide) rfl (pc' := 103) rfl ?_
  refine w_iconst (v := (1 : Int32)) X16 hx (hb hby d7_103) rfl (pc' := 104) rfl ?_
  refine w_iadd X16 hx (hb hby d7_104) (pc' := 105) rfl ?_
  refine w_eqI (z := (1 : Int32)) (by decide) ?_
  refine w_iastore (i := 9) (jn := 3) X16 hx hZ N5 P16 rfl hk9 (hb hby d7_105) (by decide) (Nat.le_of_ble_eq_true rfl) (pc' := 106) rfl ?_
  intro T17 L6 N6 X17 P17
  replace P17 : HP n0 T17.heap [c2, AC k1 [], AC k2 [], AC k3 [], AC k4 (List.map Value.int pD), AC k5 (List.map Value.int pE), AC k6 [.int py0, .int py1], AC k7 (List.map Value.int (pC.set pk (3 : Int32))), AC k8 (List.map Value.int (pS.set pk (1 : Int32))), AC k9 [.int pz0, .int pz1, .int pz2, .int (1 : Int32)]] := P17
  refine w_iload X17 hx (hb hby d7_106) rfl (pc' := 108) rfl ?_
  exact w_ret_i X17 hx hret hlk (hb hby d7_108) (by decide) (by decide) ⟨rfl, N6, c2, F2, P17⟩
theorem ef_htB0 (m : MethodId) (n0 : Nat) (pN : Nat) (py0 : Int32) (py1 : Int32) (pb : Nat) (pa : Nat) (pc_ : Nat) (pk : Nat) (psq : Int64) (pz0 : Int32) (pz1 : Int32) (pz2 : Int32) (pz3 : Int32) (pgc : Int32) : entryFrame m #[.ref (n0 + 0), .int (Int32.ofNat pb), .int (Int32.ofNat pc_)] 5 = mkF m 0 #[.val (.ref (n0 + 0)), .val (.int (Int32.ofNat pb)), .val (.int (Int32.ofNat pc_)), .unset, .unset] [] := by first | (simp [entryFrame, mkF, argsToLocals, Value.category]; done) | rfl
def Q_htB0 (Z : State) (n0 : Nat) (k1 : ClassId) (k2 : ClassId) (k3 : ClassId) (k4 : ClassId) (k5 : ClassId) (k6 : ClassId) (k7 : ClassId) (k8 : ClassId) (k9 : ClassId) (o0 : Jvm.Cell) (pC : List Int32) (pS : List Int32) (pN : Nat) (pD : List Int32) (pE : List Int32) (py0 : Int32) (py1 : Int32) (pb : Nat) (pa : Nat) (pc_ : Nat) (pk : Nat) (psq : Int64) (pz0 : Int32) (pz1 : Int32) (pz2 : Int32) (pz3 : Int32) (pgc : Int32) (v : Option Value) (h : Heap) (L : List Loc) : Prop := v = some (.int (0 : Int32)) ∧ Fr n0 L ∧ ∃ c1 : Jvm.Cell, ObjF Z c1 "com/example/protomata/protomata/Partition" fl_C0 [.ref (n0 + 7), .ref (n0 + 8), .ref (n0 + 9), .int (Int32.ofNat pa), .int (1 : Int32), .int pgc, .long (psq + (((2 : Int64) * (Int32.toInt64 pz0)) + (1 : Int64)))] ∧ HP n0 h [c1, AC k1 [], AC k2 [], AC k3 [], AC k4 (List.map Value.int pD), AC k5 (List.map Value.int pE), AC k6 [.int py0, .int py1], AC k7 (List.map Value.int pC), AC k8 (List.map Value.int pS), AC k9 [.int (pz0 + (1 : Int32)), .int pz1, .int pz2, .int pz3]]
set_option maxRecDepth 65536 in
set_option maxHeartbeats 40000000 in
theorem rm_htB0 (l : Launch) (Z : State) (a0 : Array Value) (hw : ∀ d ∈ tables_1, d.before a0 Z = true) (ws : List Jvm.Cond) (n0 : Nat) (k1 : ClassId) (k2 : ClassId) (k3 : ClassId) (k4 : ClassId) (k5 : ClassId) (k6 : ClassId) (k7 : ClassId) (k8 : ClassId) (k9 : ClassId) (o0 : Jvm.Cell) (pC : List Int32) (pS : List Int32) (pN : Nat) (pD : List Int32) (pE : List Int32) (py0 : Int32) (py1 : Int32) (pb : Nat) (pa : Nat) (pc_ : Nat) (pk : Nat) (psq : Int64) (pz0 : Int32) (pz1 : Int32) (pz2 : Int32) (pz3 : Int32) (pgc : Int32) (h0 : Heap) (P0 : HP n0 h0 [o0, AC k1 [], AC k2 [], AC k3 [], AC k4 (List.map Value.int pD), AC k5 (List.map Value.int pE), AC k6 [.int py0, .int py1], AC k7 (List.map Value.int pC), AC k8 (List.map Value.int pS), AC k9 [.int pz0, .int pz1, .int pz2, .int pz3]]) (hk1 : IsA Z k1 .int) (hk2 : IsA Z k2 .int) (hk3 : IsA Z k3 .int) (hk4 : IsA Z k4 .int) (hk5 : IsA Z k5 .int) (hk6 : IsA Z k6 .int) (hk7 : IsA Z k7 .int) (hk8 : IsA Z k8 .int) (hk9 : IsA Z k9 .int) (hpC : pC.length = pN) (hpS : pS.length = pN) (Fo0 : ObjF Z o0 "com/example/protomata/protomata/Partition" fl_C0 [.ref (n0 + 7), .ref (n0 + 8), .ref (n0 + 9), .int (Int32.ofNat pa), .int (1 : Int32), .int pgc, .long psq]) (hpk : pb * pa + pc_ = pk) (hpl : pk < pN) (hpN : pN ≤ 16) (hht : pS.getD pk 0 = (1 : Int32)) (hgr : pC.getD pk 0 = (0 : Int32)) :
    MetFree l (⟨"com/example/protomata/protomata/Partition", "put", "(II)I"⟩ : MethodName) (head1 (Jvm.Cond.code (⟨"com/example/protomata/protomata/Partition", "put", "(II)I"⟩ : MethodName) prog_101_method_3_code 5 (some .int) :: ws) ({ frames := 0, cells := 0, slots := 0, locals := 0 } : Room)) (fun aa U => aa = #[.ref (n0 + 0), .int (Int32.ofNat pb), .int (Int32.ofNat pc_)] ∧ Z.Warmed39 U.vm ∧ U.heap = h0) (fun _ _ _ _ _ => True) (fun _ U o U' => ∃ v L, o = .returned v ∧ Q_htB0 Z n0 k1 k2 k3 k4 k5 k6 k7 k8 k9 o0 pC pS pN pD pE py0 py1 pb pa pc_ pk psq pz0 pz1 pz2 pz3 pgc v U'.heap L ∧ FrameEnd U o U' L ({ frames := 0, cells := 0, slots := 0, locals := 0 } : Room).cells ({ frames := 0, cells := 0, slots := 0, locals := 0 } : Room).slots) := by
  refine own_body pn7 ?_
  intro p e s m below meth c T0 hx hby hml hret hlk hown hnm hZ X0 e0
  subst e0
  have N0 : Fr n0 [] := Fr.nil n0
  refine own_cast (ef_htB0 m n0 pN py0 py1 pb pa pc_ pk psq pz0 pz1 pz2 pz3 pgc) ?_
  refine w_iloadN X0 hx (hb hby d7_0) rfl (pc' := 1) rfl ?_
  refine w_aloadN X0 hx (hb hby d7_1) rfl rfl (pc' := 2) rfl ?_
  refine w_getf (i := 0) (v := .int (Int32.ofNat pa)) X0 hx hZ hown (wd29 hw) P0 rfl Fo0 3 rfl rfl (hb hby d7_2) (pc' := 5) rfl ?_
  intro T1 X1 P1
  refine w_imul X1 hx (hb hby d7_5) (pc' := 6) rfl ?_
  refine w_eqI (z := (Int32.ofNat (pb * pa))) (own_omul pb pa) ?_
  refine w_iloadN X1 hx (hb hby d7_6) rfl (pc' := 7) rfl ?_
  refine w_iadd X1 hx (hb hby d7_7) (pc' := 8) rfl ?_
  refine w_eqI (z := (Int32.ofNat ((pb * pa) + pc_))) (own_oadd (pb * pa) pc_) ?_
  refine w_eqI (z := (Int32.ofNat pk)) (congrArg Int32.ofNat hpk) ?_
  refine w_istoreN (l' := #[.val (.ref (n0 + 0)), .val (.int (Int32.ofNat pb)), .val (.int (Int32.ofNat pc_)), .val (.int (Int32.ofNat pk)), .unset]) X1 hx (hb hby d7_8) rfl (pc' := 9) rfl ?_
  refine w_aloadN X1 hx (hb hby d7_9) rfl rfl (pc' := 10) rfl ?_
  refine w_getf (i := 0) (v := .ref (n0 + 8)) X1 hx hZ hown (wd20 hw) P1 rfl Fo0 1 rfl rfl (hb hby d7_10) (pc' := 13) rfl ?_
  intro T2 X2 P2
  refine w_iloadN X2 hx (hb hby d7_13) rfl (pc' := 14) rfl ?_
  refine w_ialoadL (i := 8) (jn := pk) X2 hx hZ P2 rfl hk8 (hb hby d7_14) (own_oN (by omega)) (own_llt hpS (by omega)) (pc' := 15) rfl ?_
  refine w_aloadN X2 hx (hb hby d7_15) rfl rfl (pc' := 16) rfl ?_
  refine w_getf (i := 0) (v := .int (1 : Int32)) X2 hx hZ hown (wd35 hw) P2 rfl Fo0 4 rfl rfl (hb hby d7_16) (pc' := 19) rfl ?_
  intro T3 X3 P3
  refine w_icmp_ne X3 hx (hb hby d7_19) (by decide) (pcY := 33) (by decide) (pc' := 22) rfl (fun h0 => absurd hht h0) (fun h0 => ?_)
  refine w_aloadN X3 hx (hb hby d7_22) rfl rfl (pc' := 23) rfl ?_
  refine w_getf (i := 0) (v := .ref (n0 + 7)) X3 hx hZ hown (wd18 hw) P3 rfl Fo0 0 rfl rfl (hb hby d7_23) (pc' := 26) rfl ?_
  intro T4 X4 P4
  refine w_iloadN X4 hx (hb hby d7_26) rfl (pc' := 27) rfl ?_
  refine w_ialoadL (i := 7) (jn := pk) X4 hx hZ P4 rfl hk7 (hb hby d7_27) (own_oN (by omega)) (own_llt hpC (by omega)) (pc' := 28) rfl ?_
  refine w_eqI (z := (0 : Int32)) hgr ?_
  refine w_istore (l' := #[.val (.ref (n0 + 0)), .val (.int (Int32.ofNat pb)), .val (.int (Int32.ofNat pc_)), .val (.int (Int32.ofNat pk)), .val (.int (0 : Int32))]) X4 hx (hb hby d7_28) rfl (pc' := 30) rfl ?_
  refine w_goto X4 hx (hb hby d7_30) (by decide) (pc' := 72) (by decide) ?_
  refine w_aloadN X4 hx (hb hby d7_72) rfl rfl (pc' := 73) rfl ?_
  refine w_dup X4 hx (hb hby d7_73) rfl (pc' := 74) rfl ?_
  refine w_getf (i := 0) (v := .long psq) X4 hx hZ hown (wd40 hw) P4 rfl Fo0 6 rfl rfl (hb hby d7_74) (pc' := 77) rfl ?_
  intro T5 X5 P5
  refine w_ldc2 X5 hx (hb hby d7_77) hown (mvT hZ (wd47 hw)) (pc' := 80) rfl ?_
  refine w_aloadN X5 hx (hb hby d7_80) rfl rfl (pc' := 81) rfl ?_
  refine w_getf (i := 0) (v := .ref (n0 + 9)) X5 hx hZ hown (wd22 hw) P5 rfl Fo0 2 rfl rfl (hb hby d7_81) (pc' := 84) rfl ?_
  intro T6 X6 P6
  refine w_iload X6 hx (hb hby d7_84) rfl (pc' := 86) rfl ?_
  refine w_iaload (i := 9) (jn := 0) (v := .int pz0) X6 hx hZ P6 rfl hk9 (hb hby d7_86) (by decide) rfl (pc' := 87) rfl ?_
  refine w_i2l X6 hx (hb hby d7_87) (pc' := 88) rfl ?_
  refine w_lmul X6 hx (hb hby d7_88) (pc' := 89) rfl ?_
  refine w_lconst (v := (1 : Int64)) X6 hx (hb hby d7_89) rfl (pc' := 90) rfl ?_
  refine w_ladd X6 hx (hb hby d7_90) (pc' := 91) rfl ?_
  refine w_ladd X6 hx (hb hby d7_91) (pc' := 92) rfl ?_
  refine w_putf (i := 0) (ty := .long) X6 hx hZ hown (wd40 hw) N0 P6 rfl Fo0 (di_C0 hw) 6 rfl (Or.inl (wd41 hw)) (wd9 hw) (by decide) rfl rfl (hb hby d7_92) (pc' := 95) rfl ?_
  intro T7 L1 c1 N1 X7 P7 F1
  replace P7 : HP n0 T7.heap [c1, AC k1 [], AC k2 [], AC k3 [], AC k4 (List.map Value.int pD), AC k5 (List.map Value.int pE), AC k6 [.int py0, .int py1], AC k7 (List.map Value.int pC), AC k8 (List.map Value.int pS), AC k9 [.int pz0, .int pz1, .int pz2, .int pz3]] := P7
  replace F1 : ObjF Z c1 "com/example/protomata/protomata/Partition" fl_C0 [.ref (n0 + 7), .ref (n0 + 8), .ref (n0 + 9), .int (Int32.ofNat pa), .int (1 : Int32), .int pgc, .long (psq + (((2 : Int64) * (Int32.toInt64 pz0)) + (1 : Int64)))] := F1
  refine w_aloadN X7 hx (hb hby d7_95) rfl rfl (pc' := 96) rfl ?_
  refine w_getf (i := 0) (v := .ref (n0 + 9)) X7 hx hZ hown (wd22 hw) P7 rfl F1 2 rfl rfl (hb hby d7_96) (pc' := 99) rfl ?_
  intro T8 X8 P8
  refine w_iload X8 hx (hb hby d7_99) rfl (pc' := 101) rfl ?_
  refine w_dup2 X8 hx (hb hby d7_101) rfl rfl (pc' := 102) rfl ?_
  refine w_iaload (i := 9) (jn := 0) (v := .int pz0) X8 hx hZ P8 rfl hk9 (hb hby d7_102) (by decide) rfl (pc' := 103) rfl ?_
  refine w_iconst (v := (1 : Int32)) X8 hx (hb hby d7_103) rfl (pc' := 104) rfl ?_
  refine w_iadd X8 hx (hb hby d7_104) (pc' := 105) rfl ?_
  refine w_iastore (i := 9) (jn := 0) X8 hx hZ N1 P8 rfl hk9 (hb hby d7_105) (by decide) (Nat.le_of_ble_eq_true rfl) (pc' := 106) rfl ?_
  intro T9 L2 N2 X9 P9
  replace P9 : HP n0 T9.heap [c1, AC k1 [], AC k2 [], AC k3 [], AC k4 (List.map Value.int pD), AC k5 (List.map Value.int pE), AC k6 [.int py0, .int py1], AC k7 (List.map Value.int pC), AC k8 (List.map Value.int pS), AC k9 [.int (pz0 + (1 : Int32)), .int pz1, .int pz2, .int pz3]] := P9
  refine w_iload X9 hx (hb hby d7_106) rfl (pc' := 108) rfl ?_
  exact w_ret_i X9 hx hret hlk (hb hby d7_108) (by decide) (by decide) ⟨rfl, N2, c1, F1, P9⟩
theorem ef_htB1 (m : MethodId) (n0 : Nat) (pN : Nat) (py0 : Int32) (py1 : Int32) (pb : Nat) (pa : Nat) (pc_ : Nat) (pk : Nat) (psq : Int64) (pz0 : Int32) (pz1 : Int32) (pz2 : Int32) (pz3 : Int32) (pgc : Int32) : entryFrame m #[.ref (n0 + 0), .int (Int32.ofNat pb), .int (Int32.ofNat pc_)] 5 = mkF m 0 #[.val (.ref (n0 + 0)), .val (.int (Int32.ofNat pb)), .val (.int (Int32.ofNat pc_)), .unset, .unset] [] := by first | (simp [entryFrame, mkF, argsToLocals, Value.category]; done) | rfl
def Q_htB1 (Z : State) (n0 : Nat) (k1 : ClassId) (k2 : ClassId) (k3 : ClassId) (k4 : ClassId) (k5 : ClassId) (k6 : ClassId) (k7 : ClassId) (k8 : ClassId) (k9 : ClassId) (o0 : Jvm.Cell) (pC : List Int32) (pS : List Int32) (pN : Nat) (pD : List Int32) (pE : List Int32) (py0 : Int32) (py1 : Int32) (pb : Nat) (pa : Nat) (pc_ : Nat) (pk : Nat) (psq : Int64) (pz0 : Int32) (pz1 : Int32) (pz2 : Int32) (pz3 : Int32) (pgc : Int32) (v : Option Value) (h : Heap) (L : List Loc) : Prop := v = some (.int (1 : Int32)) ∧ Fr n0 L ∧ ∃ c1 : Jvm.Cell, ObjF Z c1 "com/example/protomata/protomata/Partition" fl_C0 [.ref (n0 + 7), .ref (n0 + 8), .ref (n0 + 9), .int (Int32.ofNat pa), .int (1 : Int32), .int pgc, .long (psq + (((2 : Int64) * (Int32.toInt64 pz1)) + (1 : Int64)))] ∧ HP n0 h [c1, AC k1 [], AC k2 [], AC k3 [], AC k4 (List.map Value.int pD), AC k5 (List.map Value.int pE), AC k6 [.int py0, .int py1], AC k7 (List.map Value.int pC), AC k8 (List.map Value.int pS), AC k9 [.int pz0, .int (pz1 + (1 : Int32)), .int pz2, .int pz3]]
set_option maxRecDepth 65536 in
set_option maxHeartbeats 40000000 in
theorem rm_htB1 (l : Launch) (Z : State) (a0 : Array Value) (hw : ∀ d ∈ tables_1, d.before a0 Z = true) (ws : List Jvm.Cond) (n0 : Nat) (k1 : ClassId) (k2 : ClassId) (k3 : ClassId) (k4 : ClassId) (k5 : ClassId) (k6 : ClassId) (k7 : ClassId) (k8 : ClassId) (k9 : ClassId) (o0 : Jvm.Cell) (pC : List Int32) (pS : List Int32) (pN : Nat) (pD : List Int32) (pE : List Int32) (py0 : Int32) (py1 : Int32) (pb : Nat) (pa : Nat) (pc_ : Nat) (pk : Nat) (psq : Int64) (pz0 : Int32) (pz1 : Int32) (pz2 : Int32) (pz3 : Int32) (pgc : Int32) (h0 : Heap) (P0 : HP n0 h0 [o0, AC k1 [], AC k2 [], AC k3 [], AC k4 (List.map Value.int pD), AC k5 (List.map Value.int pE), AC k6 [.int py0, .int py1], AC k7 (List.map Value.int pC), AC k8 (List.map Value.int pS), AC k9 [.int pz0, .int pz1, .int pz2, .int pz3]]) (hk1 : IsA Z k1 .int) (hk2 : IsA Z k2 .int) (hk3 : IsA Z k3 .int) (hk4 : IsA Z k4 .int) (hk5 : IsA Z k5 .int) (hk6 : IsA Z k6 .int) (hk7 : IsA Z k7 .int) (hk8 : IsA Z k8 .int) (hk9 : IsA Z k9 .int) (hpC : pC.length = pN) (hpS : pS.length = pN) (Fo0 : ObjF Z o0 "com/example/protomata/protomata/Partition" fl_C0 [.ref (n0 + 7), .ref (n0 + 8), .ref (n0 + 9), .int (Int32.ofNat pa), .int (1 : Int32), .int pgc, .long psq]) (hpk : pb * pa + pc_ = pk) (hpl : pk < pN) (hpN : pN ≤ 16) (hht : pS.getD pk 0 = (1 : Int32)) (hgr : pC.getD pk 0 = (1 : Int32)) :
    MetFree l (⟨"com/example/protomata/protomata/Partition", "put", "(II)I"⟩ : MethodName) (head1 (Jvm.Cond.code (⟨"com/example/protomata/protomata/Partition", "put", "(II)I"⟩ : MethodName) prog_101_method_3_code 5 (some .int) :: ws) ({ frames := 0, cells := 0, slots := 0, locals := 0 } : Room)) (fun aa U => aa = #[.ref (n0 + 0), .int (Int32.ofNat pb), .int (Int32.ofNat pc_)] ∧ Z.Warmed39 U.vm ∧ U.heap = h0) (fun _ _ _ _ _ => True) (fun _ U o U' => ∃ v L, o = .returned v ∧ Q_htB1 Z n0 k1 k2 k3 k4 k5 k6 k7 k8 k9 o0 pC pS pN pD pE py0 py1 pb pa pc_ pk psq pz0 pz1 pz2 pz3 pgc v U'.heap L ∧ FrameEnd U o U' L ({ frames := 0, cells := 0, slots := 0, locals := 0 } : Room).cells ({ frames := 0, cells := 0, slots := 0, locals := 0 } : Room).slots) := by
  refine own_body pn7 ?_
  intro p e s m below meth c T0 hx hby hml hret hlk hown hnm hZ X0 e0
  subst e0
  have N0 : Fr n0 [] := Fr.nil n0
  refine own_cast (ef_htB1 m n0 pN py0 py1 pb pa pc_ pk psq pz0 pz1 pz2 pz3 pgc) ?_
  refine w_iloadN X0 hx (hb hby d7_0) rfl (pc' := 1) rfl ?_
  refine w_aloadN X0 hx (hb hby d7_1) rfl rfl (pc' := 2) rfl ?_
  refine w_getf (i := 0) (v := .int (Int32.ofNat pa)) X0 hx hZ hown (wd29 hw) P0 rfl Fo0 3 rfl rfl (hb hby d7_2) (pc' := 5) rfl ?_
  intro T1 X1 P1
  refine w_imul X1 hx (hb hby d7_5) (pc' := 6) rfl ?_
  refine w_eqI (z := (Int32.ofNat (pb * pa))) (own_omul pb pa) ?_
  refine w_iloadN X1 hx (hb hby d7_6) rfl (pc' := 7) rfl ?_
  refine w_iadd X1 hx (hb hby d7_7) (pc' := 8) rfl ?_
  refine w_eqI (z := (Int32.ofNat ((pb * pa) + pc_))) (own_oadd (pb * pa) pc_) ?_
  refine w_eqI (z := (Int32.ofNat pk)) (congrArg Int32.ofNat hpk) ?_
  refine w_istoreN (l' := #[.val (.ref (n0 + 0)), .val (.int (Int32.ofNat pb)), .val (.int (Int32.ofNat pc_)), .val (.int (Int32.ofNat pk)), .unset]) X1 hx (hb hby d7_8) rfl (pc' := 9) rfl ?_
  refine w_aloadN X1 hx (hb hby d7_9) rfl rfl (pc' := 10) rfl ?_
  refine w_getf (i := 0) (v := .ref (n0 + 8)) X1 hx hZ hown (wd20 hw) P1 rfl Fo0 1 rfl rfl (hb hby d7_10) (pc' := 13) rfl ?_
  intro T2 X2 P2
  refine w_iloadN X2 hx (hb hby d7_13) rfl (pc' := 14) rfl ?_
  refine w_ialoadL (i := 8) (jn := pk) X2 hx hZ P2 rfl hk8 (hb hby d7_14) (own_oN (by omega)) (own_llt hpS (by omega)) (pc' := 15) rfl ?_
  refine w_aloadN X2 hx (hb hby d7_15) rfl rfl (pc' := 16) rfl ?_
  refine w_getf (i := 0) (v := .int (1 : Int32)) X2 hx hZ hown (wd35 hw) P2 rfl Fo0 4 rfl rfl (hb hby d7_16) (pc' := 19) rfl ?_
  intro T3 X3 P3
  refine w_icmp_ne X3 hx (hb hby d7_19) (by decide) (pcY := 33) (by decide) (pc' := 22) rfl (fun h0 => absurd hht h0) (fun h0 => ?_)
  refine w_aloadN X3 hx (hb hby d7_22) rfl rfl (pc' := 23) rfl ?_
  refine w_getf (i := 0) (v := .ref (n0 + 7)) X3 hx hZ hown (wd18 hw) P3 rfl Fo0 0 rfl rfl (hb hby d7_23) (pc' := 26) rfl ?_
  intro T4 X4 P4
  refine w_iloadN X4 hx (hb hby d7_26) rfl (pc' := 27) rfl ?_
  refine w_ialoadL (i := 7) (jn := pk) X4 hx hZ P4 rfl hk7 (hb hby d7_27) (own_oN (by omega)) (own_llt hpC (by omega)) (pc' := 28) rfl ?_
  refine w_eqI (z := (1 : Int32)) hgr ?_
  refine w_istore (l' := #[.val (.ref (n0 + 0)), .val (.int (Int32.ofNat pb)), .val (.int (Int32.ofNat pc_)), .val (.int (Int32.ofNat pk)), .val (.int (1 : Int32))]) X4 hx (hb hby d7_28) rfl (pc' := 30) rfl ?_
  refine w_goto X4 hx (hb hby d7_30) (by decide) (pc' := 72) (by decide) ?_
  refine w_aloadN X4 hx (hb hby d7_72) rfl rfl (pc' := 73) rfl ?_
  refine w_dup X4 hx (hb hby d7_73) rfl (pc' := 74) rfl ?_
  refine w_getf (i := 0) (v := .long psq) X4 hx hZ hown (wd40 hw) P4 rfl Fo0 6 rfl rfl (hb hby d7_74) (pc' := 77) rfl ?_
  intro T5 X5 P5
  refine w_ldc2 X5 hx (hb hby d7_77) hown (mvT hZ (wd47 hw)) (pc' := 80) rfl ?_
  refine w_aloadN X5 hx (hb hby d7_80) rfl rfl (pc' := 81) rfl ?_
  refine w_getf (i := 0) (v := .ref (n0 + 9)) X5 hx hZ hown (wd22 hw) P5 rfl Fo0 2 rfl rfl (hb hby d7_81) (pc' := 84) rfl ?_
  intro T6 X6 P6
  refine w_iload X6 hx (hb hby d7_84) rfl (pc' := 86) rfl ?_
  refine w_iaload (i := 9) (jn := 1) (v := .int pz1) X6 hx hZ P6 rfl hk9 (hb hby d7_86) (by decide) rfl (pc' := 87) rfl ?_
  refine w_i2l X6 hx (hb hby d7_87) (pc' := 88) rfl ?_
  refine w_lmul X6 hx (hb hby d7_88) (pc' := 89) rfl ?_
  refine w_lconst (v := (1 : Int64)) X6 hx (hb hby d7_89) rfl (pc' := 90) rfl ?_
  refine w_ladd X6 hx (hb hby d7_90) (pc' := 91) rfl ?_
  refine w_ladd X6 hx (hb hby d7_91) (pc' := 92) rfl ?_
  refine w_putf (i := 0) (ty := .long) X6 hx hZ hown (wd40 hw) N0 P6 rfl Fo0 (di_C0 hw) 6 rfl (Or.inl (wd41 hw)) (wd9 hw) (by decide) rfl rfl (hb hby d7_92) (pc' := 95) rfl ?_
  intro T7 L1 c1 N1 X7 P7 F1
  replace P7 : HP n0 T7.heap [c1, AC k1 [], AC k2 [], AC k3 [], AC k4 (List.map Value.int pD), AC k5 (List.map Value.int pE), AC k6 [.int py0, .int py1], AC k7 (List.map Value.int pC), AC k8 (List.map Value.int pS), AC k9 [.int pz0, .int pz1, .int pz2, .int pz3]] := P7
  replace F1 : ObjF Z c1 "com/example/protomata/protomata/Partition" fl_C0 [.ref (n0 + 7), .ref (n0 + 8), .ref (n0 + 9), .int (Int32.ofNat pa), .int (1 : Int32), .int pgc, .long (psq + (((2 : Int64) * (Int32.toInt64 pz1)) + (1 : Int64)))] := F1
  refine w_aloadN X7 hx (hb hby d7_95) rfl rfl (pc' := 96) rfl ?_
  refine w_getf (i := 0) (v := .ref (n0 + 9)) X7 hx hZ hown (wd22 hw) P7 rfl F1 2 rfl rfl (hb hby d7_96) (pc' := 99) rfl ?_
  intro T8 X8 P8
  refine w_iload X8 hx (hb hby d7_99) rfl (pc' := 101) rfl ?_
  refine w_dup2 X8 hx (hb hby d7_101) rfl rfl (pc' := 102) rfl ?_
  refine w_iaload (i := 9) (jn := 1) (v := .int pz1) X8 hx hZ P8 rfl hk9 (hb hby d7_102) (by decide) rfl (pc' := 103) rfl ?_
  refine w_iconst (v := (1 : Int32)) X8 hx (hb hby d7_103) rfl (pc' := 104) rfl ?_
  refine w_iadd X8 hx (hb hby d7_104) (pc' := 105) rfl ?_
  refine w_iastore (i := 9) (jn := 1) X8 hx hZ N1 P8 rfl hk9 (hb hby d7_105) (by decide) (Nat.le_of_ble_eq_true rfl) (pc' := 106) rfl ?_
  intro T9 L2 N2 X9 P9
  replace P9 : HP n0 T9.heap [c1, AC k1 [], AC k2 [], AC k3 [], AC k4 (List.map Value.int pD), AC k5 (List.map Value.int pE), AC k6 [.int py0, .int py1], AC k7 (List.map Value.int pC), AC k8 (List.map Value.int pS), AC k9 [.int pz0, .int (pz1 + (1 : Int32)), .int pz2, .int pz3]] := P9
  refine w_iload X9 hx (hb hby d7_106) rfl (pc' := 108) rfl ?_
  exact w_ret_i X9 hx hret hlk (hb hby d7_108) (by decide) (by decide) ⟨rfl, N2, c1, F1, P9⟩
theorem ef_htB2 (m : MethodId) (n0 : Nat) (pN : Nat) (py0 : Int32) (py1 : Int32) (pb : Nat) (pa : Nat) (pc_ : Nat) (pk : Nat) (psq : Int64) (pz0 : Int32) (pz1 : Int32) (pz2 : Int32) (pz3 : Int32) (pgc : Int32) : entryFrame m #[.ref (n0 + 0), .int (Int32.ofNat pb), .int (Int32.ofNat pc_)] 5 = mkF m 0 #[.val (.ref (n0 + 0)), .val (.int (Int32.ofNat pb)), .val (.int (Int32.ofNat pc_)), .unset, .unset] [] := by first | (simp [entryFrame, mkF, argsToLocals, Value.category]; done) | rfl
def Q_htB2 (Z : State) (n0 : Nat) (k1 : ClassId) (k2 : ClassId) (k3 : ClassId) (k4 : ClassId) (k5 : ClassId) (k6 : ClassId) (k7 : ClassId) (k8 : ClassId) (k9 : ClassId) (o0 : Jvm.Cell) (pC : List Int32) (pS : List Int32) (pN : Nat) (pD : List Int32) (pE : List Int32) (py0 : Int32) (py1 : Int32) (pb : Nat) (pa : Nat) (pc_ : Nat) (pk : Nat) (psq : Int64) (pz0 : Int32) (pz1 : Int32) (pz2 : Int32) (pz3 : Int32) (pgc : Int32) (v : Option Value) (h : Heap) (L : List Loc) : Prop := v = some (.int (2 : Int32)) ∧ Fr n0 L ∧ ∃ c1 : Jvm.Cell, ObjF Z c1 "com/example/protomata/protomata/Partition" fl_C0 [.ref (n0 + 7), .ref (n0 + 8), .ref (n0 + 9), .int (Int32.ofNat pa), .int (1 : Int32), .int pgc, .long (psq + (((2 : Int64) * (Int32.toInt64 pz2)) + (1 : Int64)))] ∧ HP n0 h [c1, AC k1 [], AC k2 [], AC k3 [], AC k4 (List.map Value.int pD), AC k5 (List.map Value.int pE), AC k6 [.int py0, .int py1], AC k7 (List.map Value.int pC), AC k8 (List.map Value.int pS), AC k9 [.int pz0, .int pz1, .int (pz2 + (1 : Int32)), .int pz3]]
set_option maxRecDepth 65536 in
set_option maxHeartbeats 40000000 in
theorem rm_htB2 (l : Launch) (Z : State) (a0 : Array Value) (hw : ∀ d ∈ tables_1, d.before a0 Z = true) (ws : List Jvm.Cond) (n0 : Nat) (k1 : ClassId) (k2 : ClassId) (k3 : ClassId) (k4 : ClassId) (k5 : ClassId) (k6 : ClassId) (k7 : ClassId) (k8 : ClassId) (k9 : ClassId) (o0 : Jvm.Cell) (pC : List Int32) (pS : List Int32) (pN : Nat) (pD : List Int32) (pE : List Int32) (py0 : Int32) (py1 : Int32) (pb : Nat) (pa : Nat) (pc_ : Nat) (pk : Nat) (psq : Int64) (pz0 : Int32) (pz1 : Int32) (pz2 : Int32) (pz3 : Int32) (pgc : Int32) (h0 : Heap) (P0 : HP n0 h0 [o0, AC k1 [], AC k2 [], AC k3 [], AC k4 (List.map Value.int pD), AC k5 (List.map Value.int pE), AC k6 [.int py0, .int py1], AC k7 (List.map Value.int pC), AC k8 (List.map Value.int pS), AC k9 [.int pz0, .int pz1, .int pz2, .int pz3]]) (hk1 : IsA Z k1 .int) (hk2 : IsA Z k2 .int) (hk3 : IsA Z k3 .int) (hk4 : IsA Z k4 .int) (hk5 : IsA Z k5 .int) (hk6 : IsA Z k6 .int) (hk7 : IsA Z k7 .int) (hk8 : IsA Z k8 .int) (hk9 : IsA Z k9 .int) (hpC : pC.length = pN) (hpS : pS.length = pN) (Fo0 : ObjF Z o0 "com/example/protomata/protomata/Partition" fl_C0 [.ref (n0 + 7), .ref (n0 + 8), .ref (n0 + 9), .int (Int32.ofNat pa), .int (1 : Int32), .int pgc, .long psq]) (hpk : pb * pa + pc_ = pk) (hpl : pk < pN) (hpN : pN ≤ 16) (hht : pS.getD pk 0 = (1 : Int32)) (hgr : pC.getD pk 0 = (2 : Int32)) :
    MetFree l (⟨"com/example/protomata/protomata/Partition", "put", "(II)I"⟩ : MethodName) (head1 (Jvm.Cond.code (⟨"com/example/protomata/protomata/Partition", "put", "(II)I"⟩ : MethodName) prog_101_method_3_code 5 (some .int) :: ws) ({ frames := 0, cells := 0, slots := 0, locals := 0 } : Room)) (fun aa U => aa = #[.ref (n0 + 0), .int (Int32.ofNat pb), .int (Int32.ofNat pc_)] ∧ Z.Warmed39 U.vm ∧ U.heap = h0) (fun _ _ _ _ _ => True) (fun _ U o U' => ∃ v L, o = .returned v ∧ Q_htB2 Z n0 k1 k2 k3 k4 k5 k6 k7 k8 k9 o0 pC pS pN pD pE py0 py1 pb pa pc_ pk psq pz0 pz1 pz2 pz3 pgc v U'.heap L ∧ FrameEnd U o U' L ({ frames := 0, cells := 0, slots := 0, locals := 0 } : Room).cells ({ frames := 0, cells := 0, slots := 0, locals := 0 } : Room).slots) := by
  refine own_body pn7 ?_
  intro p e s m below meth c T0 hx hby hml hret hlk hown hnm hZ X0 e0
  subst e0
  have N0 : Fr n0 [] := Fr.nil n0
  refine own_cast (ef_htB2 m n0 pN py0 py1 pb pa pc_ pk psq pz0 pz1 pz2 pz3 pgc) ?_
  refine w_iloadN X0 hx (hb hby d7_0) rfl (pc' := 1) rfl ?_
  refine w_aloadN X0 hx (hb hby d7_1) rfl rfl (pc' := 2) rfl ?_
  refine w_getf (i := 0) (v := .int (Int32.ofNat pa)) X0 hx hZ hown (wd29 hw) P0 rfl Fo0 3 rfl rfl (hb hby d7_2) (pc' := 5) rfl ?_
  intro T1 X1 P1
  refine w_imul X1 hx (hb hby d7_5) (pc' := 6) rfl ?_
  refine w_eqI (z := (Int32.ofNat (pb * pa))) (own_omul pb pa) ?_
  refine w_iloadN X1 hx (hb hby d7_6) rfl (pc' := 7) rfl ?_
  refine w_iadd X1 hx (hb hby d7_7) (pc' := 8) rfl ?_
  refine w_eqI (z := (Int32.ofNat ((pb * pa) + pc_))) (own_oadd (pb * pa) pc_) ?_
  refine w_eqI (z := (Int32.ofNat pk)) (congrArg Int32.ofNat hpk) ?_
  refine w_istoreN (l' := #[.val (.ref (n0 + 0)), .val (.int (Int32.ofNat pb)), .val (.int (Int32.ofNat pc_)), .val (.int (Int32.ofNat pk)), .unset]) X1 hx (hb hby d7_8) rfl (pc' := 9) rfl ?_
  refine w_aloadN X1 hx (hb hby d7_9) rfl rfl (pc' := 10) rfl ?_
  refine w_getf (i := 0) (v := .ref (n0 + 8)) X1 hx hZ hown (wd20 hw) P1 rfl Fo0 1 rfl rfl (hb hby d7_10) (pc' := 13) rfl ?_
  intro T2 X2 P2
  refine w_iloadN X2 hx (hb hby d7_13) rfl (pc' := 14) rfl ?_
  refine w_ialoadL (i := 8) (jn := pk) X2 hx hZ P2 rfl hk8 (hb hby d7_14) (own_oN (by omega)) (own_llt hpS (by omega)) (pc' := 15) rfl ?_
  refine w_aloadN X2 hx (hb hby d7_15) rfl rfl (pc' := 16) rfl ?_
  refine w_getf (i := 0) (v := .int (1 : Int32)) X2 hx hZ hown (wd35 hw) P2 rfl Fo0 4 rfl rfl (hb hby d7_16) (pc' := 19) rfl ?_
  intro T3 X3 P3
  refine w_icmp_ne X3 hx (hb hby d7_19) (by decide) (pcY := 33) (by decide) (pc' := 22) rfl (fun h0 => absurd hht h0) (fun h0 => ?_)
  refine w_aloadN X3 hx (hb hby d7_22) rfl rfl (pc' := 23) rfl ?_
  refine w_getf (i := 0) (v := .ref (n0 + 7)) X3 hx hZ hown (wd18 hw) P3 rfl Fo0 0 rfl rfl (hb hby d7_23) (pc' := 26) rfl ?_
  intro T4 X4 P4
  refine w_iloadN X4 hx (hb hby d7_26) rfl (pc' := 27) rfl ?_
  refine w_ialoadL (i := 7) (jn := pk) X4 hx hZ P4 rfl hk7 (hb hby d7_27) (own_oN (by omega)) (own_llt hpC (by omega)) (pc' := 28) rfl ?_
  refine w_eqI (z := (2 : Int32)) hgr ?_
  refine w_istore (l' := #[.val (.ref (n0 + 0)), .val (.int (Int32.ofNat pb)), .val (.int (Int32.ofNat pc_)), .val (.int (Int32.ofNat pk)), .val (.int (2 : Int32))]) X4 hx (hb hby d7_28) rfl (pc' := 30) rfl ?_
  refine w_goto X4 hx (hb hby d7_30) (by decide) (pc' := 72) (by decide) ?_
  refine w_aloadN X4 hx (hb hby d7_72) rfl rfl (pc' := 73) rfl ?_
  refine w_dup X4 hx (hb hby d7_73) rfl (pc' := 74) rfl ?_
  refine w_getf (i := 0) (v := .long psq) X4 hx hZ hown (wd40 hw) P4 rfl Fo0 6 rfl rfl (hb hby d7_74) (pc' := 77) rfl ?_
  intro T5 X5 P5
  refine w_ldc2 X5 hx (hb hby d7_77) hown (mvT hZ (wd47 hw)) (pc' := 80) rfl ?_
  refine w_aloadN X5 hx (hb hby d7_80) rfl rfl (pc' := 81) rfl ?_
  refine w_getf (i := 0) (v := .ref (n0 + 9)) X5 hx hZ hown (wd22 hw) P5 rfl Fo0 2 rfl rfl (hb hby d7_81) (pc' := 84) rfl ?_
  intro T6 X6 P6
  refine w_iload X6 hx (hb hby d7_84) rfl (pc' := 86) rfl ?_
  refine w_iaload (i := 9) (jn := 2) (v := .int pz2) X6 hx hZ P6 rfl hk9 (hb hby d7_86) (by decide) rfl (pc' := 87) rfl ?_
  refine w_i2l X6 hx (hb hby d7_87) (pc' := 88) rfl ?_
  refine w_lmul X6 hx (hb hby d7_88) (pc' := 89) rfl ?_
  refine w_lconst (v := (1 : Int64)) X6 hx (hb hby d7_89) rfl (pc' := 90) rfl ?_
  refine w_ladd X6 hx (hb hby d7_90) (pc' := 91) rfl ?_
  refine w_ladd X6 hx (hb hby d7_91) (pc' := 92) rfl ?_
  refine w_putf (i := 0) (ty := .long) X6 hx hZ hown (wd40 hw) N0 P6 rfl Fo0 (di_C0 hw) 6 rfl (Or.inl (wd41 hw)) (wd9 hw) (by decide) rfl rfl (hb hby d7_92) (pc' := 95) rfl ?_
  intro T7 L1 c1 N1 X7 P7 F1
  replace P7 : HP n0 T7.heap [c1, AC k1 [], AC k2 [], AC k3 [], AC k4 (List.map Value.int pD), AC k5 (List.map Value.int pE), AC k6 [.int py0, .int py1], AC k7 (List.map Value.int pC), AC k8 (List.map Value.int pS), AC k9 [.int pz0, .int pz1, .int pz2, .int pz3]] := P7
  replace F1 : ObjF Z c1 "com/example/protomata/protomata/Partition" fl_C0 [.ref (n0 + 7), .ref (n0 + 8), .ref (n0 + 9), .int (Int32.ofNat pa), .int (1 : Int32), .int pgc, .long (psq + (((2 : Int64) * (Int32.toInt64 pz2)) + (1 : Int64)))] := F1
  refine w_aloadN X7 hx (hb hby d7_95) rfl rfl (pc' := 96) rfl ?_
  refine w_getf (i := 0) (v := .ref (n0 + 9)) X7 hx hZ hown (wd22 hw) P7 rfl F1 2 rfl rfl (hb hby d7_96) (pc' := 99) rfl ?_
  intro T8 X8 P8
  refine w_iload X8 hx (hb hby d7_99) rfl (pc' := 101) rfl ?_
  refine w_dup2 X8 hx (hb hby d7_101) rfl rfl (pc' := 102) rfl ?_
  refine w_iaload (i := 9) (jn := 2) (v := .int pz2) X8 hx hZ P8 rfl hk9 (hb hby d7_102) (by decide) rfl (pc' := 103) rfl ?_
  refine w_iconst (v := (1 : Int32)) X8 hx (hb hby d7_103) rfl (pc' := 104) rfl ?_
  refine w_iadd X8 hx (hb hby d7_104) (pc' := 105) rfl ?_
  refine w_iastore (i := 9) (jn := 2) X8 hx hZ N1 P8 rfl hk9 (hb hby d7_105) (by decide) (Nat.le_of_ble_eq_true rfl) (pc' := 106) rfl ?_
  intro T9 L2 N2 X9 P9
  replace P9 : HP n0 T9.heap [c1, AC k1 [], AC k2 [], AC k3 [], AC k4 (List.map Value.int pD), AC k5 (List.map Value.int pE), AC k6 [.int py0, .int py1], AC k7 (List.map Value.int pC), AC k8 (List.map Value.int pS), AC k9 [.int pz0, .int pz1, .int (pz2 + (1 : Int32)), .int pz3]] := P9
  refine w_iload X9 hx (hb hby d7_106) rfl (pc' := 108) rfl ?_
  exact w_ret_i X9 hx hret hlk (hb hby d7_108) (by decide) (by decide) ⟨rfl, N2, c1, F1, P9⟩
theorem ef_msC0 (m : MethodId) (n0 : Nat) (pN : Nat) (py0 : Int32) (py1 : Int32) (pb : Nat) (pa : Nat) (pc_ : Nat) (pk : Nat) (psq : Int64) (pz0 : Int32) (pz1 : Int32) (pz2 : Int32) (pz3 : Int32) : entryFrame m #[.ref (n0 + 0), .int (Int32.ofNat pb), .int (Int32.ofNat pc_)] 5 = mkF m 0 #[.val (.ref (n0 + 0)), .val (.int (Int32.ofNat pb)), .val (.int (Int32.ofNat pc_)), .unset, .unset] [] := by first | (simp [entryFrame, mkF, argsToLocals, Value.category]; done) | rfl
def Q_msC0 (Z : State) (n0 : Nat) (k1 : ClassId) (k2 : ClassId) (k3 : ClassId) (k4 : ClassId) (k5 : ClassId) (k6 : ClassId) (k7 : ClassId) (o0 : Jvm.Cell) (pC : List Int32) (pS : List Int32) (pN : Nat) (py0 : Int32) (py1 : Int32) (pb : Nat) (pa : Nat) (pc_ : Nat) (pk : Nat) (psq : Int64) (pz0 : Int32) (pz1 : Int32) (pz2 : Int32) (pz3 : Int32) (v : Option Value) (h : Heap) (L : List Loc) : Prop := v = some (.int (0 : Int32)) ∧ Fr n0 L ∧ ∃ c2 : Jvm.Cell, ObjF Z c2 "com/example/protomata/protomata/Partition" fl_C0 [.ref (n0 + 4), .ref (n0 + 5), .ref (n0 + 7), .int (Int32.ofNat pa), .int (2 : Int32), .int (1 : Int32), .long (psq + (1 : Int64))] ∧ HP n0 h [c2, AC k1 [], AC k2 [], AC k3 [], AC k4 (List.map Value.int (pC.set pk (0 : Int32))), AC k5 (List.map Value.int (pS.set pk (2 : Int32))), AC k6 [.int py0, .int py1], AC k7 [.int (1 : Int32), .int pz1, .int pz2, .int pz3]]
set_option maxRecDepth 65536 in
set_option maxHeartbeats 40000000 in
theorem rm_msC0 (l : Launch) (Z : State) (a0 : Array Value) (hw : ∀ d ∈ tables_1, d.before a0 Z = true) (ws : List Jvm.Cond) (n0 : Nat) (k1 : ClassId) (k2 : ClassId) (k3 : ClassId) (k4 : ClassId) (k5 : ClassId) (k6 : ClassId) (k7 : ClassId) (o0 : Jvm.Cell) (pC : List Int32) (pS : List Int32) (pN : Nat) (py0 : Int32) (py1 : Int32) (pb : Nat) (pa : Nat) (pc_ : Nat) (pk : Nat) (psq : Int64) (pz0 : Int32) (pz1 : Int32) (pz2 : Int32) (pz3 : Int32) (h0 : Heap) (P0 : HP n0 h0 [o0, AC k1 [], AC k2 [], AC k3 [], AC k4 (List.map Value.int pC), AC k5 (List.map Value.int pS), AC k6 [.int py0, .int py1], AC k7 [.int pz0, .int pz1, .int pz2, .int pz3]]) (hk1 : IsA Z k1 .int) (hk2 : IsA Z k2 .int) (hk3 : IsA Z k3 .int) (hk4 : IsA Z k4 .int) (hk5 : IsA Z k5 .int) (hk6 : IsA Z k6 .int) (hk7 : IsA Z k7 .int) (hpC : pC.length = pN) (hpS : pS.length = pN) (Fo0 : ObjF Z o0 "com/example/protomata/protomata/Partition" fl_C0 [.ref (n0 + 4), .ref (n0 + 5), .ref (n0 + 7), .int (Int32.ofNat pa), .int (2 : Int32), .int (0 : Int32), .long psq]) (hpk : pb * pa + pc_ = pk) (hpl : pk < pN) (hpN : pN ≤ 16) (hms : ¬ pS.getD pk 0 = (2 : Int32)) :
    MetFree l (⟨"com/example/protomata/protomata/Partition", "put", "(II)I"⟩ : MethodName) (head1 (Jvm.Cond.code (⟨"com/example/protomata/protomata/Partition", "put", "(II)I"⟩ : MethodName) prog_101_method_3_code 5 (some .int) :: ws) ({ frames := 0, cells := 0, slots := 0, locals := 0 } : Room)) (fun aa U => aa = #[.ref (n0 + 0), .int (Int32.ofNat pb), .int (Int32.ofNat pc_)] ∧ Z.Warmed39 U.vm ∧ U.heap = h0) (fun _ _ _ _ _ => True) (fun _ U o U' => ∃ v L, o = .returned v ∧ Q_msC0 Z n0 k1 k2 k3 k4 k5 k6 k7 o0 pC pS pN py0 py1 pb pa pc_ pk psq pz0 pz1 pz2 pz3 v U'.heap L ∧ FrameEnd U o U' L ({ frames := 0, cells := 0, slots := 0, locals := 0 } : Room).cells ({ frames := 0, cells := 0, slots := 0, locals := 0 } : Room).slots) := by
  refine own_body pn7 ?_
  intro p e s m below meth c T0 hx hby hml hret hlk hown hnm hZ X0 e0
  subst e0
  have N0 : Fr n0 [] := Fr.nil n0
  refine own_cast (ef_msC0 m n0 pN py0 py1 pb pa pc_ pk psq pz0 pz1 pz2 pz3) ?_
  refine w_iloadN X0 hx (hb hby d7_0) rfl (pc' := 1) rfl ?_
  refine w_aloadN X0 hx (hb hby d7_1) rfl rfl (pc' := 2) rfl ?_
  refine w_getf (i := 0) (v := .int (Int32.ofNat pa)) X0 hx hZ hown (wd29 hw) P0 rfl Fo0 3 rfl rfl (hb hby d7_2) (pc' := 5) rfl ?_
  intro T1 X1 P1
  refine w_imul X1 hx (hb hby d7_5) (pc' := 6) rfl ?_
  refine w_eqI (z := (Int32.ofNat (pb * pa))) (own_omul pb pa) ?_
  refine w_iloadN X1 hx (hb hby d7_6) rfl (pc' := 7) rfl ?_
  refine w_iadd X1 hx (hb hby d7_7) (pc' := 8) rfl ?_
  refine w_eqI (z := (Int32.ofNat ((pb * pa) + pc_))) (own_oadd (pb * pa) pc_) ?_
  refine w_eqI (z := (Int32.ofNat pk)) (congrArg Int32.ofNat hpk) ?_
  refine w_istoreN (l' := #[.val (.ref (n0 + 0)), .val (.int (Int32.ofNat pb)), .val (.int (Int32.ofNat pc_)), .val (.int (Int32.ofNat pk)), .unset]) X1 hx (hb hby d7_8) rfl (pc' := 9) rfl ?_
  refine w_aloadN X1 hx (hb hby d7_9) rfl rfl (pc' := 10) rfl ?_
  refine w_getf (i := 0) (v := .ref (n0 + 5)) X1 hx hZ hown (wd20 hw) P1 rfl Fo0 1 rfl rfl (hb hby d7_10) (pc' := 13) rfl ?_
  intro T2 X2 P2
  refine w_iloadN X2 hx (hb hby d7_13) rfl (pc' := 14) rfl ?_
  refine w_ialoadL (i := 5) (jn := pk) X2 hx hZ P2 rfl hk5 (hb hby d7_14) (own_oN (by omega)) (own_llt hpS (by omega)) (pc' := 15) rfl ?_
  refine w_aloadN X2 hx (hb hby d7_15) rfl rfl (pc' := 16) rfl ?_
  refine w_getf (i := 0) (v := .int (2 : Int32)) X2 hx hZ hown (wd35 hw) P2 rfl Fo0 4 rfl rfl (hb hby d7_16) (pc' := 19) rfl ?_
  intro T3 X3 P3
  refine w_icmp_ne X3 hx (hb hby d7_19) (by decide) (pcY := 33) (by decide) (pc' := 22) rfl (fun h0 => ?_) (fun h0 => absurd h0 hms)
  refine w_aloadN X3 hx (hb hby d7_33) rfl rfl (pc' := 34) rfl ?_
  refine w_dup X3 hx (hb hby d7_34) rfl (pc' := 35) rfl ?_
  refine w_getf (i := 0) (v := .int (0 : Int32)) X3 hx hZ hown (wd38 hw) P3 rfl Fo0 5 rfl rfl (hb hby d7_35) (pc' := 38) rfl ?_
  intro T4 X4 P4
  refine w_dupX1 X4 hx (hb hby d7_38) rfl rfl (pc' := 39) rfl ?_
  refine w_iconst (v := (1 : Int32)) X4 hx (hb hby d7_39) rfl (pc' := 40) rfl ?_
  refine w_iadd X4 hx (hb hby d7_40) (pc' := 41) rfl ?_
  refine w_eqI (z := (1 : Int32)) (by decide) ?_
  refine w_putf (i := 0) (ty := .int) X4 hx hZ hown (wd38 hw) N0 P4 rfl Fo0 (di_C0 hw) 5 rfl (Or.inl (wd39 hw)) (wd9 hw) (by decide) rfl rfl (hb hby d7_41) (pc' := 44) rfl ?_
  intro T5 L1 c1 N1 X5 P5 F1
  replace P5 : HP n0 T5.heap [c1, AC k1 [], AC k2 [], AC k3 [], AC k4 (List.map Value.int pC), AC k5 (List.map Value.int pS), AC k6 [.int py0, .int py1], AC k7 [.int pz0, .int pz1, .int pz2, .int pz3]] := P5
  replace F1 : ObjF Z c1 "com/example/protomata/protomata/Partition" fl_C0 [.ref (n0 + 4), .ref (n0 + 5), .ref (n0 + 7), .int (Int32.ofNat pa), .int (2 : Int32), .int (1 : Int32), .long psq] := F1
  refine w_istore (l' := #[.val (.ref (n0 + 0)), .val (.int (Int32.ofNat pb)), .val (.int (Int32.ofNat pc_)), .val (.int (Int32.ofNat pk)), .val (.int (0 : Int32))]) X5 hx (hb hby d7_44) rfl (pc' := 46) rfl ?_
  refine w_aloadN X5 hx (hb hby d7_46) rfl rfl (pc' := 47) rfl ?_
  refine w_getf (i := 0) (v := .ref (n0 + 5)) X5 hx hZ hown (wd20 hw) P5 rfl F1 1 rfl rfl (hb hby d7_47) (pc' := 50) rfl ?_
  intro T6 X6 P6
  refine w_iloadN X6 hx (hb hby d7_50) rfl (pc' := 51) rfl ?_
  refine w_aloadN X6 hx (hb hby d7_51) rfl rfl (pc' := 52) rfl ?_
  refine w_getf (i := 0) (v := .int (2 : Int32)) X6 hx hZ hown (wd35 hw) P6 rfl F1 4 rfl rfl (hb hby d7_52) (pc' := 55) rfl ?_
  intro T7 X7 P7
  refine w_iastoreL (i := 5) (jn := pk) X7 hx hZ N1 P7 rfl hk5 (hb hby d7_55) (own_oN (by omega)) (own_llt hpS (by omega)) (pc' := 56) rfl ?_
  intro T8 L2 N2 X8 P8
  replace P8 : HP n0 T8.heap [c1, AC k1 [], AC k2 [], AC k3 [], AC k4 (List.map Value.int pC), AC k5 (List.map Value.int (pS.set pk (2 : Int32))), AC k6 [.int py0, .int py1], AC k7 [.int pz0, .int pz1, .int pz2, .int pz3]] := P8
  refine w_aloadN X8 hx (hb hby d7_56) rfl rfl (pc' := 57) rfl ?_
  refine w_getf (i := 0) (v := .ref (n0 + 4)) X8 hx hZ hown (wd18 hw) P8 rfl F1 0 rfl rfl (hb hby d7_57) (pc' := 60) rfl ?_
  intro T9 X9 P9
  refine w_iloadN X9 hx (hb hby d7_60) rfl (pc' := 61) rfl ?_
  refine w_iload X9 hx (hb hby d7_61) rfl (pc' := 63) rfl ?_
  refine w_iastoreL (i := 4) (jn := pk) X9 hx hZ N2 P9 rfl hk4 (hb hby d7_63) (own_oN (by omega)) (own_llt hpC (by omega)) (pc' := 64) rfl ?_
  intro T10 L3 N3 X10 P10
  replace P10 : HP n0 T10.heap [c1, AC k1 [], AC k2 [], AC k3 [], AC k4 (List.map Value.int (pC.set pk (0 : Int32))), AC k5 (List.map Value.int (pS.set pk (2 : Int32))), AC k6 [.int py0, .int py1], AC k7 [.int pz0, .int pz1, .int pz2, .int pz3]] := P10
  refine w_aloadN X10 hx (hb hby d7_64) rfl rfl (pc' := 65) rfl ?_
  refine w_getf (i := 0) (v := .ref (n0 + 7)) X10 hx hZ hown (wd22 hw) P10 rfl F1 2 rfl rfl (hb hby d7_65) (pc' := 68) rfl ?_
  intro T11 X11 P11
  refine w_iload X11 hx (hb hby d7_68) rfl (pc' := 70) rfl ?_
  refine w_iconst (v := (0 : Int32)) X11 hx (hb hby d7_70) rfl (pc' := 71) rfl ?_
  refine w_iastore (i := 7) (jn := 0) X11 hx hZ N3 P11 rfl hk7 (hb hby d7_71) (by decide) (Nat.le_of_ble_eq_true rfl) (pc' := 72) rfl ?_
  intro T12 L4 N4 X12 P12
  replace P12 : HP n0 T12.heap [c1, AC k1 [], AC k2 [], AC k3 [], AC k4 (List.map Value.int (pC.set pk (0 : Int32))), AC k5 (List.map Value.int (pS.set pk (2 : Int32))), AC k6 [.int py0, .int py1], AC k7 [.int (0 : Int32), .int pz1, .int pz2, .int pz3]] := P12
  refine w_aloadN X12 hx (hb hby d7_72) rfl rfl (pc' := 73) rfl ?_
  refine w_dup X12 hx (hb hby d7_73) rfl (pc' := 74) rfl ?_
  refine w_getf (i := 0) (v := .long psq) X12 hx hZ hown (wd40 hw) P12 rfl F1 6 rfl rfl (hb hby d7_74) (pc' := 77) rfl ?_
  intro T13 X13 P13
  refine w_ldc2 X13 hx (hb hby d7_77) hown (mvT hZ (wd47 hw)) (pc' := 80) rfl ?_
  refine w_aloadN X13 hx (hb hby d7_80) rfl rfl (pc' := 81) rfl ?_
  refine w_getf (i := 0) (v := .ref (n0 + 7)) X13 hx hZ hown (wd22 hw) P13 rfl F1 2 rfl rfl (hb hby d7_81) (pc' := 84) rfl ?_
  intro T14 X14 P14
  refine w_iload X14 hx (hb hby d7_84) rfl (pc' := 86) rfl ?_
  refine w_iaload (i := 7) (jn := 0) (v := .int (0 : Int32)) X14 hx hZ P14 rfl hk7 (hb hby d7_86) (by decide) rfl (pc' := 87) rfl ?_
  refine w_i2l X14 hx (hb hby d7_87) (pc' := 88) rfl ?_
  refine w_eqJ (z := (0 : Int64)) (by decide) ?_
  refine w_lmul X14 hx (hb hby d7_88) (pc' := 89) rfl ?_
  refine w_eqJ (z := (0 : Int64)) (by decide) ?_
  refine w_lconst (v := (1 : Int64)) X14 hx (hb hby d7_89) rfl (pc' := 90) rfl ?_
  refine w_ladd X14 hx (hb hby d7_90) (pc' := 91) rfl ?_
  refine w_eqJ (z := (1 : Int64)) (by decide) ?_
  refine w_ladd X14 hx (hb hby d7_91) (pc' := 92) rfl ?_
  refine w_putf (i := 0) (ty := .long) X14 hx hZ hown (wd40 hw) N4 P14 rfl F1 (di_C0 hw) 6 rfl (Or.inl (wd41 hw)) (wd9 hw) (by decide) rfl rfl (hb hby d7_92) (pc' := 95) rfl ?_
  intro T15 L5 c2 N5 X15 P15 F2
  replace P15 : HP n0 T15.heap [c2, AC k1 [], AC k2 [], AC k3 [], AC k4 (List.map Value.int (pC.set pk (0 : Int32))), AC k5 (List.map Value.int (pS.set pk (2 : Int32))), AC k6 [.int py0, .int py1], AC k7 [.int (0 : Int32), .int pz1, .int pz2, .int pz3]] := P15
  replace F2 : ObjF Z c2 "com/example/protomata/protomata/Partition" fl_C0 [.ref (n0 + 4), .ref (n0 + 5), .ref (n0 + 7), .int (Int32.ofNat pa), .int (2 : Int32), .int (1 : Int32), .long (psq + (1 : Int64))] := F2
  refine w_aloadN X15 hx (hb hby d7_95) rfl rfl (pc' := 96) rfl ?_
  refine w_getf (i := 0) (v := .ref (n0 + 7)) X15 hx hZ hown (wd22 hw) P15 rfl F2 2 rfl rfl (hb hby d7_96) (pc' := 99) rfl ?_
  intro T16 X16 P16
  refine w_iload X16 hx (hb hby d7_99) rfl (pc' := 101) rfl ?_
  refine w_dup2 X16 hx (hb hby d7_101) rfl rfl (pc' := 102) rfl ?_
  refine w_iaload (i := 7) (jn := 0) (v := .int (0 : Int32)) X16 hx hZ P16 rfl hk7 (hb hby d7_102) (by decide) rfl (pc' := 103) rfl ?_
  refine w_iconst (v := (1 : Int32)) X16 hx (hb hby d7_103) rfl (pc' := 104) rfl ?_
  refine w_iadd X16 hx (hb hby d7_104) (pc' := 105) rfl ?_
  refine w_eqI (z := (1 : Int32)) (by decide) ?_
  refine w_iastore (i := 7) (jn := 0) X16 hx hZ N5 P16 rfl hk7 (hb hby d7_105) (by decide) (Nat.le_of_ble_eq_true rfl) (pc' := 106) rfl ?_
  intro T17 L6 N6 X17 P17
  replace P17 : HP n0 T17.heap [c2, AC k1 [], AC k2 [], AC k3 [], AC k4 (List.map Value.int (pC.set pk (0 : Int32))), AC k5 (List.map Value.int (pS.set pk (2 : Int32))), AC k6 [.int py0, .int py1], AC k7 [.int (1 : Int32), .int pz1, .int pz2, .int pz3]] := P17
  refine w_iload X17 hx (hb hby d7_106) rfl (pc' := 108) rfl ?_
  exact w_ret_i X17 hx hret hlk (hb hby d7_108) (by decide) (by decide) ⟨rfl, N6, c2, F2, P17⟩
theorem ef_msC1 (m : MethodId) (n0 : Nat) (pN : Nat) (py0 : Int32) (py1 : Int32) (pb : Nat) (pa : Nat) (pc_ : Nat) (pk : Nat) (psq : Int64) (pz0 : Int32) (pz1 : Int32) (pz2 : Int32) (pz3 : Int32) : entryFrame m #[.ref (n0 + 0), .int (Int32.ofNat pb), .int (Int32.ofNat pc_)] 5 = mkF m 0 #[.val (.ref (n0 + 0)), .val (.int (Int32.ofNat pb)), .val (.int (Int32.ofNat pc_)), .unset, .unset] [] := by first | (simp [entryFrame, mkF, argsToLocals, Value.category]; done) | rfl
def Q_msC1 (Z : State) (n0 : Nat) (k1 : ClassId) (k2 : ClassId) (k3 : ClassId) (k4 : ClassId) (k5 : ClassId) (k6 : ClassId) (k7 : ClassId) (o0 : Jvm.Cell) (pC : List Int32) (pS : List Int32) (pN : Nat) (py0 : Int32) (py1 : Int32) (pb : Nat) (pa : Nat) (pc_ : Nat) (pk : Nat) (psq : Int64) (pz0 : Int32) (pz1 : Int32) (pz2 : Int32) (pz3 : Int32) (v : Option Value) (h : Heap) (L : List Loc) : Prop := v = some (.int (1 : Int32)) ∧ Fr n0 L ∧ ∃ c2 : Jvm.Cell, ObjF Z c2 "com/example/protomata/protomata/Partition" fl_C0 [.ref (n0 + 4), .ref (n0 + 5), .ref (n0 + 7), .int (Int32.ofNat pa), .int (2 : Int32), .int (2 : Int32), .long (psq + (1 : Int64))] ∧ HP n0 h [c2, AC k1 [], AC k2 [], AC k3 [], AC k4 (List.map Value.int (pC.set pk (1 : Int32))), AC k5 (List.map Value.int (pS.set pk (2 : Int32))), AC k6 [.int py0, .int py1], AC k7 [.int pz0, .int (1 : Int32), .int pz2, .int pz3]]
set_option maxRecDepth 65536 in
set_option maxHeartbeats 40000000 in
theorem rm_msC1 (l : Launch) (Z : State) (a0 : Array Value) (hw : ∀ d ∈ tables_1, d.before a0 Z = true) (ws : List Jvm.Cond) (n0 : Nat) (k1 : ClassId) (k2 : ClassId) (k3 : ClassId) (k4 : ClassId) (k5 : ClassId) (k6 : ClassId) (k7 : ClassId) (o0 : Jvm.Cell) (pC : List Int32) (pS : List Int32) (pN : Nat) (py0 : Int32) (py1 : Int32) (pb : Nat) (pa : Nat) (pc_ : Nat) (pk : Nat) (psq : Int64) (pz0 : Int32) (pz1 : Int32) (pz2 : Int32) (pz3 : Int32) (h0 : Heap) (P0 : HP n0 h0 [o0, AC k1 [], AC k2 [], AC k3 [], AC k4 (List.map Value.int pC), AC k5 (List.map Value.int pS), AC k6 [.int py0, .int py1], AC k7 [.int pz0, .int pz1, .int pz2, .int pz3]]) (hk1 : IsA Z k1 .int) (hk2 : IsA Z k2 .int) (hk3 : IsA Z k3 .int) (hk4 : IsA Z k4 .int) (hk5 : IsA Z k5 .int) (hk6 : IsA Z k6 .int) (hk7 : IsA Z k7 .int) (hpC : pC.length = pN) (hpS : pS.length = pN) (Fo0 : ObjF Z o0 "com/example/protomata/protomata/Partition" fl_C0 [.ref (n0 + 4), .ref (n0 + 5), .ref (n0 + 7), .int (Int32.ofNat pa), .int (2 : Int32), .int (1 : Int32), .long psq]) (hpk : pb * pa + pc_ = pk) (hpl : pk < pN) (hpN : pN ≤ 16) (hms : ¬ pS.getD pk 0 = (2 : Int32)) :
    MetFree l (⟨"com/example/protomata/protomata/Partition", "put", "(II)I"⟩ : MethodName) (head1 (Jvm.Cond.code (⟨"com/example/protomata/protomata/Partition", "put", "(II)I"⟩ : MethodName) prog_101_method_3_code 5 (some .int) :: ws) ({ frames := 0, cells := 0, slots := 0, locals := 0 } : Room)) (fun aa U => aa = #[.ref (n0 + 0), .int (Int32.ofNat pb), .int (Int32.ofNat pc_)] ∧ Z.Warmed39 U.vm ∧ U.heap = h0) (fun _ _ _ _ _ => True) (fun _ U o U' => ∃ v L, o = .returned v ∧ Q_msC1 Z n0 k1 k2 k3 k4 k5 k6 k7 o0 pC pS pN py0 py1 pb pa pc_ pk psq pz0 pz1 pz2 pz3 v U'.heap L ∧ FrameEnd U o U' L ({ frames := 0, cells := 0, slots := 0, locals := 0 } : Room).cells ({ frames := 0, cells := 0, slots := 0, locals := 0 } : Room).slots) := by
  refine own_body pn7 ?_
  intro p e s m below meth c T0 hx hby hml hret hlk hown hnm hZ X0 e0
  subst e0
  have N0 : Fr n0 [] := Fr.nil n0
  refine own_cast (ef_msC1 m n0 pN py0 py1 pb pa pc_ pk psq pz0 pz1 pz2 pz3) ?_
  refine w_iloadN X0 hx (hb hby d7_0) rfl (pc' := 1) rfl ?_
  refine w_aloadN X0 hx (hb hby d7_1) rfl rfl (pc' := 2) rfl ?_
  refine w_getf (i := 0) (v := .int (Int32.ofNat pa)) X0 hx hZ hown (wd29 hw) P0 rfl Fo0 3 rfl rfl (hb hby d7_2) (pc' := 5) rfl ?_
  intro T1 X1 P1
  refine w_imul X1 hx (hb hby d7_5) (pc' := 6) rfl ?_
  refine w_eqI (z := (Int32.ofNat (pb * pa))) (own_omul pb pa) ?_
  refine w_iloadN X1 hx (hb hby d7_6) rfl (pc' := 7) rfl ?_
  refine w_iadd X1 hx (hb hby d7_7) (pc' := 8) rfl ?_
  refine w_eqI (z := (Int32.ofNat ((pb * pa) + pc_))) (own_oadd (pb * pa) pc_) ?_
  refine w_eqI (z := (Int32.ofNat pk)) (congrArg Int32.ofNat hpk) ?_
  refine w_istoreN (l' := #[.val (.ref (n0 + 0)), .val (.int (Int32.ofNat pb)), .val (.int (Int32.ofNat pc_)), .val (.int (Int32.ofNat pk)), .unset]) X1 hx (hb hby d7_8) rfl (pc' := 9) rfl ?_
  refine w_aloadN X1 hx (hb hby d7_9) rfl rfl (pc' := 10) rfl ?_
  refine w_getf (i := 0) (v := .ref (n0 + 5)) X1 hx hZ hown (wd20 hw) P1 rfl Fo0 1 rfl rfl (hb hby d7_10) (pc' := 13) rfl ?_
  intro T2 X2 P2
  refine w_iloadN X2 hx (hb hby d7_13) rfl (pc' := 14) rfl ?_
  refine w_ialoadL (i := 5) (jn := pk) X2 hx hZ P2 rfl hk5 (hb hby d7_14) (own_oN (by omega)) (own_llt hpS (by omega)) (pc' := 15) rfl ?_
  refine w_aloadN X2 hx (hb hby d7_15) rfl rfl (pc' := 16) rfl ?_
  refine w_getf (i := 0) (v := .int (2 : Int32)) X2 hx hZ hown (wd35 hw) P2 rfl Fo0 4 rfl rfl (hb hby d7_16) (pc' := 19) rfl ?_
  intro T3 X3 P3
  refine w_icmp_ne X3 hx (hb hby d7_19) (by decide) (pcY := 33) (by decide) (pc' := 22) rfl (fun h0 => ?_) (fun h0 => absurd h0 hms)
  refine w_aloadN X3 hx (hb hby d7_33) rfl rfl (pc' := 34) rfl ?_
  refine w_dup X3 hx (hb hby d7_34) rfl (pc' := 35) rfl ?_
  refine w_getf (i := 0) (v := .int (1 : Int32)) X3 hx hZ hown (wd38 hw) P3 rfl Fo0 5 rfl rfl (hb hby d7_35) (pc' := 38) rfl ?_
  intro T4 X4 P4
  refine w_dupX1 X4 hx (hb hby d7_38) rfl rfl (pc' := 39) rfl ?_
  refine w_iconst (v := (1 : Int32)) X4 hx (hb hby d7_39) rfl (pc' := 40) rfl ?_
  refine w_iadd X4 hx (hb hby d7_40) (pc' := 41) rfl ?_
  refine w_eqI (z := (2 : Int32)) (by decide) ?_
  refine w_putf (i := 0) (ty := .int) X4 hx hZ hown (wd38 hw) N0 P4 rfl Fo0 (di_C0 hw) 5 rfl (Or.inl (wd39 hw)) (wd9 hw) (by decide) rfl rfl (hb hby d7_41) (pc' := 44) rfl ?_
  intro T5 L1 c1 N1 X5 P5 F1
  replace P5 : HP n0 T5.heap [c1, AC k1 [], AC k2 [], AC k3 [], AC k4 (List.map Value.int pC), AC k5 (List.map Value.int pS), AC k6 [.int py0, .int py1], AC k7 [.int pz0, .int pz1, .int pz2, .int pz3]] := P5
  replace F1 : ObjF Z c1 "com/example/protomata/protomata/Partition" fl_C0 [.ref (n0 + 4), .ref (n0 + 5), .ref (n0 + 7), .int (Int32.ofNat pa), .int (2 : Int32), .int (2 : Int32), .long psq] := F1
  refine w_istore (l' := #[.val (.ref (n0 + 0)), .val (.int (Int32.ofNat pb)), .val (.int (Int32.ofNat pc_)), .val (.int (Int32.ofNat pk)), .val (.int (1 : Int32))]) X5 hx (hb hby d7_44) rfl (pc' := 46) rfl ?_
  refine w_aloadN X5 hx (hb hby d7_46) rfl rfl (pc' := 47) rfl ?_
  refine w_getf (i := 0) (v := .ref (n0 + 5)) X5 hx hZ hown (wd20 hw) P5 rfl F1 1 rfl rfl (hb hby d7_47) (pc' := 50) rfl ?_
  intro T6 X6 P6
  refine w_iloadN X6 hx (hb hby d7_50) rfl (pc' := 51) rfl ?_
  refine w_aloadN X6 hx (hb hby d7_51) rfl rfl (pc' := 52) rfl ?_
  refine w_getf (i := 0) (v := .int (2 : Int32)) X6 hx hZ hown (wd35 hw) P6 rfl F1 4 rfl rfl (hb hby d7_52) (pc' := 55) rfl ?_
  intro T7 X7 P7
  refine w_iastoreL (i := 5) (jn := pk) X7 hx hZ N1 P7 rfl hk5 (hb hby d7_55) (own_oN (by omega)) (own_llt hpS (by omega)) (pc' := 56) rfl ?_
  intro T8 L2 N2 X8 P8
  replace P8 : HP n0 T8.heap [c1, AC k1 [], AC k2 [], AC k3 [], AC k4 (List.map Value.int pC), AC k5 (List.map Value.int (pS.set pk (2 : Int32))), AC k6 [.int py0, .int py1], AC k7 [.int pz0, .int pz1, .int pz2, .int pz3]] := P8
  refine w_aloadN X8 hx (hb hby d7_56) rfl rfl (pc' := 57) rfl ?_
  refine w_getf (i := 0) (v := .ref (n0 + 4)) X8 hx hZ hown (wd18 hw) P8 rfl F1 0 rfl rfl (hb hby d7_57) (pc' := 60) rfl ?_
  intro T9 X9 P9
  refine w_iloadN X9 hx (hb hby d7_60) rfl (pc' := 61) rfl ?_
  refine w_iload X9 hx (hb hby d7_61) rfl (pc' := 63) rfl ?_
  refine w_iastoreL (i := 4) (jn := pk) X9 hx hZ N2 P9 rfl hk4 (hb hby d7_63) (own_oN (by omega)) (own_llt hpC (by omega)) (pc' := 64) rfl ?_
  intro T10 L3 N3 X10 P10
  replace P10 : HP n0 T10.heap [c1, AC k1 [], AC k2 [], AC k3 [], AC k4 (List.map Value.int (pC.set pk (1 : Int32))), AC k5 (List.map Value.int (pS.set pk (2 : Int32))), AC k6 [.int py0, .int py1], AC k7 [.int pz0, .int pz1, .int pz2, .int pz3]] := P10
  refine w_aloadN X10 hx (hb hby d7_64) rfl rfl (pc' := 65) rfl ?_
  refine w_getf (i := 0) (v := .ref (n0 + 7)) X10 hx hZ hown (wd22 hw) P10 rfl F1 2 rfl rfl (hb hby d7_65) (pc' := 68) rfl ?_
  intro T11 X11 P11
  refine w_iload X11 hx (hb hby d7_68) rfl (pc' := 70) rfl ?_
  refine w_iconst (v := (0 : Int32)) X11 hx (hb hby d7_70) rfl (pc' := 71) rfl ?_
  refine w_iastore (i := 7) (jn := 1) X11 hx hZ N3 P11 rfl hk7 (hb hby d7_71) (by decide) (Nat.le_of_ble_eq_true rfl) (pc' := 72) rfl ?_
  intro T12 L4 N4 X12 P12
  replace P12 : HP n0 T12.heap [c1, AC k1 [], AC k2 [], AC k3 [], AC k4 (List.map Value.int (pC.set pk (1 : Int32))), AC k5 (List.map Value.int (pS.set pk (2 : Int32))), AC k6 [.int py0, .int py1], AC k7 [.int pz0, .int (0 : Int32), .int pz2, .int pz3]] := P12
  refine w_aloadN X12 hx (hb hby d7_72) rfl rfl (pc' := 73) rfl ?_
  refine w_dup X12 hx (hb hby d7_73) rfl (pc' := 74) rfl ?_
  refine w_getf (i := 0) (v := .long psq) X12 hx hZ hown (wd40 hw) P12 rfl F1 6 rfl rfl (hb hby d7_74) (pc' := 77) rfl ?_
  intro T13 X13 P13
  refine w_ldc2 X13 hx (hb hby d7_77) hown (mvT hZ (wd47 hw)) (pc' := 80) rfl ?_
  refine w_aloadN X13 hx (hb hby d7_80) rfl rfl (pc' := 81) rfl ?_
  refine w_getf (i := 0) (v := .ref (n0 + 7)) X13 hx hZ hown (wd22 hw) P13 rfl F1 2 rfl rfl (hb hby d7_81) (pc' := 84) rfl ?_
  intro T14 X14 P14
  refine w_iload X14 hx (hb hby d7_84) rfl (pc' := 86) rfl ?_
  refine w_iaload (i := 7) (jn := 1) (v := .int (0 : Int32)) X14 hx hZ P14 rfl hk7 (hb hby d7_86) (by decide) rfl (pc' := 87) rfl ?_
  refine w_i2l X14 hx (hb hby d7_87) (pc' := 88) rfl ?_
  refine w_eqJ (z := (0 : Int64)) (by decide) ?_
  refine w_lmul X14 hx (hb hby d7_88) (pc' := 89) rfl ?_
  refine w_eqJ (z := (0 : Int64)) (by decide) ?_
  refine w_lconst (v := (1 : Int64)) X14 hx (hb hby d7_89) rfl (pc' := 90) rfl ?_
  refine w_ladd X14 hx (hb hby d7_90) (pc' := 91) rfl ?_
  refine w_eqJ (z := (1 : Int64)) (by decide) ?_
  refine w_ladd X14 hx (hb hby d7_91) (pc' := 92) rfl ?_
  refine w_putf (i := 0) (ty := .long) X14 hx hZ hown (wd40 hw) N4 P14 rfl F1 (di_C0 hw) 6 rfl (Or.inl (wd41 hw)) (wd9 hw) (by decide) rfl rfl (hb hby d7_92) (pc' := 95) rfl ?_
  intro T15 L5 c2 N5 X15 P15 F2
  replace P15 : HP n0 T15.heap [c2, AC k1 [], AC k2 [], AC k3 [], AC k4 (List.map Value.int (pC.set pk (1 : Int32))), AC k5 (List.map Value.int (pS.set pk (2 : Int32))), AC k6 [.int py0, .int py1], AC k7 [.int pz0, .int (0 : Int32), .int pz2, .int pz3]] := P15
  replace F2 : ObjF Z c2 "com/example/protomata/protomata/Partition" fl_C0 [.ref (n0 + 4), .ref (n0 + 5), .ref (n0 + 7), .int (Int32.ofNat pa), .int (2 : Int32), .int (2 : Int32), .long (psq + (1 : Int64))] := F2
  refine w_aloadN X15 hx (hb hby d7_95) rfl rfl (pc' := 96) rfl ?_
  refine w_getf (i := 0) (v := .ref (n0 + 7)) X15 hx hZ hown (wd22 hw) P15 rfl F2 2 rfl rfl (hb hby d7_96) (pc' := 99) rfl ?_
  intro T16 X16 P16
  refine w_iload X16 hx (hb hby d7_99) rfl (pc' := 101) rfl ?_
  refine w_dup2 X16 hx (hb hby d7_101) rfl rfl (pc' := 102) rfl ?_
  refine w_iaload (i := 7) (jn := 1) (v := .int (0 : Int32)) X16 hx hZ P16 rfl hk7 (hb hby d7_102) (by decide) rfl (pc' := 103) rfl ?_
  refine w_iconst (v := (1 : Int32)) X16 hx (hb hby d7_103) rfl (pc' := 104) rfl ?_
  refine w_iadd X16 hx (hb hby d7_104) (pc' := 105) rfl ?_
  refine w_eqI (z := (1 : Int32)) (by decide) ?_
  refine w_iastore (i := 7) (jn := 1) X16 hx hZ N5 P16 rfl hk7 (hb hby d7_105) (by decide) (Nat.le_of_ble_eq_true rfl) (pc' := 106) rfl ?_
  intro T17 L6 N6 X17 P17
  replace P17 : HP n0 T17.heap [c2, AC k1 [], AC k2 [], AC k3 [], AC k4 (List.map Value.int (pC.set pk (1 : Int32))), AC k5 (List.map Value.int (pS.set pk (2 : Int32))), AC k6 [.int py0, .int py1], AC k7 [.int pz0, .int (1 : Int32), .int pz2, .int pz3]] := P17
  refine w_iload X17 hx (hb hby d7_106) rfl (pc' := 108) rfl ?_
  exact w_ret_i X17 hx hret hlk (hb hby d7_108) (by decide) (by decide) ⟨rfl, N6, c2, F2, P17⟩
theorem ef_msC2 (m : MethodId) (n0 : Nat) (pN : Nat) (py0 : Int32) (py1 : Int32) (pb : Nat) (pa : Nat) (pc_ : Nat) (pk : Nat) (psq : Int64) (pz0 : Int32) (pz1 : Int32) (pz2 : Int32) (pz3 : Int32) : entryFrame m #[.ref (n0 + 0), .int (Int32.ofNat pb), .int (Int32.ofNat pc_)] 5 = mkF m 0 #[.val (.ref (n0 + 0)), .val (.int (Int32.ofNat pb)), .val (.int (Int32.ofNat pc_)), .unset, .unset] [] := by first | (simp [entryFrame, mkF, argsToLocals, Value.category]; done) | rfl
def Q_msC2 (Z : State) (n0 : Nat) (k1 : ClassId) (k2 : ClassId) (k3 : ClassId) (k4 : ClassId) (k5 : ClassId) (k6 : ClassId) (k7 : ClassId) (o0 : Jvm.Cell) (pC : List Int32) (pS : List Int32) (pN : Nat) (py0 : Int32) (py1 : Int32) (pb : Nat) (pa : Nat) (pc_ : Nat) (pk : Nat) (psq : Int64) (pz0 : Int32) (pz1 : Int32) (pz2 : Int32) (pz3 : Int32) (v : Option Value) (h : Heap) (L : List Loc) : Prop := v = some (.int (2 : Int32)) ∧ Fr n0 L ∧ ∃ c2 : Jvm.Cell, ObjF Z c2 "com/example/protomata/protomata/Partition" fl_C0 [.ref (n0 + 4), .ref (n0 + 5), .ref (n0 + 7), .int (Int32.ofNat pa), .int (2 : Int32), .int (3 : Int32), .long (psq + (1 : Int64))] ∧ HP n0 h [c2, AC k1 [], AC k2 [], AC k3 [], AC k4 (List.map Value.int (pC.set pk (2 : Int32))), AC k5 (List.map Value.int (pS.set pk (2 : Int32))), AC k6 [.int py0, .int py1], AC k7 [.int pz0, .int pz1, .int (1 : Int32), .int pz3]]
set_option maxRecDepth 65536 in
set_option maxHeartbeats 40000000 in
theorem rm_msC2 (l : Launch) (Z : State) (a0 : Array Value) (hw : ∀ d ∈ tables_1, d.before a0 Z = true) (ws : List Jvm.Cond) (n0 : Nat) (k1 : ClassId) (k2 : ClassId) (k3 : ClassId) (k4 : ClassId) (k5 : ClassId) (k6 : ClassId) (k7 : ClassId) (o0 : Jvm.Cell) (pC : List Int32) (pS : List Int32) (pN : Nat) (py0 : Int32) (py1 : Int32) (pb : Nat) (pa : Nat) (pc_ : Nat) (pk : Nat) (psq : Int64) (pz0 : Int32) (pz1 : Int32) (pz2 : Int32) (pz3 : Int32) (h0 : Heap) (P0 : HP n0 h0 [o0, AC k1 [], AC k2 [], AC k3 [], AC k4 (List.map Value.int pC), AC k5 (List.map Value.int pS), AC k6 [.int py0, .int py1], AC k7 [.int pz0, .int pz1, .int pz2, .int pz3]]) (hk1 : IsA Z k1 .int) (hk2 : IsA Z k2 .int) (hk3 : IsA Z k3 .int) (hk4 : IsA Z k4 .int) (hk5 : IsA Z k5 .int) (hk6 : IsA Z k6 .int) (hk7 : IsA Z k7 .int) (hpC : pC.length = pN) (hpS : pS.length = pN) (Fo0 : ObjF Z o0 "com/example/protomata/protomata/Partition" fl_C0 [.ref (n0 + 4), .ref (n0 + 5), .ref (n0 + 7), .int (Int32.ofNat pa), .int (2 : Int32), .int (2 : Int32), .long psq]) (hpk : pb * pa + pc_ = pk) (hpl : pk < pN) (hpN : pN ≤ 16) (hms : ¬ pS.getD pk 0 = (2 : Int32)) :
    MetFree l (⟨"com/example/protomata/protomata/Partition", "put", "(II)I"⟩ : MethodName) (head1 (Jvm.Cond.code (⟨"com/example/protomata/protomata/Partition", "put", "(II)I"⟩ : MethodName) prog_101_method_3_code 5 (some .int) :: ws) ({ frames := 0, cells := 0, slots := 0, locals := 0 } : Room)) (fun aa U => aa = #[.ref (n0 + 0), .int (Int32.ofNat pb), .int (Int32.ofNat pc_)] ∧ Z.Warmed39 U.vm ∧ U.heap = h0) (fun _ _ _ _ _ => True) (fun _ U o U' => ∃ v L, o = .returned v ∧ Q_msC2 Z n0 k1 k2 k3 k4 k5 k6 k7 o0 pC pS pN py0 py1 pb pa pc_ pk psq pz0 pz1 pz2 pz3 v U'.heap L ∧ FrameEnd U o U' L ({ frames := 0, cells := 0, slots := 0, locals := 0 } : Room).cells ({ frames := 0, cells := 0, slots := 0, locals := 0 } : Room).slots) := by
  refine own_body pn7 ?_
  intro p e s m below meth c T0 hx hby hml hret hlk hown hnm hZ X0 e0
  subst e0
  have N0 : Fr n0 [] := Fr.nil n0
  refine own_cast (ef_msC2 m n0 pN py0 py1 pb pa pc_ pk psq pz0 pz1 pz2 pz3) ?_
  refine w_iloadN X0 hx (hb hby d7_0) rfl (pc' := 1) rfl ?_
  refine w_aloadN X0 hx (hb hby d7_1) rfl rfl (pc' := 2) rfl ?_
  refine w_getf (i := 0) (v := .int (Int32.ofNat pa)) X0 hx hZ hown (wd29 hw) P0 rfl Fo0 3 rfl rfl (hb hby d7_2) (pc' := 5) rfl ?_
  intro T1 X1 P1
  refine w_imul X1 hx (hb hby d7_5) (pc' := 6) rfl ?_
  refine w_eqI (z := (Int32.ofNat (pb * pa))) (own_omul pb pa) ?_
  refine w_iloadN X1 hx (hb hby d7_6) rfl (pc' := 7) rfl ?_
  refine w_iadd X1 hx (hb hby d7_7) (pc' := 8) rfl ?_
  refine w_eqI (z := (Int32.ofNat ((pb * pa) + pc_))) (own_oadd (pb * pa) pc_) ?_
  refine w_eqI (z := (Int32.ofNat pk)) (congrArg Int32.ofNat hpk) ?_
  refine w_istoreN (l' := #[.val (.ref (n0 + 0)), .val (.int (Int32.ofNat pb)), .val (.int (Int32.ofNat pc_)), .val (.int (Int32.ofNat pk)), .unset]) X1 hx (hb hby d7_8) rfl (pc' := 9) rfl ?_
  refine w_aloadN X1 hx (hb hby d7_9) rfl rfl (pc' := 10) rfl ?_
  refine w_getf (i := 0) (v := .ref (n0 + 5)) X1 hx hZ hown (wd20 hw) P1 rfl Fo0 1 rfl rfl (hb hby d7_10) (pc' := 13) rfl ?_
  intro T2 X2 P2
  refine w_iloadN X2 hx (hb hby d7_13) rfl (pc' := 14) rfl ?_
  refine w_ialoadL (i := 5) (jn := pk) X2 hx hZ P2 rfl hk5 (hb hby d7_14) (own_oN (by omega)) (own_llt hpS (by omega)) (pc' := 15) rfl ?_
  refine w_aloadN X2 hx (hb hby d7_15) rfl rfl (pc' := 16) rfl ?_
  refine w_getf (i := 0) (v := .int (2 : Int32)) X2 hx hZ hown (wd35 hw) P2 rfl Fo0 4 rfl rfl (hb hby d7_16) (pc' := 19) rfl ?_
  intro T3 X3 P3
  refine w_icmp_ne X3 hx (hb hby d7_19) (by decide) (pcY := 33) (by decide) (pc' := 22) rfl (fun h0 => ?_) (fun h0 => absurd h0 hms)
  refine w_aloadN X3 hx (hb hby d7_33) rfl rfl (pc' := 34) rfl ?_
  refine w_dup X3 hx (hb hby d7_34) rfl (pc' := 35) rfl ?_
  refine w_getf (i := 0) (v := .int (2 : Int32)) X3 hx hZ hown (wd38 hw) P3 rfl Fo0 5 rfl rfl (hb hby d7_35) (pc' := 38) rfl ?_
  intro T4 X4 P4
  refine w_dupX1 X4 hx (hb hby d7_38) rfl rfl (pc' := 39) rfl ?_
  refine w_iconst (v := (1 : Int32)) X4 hx (hb hby d7_39) rfl (pc' := 40) rfl ?_
  refine w_iadd X4 hx (hb hby d7_40) (pc' := 41) rfl ?_
  refine w_eqI (z := (3 : Int32)) (by decide) ?_
  refine w_putf (i := 0) (ty := .int) X4 hx hZ hown (wd38 hw) N0 P4 rfl Fo0 (di_C0 hw) 5 rfl (Or.inl (wd39 hw)) (wd9 hw) (by decide) rfl rfl (hb hby d7_41) (pc' := 44) rfl ?_
  intro T5 L1 c1 N1 X5 P5 F1
  replace P5 : HP n0 T5.heap [c1, AC k1 [], AC k2 [], AC k3 [], AC k4 (List.map Value.int pC), AC k5 (List.map Value.int pS), AC k6 [.int py0, .int py1], AC k7 [.int pz0, .int pz1, .int pz2, .int pz3]] := P5
  replace F1 : ObjF Z c1 "com/example/protomata/protomata/Partition" fl_C0 [.ref (n0 + 4), .ref (n0 + 5), .ref (n0 + 7), .int (Int32.ofNat pa), .int (2 : Int32), .int (3 : Int32), .long psq] := F1
  refine w_istore (l' := #[.val (.ref (n0 + 0)), .val (.int (Int32.ofNat pb)), .val (.int (Int32.ofNat pc_)), .val (.int (Int32.ofNat pk)), .val (.int (2 : Int32))]) X5 hx (hb hby d7_44) rfl (pc' := 46) rfl ?_
  refine w_aloadN X5 hx (hb hby d7_46) rfl rfl (pc' := 47) rfl ?_
  refine w_getf (i := 0) (v := .ref (n0 + 5)) X5 hx hZ hown (wd20 hw) P5 rfl F1 1 rfl rfl (hb hby d7_47) (pc' := 50) rfl ?_
  intro T6 X6 P6
  refine w_iloadN X6 hx (hb hby d7_50) rfl (pc' := 51) rfl ?_
  refine w_aloadN X6 hx (hb hby d7_51) rfl rfl (pc' := 52) rfl ?_
  refine w_getf (i := 0) (v := .int (2 : Int32)) X6 hx hZ hown (wd35 hw) P6 rfl F1 4 rfl rfl (hb hby d7_52) (pc' := 55) rfl ?_
  intro T7 X7 P7
  refine w_iastoreL (i := 5) (jn := pk) X7 hx hZ N1 P7 rfl hk5 (hb hby d7_55) (own_oN (by omega)) (own_llt hpS (by omega)) (pc' := 56) rfl ?_
  intro T8 L2 N2 X8 P8
  replace P8 : HP n0 T8.heap [c1, AC k1 [], AC k2 [], AC k3 [], AC k4 (List.map Value.int pC), AC k5 (List.map Value.int (pS.set pk (2 : Int32))), AC k6 [.int py0, .int py1], AC k7 [.int pz0, .int pz1, .int pz2, .int pz3]] := P8
  refine w_aloadN X8 hx (hb hby d7_56) rfl rfl (pc' := 57) rfl ?_
  refine w_getf (i := 0) (v := .ref (n0 + 4)) X8 hx hZ hown (wd18 hw) P8 rfl F1 0 rfl rfl (hb hby d7_57) (pc' := 60) rfl ?_
  intro T9 X9 P9
  refine w_iloadN X9 hx (hb hby d7_60) rfl (pc' := 61) rfl ?_
  refine w_iload X9 hx (hb hby d7_61) rfl (pc' := 63) rfl ?_
  refine w_iastoreL (i := 4) (jn := pk) X9 hx hZ N2 P9 rfl hk4 (hb hby d7_63) (own_oN (by omega)) (own_llt hpC (by omega)) (pc' := 64) rfl ?_
  intro T10 L3 N3 X10 P10
  replace P10 : HP n0 T10.heap [c1, AC k1 [], AC k2 [], AC k3 [], AC k4 (List.map Value.int (pC.set pk (2 : Int32))), AC k5 (List.map Value.int (pS.set pk (2 : Int32))), AC k6 [.int py0, .int py1], AC k7 [.int pz0, .int pz1, .int pz2, .int pz3]] := P10
  refine w_aloadN X10 hx (hb hby d7_64) rfl rfl (pc' := 65) rfl ?_
  refine w_getf (i := 0) (v := .ref (n0 + 7)) X10 hx hZ hown (wd22 hw) P10 rfl F1 2 rfl rfl (hb hby d7_65) (pc' := 68) rfl ?_
  intro T11 X11 P11
  refine w_iload X11 hx (hb hby d7_68) rfl (pc' := 70) rfl ?_
  refine w_iconst (v := (0 : Int32)) X11 hx (hb hby d7_70) rfl (pc' := 71) rfl ?_
  refine w_iastore (i := 7) (jn := 2) X11 hx hZ N3 P11 rfl hk7 (hb hby d7_71) (by decide) (Nat.le_of_ble_eq_true rfl) (pc' := 72) rfl ?_
  intro T12 L4 N4 X12 P12
  replace P12 : HP n0 T12.heap [c1, AC k1 [], AC k2 [], AC k3 [], AC k4 (List.map Value.int (pC.set pk (2 : Int32))), AC k5 (List.map Value.int (pS.set pk (2 : Int32))), AC k6 [.int py0, .int py1], AC k7 [.int pz0, .int pz1, .int (0 : Int32), .int pz3]] := P12
  refine w_aloadN X12 hx (hb hby d7_72) rfl rfl (pc' := 73) rfl ?_
  refine w_dup X12 hx (hb hby d7_73) rfl (pc' := 74) rfl ?_
  refine w_getf (i := 0) (v := .long psq) X12 hx hZ hown (wd40 hw) P12 rfl F1 6 rfl rfl (hb hby d7_74) (pc' := 77) rfl ?_
  intro T13 X13 P13
  refine w_ldc2 X13 hx (hb hby d7_77) hown (mvT hZ (wd47 hw)) (pc' := 80) rfl ?_
  refine w_aloadN X13 hx (hb hby d7_80) rfl rfl (pc' := 81) rfl ?_
  refine w_getf (i := 0) (v := .ref (n0 + 7)) X13 hx hZ hown (wd22 hw) P13 rfl F1 2 rfl rfl (hb hby d7_81) (pc' := 84) rfl ?_
  intro T14 X14 P14
  refine w_iload X14 hx (hb hby d7_84) rfl (pc' := 86) rfl ?_
  refine w_iaload (i := 7) (jn := 2) (v := .int (0 : Int32)) X14 hx hZ P14 rfl hk7 (hb hby d7_86) (by decide) rfl (pc' := 87) rfl ?_
  refine w_i2l X14 hx (hb hby d7_87) (pc' := 88) rfl ?_
  refine w_eqJ (z := (0 : Int64)) (by decide) ?_
  refine w_lmul X14 hx (hb hby d7_88) (pc' := 89) rfl ?_
  refine w_eqJ (z := (0 : Int64)) (by decide) ?_
  refine w_lconst (v := (1 : Int64)) X14 hx (hb hby d7_89) rfl (pc' := 90) rfl ?_
  refine w_ladd X14 hx (hb hby d7_90) (pc' := 91) rfl ?_
  refine w_eqJ (z := (1 : Int64)) (by decide) ?_
  refine w_ladd X14 hx (hb hby d7_91) (pc' := 92) rfl ?_
  refine w_putf (i := 0) (ty := .long) X14 hx hZ hown (wd40 hw) N4 P14 rfl F1 (di_C0 hw) 6 rfl (Or.inl (wd41 hw)) (wd9 hw) (by decide) rfl rfl (hb hby d7_92) (pc' := 95) rfl ?_
  intro T15 L5 c2 N5 X15 P15 F2
  replace P15 : HP n0 T15.heap [c2, AC k1 [], AC k2 [], AC k3 [], AC k4 (List.map Value.int (pC.set pk (2 : Int32))), AC k5 (List.map Value.int (pS.set pk (2 : Int32))), AC k6 [.int py0, .int py1], AC k7 [.int pz0, .int pz1, .int (0 : Int32), .int pz3]] := P15
  replace F2 : ObjF Z c2 "com/example/protomata/protomata/Partition" fl_C0 [.ref (n0 + 4), .ref (n0 + 5), .ref (n0 + 7), .int (Int32.ofNat pa), .int (2 : Int32), .int (3 : Int32), .long (psq + (1 : Int64))] := F2
  refine w_aloadN X15 hx (hb hby d7_95) rfl rfl (pc' := 96) rfl ?_
  refine w_getf (i := 0) (v := .ref (n0 + 7)) X15 hx hZ hown (wd22 hw) P15 rfl F2 2 rfl rfl (hb hby d7_96) (pc' := 99) rfl ?_
  intro T16 X16 P16
  refine w_iload X16 hx (hb hby d7_99) rfl (pc' := 101) rfl ?_
  refine w_dup2 X16 hx (hb hby d7_101) rfl rfl (pc' := 102) rfl ?_
  refine w_iaload (i := 7) (jn := 2) (v := .int (0 : Int32)) X16 hx hZ P16 rfl hk7 (hb hby d7_102) (by decide) rfl (pc' := 103) rfl ?_
  refine w_iconst (v := (1 : Int32)) X16 hx (hb hby d7_103) rfl (pc' := 104) rfl ?_
  refine w_iadd X16 hx (hb hby d7_104) (pc' := 105) rfl ?_
  refine w_eqI (z := (1 : Int32)) (by decide) ?_
  refine w_iastore (i := 7) (jn := 2) X16 hx hZ N5 P16 rfl hk7 (hb hby d7_105) (by decide) (Nat.le_of_ble_eq_true rfl) (pc' := 106) rfl ?_
  intro T17 L6 N6 X17 P17
  replace P17 : HP n0 T17.heap [c2, AC k1 [], AC k2 [], AC k3 [], AC k4 (List.map Value.int (pC.set pk (2 : Int32))), AC k5 (List.map Value.int (pS.set pk (2 : Int32))), AC k6 [.int py0, .int py1], AC k7 [.int pz0, .int pz1, .int (1 : Int32), .int pz3]] := P17
  refine w_iload X17 hx (hb hby d7_106) rfl (pc' := 108) rfl ?_
  exact w_ret_i X17 hx hret hlk (hb hby d7_108) (by decide) (by decide) ⟨rfl, N6, c2, F2, P17⟩
theorem ef_msC3 (m : MethodId) (n0 : Nat) (pN : Nat) (py0 : Int32) (py1 : Int32) (pb : Nat) (pa : Nat) (pc_ : Nat) (pk : Nat) (psq : Int64) (pz0 : Int32) (pz1 : Int32) (pz2 : Int32) (pz3 : Int32) : entryFrame m #[.ref (n0 + 0), .int (Int32.ofNat pb), .int (Int32.ofNat pc_)] 5 = mkF m 0 #[.val (.ref (n0 + 0)), .val (.int (Int32.ofNat pb)), .val (.int (Int32.ofNat pc_)), .unset, .unset] [] := by first | (simp [entryFrame, mkF, argsToLocals, Value.category]; done) | rfl
def Q_msC3 (Z : State) (n0 : Nat) (k1 : ClassId) (k2 : ClassId) (k3 : ClassId) (k4 : ClassId) (k5 : ClassId) (k6 : ClassId) (k7 : ClassId) (o0 : Jvm.Cell) (pC : List Int32) (pS : List Int32) (pN : Nat) (py0 : Int32) (py1 : Int32) (pb : Nat) (pa : Nat) (pc_ : Nat) (pk : Nat) (psq : Int64) (pz0 : Int32) (pz1 : Int32) (pz2 : Int32) (pz3 : Int32) (v : Option Value) (h : Heap) (L : List Loc) : Prop := v = some (.int (3 : Int32)) ∧ Fr n0 L ∧ ∃ c2 : Jvm.Cell, ObjF Z c2 "com/example/protomata/protomata/Partition" fl_C0 [.ref (n0 + 4), .ref (n0 + 5), .ref (n0 + 7), .int (Int32.ofNat pa), .int (2 : Int32), .int (4 : Int32), .long (psq + (1 : Int64))] ∧ HP n0 h [c2, AC k1 [], AC k2 [], AC k3 [], AC k4 (List.map Value.int (pC.set pk (3 : Int32))), AC k5 (List.map Value.int (pS.set pk (2 : Int32))), AC k6 [.int py0, .int py1], AC k7 [.int pz0, .int pz1, .int pz2, .int (1 : Int32)]]
set_option maxRecDepth 65536 in
set_option maxHeartbeats 40000000 in
theorem rm_msC3 (l : Launch) (Z : State) (a0 : Array Value) (hw : ∀ d ∈ tables_1, d.before a0 Z = true) (ws : List Jvm.Cond) (n0 : Nat) (k1 : ClassId) (k2 : ClassId) (k3 : ClassId) (k4 : ClassId) (k5 : ClassId) (k6 : ClassId) (k7 : ClassId) (o0 : Jvm.Cell) (pC : List Int32) (pS : List Int32) (pN : Nat) (py0 : Int32) (py1 : Int32) (pb : Nat) (pa : Nat) (pc_ : Nat) (pk : Nat) (psq : Int64) (pz0 : Int32) (pz1 : Int32) (pz2 : Int32) (pz3 : Int32) (h0 : Heap) (P0 : HP n0 h0 [o0, AC k1 [], AC k2 [], AC k3 [], AC k4 (List.map Value.int pC), AC k5 (List.map Value.int pS), AC k6 [.int py0, .int py1], AC k7 [.int pz0, .int pz1, .int pz2, .int pz3]]) (hk1 : IsA Z k1 .int) (hk2 : IsA Z k2 .int) (hk3 : IsA Z k3 .int) (hk4 : IsA Z k4 .int) (hk5 : IsA Z k5 .int) (hk6 : IsA Z k6 .int) (hk7 : IsA Z k7 .int) (hpC : pC.length = pN) (hpS : pS.length = pN) (Fo0 : ObjF Z o0 "com/example/protomata/protomata/Partition" fl_C0 [.ref (n0 + 4), .ref (n0 + 5), .ref (n0 + 7), .int (Int32.ofNat pa), .int (2 : Int32), .int (3 : Int32), .long psq]) (hpk : pb * pa + pc_ = pk) (hpl : pk < pN) (hpN : pN ≤ 16) (hms : ¬ pS.getD pk 0 = (2 : Int32)) :
    MetFree l (⟨"com/example/protomata/protomata/Partition", "put", "(II)I"⟩ : MethodName) (head1 (Jvm.Cond.code (⟨"com/example/protomata/protomata/Partition", "put", "(II)I"⟩ : MethodName) prog_101_method_3_code 5 (some .int) :: ws) ({ frames := 0, cells := 0, slots := 0, locals := 0 } : Room)) (fun aa U => aa = #[.ref (n0 + 0), .int (Int32.ofNat pb), .int (Int32.ofNat pc_)] ∧ Z.Warmed39 U.vm ∧ U.heap = h0) (fun _ _ _ _ _ => True) (fun _ U o U' => ∃ v L, o = .returned v ∧ Q_msC3 Z n0 k1 k2 k3 k4 k5 k6 k7 o0 pC pS pN py0 py1 pb pa pc_ pk psq pz0 pz1 pz2 pz3 v U'.heap L ∧ FrameEnd U o U' L ({ frames := 0, cells := 0, slots := 0, locals := 0 } : Room).cells ({ frames := 0, cells := 0, slots := 0, locals := 0 } : Room).slots) := by
  refine own_body pn7 ?_
  intro p e s m below meth c T0 hx hby hml hret hlk hown hnm hZ X0 e0
  subst e0
  have N0 : Fr n0 [] := Fr.nil n0
  refine own_cast (ef_msC3 m n0 pN py0 py1 pb pa pc_ pk psq pz0 pz1 pz2 pz3) ?_
  refine w_iloadN X0 hx (hb hby d7_0) rfl (pc' := 1) rfl ?_
  refine w_aloadN X0 hx (hb hby d7_1) rfl rfl (pc' := 2) rfl ?_
  refine w_getf (i := 0) (v := .int (Int32.ofNat pa)) X0 hx hZ hown (wd29 hw) P0 rfl Fo0 3 rfl rfl (hb hby d7_2) (pc' := 5) rfl ?_
  intro T1 X1 P1
  refine w_imul X1 hx (hb hby d7_5) (pc' := 6) rfl ?_
  refine w_eqI (z := (Int32.ofNat (pb * pa))) (own_omul pb pa) ?_
  refine w_iloadN X1 hx (hb hby d7_6) rfl (pc' := 7) rfl ?_
  refine w_iadd X1 hx (hb hby d7_7) (pc' := 8) rfl ?_
  refine w_eqI (z := (Int32.ofNat ((pb * pa) + pc_))) (own_oadd (pb * pa) pc_) ?_
  refine w_eqI (z := (Int32.ofNat pk)) (congrArg Int32.ofNat hpk) ?_
  refine w_istoreN (l' := #[.val (.ref (n0 + 0)), .val (.int (Int32.ofNat pb)), .val (.int (Int32.ofNat pc_)), .val (.int (Int32.ofNat pk)), .unset]) X1 hx (hb hby d7_8) rfl (pc' := 9) rfl ?_
  refine w_aloadN X1 hx (hb hby d7_9) rfl rfl (pc' := 10) rfl ?_
  refine w_getf (i := 0) (v := .ref (n0 + 5)) X1 hx hZ hown (wd20 hw) P1 rfl Fo0 1 rfl rfl (hb hby d7_10) (pc' := 13) rfl ?_
  intro T2 X2 P2
  refine w_iloadN X2 hx (hb hby d7_13) rfl (pc' := 14) rfl ?_
  refine w_ialoadL (i := 5) (jn := pk) X2 hx hZ P2 rfl hk5 (hb hby d7_14) (own_oN (by omega)) (own_llt hpS (by omega)) (pc' := 15) rfl ?_
  refine w_aloadN X2 hx (hb hby d7_15) rfl rfl (pc' := 16) rfl ?_
  refine w_getf (i := 0) (v := .int (2 : Int32)) X2 hx hZ hown (wd35 hw) P2 rfl Fo0 4 rfl rfl (hb hby d7_16) (pc' := 19) rfl ?_
  intro T3 X3 P3
  refine w_icmp_ne X3 hx (hb hby d7_19) (by decide) (pcY := 33) (by decide) (pc' := 22) rfl (fun h0 => ?_) (fun h0 => absurd h0 hms)
  refine w_aloadN X3 hx (hb hby d7_33) rfl rfl (pc' := 34) rfl ?_
  refine w_dup X3 hx (hb hby d7_34) rfl (pc' := 35) rfl ?_
  refine w_getf (i := 0) (v := .int (3 : Int32)) X3 hx hZ hown (wd38 hw) P3 rfl Fo0 5 rfl rfl (hb hby d7_35) (pc' := 38) rfl ?_
  intro T4 X4 P4
  refine w_dupX1 X4 hx (hb hby d7_38) rfl rfl (pc' := 39) rfl ?_
  refine w_iconst (v := (1 : Int32)) X4 hx (hb hby d7_39) rfl (pc' := 40) rfl ?_
  refine w_iadd X4 hx (hb hby d7_40) (pc' := 41) rfl ?_
  refine w_eqI (z := (4 : Int32)) (by decide) ?_
  refine w_putf (i := 0) (ty := .int) X4 hx hZ hown (wd38 hw) N0 P4 rfl Fo0 (di_C0 hw) 5 rfl (Or.inl (wd39 hw)) (wd9 hw) (by decide) rfl rfl (hb hby d7_41) (pc' := 44) rfl ?_
  intro T5 L1 c1 N1 X5 P5 F1
  replace P5 : HP n0 T5.heap [c1, AC k1 [], AC k2 [], AC k3 [], AC k4 (List.map Value.int pC), AC k5 (List.map Value.int pS), AC k6 [.int py0, .int py1], AC k7 [.int pz0, .int pz1, .int pz2, .int pz3]] := P5
  replace F1 : ObjF Z c1 "com/example/protomata/protomata/Partition" fl_C0 [.ref (n0 + 4), .ref (n0 + 5), .ref (n0 + 7), .int (Int32.ofNat pa), .int (2 : Int32), .int (4 : Int32), .long psq] := F1
  refine w_istore (l' := #[.val (.ref (n0 + 0)), .val (.int (Int32.ofNat pb)), .val (.int (Int32.ofNat pc_)), .val (.int (Int32.ofNat pk)), .val (.int (3 : Int32))]) X5 hx (hb hby d7_44) rfl (pc' := 46) rfl ?_
  refine w_aloadN X5 hx (hb hby d7_46) rfl rfl (pc' := 47) rfl ?_
  refine w_getf (i := 0) (v := .ref (n0 + 5)) X5 hx hZ hown (wd20 hw) P5 rfl F1 1 rfl rfl (hb hby d7_47) (pc' := 50) rfl ?_
  intro T6 X6 P6
  refine w_iloadN X6 hx (hb hby d7_50) rfl (pc' := 51) rfl ?_
  refine w_aloadN X6 hx (hb hby d7_51) rfl rfl (pc' := 52) rfl ?_
  refine w_getf (i := 0) (v := .int (2 : Int32)) X6 hx hZ hown (wd35 hw) P6 rfl F1 4 rfl rfl (hb hby d7_52) (pc' := 55) rfl ?_
  intro T7 X7 P7
  refine w_iastoreL (i := 5) (jn := pk) X7 hx hZ N1 P7 rfl hk5 (hb hby d7_55) (own_oN (by omega)) (own_llt hpS (by omega)) (pc' := 56) rfl ?_
  intro T8 L2 N2 X8 P8
  replace P8 : HP n0 T8.heap [c1, AC k1 [], AC k2 [], AC k3 [], AC k4 (List.map Value.int pC), AC k5 (List.map Value.int (pS.set pk (2 : Int32))), AC k6 [.int py0, .int py1], AC k7 [.int pz0, .int pz1, .int pz2, .int pz3]] := P8
  refine w_aloadN X8 hx (hb hby d7_56) rfl rfl (pc' := 57) rfl ?_
  refine w_getf (i := 0) (v := .ref (n0 + 4)) X8 hx hZ hown (wd18 hw) P8 rfl F1 0 rfl rfl (hb hby d7_57) (pc' := 60) rfl ?_
  intro T9 X9 P9
  refine w_iloadN X9 hx (hb hby d7_60) rfl (pc' := 61) rfl ?_
  refine w_iload X9 hx (hb hby d7_61) rfl (pc' := 63) rfl ?_
  refine w_iastoreL (i := 4) (jn := pk) X9 hx hZ N2 P9 rfl hk4 (hb hby d7_63) (own_oN (by omega)) (own_llt hpC (by omega)) (pc' := 64) rfl ?_
  intro T10 L3 N3 X10 P10
  replace P10 : HP n0 T10.heap [c1, AC k1 [], AC k2 [], AC k3 [], AC k4 (List.map Value.int (pC.set pk (3 : Int32))), AC k5 (List.map Value.int (pS.set pk (2 : Int32))), AC k6 [.int py0, .int py1], AC k7 [.int pz0, .int pz1, .int pz2, .int pz3]] := P10
  refine w_aloadN X10 hx (hb hby d7_64) rfl rfl (pc' := 65) rfl ?_
  refine w_getf (i := 0) (v := .ref (n0 + 7)) X10 hx hZ hown (wd22 hw) P10 rfl F1 2 rfl rfl (hb hby d7_65) (pc' := 68) rfl ?_
  intro T11 X11 P11
  refine w_iload X11 hx (hb hby d7_68) rfl (pc' := 70) rfl ?_
  refine w_iconst (v := (0 : Int32)) X11 hx (hb hby d7_70) rfl (pc' := 71) rfl ?_
  refine w_iastore (i := 7) (jn := 3) X11 hx hZ N3 P11 rfl hk7 (hb hby d7_71) (by decide) (Nat.le_of_ble_eq_true rfl) (pc' := 72) rfl ?_
  intro T12 L4 N4 X12 P12
  replace P12 : HP n0 T12.heap [c1, AC k1 [], AC k2 [], AC k3 [], AC k4 (List.map Value.int (pC.set pk (3 : Int32))), AC k5 (List.map Value.int (pS.set pk (2 : Int32))), AC k6 [.int py0, .int py1], AC k7 [.int pz0, .int pz1, .int pz2, .int (0 : Int32)]] := P12
  refine w_aloadN X12 hx (hb hby d7_72) rfl rfl (pc' := 73) rfl ?_
  refine w_dup X12 hx (hb hby d7_73) rfl (pc' := 74) rfl ?_
  refine w_getf (i := 0) (v := .long psq) X12 hx hZ hown (wd40 hw) P12 rfl F1 6 rfl rfl (hb hby d7_74) (pc' := 77) rfl ?_
  intro T13 X13 P13
  refine w_ldc2 X13 hx (hb hby d7_77) hown (mvT hZ (wd47 hw)) (pc' := 80) rfl ?_
  refine w_aloadN X13 hx (hb hby d7_80) rfl rfl (pc' := 81) rfl ?_
  refine w_getf (i := 0) (v := .ref (n0 + 7)) X13 hx hZ hown (wd22 hw) P13 rfl F1 2 rfl rfl (hb hby d7_81) (pc' := 84) rfl ?_
  intro T14 X14 P14
  refine w_iload X14 hx (hb hby d7_84) rfl (pc' := 86) rfl ?_
  refine w_iaload (i := 7) (jn := 3) (v := .int (0 : Int32)) X14 hx hZ P14 rfl hk7 (hb hby d7_86) (by decide) rfl (pc' := 87) rfl ?_
  refine w_i2l X14 hx (hb hby d7_87) (pc' := 88) rfl ?_
  refine w_eqJ (z := (0 : Int64)) (by decide) ?_
  refine w_lmul X14 hx (hb hby d7_88) (pc' := 89) rfl ?_
  refine w_eqJ (z := (0 : Int64)) (by decide) ?_
  refine w_lconst (v := (1 : Int64)) X14 hx (hb hby d7_89) rfl (pc' := 90) rfl ?_
  refine w_ladd X14 hx (hb hby d7_90) (pc' := 91) rfl ?_
  refine w_eqJ (z := (1 : Int64)) (by decide) ?_
  refine w_ladd X14 hx (hb hby d7_91) (pc' := 92) rfl ?_
  refine w_putf (i := 0) (ty := .long) X14 hx hZ hown (wd40 hw) N4 P14 rfl F1 (di_C0 hw) 6 rfl (Or.inl (wd41 hw)) (wd9 hw) (by decide) rfl rfl (hb hby d7_92) (pc' := 95) rfl ?_
  intro T15 L5 c2 N5 X15 P15 F2
  replace P15 : HP n0 T15.heap [c2, AC k1 [], AC k2 [], AC k3 [], AC k4 (List.map Value.int (pC.set pk (3 : Int32))), AC k5 (List.map Value.int (pS.set pk (2 : Int32))), AC k6 [.int py0, .int py1], AC k7 [.int pz0, .int pz1, .int pz2, .int (0 : Int32)]] := P15
  replace F2 : ObjF Z c2 "com/example/protomata/protomata/Partition" fl_C0 [.ref (n0 + 4), .ref (n0 + 5), .ref (n0 + 7), .int (Int32.ofNat pa), .int (2 : Int32), .int (4 : Int32), .long (psq + (1 : Int64))] := F2
  refine w_aloadN X15 hx (hb hby d7_95) rfl rfl (pc' := 96) rfl ?_
  refine w_getf (i := 0) (v := .ref (n0 + 7)) X15 hx hZ hown (wd22 hw) P15 rfl F2 2 rfl rfl (hb hby d7_96) (pc' := 99) rfl ?_
  intro T16 X16 P16
  refine w_iload X16 hx (hb hby d7_99) rfl (pc' := 101) rfl ?_
  refine w_dup2 X16 hx (hb hby d7_101) rfl rfl (pc' := 102) rfl ?_
  refine w_iaload (i := 7) (jn := 3) (v := .int (0 : Int32)) X16 hx hZ P16 rfl hk7 (hb hby d7_102) (by decide) rfl (pc' := 103) rfl ?_
  refine w_iconst (v := (1 : Int32)) X16 hx (hb hby d7_103) rfl (pc' := 104) rfl ?_
  refine w_iadd X16 hx (hb hby d7_104) (pc' := 105) rfl ?_
  refine w_eqI (z := (1 : Int32)) (by decide) ?_
  refine w_iastore (i := 7) (jn := 3) X16 hx hZ N5 P16 rfl hk7 (hb hby d7_105) (by decide) (Nat.le_of_ble_eq_true rfl) (pc' := 106) rfl ?_
  intro T17 L6 N6 X17 P17
  replace P17 : HP n0 T17.heap [c2, AC k1 [], AC k2 [], AC k3 [], AC k4 (List.map Value.int (pC.set pk (3 : Int32))), AC k5 (List.map Value.int (pS.set pk (2 : Int32))), AC k6 [.int py0, .int py1], AC k7 [.int pz0, .int pz1, .int pz2, .int (1 : Int32)]] := P17
  refine w_iload X17 hx (hb hby d7_106) rfl (pc' := 108) rfl ?_
  exact w_ret_i X17 hx hret hlk (hb hby d7_108) (by decide) (by decide) ⟨rfl, N6, c2, F2, P17⟩
theorem ef_htC0 (m : MethodId) (n0 : Nat) (pN : Nat) (py0 : Int32) (py1 : Int32) (pb : Nat) (pa : Nat) (pc_ : Nat) (pk : Nat) (psq : Int64) (pz0 : Int32) (pz1 : Int32) (pz2 : Int32) (pz3 : Int32) (pgc : Int32) : entryFrame m #[.ref (n0 + 0), .int (Int32.ofNat pb), .int (Int32.ofNat pc_)] 5 = mkF m 0 #[.val (.ref (n0 + 0)), .val (.int (Int32.ofNat pb)), .val (.int (Int32.ofNat pc_)), .unset, .unset] [] := by first | (simp [entryFrame, mkF, argsToLocals, Value.category]; done) | rfl
def Q_htC0 (Z : State) (n0 : Nat) (k1 : ClassId) (k2 : ClassId) (k3 : ClassId) (k4 : ClassId) (k5 : ClassId) (k6 : ClassId) (k7 : ClassId) (o0 : Jvm.Cell) (pC : List Int32) (pS : List Int32) (pN : Nat) (py0 : Int32) (py1 : Int32) (pb : Nat) (pa : Nat) (pc_ : Nat) (pk : Nat) (psq : Int64) (pz0 : Int32) (pz1 : Int32) (pz2 : Int32) (pz3 : Int32) (pgc : Int32) (v : Option Value) (h : Heap) (L : List Loc) : Prop := v = some (.int (0 : Int32)) ∧ Fr n0 L ∧ ∃ c1 : Jvm.Cell, ObjF Z c1 "com/example/protomata/protomata/Partition" fl_C0 [.ref (n0 + 4), .ref (n0 + 5), .ref (n0 + 7), .int (Int32.ofNat pa), .int (2 : Int32), .int pgc, .long (psq + (((2 : Int64) * (Int32.toInt64 pz0)) + (1 : Int64)))] ∧ HP n0 h [c1, AC k1 [], AC k2 [], AC k3 [], AC k4 (List.map Value.int pC), AC k5 (List.map Value.int pS), AC k6 [.int py0, .int py1], AC k7 [.int (pz0 + (1 : Int32)), .int pz1, .int pz2, .int pz3]]
set_option maxRecDepth 65536 in
set_option maxHeartbeats 40000000 in
theorem rm_htC0 (l : Launch) (Z : State) (a0 : Array Value) (hw : ∀ d ∈ tables_1, d.before a0 Z = true) (ws : List Jvm.Cond) (n0 : Nat) (k1 : ClassId) (k2 : ClassId) (k3 : ClassId) (k4 : ClassId) (k5 : ClassId) (k6 : ClassId) (k7 : ClassId) (o0 : Jvm.Cell) (pC : List Int32) (pS : List Int32) (pN : Nat) (py0 : Int32) (py1 : Int32) (pb : Nat) (pa : Nat) (pc_ : Nat) (pk : Nat) (psq : Int64) (pz0 : Int32) (pz1 : Int32) (pz2 : Int32) (pz3 : Int32) (pgc : Int32) (h0 : Heap) (P0 : HP n0 h0 [o0, AC k1 [], AC k2 [], AC k3 [], AC k4 (List.map Value.int pC), AC k5 (List.map Value.int pS), AC k6 [.int py0, .int py1], AC k7 [.int pz0, .int pz1, .int pz2, .int pz3]]) (hk1 : IsA Z k1 .int) (hk2 : IsA Z k2 .int) (hk3 : IsA Z k3 .int) (hk4 : IsA Z k4 .int) (hk5 : IsA Z k5 .int) (hk6 : IsA Z k6 .int) (hk7 : IsA Z k7 .int) (hpC : pC.length = pN) (hpS : pS.length = pN) (Fo0 : ObjF Z o0 "com/example/protomata/protomata/Partition" fl_C0 [.ref (n0 + 4), .ref (n0 + 5), .ref (n0 + 7), .int (Int32.ofNat pa), .int (2 : Int32), .int pgc, .long psq]) (hpk : pb * pa + pc_ = pk) (hpl : pk < pN) (hpN : pN ≤ 16) (hht : pS.getD pk 0 = (2 : Int32)) (hgr : pC.getD pk 0 = (0 : Int32)) :
    MetFree l (⟨"com/example/protomata/protomata/Partition", "put", "(II)I"⟩ : MethodName) (head1 (Jvm.Cond.code (⟨"com/example/protomata/protomata/Partition", "put", "(II)I"⟩ : MethodName) prog_101_method_3_code 5 (some .int) :: ws) ({ frames := 0, cells := 0, slots := 0, locals := 0 } : Room)) (fun aa U => aa = #[.ref (n0 + 0), .int (Int32.ofNat pb), .int (Int32.ofNat pc_)] ∧ Z.Warmed39 U.vm ∧ U.heap = h0) (fun _ _ _ _ _ => True) (fun _ U o U' => ∃ v L, o = .returned v ∧ Q_htC0 Z n0 k1 k2 k3 k4 k5 k6 k7 o0 pC pS pN py0 py1 pb pa pc_ pk psq pz0 pz1 pz2 pz3 pgc v U'.heap L ∧ FrameEnd U o U' L ({ frames := 0, cells := 0, slots := 0, locals := 0 } : Room).cells ({ frames := 0, cells := 0, slots := 0, locals := 0 } : Room).slots) := by
  refine own_body pn7 ?_
  intro p e s m below meth c T0 hx hby hml hret hlk hown hnm hZ X0 e0
  subst e0
  have N0 : Fr n0 [] := Fr.nil n0
  refine own_cast (ef_htC0 m n0 pN py0 py1 pb pa pc_ pk psq pz0 pz1 pz2 pz3 pgc) ?_
  refine w_iloadN X0 hx (hb hby d7_0) rfl (pc' := 1) rfl ?_
  refine w_aloadN X0 hx (hb hby d7_1) rfl rfl (pc' := 2) rfl ?_
  refine w_getf (i := 0) (v := .int (Int32.ofNat pa)) X0 hx hZ hown (wd29 hw) P0 rfl Fo0 3 rfl rfl (hb hby d7_2) (pc' := 5) rfl ?_
  intro T1 X1 P1
  refine w_imul X1 hx (hb hby d7_5) (pc' := 6) rfl ?_
  refine w_eqI (z := (Int32.ofNat (pb * pa))) (own_omul pb pa) ?_
  refine w_iloadN X1 hx (hb hby d7_6) rfl (pc' := 7) rfl ?_
  refine w_iadd X1 hx (hb hby d7_7) (pc' := 8) rfl ?_
  refine w_eqI (z := (Int32.ofNat ((pb * pa) + pc_))) (own_oadd (pb * pa) pc_) ?_
  refine w_eqI (z := (Int32.ofNat pk)) (congrArg Int32.ofNat hpk) ?_
  refine w_istoreN (l' := #[.val (.ref (n0 + 0)), .val (.int (Int32.ofNat pb)), .val (.int (Int32.ofNat pc_)), .val (.int (Int32.ofNat pk)), .unset]) X1 hx (hb hby d7_8) rfl (pc' := 9) rfl ?_
  refine w_aloadN X1 hx (hb hby d7_9) rfl rfl (pc' := 10) rfl ?_
  refine w_getf (i := 0) (v := .ref (n0 + 5)) X1 hx hZ hown (wd20 hw) P1 rfl Fo0 1 rfl rfl (hb hby d7_10) (pc' := 13) rfl ?_
  intro T2 X2 P2
  refine w_iloadN X2 hx (hb hby d7_13) rfl (pc' := 14) rfl ?_
  refine w_ialoadL (i := 5) (jn := pk) X2 hx hZ P2 rfl hk5 (hb hby d7_14) (own_oN (by omega)) (own_llt hpS (by omega)) (pc' := 15) rfl ?_
  refine w_aloadN X2 hx (hb hby d7_15) rfl rfl (pc' := 16) rfl ?_
  refine w_getf (i := 0) (v := .int (2 : Int32)) X2 hx hZ hown (wd35 hw) P2 rfl Fo0 4 rfl rfl (hb hby d7_16) (pc' := 19) rfl ?_
  intro T3 X3 P3
  refine w_icmp_ne X3 hx (hb hby d7_19) (by decide) (pcY := 33) (by decide) (pc' := 22) rfl (fun h0 => absurd hht h0) (fun h0 => ?_)
  refine w_aloadN X3 hx (hb hby d7_22) rfl rfl (pc' := 23) rfl ?_
  refine w_getf (i := 0) (v := .ref (n0 + 4)) X3 hx hZ hown (wd18 hw) P3 rfl Fo0 0 rfl rfl (hb hby d7_23) (pc' := 26) rfl ?_
  intro T4 X4 P4
  refine w_iloadN X4 hx (hb hby d7_26) rfl (pc' := 27) rfl ?_
  refine w_ialoadL (i := 4) (jn := pk) X4 hx hZ P4 rfl hk4 (hb hby d7_27) (own_oN (by omega)) (own_llt hpC (by omega)) (pc' := 28) rfl ?_
  refine w_eqI (z := (0 : Int32)) hgr ?_
  refine w_istore (l' := #[.val (.ref (n0 + 0)), .val (.int (Int32.ofNat pb)), .val (.int (Int32.ofNat pc_)), .val (.int (Int32.ofNat pk)), .val (.int (0 : Int32))]) X4 hx (hb hby d7_28) rfl (pc' := 30) rfl ?_
  refine w_goto X4 hx (hb hby d7_30) (by decide) (pc' := 72) (by decide) ?_
  refine w_aloadN X4 hx (hb hby d7_72) rfl rfl (pc' := 73) rfl ?_
  refine w_dup X4 hx (hb hby d7_73) rfl (pc' := 74) rfl ?_
  refine w_getf (i := 0) (v := .long psq) X4 hx hZ hown (wd40 hw) P4 rfl Fo0 6 rfl rfl (hb hby d7_74) (pc' := 77) rfl ?_
  intro T5 X5 P5
  refine w_ldc2 X5 hx (hb hby d7_77) hown (mvT hZ (wd47 hw)) (pc' := 80) rfl ?_
  refine w_aloadN X5 hx (hb hby d7_80) rfl rfl (pc' := 81) rfl ?_
  refine w_getf (i := 0) (v := .ref (n0 + 7)) X5 hx hZ hown (wd22 hw) P5 rfl Fo0 2 rfl rfl (hb hby d7_81) (pc' := 84) rfl ?_
  intro T6 X6 P6
  refine w_iload X6 hx (hb hby d7_84) rfl (pc' := 86) rfl ?_
  refine w_iaload (i := 7) (jn := 0) (v := .int pz0) X6 hx hZ P6 rfl hk7 (hb hby d7_86) (by decide) rfl (pc' := 87) rfl ?_
  refine w_i2l X6 hx (hb hby d7_87) (pc' := 88) rfl ?_
  refine w_lmul X6 hx (hb hby d7_88) (pc' := 89) rfl ?_
  refine w_lconst (v := (1 : Int64)) X6 hx (hb hby d7_89) rfl (pc' := 90) rfl ?_
  refine w_ladd X6 hx (hb hby d7_90) (pc' := 91) rfl ?_
  refine w_ladd X6 hx (hb hby d7_91) (pc' := 92) rfl ?_
  refine w_putf (i := 0) (ty := .long) X6 hx hZ hown (wd40 hw) N0 P6 rfl Fo0 (di_C0 hw) 6 rfl (Or.inl (wd41 hw)) (wd9 hw) (by decide) rfl rfl (hb hby d7_92) (pc' := 95) rfl ?_
  intro T7 L1 c1 N1 X7 P7 F1
  replace P7 : HP n0 T7.heap [c1, AC k1 [], AC k2 [], AC k3 [], AC k4 (List.map Value.int pC), AC k5 (List.map Value.int pS), AC k6 [.int py0, .int py1], AC k7 [.int pz0, .int pz1, .int pz2, .int pz3]] := P7
  replace F1 : ObjF Z c1 "com/example/protomata/protomata/Partition" fl_C0 [.ref (n0 + 4), .ref (n0 + 5), .ref (n0 + 7), .int (Int32.ofNat pa), .int (2 : Int32), .int pgc, .long (psq + (((2 : Int64) * (Int32.toInt64 pz0)) + (1 : Int64)))] := F1
  refine w_aloadN X7 hx (hb hby d7_95) rfl rfl (pc' := 96) rfl ?_
  refine w_getf (i := 0) (v := .ref (n0 + 7)) X7 hx hZ hown (wd22 hw) P7 rfl F1 2 rfl rfl (hb hby d7_96) (pc' := 99) rfl ?_
  intro T8 X8 P8
  refine w_iload X8 hx (hb hby d7_99) rfl (pc' := 101) rfl ?_
  refine w_dup2 X8 hx (hb hby d7_101) rfl rfl (pc' := 102) rfl ?_
  refine w_iaload (i := 7) (jn := 0) (v := .int pz0) X8 hx hZ P8 rfl hk7 (hb hby d7_102) (by decide) rfl (pc' := 103) rfl ?_
  refine w_iconst (v := (1 : Int32)) X8 hx (hb hby d7_103) rfl (pc' := 104) rfl ?_
  refine w_iadd X8 hx (hb hby d7_104) (pc' := 105) rfl ?_
  refine w_iastore (i := 7) (jn := 0) X8 hx hZ N1 P8 rfl hk7 (hb hby d7_105) (by decide) (Nat.le_of_ble_eq_true rfl) (pc' := 106) rfl ?_
  intro T9 L2 N2 X9 P9
  replace P9 : HP n0 T9.heap [c1, AC k1 [], AC k2 [], AC k3 [], AC k4 (List.map Value.int pC), AC k5 (List.map Value.int pS), AC k6 [.int py0, .int py1], AC k7 [.int (pz0 + (1 : Int32)), .int pz1, .int pz2, .int pz3]] := P9
  refine w_iload X9 hx (hb hby d7_106) rfl (pc' := 108) rfl ?_
  exact w_ret_i X9 hx hret hlk (hb hby d7_108) (by decide) (by decide) ⟨rfl, N2, c1, F1, P9⟩
theorem ef_htC1 (m : MethodId) (n0 : Nat) (pN : Nat) (py0 : Int32) (py1 : Int32) (pb : Nat) (pa : Nat) (pc_ : Nat) (pk : Nat) (psq : Int64) (pz0 : Int32) (pz1 : Int32) (pz2 : Int32) (pz3 : Int32) (pgc : Int32) : entryFrame m #[.ref (n0 + 0), .int (Int32.ofNat pb), .int (Int32.ofNat pc_)] 5 = mkF m 0 #[.val (.ref (n0 + 0)), .val (.int (Int32.ofNat pb)), .val (.int (Int32.ofNat pc_)), .unset, .unset] [] := by first | (simp [entryFrame, mkF, argsToLocals, Value.category]; done) | rfl
def Q_htC1 (Z : State) (n0 : Nat) (k1 : ClassId) (k2 : ClassId) (k3 : ClassId) (k4 : ClassId) (k5 : ClassId) (k6 : ClassId) (k7 : ClassId) (o0 : Jvm.Cell) (pC : List Int32) (pS : List Int32) (pN : Nat) (py0 : Int32) (py1 : Int32) (pb : Nat) (pa : Nat) (pc_ : Nat) (pk : Nat) (psq : Int64) (pz0 : Int32) (pz1 : Int32) (pz2 : Int32) (pz3 : Int32) (pgc : Int32) (v : Option Value) (h : Heap) (L : List Loc) : Prop := v = some (.int (1 : Int32)) ∧ Fr n0 L ∧ ∃ c1 : Jvm.Cell, ObjF Z c1 "com/example/protomata/protomata/Partition" fl_C0 [.ref (n0 + 4), .ref (n0 + 5), .ref (n0 + 7), .int (Int32.ofNat pa), .int (2 : Int32), .int pgc, .long (psq + (((2 : Int64) * (Int32.toInt64 pz1)) + (1 : Int64)))] ∧ HP n0 h [c1, AC k1 [], AC k2 [], AC k3 [], AC k4 (List.map Value.int pC), AC k5 (List.map Value.int pS), AC k6 [.int py0, .int py1], AC k7 [.int pz0, .int (pz1 + (1 : Int32)), .int pz2, .int pz3]]
set_option maxRecDepth 65536 in
set_option maxHeartbeats 40000000 in
theorem rm_htC1 (l : Launch) (Z : State) (a0 : Array Value) (hw : ∀ d ∈ tables_1, d.before a0 Z = true) (ws : List Jvm.Cond) (n0 : Nat) (k1 : ClassId) (k2 : ClassId) (k3 : ClassId) (k4 : ClassId) (k5 : ClassId) (k6 : ClassId) (k7 : ClassId) (o0 : Jvm.Cell) (pC : List Int32) (pS : List Int32) (pN : Nat) (py0 : Int32) (py1 : Int32) (pb : Nat) (pa : Nat) (pc_ : Nat) (pk : Nat) (psq : Int64) (pz0 : Int32) (pz1 : Int32) (pz2 : Int32) (pz3 : Int32) (pgc : Int32) (h0 : Heap) (P0 : HP n0 h0 [o0, AC k1 [], AC k2 [], AC k3 [], AC k4 (List.map Value.int pC), AC k5 (List.map Value.int pS), AC k6 [.int py0, .int py1], AC k7 [.int pz0, .int pz1, .int pz2, .int pz3]]) (hk1 : IsA Z k1 .int) (hk2 : IsA Z k2 .int) (hk3 : IsA Z k3 .int) (hk4 : IsA Z k4 .int) (hk5 : IsA Z k5 .int) (hk6 : IsA Z k6 .int) (hk7 : IsA Z k7 .int) (hpC : pC.length = pN) (hpS : pS.length = pN) (Fo0 : ObjF Z o0 "com/example/protomata/protomata/Partition" fl_C0 [.ref (n0 + 4), .ref (n0 + 5), .ref (n0 + 7), .int (Int32.ofNat pa), .int (2 : Int32), .int pgc, .long psq]) (hpk : pb * pa + pc_ = pk) (hpl : pk < pN) (hpN : pN ≤ 16) (hht : pS.getD pk 0 = (2 : Int32)) (hgr : pC.getD pk 0 = (1 : Int32)) :
    MetFree l (⟨"com/example/protomata/protomata/Partition", "put", "(II)I"⟩ : MethodName) (head1 (Jvm.Cond.code (⟨"com/example/protomata/protomata/Partition", "put", "(II)I"⟩ : MethodName) prog_101_method_3_code 5 (some .int) :: ws) ({ frames := 0, cells := 0, slots := 0, locals := 0 } : Room)) (fun aa U => aa = #[.ref (n0 + 0), .int (Int32.ofNat pb), .int (Int32.ofNat pc_)] ∧ Z.Warmed39 U.vm ∧ U.heap = h0) (fun _ _ _ _ _ => True) (fun _ U o U' => ∃ v L, o = .returned v ∧ Q_htC1 Z n0 k1 k2 k3 k4 k5 k6 k7 o0 pC pS pN py0 py1 pb pa pc_ pk psq pz0 pz1 pz2 pz3 pgc v U'.heap L ∧ FrameEnd U o U' L ({ frames := 0, cells := 0, slots := 0, locals := 0 } : Room).cells ({ frames := 0, cells := 0, slots := 0, locals := 0 } : Room).slots) := by
  refine own_body pn7 ?_
  intro p e s m below meth c T0 hx hby hml hret hlk hown hnm hZ X0 e0
  subst e0
  have N0 : Fr n0 [] := Fr.nil n0
  refine own_cast (ef_htC1 m n0 pN py0 py1 pb pa pc_ pk psq pz0 pz1 pz2 pz3 pgc) ?_
  refine w_iloadN X0 hx (hb hby d7_0) rfl (pc' := 1) rfl ?_
  refine w_aloadN X0 hx (hb hby d7_1) rfl rfl (pc' := 2) rfl ?_
  refine w_getf (i := 0) (v := .int (Int32.ofNat pa)) X0 hx hZ hown (wd29 hw) P0 rfl Fo0 3 rfl rfl (hb hby d7_2) (pc' := 5) rfl ?_
  intro T1 X1 P1
  refine w_imul X1 hx (hb hby d7_5) (pc' := 6) rfl ?_
  refine w_eqI (z := (Int32.ofNat (pb * pa))) (own_omul pb pa) ?_
  refine w_iloadN X1 hx (hb hby d7_6) rfl (pc' := 7) rfl ?_
  refine w_iadd X1 hx (hb hby d7_7) (pc' := 8) rfl ?_
  refine w_eqI (z := (Int32.ofNat ((pb * pa) + pc_))) (own_oadd (pb * pa) pc_) ?_
  refine w_eqI (z := (Int32.ofNat pk)) (congrArg Int32.ofNat hpk) ?_
  refine w_istoreN (l' := #[.val (.ref (n0 + 0)), .val (.int (Int32.ofNat pb)), .val (.int (Int32.ofNat pc_)), .val (.int (Int32.ofNat pk)), .unset]) X1 hx (hb hby d7_8) rfl (pc' := 9) rfl ?_
  refine w_aloadN X1 hx (hb hby d7_9) rfl rfl (pc' := 10) rfl ?_
  refine w_getf (i := 0) (v := .ref (n0 + 5)) X1 hx hZ hown (wd20 hw) P1 rfl Fo0 1 rfl rfl (hb hby d7_10) (pc' := 13) rfl ?_
  intro T2 X2 P2
  refine w_iloadN X2 hx (hb hby d7_13) rfl (pc' := 14) rfl ?_
  refine w_ialoadL (i := 5) (jn := pk) X2 hx hZ P2 rfl hk5 (hb hby d7_14) (own_oN (by omega)) (own_llt hpS (by omega)) (pc' := 15) rfl ?_
  refine w_aloadN X2 hx (hb hby d7_15) rfl rfl (pc' := 16) rfl ?_
  refine w_getf (i := 0) (v := .int (2 : Int32)) X2 hx hZ hown (wd35 hw) P2 rfl Fo0 4 rfl rfl (hb hby d7_16) (pc' := 19) rfl ?_
  intro T3 X3 P3
  refine w_icmp_ne X3 hx (hb hby d7_19) (by decide) (pcY := 33) (by decide) (pc' := 22) rfl (fun h0 => absurd hht h0) (fun h0 => ?_)
  refine w_aloadN X3 hx (hb hby d7_22) rfl rfl (pc' := 23) rfl ?_
  refine w_getf (i := 0) (v := .ref (n0 + 4)) X3 hx hZ hown (wd18 hw) P3 rfl Fo0 0 rfl rfl (hb hby d7_23) (pc' := 26) rfl ?_
  intro T4 X4 P4
  refine w_iloadN X4 hx (hb hby d7_26) rfl (pc' := 27) rfl ?_
  refine w_ialoadL (i := 4) (jn := pk) X4 hx hZ P4 rfl hk4 (hb hby d7_27) (own_oN (by omega)) (own_llt hpC (by omega)) (pc' := 28) rfl ?_
  refine w_eqI (z := (1 : Int32)) hgr ?_
  refine w_istore (l' := #[.val (.ref (n0 + 0)), .val (.int (Int32.ofNat pb)), .val (.int (Int32.ofNat pc_)), .val (.int (Int32.ofNat pk)), .val (.int (1 : Int32))]) X4 hx (hb hby d7_28) rfl (pc' := 30) rfl ?_
  refine w_goto X4 hx (hb hby d7_30) (by decide) (pc' := 72) (by decide) ?_
  refine w_aloadN X4 hx (hb hby d7_72) rfl rfl (pc' := 73) rfl ?_
  refine w_dup X4 hx (hb hby d7_73) rfl (pc' := 74) rfl ?_
  refine w_getf (i := 0) (v := .long psq) X4 hx hZ hown (wd40 hw) P4 rfl Fo0 6 rfl rfl (hb hby d7_74) (pc' := 77) rfl ?_
  intro T5 X5 P5
  refine w_ldc2 X5 hx (hb hby d7_77) hown (mvT hZ (wd47 hw)) (pc' := 80) rfl ?_
  refine w_aloadN X5 hx (hb hby d7_80) rfl rfl (pc' := 81) rfl ?_
  refine w_getf (i := 0) (v := .ref (n0 + 7)) X5 hx hZ hown (wd22 hw) P5 rfl Fo0 2 rfl rfl (hb hby d7_81) (pc' := 84) rfl ?_
  intro T6 X6 P6
  refine w_iload X6 hx (hb hby d7_84) rfl (pc' := 86) rfl ?_
  refine w_iaload (i := 7) (jn := 1) (v := .int pz1) X6 hx hZ P6 rfl hk7 (hb hby d7_86) (by decide) rfl (pc' := 87) rfl ?_
  refine w_i2l X6 hx (hb hby d7_87) (pc' := 88) rfl ?_
  refine w_lmul X6 hx (hb hby d7_88) (pc' := 89) rfl ?_
  refine w_lconst (v := (1 : Int64)) X6 hx (hb hby d7_89) rfl (pc' := 90) rfl ?_
  refine w_ladd X6 hx (hb hby d7_90) (pc' := 91) rfl ?_
  refine w_ladd X6 hx (hb hby d7_91) (pc' := 92) rfl ?_
  refine w_putf (i := 0) (ty := .long) X6 hx hZ hown (wd40 hw) N0 P6 rfl Fo0 (di_C0 hw) 6 rfl (Or.inl (wd41 hw)) (wd9 hw) (by decide) rfl rfl (hb hby d7_92) (pc' := 95) rfl ?_
  intro T7 L1 c1 N1 X7 P7 F1
  replace P7 : HP n0 T7.heap [c1, AC k1 [], AC k2 [], AC k3 [], AC k4 (List.map Value.int pC), AC k5 (List.map Value.int pS), AC k6 [.int py0, .int py1], AC k7 [.int pz0, .int pz1, .int pz2, .int pz3]] := P7
  replace F1 : ObjF Z c1 "com/example/protomata/protomata/Partition" fl_C0 [.ref (n0 + 4), .ref (n0 + 5), .ref (n0 + 7), .int (Int32.ofNat pa), .int (2 : Int32), .int pgc, .long (psq + (((2 : Int64) * (Int32.toInt64 pz1)) + (1 : Int64)))] := F1
  refine w_aloadN X7 hx (hb hby d7_95) rfl rfl (pc' := 96) rfl ?_
  refine w_getf (i := 0) (v := .ref (n0 + 7)) X7 hx hZ hown (wd22 hw) P7 rfl F1 2 rfl rfl (hb hby d7_96) (pc' := 99) rfl ?_
  intro T8 X8 P8
  refine w_iload X8 hx (hb hby d7_99) rfl (pc' := 101) rfl ?_
  refine w_dup2 X8 hx (hb hby d7_101) rfl rfl (pc' := 102) rfl ?_
  refine w_iaload (i := 7) (jn := 1) (v := .int pz1) X8 hx hZ P8 rfl hk7 (hb hby d7_102) (by decide) rfl (pc' := 103) rfl ?_
  refine w_iconst (v := (1 : Int32)) X8 hx (hb hby d7_103) rfl (pc' := 104) rfl ?_
  refine w_iadd X8 hx (hb hby d7_104) (pc' := 105) rfl ?_
  refine w_iastore (i := 7) (jn := 1) X8 hx hZ N1 P8 rfl hk7 (hb hby d7_105) (by decide) (Nat.le_of_ble_eq_true rfl) (pc' := 106) rfl ?_
  intro T9 L2 N2 X9 P9
  replace P9 : HP n0 T9.heap [c1, AC k1 [], AC k2 [], AC k3 [], AC k4 (List.map Value.int pC), AC k5 (List.map Value.int pS), AC k6 [.int py0, .int py1], AC k7 [.int pz0, .int (pz1 + (1 : Int32)), .int pz2, .int pz3]] := P9
  refine w_iload X9 hx (hb hby d7_106) rfl (pc' := 108) rfl ?_
  exact w_ret_i X9 hx hret hlk (hb hby d7_108) (by decide) (by decide) ⟨rfl, N2, c1, F1, P9⟩
theorem ef_htC2 (m : MethodId) (n0 : Nat) (pN : Nat) (py0 : Int32) (py1 : Int32) (pb : Nat) (pa : Nat) (pc_ : Nat) (pk : Nat) (psq : Int64) (pz0 : Int32) (pz1 : Int32) (pz2 : Int32) (pz3 : Int32) (pgc : Int32) : entryFrame m #[.ref (n0 + 0), .int (Int32.ofNat pb), .int (Int32.ofNat pc_)] 5 = mkF m 0 #[.val (.ref (n0 + 0)), .val (.int (Int32.ofNat pb)), .val (.int (Int32.ofNat pc_)), .unset, .unset] [] := by first | (simp [entryFrame, mkF, argsToLocals, Value.category]; done) | rfl
def Q_htC2 (Z : State) (n0 : Nat) (k1 : ClassId) (k2 : ClassId) (k3 : ClassId) (k4 : ClassId) (k5 : ClassId) (k6 : ClassId) (k7 : ClassId) (o0 : Jvm.Cell) (pC : List Int32) (pS : List Int32) (pN : Nat) (py0 : Int32) (py1 : Int32) (pb : Nat) (pa : Nat) (pc_ : Nat) (pk : Nat) (psq : Int64) (pz0 : Int32) (pz1 : Int32) (pz2 : Int32) (pz3 : Int32) (pgc : Int32) (v : Option Value) (h : Heap) (L : List Loc) : Prop := v = some (.int (2 : Int32)) ∧ Fr n0 L ∧ ∃ c1 : Jvm.Cell, ObjF Z c1 "com/example/protomata/protomata/Partition" fl_C0 [.ref (n0 + 4), .ref (n0 + 5), .ref (n0 + 7), .int (Int32.ofNat pa), .int (2 : Int32), .int pgc, .long (psq + (((2 : Int64) * (Int32.toInt64 pz2)) + (1 : Int64)))] ∧ HP n0 h [c1, AC k1 [], AC k2 [], AC k3 [], AC k4 (List.map Value.int pC), AC k5 (List.map Value.int pS), AC k6 [.int py0, .int py1], AC k7 [.int pz0, .int pz1, .int (pz2 + (1 : Int32)), .int pz3]]
set_option maxRecDepth 65536 in
set_option maxHeartbeats 40000000 in
theorem rm_htC2 (l : Launch) (Z : State) (a0 : Array Value) (hw : ∀ d ∈ tables_1, d.before a0 Z = true) (ws : List Jvm.Cond) (n0 : Nat) (k1 : ClassId) (k2 : ClassId) (k3 : ClassId) (k4 : ClassId) (k5 : ClassId) (k6 : ClassId) (k7 : ClassId) (o0 : Jvm.Cell) (pC : List Int32) (pS : List Int32) (pN : Nat) (py0 : Int32) (py1 : Int32) (pb : Nat) (pa : Nat) (pc_ : Nat) (pk : Nat) (psq : Int64) (pz0 : Int32) (pz1 : Int32) (pz2 : Int32) (pz3 : Int32) (pgc : Int32) (h0 : Heap) (P0 : HP n0 h0 [o0, AC k1 [], AC k2 [], AC k3 [], AC k4 (List.map Value.int pC), AC k5 (List.map Value.int pS), AC k6 [.int py0, .int py1], AC k7 [.int pz0, .int pz1, .int pz2, .int pz3]]) (hk1 : IsA Z k1 .int) (hk2 : IsA Z k2 .int) (hk3 : IsA Z k3 .int) (hk4 : IsA Z k4 .int) (hk5 : IsA Z k5 .int) (hk6 : IsA Z k6 .int) (hk7 : IsA Z k7 .int) (hpC : pC.length = pN) (hpS : pS.length = pN) (Fo0 : ObjF Z o0 "com/example/protomata/protomata/Partition" fl_C0 [.ref (n0 + 4), .ref (n0 + 5), .ref (n0 + 7), .int (Int32.ofNat pa), .int (2 : Int32), .int pgc, .long psq]) (hpk : pb * pa + pc_ = pk) (hpl : pk < pN) (hpN : pN ≤ 16) (hht : pS.getD pk 0 = (2 : Int32)) (hgr : pC.getD pk 0 = (2 : Int32)) :
    MetFree l (⟨"com/example/protomata/protomata/Partition", "put", "(II)I"⟩ : MethodName) (head1 (Jvm.Cond.code (⟨"com/example/protomata/protomata/Partition", "put", "(II)I"⟩ : MethodName) prog_101_method_3_code 5 (some .int) :: ws) ({ frames := 0, cells := 0, slots := 0, locals := 0 } : Room)) (fun aa U => aa = #[.ref (n0 + 0), .int (Int32.ofNat pb), .int (Int32.ofNat pc_)] ∧ Z.Warmed39 U.vm ∧ U.heap = h0) (fun _ _ _ _ _ => True) (fun _ U o U' => ∃ v L, o = .returned v ∧ Q_htC2 Z n0 k1 k2 k3 k4 k5 k6 k7 o0 pC pS pN py0 py1 pb pa pc_ pk psq pz0 pz1 pz2 pz3 pgc v U'.heap L ∧ FrameEnd U o U' L ({ frames := 0, cells := 0, slots := 0, locals := 0 } : Room).cells ({ frames := 0, cells := 0, slots := 0, locals := 0 } : Room).slots) := by
  refine own_body pn7 ?_
  intro p e s m below meth c T0 hx hby hml hret hlk hown hnm hZ X0 e0
  subst e0
  have N0 : Fr n0 [] := Fr.nil n0
  refine own_cast (ef_htC2 m n0 pN py0 py1 pb pa pc_ pk psq pz0 pz1 pz2 pz3 pgc) ?_
  refine w_iloadN X0 hx (hb hby d7_0) rfl (pc' := 1) rfl ?_
  refine w_aloadN X0 hx (hb hby d7_1) rfl rfl (pc' := 2) rfl ?_
  refine w_getf (i := 0) (v := .int (Int32.ofNat pa)) X0 hx hZ hown (wd29 hw) P0 rfl Fo0 3 rfl rfl (hb hby d7_2) (pc' := 5) rfl ?_
  intro T1 X1 P1
  refine w_imul X1 hx (hb hby d7_5) (pc' := 6) rfl ?_
  refine w_eqI (z := (Int32.ofNat (pb * pa))) (own_omul pb pa) ?_
  refine w_iloadN X1 hx (hb hby d7_6) rfl (pc' := 7) rfl ?_
  refine w_iadd X1 hx (hb hby d7_7) (pc' := 8) rfl ?_
  refine w_eqI (z := (Int32.ofNat ((pb * pa) + pc_))) (own_oadd (pb * pa) pc_) ?_
  refine w_eqI (z := (Int32.ofNat pk)) (congrArg Int32.ofNat hpk) ?_
  refine w_istoreN (l' := #[.val (.ref (n0 + 0)), .val (.int (Int32.ofNat pb)), .val (.int (Int32.ofNat pc_)), .val (.int (Int32.ofNat pk)), .unset]) X1 hx (hb hby d7_8) rfl (pc' := 9) rfl ?_
  refine w_aloadN X1 hx (hb hby d7_9) rfl rfl (pc' := 10) rfl ?_
  refine w_getf (i := 0) (v := .ref (n0 + 5)) X1 hx hZ hown (wd20 hw) P1 rfl Fo0 1 rfl rfl (hb hby d7_10) (pc' := 13) rfl ?_
  intro T2 X2 P2
  refine w_iloadN X2 hx (hb hby d7_13) rfl (pc' := 14) rfl ?_
  refine w_ialoadL (i := 5) (jn := pk) X2 hx hZ P2 rfl hk5 (hb hby d7_14) (own_oN (by omega)) (own_llt hpS (by omega)) (pc' := 15) rfl ?_
  refine w_aloadN X2 hx (hb hby d7_15) rfl rfl (pc' := 16) rfl ?_
  refine w_getf (i := 0) (v := .int (2 : Int32)) X2 hx hZ hown (wd35 hw) P2 rfl Fo0 4 rfl rfl (hb hby d7_16) (pc' := 19) rfl ?_
  intro T3 X3 P3
  refine w_icmp_ne X3 hx (hb hby d7_19) (by decide) (pcY := 33) (by decide) (pc' := 22) rfl (fun h0 => absurd hht h0) (fun h0 => ?_)
  refine w_aloadN X3 hx (hb hby d7_22) rfl rfl (pc' := 23) rfl ?_
  refine w_getf (i := 0) (v := .ref (n0 + 4)) X3 hx hZ hown (wd18 hw) P3 rfl Fo0 0 rfl rfl (hb hby d7_23) (pc' := 26) rfl ?_
  intro T4 X4 P4
  refine w_iloadN X4 hx (hb hby d7_26) rfl (pc' := 27) rfl ?_
  refine w_ialoadL (i := 4) (jn := pk) X4 hx hZ P4 rfl hk4 (hb hby d7_27) (own_oN (by omega)) (own_llt hpC (by omega)) (pc' := 28) rfl ?_
  refine w_eqI (z := (2 : Int32)) hgr ?_
  refine w_istore (l' := #[.val (.ref (n0 + 0)), .val (.int (Int32.ofNat pb)), .val (.int (Int32.ofNat pc_)), .val (.int (Int32.ofNat pk)), .val (.int (2 : Int32))]) X4 hx (hb hby d7_28) rfl (pc' := 30) rfl ?_
  refine w_goto X4 hx (hb hby d7_30) (by decide) (pc' := 72) (by decide) ?_
  refine w_aloadN X4 hx (hb hby d7_72) rfl rfl (pc' := 73) rfl ?_
  refine w_dup X4 hx (hb hby d7_73) rfl (pc' := 74) rfl ?_
  refine w_getf (i := 0) (v := .long psq) X4 hx hZ hown (wd40 hw) P4 rfl Fo0 6 rfl rfl (hb hby d7_74) (pc' := 77) rfl ?_
  intro T5 X5 P5
  refine w_ldc2 X5 hx (hb hby d7_77) hown (mvT hZ (wd47 hw)) (pc' := 80) rfl ?_
  refine w_aloadN X5 hx (hb hby d7_80) rfl rfl (pc' := 81) rfl ?_
  refine w_getf (i := 0) (v := .ref (n0 + 7)) X5 hx hZ hown (wd22 hw) P5 rfl Fo0 2 rfl rfl (hb hby d7_81) (pc' := 84) rfl ?_
  intro T6 X6 P6
  refine w_iload X6 hx (hb hby d7_84) rfl (pc' := 86) rfl ?_
  refine w_iaload (i := 7) (jn := 2) (v := .int pz2) X6 hx hZ P6 rfl hk7 (hb hby d7_86) (by decide) rfl (pc' := 87) rfl ?_
  refine w_i2l X6 hx (hb hby d7_87) (pc' := 88) rfl ?_
  refine w_lmul X6 hx (hb hby d7_88) (pc' := 89) rfl ?_
  refine w_lconst (v := (1 : Int64)) X6 hx (hb hby d7_89) rfl (pc' := 90) rfl ?_
  refine w_ladd X6 hx (hb hby d7_90) (pc' := 91) rfl ?_
  refine w_ladd X6 hx (hb hby d7_91) (pc' := 92) rfl ?_
  refine w_putf (i := 0) (ty := .long) X6 hx hZ hown (wd40 hw) N0 P6 rfl Fo0 (di_C0 hw) 6 rfl (Or.inl (wd41 hw)) (wd9 hw) (by decide) rfl rfl (hb hby d7_92) (pc' := 95) rfl ?_
  intro T7 L1 c1 N1 X7 P7 F1
  replace P7 : HP n0 T7.heap [c1, AC k1 [], AC k2 [], AC k3 [], AC k4 (List.map Value.int pC), AC k5 (List.map Value.int pS), AC k6 [.int py0, .int py1], AC k7 [.int pz0, .int pz1, .int pz2, .int pz3]] := P7
  replace F1 : ObjF Z c1 "com/example/protomata/protomata/Partition" fl_C0 [.ref (n0 + 4), .ref (n0 + 5), .ref (n0 + 7), .int (Int32.ofNat pa), .int (2 : Int32), .int pgc, .long (psq + (((2 : Int64) * (Int32.toInt64 pz2)) + (1 : Int64)))] := F1
  refine w_aloadN X7 hx (hb hby d7_95) rfl rfl (pc' := 96) rfl ?_
  refine w_getf (i := 0) (v := .ref (n0 + 7)) X7 hx hZ hown (wd22 hw) P7 rfl F1 2 rfl rfl (hb hby d7_96) (pc' := 99) rfl ?_
  intro T8 X8 P8
  refine w_iload X8 hx (hb hby d7_99) rfl (pc' := 101) rfl ?_
  refine w_dup2 X8 hx (hb hby d7_101) rfl rfl (pc' := 102) rfl ?_
  refine w_iaload (i := 7) (jn := 2) (v := .int pz2) X8 hx hZ P8 rfl hk7 (hb hby d7_102) (by decide) rfl (pc' := 103) rfl ?_
  refine w_iconst (v := (1 : Int32)) X8 hx (hb hby d7_103) rfl (pc' := 104) rfl ?_
  refine w_iadd X8 hx (hb hby d7_104) (pc' := 105) rfl ?_
  refine w_iastore (i := 7) (jn := 2) X8 hx hZ N1 P8 rfl hk7 (hb hby d7_105) (by decide) (Nat.le_of_ble_eq_true rfl) (pc' := 106) rfl ?_
  intro T9 L2 N2 X9 P9
  replace P9 : HP n0 T9.heap [c1, AC k1 [], AC k2 [], AC k3 [], AC k4 (List.map Value.int pC), AC k5 (List.map Value.int pS), AC k6 [.int py0, .int py1], AC k7 [.int pz0, .int pz1, .int (pz2 + (1 : Int32)), .int pz3]] := P9
  refine w_iload X9 hx (hb hby d7_106) rfl (pc' := 108) rfl ?_
  exact w_ret_i X9 hx hret hlk (hb hby d7_108) (by decide) (by decide) ⟨rfl, N2, c1, F1, P9⟩
def own_r1 (s10 : Int32) : Int32 := if s10 = 0 then 1 else 0
def own_n1 (s10 : Int32) : Int32 := if s10 = 0 then 2 else 1
def own_r2 (s10 s20 s21 : Int32) : Int32 := if s20 = 0 then (if s21 = 0 then own_n1 s10 else own_r1 s10) else 0
def own_n2 (s10 s20 s21 : Int32) : Int32 := if s20 = 0 then (if s21 = 0 then own_n1 s10 + 1 else own_n1 s10) else own_n1 s10
def own_r3 (s10 s20 s21 s30 s31 s32 : Int32) : Int32 := if s30 = 0 then (if s31 = 0 then (if s32 = 0 then own_n2 s10 s20 s21 else own_r2 s10 s20 s21) else own_r1 s10) else 0
def own_n3 (s10 s20 s21 s30 s31 s32 : Int32) : Int32 := if s30 = 0 then (if s31 = 0 then (if s32 = 0 then own_n2 s10 s20 s21 + 1 else own_n2 s10 s20 s21) else own_n2 s10 s20 s21) else own_n2 s10 s20 s21
def own_sq (s10 s20 s21 s30 s31 s32 : Int32) : Int64 := 4 + 2 * Int32.toInt64 (((((sp9 s10 + sp9 s20) + sp9 s21) + sp9 s30) + sp9 s31) + sp9 s32)
theorem d10_0 : decode prog_101_method_4_code 0 = .ok (.aload_n 0, 1) := by decide +kernel
theorem d10_1 : decode prog_101_method_4_code 1 = .ok (.getfield 41, 3) := by decide +kernel
theorem d10_4 : decode prog_101_method_4_code 4 = .ok (.ireturn, 1) := by decide +kernel
theorem pn10 : plainFor (⟨"com/example/protomata/protomata/Partition", "groupCount", "()I"⟩ : MethodName) = true := plainFor_of_name (by first | (simp [plainName, overriddenIn]; done) | decide +kernel)
theorem pd10 : parseMethodDescriptor (⟨"com/example/protomata/protomata/Partition", "groupCount", "()I"⟩ : MethodName).desc = some ⟨[], some .int⟩ := by decide +kernel
def Q_rm10_0 (Z : State) (n0 : Nat) (o0 : Jvm.Cell) (u0 : Addr) (u1 : Addr) (u2 : Addr) (u3 : Int32) (u4 : Int32) (u5 : Int32) (u6 : Int64) (cr : List Jvm.Cell) (v : Option Value) (h : Heap) (L : List Loc) : Prop := v = some (.int u5) ∧ Fr n0 L ∧ HP n0 h (o0 :: cr)
theorem ef_rm10_0 (m : MethodId) (n0 : Nat) (u0 : Addr) (u1 : Addr) (u2 : Addr) (u3 : Int32) (u4 : Int32) (u5 : Int32) (u6 : Int64) : entryFrame m #[.ref (n0 + 0)] 1 = mkF m 0 #[.val (.ref (n0 + 0))] [] := by first | (simp [entryFrame, mkF, argsToLocals, Value.category]; done) | rfl
set_option maxRecDepth 65536 in
set_option maxHeartbeats 40000000 in
theorem rm10_0 (l : Launch) (Z : State) (a0 : Array Value) (hw : ∀ d ∈ tables_1, d.before a0 Z = true) (ws : List Jvm.Cond) (n0 : Nat) (o0 : Jvm.Cell) (u0 : Addr) (u1 : Addr) (u2 : Addr) (u3 : Int32) (u4 : Int32) (u5 : Int32) (u6 : Int64) (Fo0 : ObjF Z o0 "com/example/protomata/protomata/Partition" fl_C0 [.ref u0, .ref u1, .ref u2, .int u3, .int u4, .int u5, .long u6]) (cr : List Jvm.Cell) (h0 : Heap) (P0 : HP n0 h0 (o0 :: cr)) :
    MetFree l (⟨"com/example/protomata/protomata/Partition", "groupCount", "()I"⟩ : MethodName) (head1 (Jvm.Cond.code (⟨"com/example/protomata/protomata/Partition", "groupCount", "()I"⟩ : MethodName) prog_101_method_4_code 1 (some .int) :: ws) ({ frames := 0, cells := 0, slots := 0, locals := 0 } : Room)) (fun aa U => aa = #[.ref (n0 + 0)] ∧ Z.Warmed39 U.vm ∧ U.heap = h0) (fun _ _ _ _ _ => True) (fun _ U o U' => ∃ v L, o = .returned v ∧ Q_rm10_0 Z n0 o0 u0 u1 u2 u3 u4 u5 u6 cr v U'.heap L ∧ FrameEnd U o U' L ({ frames := 0, cells := 0, slots := 0, locals := 0 } : Room).cells ({ frames := 0, cells := 0, slots := 0, locals := 0 } : Room).slots) := by
  refine own_body pn10 ?_
  intro p e s m below meth c T0 hx hby hml hret hlk hown hnm hZ X0 e0
  subst e0
  have N0 : Fr n0 [] := Fr.nil n0
  refine own_cast (ef_rm10_0 m n0 u0 u1 u2 u3 u4 u5 u6) ?_
  refine w_aloadN X0 hx (hb hby d10_0) rfl rfl (pc' := 1) rfl ?_
  refine w_getf (i := 0) (v := .int u5) X0 hx hZ hown (wd38 hw) P0 rfl Fo0 5 rfl rfl (hb hby d10_1) (pc' := 4) rfl ?_
  intro T1 X1 P1
  exact w_ret_i X1 hx hret hlk (hb hby d10_4) (by decide) (by decide) ⟨rfl, N0, P1⟩
theorem d11_0 : decode prog_101_method_6_code 0 = .ok (.aload_n 0, 1) := by decide +kernel
theorem d11_1 : decode prog_101_method_6_code 1 = .ok (.getfield 44, 3) := by decide +kernel
theorem d11_4 : decode prog_101_method_6_code 4 = .ok (.lreturn, 1) := by decide +kernel
theorem pn11 : plainFor (⟨"com/example/protomata/protomata/Partition", "squares", "()J"⟩ : MethodName) = true := plainFor_of_name (by first | (simp [plainName, overriddenIn]; done) | decide +kernel)
theorem pd11 : parseMethodDescriptor (⟨"com/example/protomata/protomata/Partition", "squares", "()J"⟩ : MethodName).desc = some ⟨[], some .long⟩ := by decide +kernel
def Q_rm11_1 (Z : State) (n0 : Nat) (o0 : Jvm.Cell) (u0 : Addr) (u1 : Addr) (u2 : Addr) (u3 : Int32) (u4 : Int32) (u5 : Int32) (u6 : Int64) (cr : List Jvm.Cell) (v : Option Value) (h : Heap) (L : List Loc) : Prop := v = some (.long u6) ∧ Fr n0 L ∧ HP n0 h (o0 :: cr)
theorem ef_rm11_1 (m : MethodId) (n0 : Nat) (u0 : Addr) (u1 : Addr) (u2 : Addr) (u3 : Int32) (u4 : Int32) (u5 : Int32) (u6 : Int64) : entryFrame m #[.ref (n0 + 0)] 1 = mkF m 0 #[.val (.ref (n0 + 0))] [] := by first | (simp [entryFrame, mkF, argsToLocals, Value.category]; done) | rfl
set_option maxRecDepth 65536 in
set_option maxHeartbeats 40000000 in
theorem rm11_1 (l : Launch) (Z : State) (a0 : Array Value) (hw : ∀ d ∈ tables_1, d.before a0 Z = true) (ws : List Jvm.Cond) (n0 : Nat) (o0 : Jvm.Cell) (u0 : Addr) (u1 : Addr) (u2 : Addr) (u3 : Int32) (u4 : Int32) (u5 : Int32) (u6 : Int64) (Fo0 : ObjF Z o0 "com/example/protomata/protomata/Partition" fl_C0 [.ref u0, .ref u1, .ref u2, .int u3, .int u4, .int u5, .long u6]) (cr : List Jvm.Cell) (h0 : Heap) (P0 : HP n0 h0 (o0 :: cr)) :
    MetFree l (⟨"com/example/protomata/protomata/Partition", "squares", "()J"⟩ : MethodName) (head1 (Jvm.Cond.code (⟨"com/example/protomata/protomata/Partition", "squares", "()J"⟩ : MethodName) prog_101_method_6_code 1 (some .long) :: ws) ({ frames := 0, cells := 0, slots := 0, locals := 0 } : Room)) (fun aa U => aa = #[.ref (n0 + 0)] ∧ Z.Warmed39 U.vm ∧ U.heap = h0) (fun _ _ _ _ _ => True) (fun _ U o U' => ∃ v L, o = .returned v ∧ Q_rm11_1 Z n0 o0 u0 u1 u2 u3 u4 u5 u6 cr v U'.heap L ∧ FrameEnd U o U' L ({ frames := 0, cells := 0, slots := 0, locals := 0 } : Room).cells ({ frames := 0, cells := 0, slots := 0, locals := 0 } : Room).slots) := by
  refine own_body pn11 ?_
  intro p e s m below meth c T0 hx hby hml hret hlk hown hnm hZ X0 e0
  subst e0
  have N0 : Fr n0 [] := Fr.nil n0
  refine own_cast (ef_rm11_1 m n0 u0 u1 u2 u3 u4 u5 u6) ?_
  refine w_aloadN X0 hx (hb hby d11_0) rfl rfl (pc' := 1) rfl ?_
  refine w_getf (i := 0) (v := .long u6) X0 hx hZ hown (wd40 hw) P0 rfl Fo0 6 rfl rfl (hb hby d11_1) (pc' := 4) rfl ?_
  intro T1 X1 P1
  exact w_ret_l X1 hx hret hlk (hb hby d11_4) (by decide) (by decide) ⟨rfl, N0, P1⟩
theorem d3_0 : decode prog_101_method_1_code 0 = .ok (.aload_n 0, 1) := by decide +kernel
theorem d3_1 : decode prog_101_method_1_code 1 = .ok (.invokespecial 1, 3) := by decide +kernel
theorem d3_4 : decode prog_101_method_1_code 4 = .ok (.aload_n 0, 1) := by decide +kernel
theorem d3_5 : decode prog_101_method_1_code 5 = .ok (.iconst 0, 1) := by decide +kernel
theorem d3_6 : decode prog_101_method_1_code 6 = .ok (.newarray .int, 2) := by decide +kernel
theorem d3_8 : decode prog_101_method_1_code 8 = .ok (.putfield 7, 3) := by decide +kernel
theorem d3_11 : decode prog_101_method_1_code 11 = .ok (.aload_n 0, 1) := by decide +kernel
theorem d3_12 : decode prog_101_method_1_code 12 = .ok (.iconst 0, 1) := by decide +kernel
theorem d3_13 : decode prog_101_method_1_code 13 = .ok (.newarray .int, 2) := by decide +kernel
theorem d3_15 : decode prog_101_method_1_code 15 = .ok (.putfield 13, 3) := by decide +kernel
theorem d3_18 : decode prog_101_method_1_code 18 = .ok (.aload_n 0, 1) := by decide +kernel
theorem d3_19 : decode prog_101_method_1_code 19 = .ok (.iconst 0, 1) := by decide +kernel
theorem d3_20 : decode prog_101_method_1_code 20 = .ok (.newarray .int, 2) := by decide +kernel
theorem d3_22 : decode prog_101_method_1_code 22 = .ok (.putfield 16, 3) := by decide +kernel
theorem d3_25 : decode prog_101_method_1_code 25 = .ok (.return_, 1) := by decide +kernel
theorem pn3 : plainFor (⟨"com/example/protomata/protomata/Partition", "<init>", "()V"⟩ : MethodName) = true := plainFor_of_name (by first | (simp [plainName, overriddenIn]; done) | decide +kernel)
theorem pd3 : parseMethodDescriptor (⟨"com/example/protomata/protomata/Partition", "<init>", "()V"⟩ : MethodName).desc = some ⟨[], none⟩ := by decide +kernel
def Q_rm3_2 (Z : State) (n0 : Nat) (o0 : Jvm.Cell) (v : Option Value) (h : Heap) (L : List Loc) : Prop := v = none ∧ Fr n0 L ∧ ∃ c6 : Jvm.Cell, ObjF Z c6 "com/example/protomata/protomata/Partition" fl_C0 [.ref (n0 + 1), .ref (n0 + 2), .ref (n0 + 3), .int (0 : Int32), .int (0 : Int32), .int (0 : Int32), .long (0 : Int64)] ∧ ∃ kA1 : ClassId, IsA Z kA1 .int ∧ ∃ kA3 : ClassId, IsA Z kA3 .int ∧ ∃ kA5 : ClassId, IsA Z kA5 .int ∧ HP n0 h [c6, AC kA1 [], AC kA3 [], AC kA5 []]
theorem ef_rm3_2 (m : MethodId) (n0 : Nat) : entryFrame m #[.ref (n0 + 0)] 1 = mkF m 0 #[.val (.ref (n0 + 0))] [] := by first | (simp [entryFrame, mkF, argsToLocals, Value.category]; done) | rfl
set_option maxRecDepth 65536 in
set_option maxHeartbeats 40000000 in
theorem rm3_2 (l : Launch) (Z : State) (a0 : Array Value) (hw : ∀ d ∈ tables_1, d.before a0 Z = true) (ws : List Jvm.Cond) (n0 : Nat) (o0 : Jvm.Cell) (Fo0 : ObjF Z o0 "com/example/protomata/protomata/Partition" fl_C0 [.null, .null, .null, .int (0 : Int32), .int (0 : Int32), .int (0 : Int32), .long (0 : Int64)]) (h0 : Heap) (P0 : HP n0 h0 [o0]) :
    MetFree l (⟨"com/example/protomata/protomata/Partition", "<init>", "()V"⟩ : MethodName) (head1 (Jvm.Cond.code (⟨"com/example/protomata/protomata/Partition", "<init>", "()V"⟩ : MethodName) prog_101_method_1_code 1 none :: ws) ({ frames := 1, cells := 3, slots := 0, locals := 12 } : Room)) (fun aa U => aa = #[.ref (n0 + 0)] ∧ Z.Warmed39 U.vm ∧ U.heap = h0) (fun _ _ _ _ _ => True) (fun _ U o U' => ∃ v L, o = .returned v ∧ Q_rm3_2 Z n0 o0 v U'.heap L ∧ FrameEnd U o U' L ({ frames := 1, cells := 3, slots := 0, locals := 12 } : Room).cells ({ frames := 1, cells := 3, slots := 0, locals := 12 } : Room).slots) := by
  refine own_body pn3 ?_
  intro p e s m below meth c T0 hx hby hml hret hlk hown hnm hZ X0 e0
  subst e0
  have N0 : Fr n0 [] := Fr.nil n0
  refine own_cast (ef_rm3_2 m n0) ?_
  refine w_aloadN X0 hx (hb hby d3_0) rfl rfl (pc' := 1) rfl ?_
  refine w_initO (W := 0) X0 hx hZ hown (by rw [hml]; rfl) (wd14 hw) (wd15 hw) (wd16 hw) P0 (hb hby d3_1) (by decide) (Nat.le_of_eq rfl) (by decide) (pc' := 4) rfl ?_
  intro T1 X1 P1
  refine w_aloadN X1 hx (hb hby d3_4) rfl rfl (pc' := 5) rfl ?_
  refine w_iconst (v := (0 : Int32)) X1 hx (hb hby d3_5) rfl (pc' := 6) rfl ?_
  refine w_newarr (N := 0) (j := 1) X1 hx hZ P1 (ty := .int) rfl (wd17 hw) (hb hby d3_6) (by decide) (by decide) (by decide) (by decide) rfl (pc' := 8) rfl ?_
  intro T2 kA1 X2 hkA1 P2
  replace P2 : HP n0 T2.heap [o0, AC kA1 []] := P2
  refine w_putf (i := 0) (ty := (.array .int)) X2 hx hZ hown (wd18 hw) N0 P2 rfl Fo0 (di_C0 hw) 0 rfl (Or.inl (wd19 hw)) (wd9 hw) (by decide) rfl rfl (hb hby d3_8) (pc' := 11) rfl ?_
  intro T3 L1 c2 N1 X3 P3 F2
  replace P3 : HP n0 T3.heap [c2, AC kA1 []] := P3
  replace F2 : ObjF Z c2 "com/example/protomata/protomata/Partition" fl_C0 [.ref (n0 + 1), .null, .null, .int (0 : Int32), .int (0 : Int32), .int (0 : Int32), .long (0 : Int64)] := F2
  refine w_aloadN X3 hx (hb hby d3_11) rfl rfl (pc' := 12) rfl ?_
  refine w_iconst (v := (0 : Int32)) X3 hx (hb hby d3_12) rfl (pc' := 13) rfl ?_
  refine w_newarr (N := 0) (j := 2) X3 hx hZ P3 (ty := .int) rfl (wd17 hw) (hb hby d3_13) (by decide) (by decide) (by decide) (by decide) rfl (pc' := 15) rfl ?_
  intro T4 kA3 X4 hkA3 P4
  replace P4 : HP n0 T4.heap [c2, AC kA1 [], AC kA3 []] := P4
  refine w_putf (i := 0) (ty := (.array .int)) X4 hx hZ hown (wd20 hw) N1 P4 rfl F2 (di_C0 hw) 1 rfl (Or.inl (wd21 hw)) (wd9 hw) (by decide) rfl rfl (hb hby d3_15) (pc' := 18) rfl ?_
  intro T5 L2 c4 N2 X5 P5 F4
  replace P5 : HP n0 T5.heap [c4, AC kA1 [], AC kA3 []] := P5
  replace F4 : ObjF Z c4 "com/example/protomata/protomata/Partition" fl_C0 [.ref (n0 + 1), .ref (n0 + 2), .null, .int (0 : Int32), .int (0 : Int32), .int (0 : Int32), .long (0 : Int64)] := F4
  refine w_aloadN X5 hx (hb hby d3_18) rfl rfl (pc' := 19) rfl ?_
  refine w_iconst (v := (0 : Int32)) X5 hx (hb hby d3_19) rfl (pc' := 20) rfl ?_
  refine w_newarr (N := 0) (j := 3) X5 hx hZ P5 (ty := .int) rfl (wd17 hw) (hb hby d3_20) (by decide) (by decide) (by decide) (by decide) rfl (pc' := 22) rfl ?_
  intro T6 kA5 X6 hkA5 P6
  replace P6 : HP n0 T6.heap [c4, AC kA1 [], AC kA3 [], AC kA5 []] := P6
  refine w_putf (i := 0) (ty := (.array .int)) X6 hx hZ hown (wd22 hw) N2 P6 rfl F4 (di_C0 hw) 2 rfl (Or.inl (wd23 hw)) (wd9 hw) (by decide) rfl rfl (hb hby d3_22) (pc' := 25) rfl ?_
  intro T7 L3 c6 N3 X7 P7 F6
  replace P7 : HP n0 T7.heap [c6, AC kA1 [], AC kA3 [], AC kA5 []] := P7
  replace F6 : ObjF Z c6 "com/example/protomata/protomata/Partition" fl_C0 [.ref (n0 + 1), .ref (n0 + 2), .ref (n0 + 3), .int (0 : Int32), .int (0 : Int32), .int (0 : Int32), .long (0 : Int64)] := F6
  exact w_ret_v X7 hx hret hlk (hb hby d3_25) (by decide) (by decide) ⟨rfl, N3, c6, F6, kA1, hkA1, kA3, hkA3, kA5, hkA5, P7⟩
theorem pn0 : plainFor (⟨"com/example/protomata/protomata/PartitionPutPinLaw", "law", "(IIIIII)Z"⟩ : MethodName) = true := plainFor_of_name (by first | (simp [plainName, overriddenIn]; done) | decide +kernel)
theorem pd0 : parseMethodDescriptor (⟨"com/example/protomata/protomata/PartitionPutPinLaw", "law", "(IIIIII)Z"⟩ : MethodName).desc = some ⟨[.int, .int, .int, .int, .int, .int], some .boolean⟩ := by decide +kernel
theorem ef0 (m : MethodId) (x0 : Int32) (x1 : Int32) (x2 : Int32) (x3 : Int32) (x4 : Int32) (x5 : Int32) : entryFrame m #[Value.int x0, Value.int x1, Value.int x2, Value.int x3, Value.int x4, Value.int x5] maxLocals = mkF m 0 #[.val (.int x0), .val (.int x1), .val (.int x2), .val (.int x3), .val (.int x4), .val (.int x5), .unset, .unset, .unset, .unset, .unset, .unset, .unset, .unset, .unset, .unset, .unset, .unset, .unset, .unset, .unset, .unset, .unset, .unset, .unset, .unset, .unset, .unset, .unset, .unset, .unset, .unset, .unset, .unset, .unset, .unset, .unset, .unset, .unset, .unset, .unset, .unset, .unset, .unset, .unset, .unset, .unset] [] := by first | (simp [entryFrame, mkF, argsToLocals, Value.category, maxLocals]; done) | rfl
def LawQ (n0 : Nat) (v : Option Value) (h : Heap) (L : List Loc) : Prop := v = some (.int 1) ∧ Fr n0 L
set_option maxRecDepth 65536 in
set_option maxHeartbeats 40000000 in
theorem rm0 (l : Launch) (Z : State) (a0 : Array Value) (hw : ∀ d ∈ tables_1, d.before a0 Z = true) (ws : List Jvm.Cond) (x0 : Int32) (x1 : Int32) (x2 : Int32) (x3 : Int32) (x4 : Int32) (x5 : Int32) (h0 : Heap) (n0 : Nat) (Z0 : h0.size = n0) :
    MetFree l x (head1 (Jvm.Cond.code x code maxLocals ret :: ws) room_1) (fun aa U => aa = #[Value.int x0, Value.int x1, Value.int x2, Value.int x3, Value.int x4, Value.int x5] ∧ Z.Warmed39 U.vm ∧ U.heap = h0) (fun _ _ _ _ _ => True) (fun _ U o U' => ∃ v L, o = .returned v ∧ LawQ n0 v U'.heap L ∧ FrameEnd U o U' L room_1.cells room_1.slots) := by
  refine own_body pn0 ?_
  intro p e s m below meth c T0 hx hby hml hret hlk hown hnm hZ X0 e0
  subst e0 Z0
  have P0 := HP.nil T0.heap
  generalize T0.heap.size = n0 at P0 ⊢
  have N0 : Fr n0 [] := Fr.nil n0
  refine own_cast (ef0 m x0 x1 x2 x3 x4 x5) ?_
  obtain ⟨g, hg1, hg4, eg⟩ := own_g x0
  obtain ⟨a, ha1, ha4, ea⟩ := own_g (XT.ushr x0 2)
  obtain ⟨g1, hg11, hg14, eg1⟩ := own_g (XT.ushr x0 4)
  obtain ⟨a1, ha11, ha14, ea1⟩ := own_g (XT.ushr x0 6)
  obtain ⟨fb0, hfb0, efb0⟩ := own_remP (x1 &&& 255) (Int32.ofNat g1) g1 (c_and x1 255 (by decide)).1 (own_oN (by omega)) (by omega)
  obtain ⟨fd0, hfd0, efd0⟩ := own_remP ((XT.ushr x1 8) &&& 255) (Int32.ofNat a1) a1 (c_and (XT.ushr x1 8) 255 (by decide)).1 (own_oN (by omega)) (by omega)
  obtain ⟨fb1, hfb1, efb1⟩ := own_remP ((XT.ushr x1 16) &&& 255) (Int32.ofNat g1) g1 (c_and (XT.ushr x1 16) 255 (by decide)).1 (own_oN (by omega)) (by omega)
  obtain ⟨fd1, hfd1, efd1⟩ := own_remP ((XT.ushr x1 24) &&& 255) (Int32.ofNat a1) a1 (c_and (XT.ushr x1 24) 255 (by decide)).1 (own_oN (by omega)) (by omega)
  obtain ⟨b0, hb0, eb0⟩ := own_remP ((XT.ushr x2 16) &&& 32767) (Int32.ofNat g) g (c_and (XT.ushr x2 16) 32767 (by decide)).1 (own_oN (by omega)) (by omega)
  obtain ⟨d0, hd0, ed0⟩ := own_remP (x2 &&& 65535) (Int32.ofNat a) a (c_and x2 65535 (by decide)).1 (own_oN (by omega)) (by omega)
  obtain ⟨b1, hb1, eb1⟩ := own_remP ((XT.ushr x3 16) &&& 32767) (Int32.ofNat g) g (c_and (XT.ushr x3 16) 32767 (by decide)).1 (own_oN (by omega)) (by omega)
  obtain ⟨d1, hd1, ed1⟩ := own_remP (x3 &&& 65535) (Int32.ofNat a) a (c_and x3 65535 (by decide)).1 (own_oN (by omega)) (by omega)
  obtain ⟨b2, hb2, eb2⟩ := own_remP ((XT.ushr x4 16) &&& 32767) (Int32.ofNat g) g (c_and (XT.ushr x4 16) 32767 (by decide)).1 (own_oN (by omega)) (by omega)
  obtain ⟨d2, hd2, ed2⟩ := own_remP (x4 &&& 65535) (Int32.ofNat a) a (c_and x4 65535 (by decide)).1 (own_oN (by omega)) (by omega)
  obtain ⟨b3, hb3, eb3⟩ := own_remP ((XT.ushr x5 16) &&& 32767) (Int32.ofNat g) g (c_and (XT.ushr x5 16) 32767 (by decide)).1 (own_oN (by omega)) (by omega)
  obtain ⟨d3, hd3, ed3⟩ := own_remP (x5 &&& 65535) (Int32.ofNat a) a (c_and x5 65535 (by decide)).1 (own_oN (by omega)) (by omega)
  obtain ⟨M1, eM1⟩ : ∃ z, g1 * a1 = z := ⟨_, rfl⟩
  obtain ⟨M, eM⟩ : ∃ z, g * a = z := ⟨_, rfl⟩
  have hM1 := own_m16 hg11 hg14 ha11 ha14
  have hM := own_m16 hg1 hg4 ha1 ha4
  rw [eM1] at hM1
  rw [eM] at hM
  obtain ⟨kf0, ekf0⟩ : ∃ z, fb0 * a1 + fd0 = z := ⟨_, rfl⟩
  have hkf0 : kf0 < M1 := by rw [← ekf0, ← eM1]; exact own_key hfb0 hfd0
  obtain ⟨kf1, ekf1⟩ : ∃ z, fb1 * a1 + fd1 = z := ⟨_, rfl⟩
  have hkf1 : kf1 < M1 := by rw [← ekf1, ← eM1]; exact own_key hfb1 hfd1
  obtain ⟨ky0, eky0⟩ : ∃ z, b0 * a + d0 = z := ⟨_, rfl⟩
  have hky0 : ky0 < M := by rw [← eky0, ← eM]; exact own_key hb0 hd0
  obtain ⟨ky1, eky1⟩ : ∃ z, b1 * a + d1 = z := ⟨_, rfl⟩
  have hky1 : ky1 < M := by rw [← eky1, ← eM]; exact own_key hb1 hd1
  obtain ⟨ky2, eky2⟩ : ∃ z, b2 * a + d2 = z := ⟨_, rfl⟩
  have hky2 : ky2 < M := by rw [← eky2, ← eM]; exact own_key hb2 hd2
  obtain ⟨ky3, eky3⟩ : ∃ z, b3 * a + d3 = z := ⟨_, rfl⟩
  have hky3 : ky3 < M := by rw [← eky3, ← eM]; exact own_key hb3 hd3
  refine w_iconst (v := (1 : Int32)) X0 hx (hb hby at_0) rfl (pc' := 1) rfl ?_
  refine w_iloadN X0 hx (hb hby at_1) rfl (pc' := 2) rfl ?_
  refine w_iconst (v := (3 : Int32)) X0 hx (hb hby at_2) rfl (pc' := 3) rfl ?_
  refine w_iand X0 hx (hb hby at_3) (pc' := 4) rfl ?_
  refine w_iadd X0 hx (hb hby at_4) (pc' := 5) rfl ?_
  refine w_eqI (z := (Int32.ofNat g)) eg ?_
  refine w_istore (l' := #[.val (.int x0), .val (.int x1), .val (.int x2), .val (.int x3), .val (.int x4), .val (.int x5), .val (.int (Int32.ofNat g)), .unset, .unset, .unset, .unset, .unset, .unset, .unset, .unset, .unset, .unset, .unset, .unset, .unset, .unset, .unset, .unset, .unset, .unset, .unset, .unset, .unset, .unset, .unset, .unset, .unset, .unset, .unset, .unset, .unset, .unset, .unset, .unset, .unset, .unset, .unset, .unset, .unset, .unset, .unset, .unset]) X0 hx (hb hby at_5) rfl (pc' := 7) rfl ?_
  refine w_iconst (v := (1 : Int32)) X0 hx (hb hby at_7) rfl (pc' := 8) rfl ?_
  refine w_iloadN X0 hx (hb hby at_8) rfl (pc' := 9) rfl ?_
  refine w_iconst (v := (2 : Int32)) X0 hx (hb hby at_9) rfl (pc' := 10) rfl ?_
  refine w_iushr X0 hx (hb hby at_10) (pc' := 11) rfl ?_
  refine w_iconst (v := (3 : Int32)) X0 hx (hb hby at_11) rfl (pc' := 12) rfl ?_
  refine w_iand X0 hx (hb hby at_12) (pc' := 13) rfl ?_
  refine w_iadd X0 hx (hb hby at_13) (pc' := 14) rfl ?_
  refine w_eqI (z := (Int32.ofNat a)) ea ?_
  refine w_istore (l' := #[.val (.int x0), .val (.int x1), .val (.int x2), .val (.int x3), .val (.int x4), .val (.int x5), .val (.int (Int32.ofNat g)), .val (.int (Int32.ofNat a)), .unset, .unset, .unset, .unset, .unset, .unset, .unset, .unset, .unset, .unset, .unset, .unset, .unset, .unset, .unset, .unset, .unset, .unset, .unset, .unset, .unset, .unset, .unset, .unset, .unset, .unset, .unset, .unset, .unset, .unset, .unset, .unset, .unset, .unset, .unset, .unset, .unset, .unset, .unset]) X0 hx (hb hby at_14) rfl (pc' := 16) rfl ?_
  refine w_iconst (v := (1 : Int32)) X0 hx (hb hby at_16) rfl (pc' := 17) rfl ?_
  refine w_iloadN X0 hx (hb hby at_17) rfl (pc' := 18) rfl ?_
  refine w_iconst (v := (4 : Int32)) X0 hx (hb hby at_18) rfl (pc' := 19) rfl ?_
  refine w_iushr X0 hx (hb hby at_19) (pc' := 20) rfl ?_
  refine w_iconst (v := (3 : Int32)) X0 hx (hb hby at_20) rfl (pc' := 21) rfl ?_
  refine w_iand X0 hx (hb hby at_21) (pc' := 22) rfl ?_
  refine w_iadd X0 hx (hb hby at_22) (pc' := 23) rfl ?_
  refine w_eqI (z := (Int32.ofNat g1)) eg1 ?_
  refine w_istore (l' := #[.val (.int x0), .val (.int x1), .val (.int x2), .val (.int x3), .val (.int x4), .val (.int x5), .val (.int (Int32.ofNat g)), .val (.int (Int32.ofNat a)), .val (.int (Int32.ofNat g1)), .unset, .unset, .unset, .unset, .unset, .unset, .unset, .unset, .unset, .unset, .unset, .unset, .unset, .unset, .unset, .unset, .unset, .unset, .unset, .unset, .unset, .unset, .unset, .unset, .unset, .unset, .unset, .unset, .unset, .unset, .unset, .unset, .unset, .unset, .unset, .unset, .unset, .unset]) X0 hx (hb hby at_23) rfl (pc' := 25) rfl ?_
  refine w_iconst (v := (1 : Int32)) X0 hx (hb hby at_25) rfl (pc' := 26) rfl ?_
  refine w_iloadN X0 hx (hb hby at_26) rfl (pc' := 27) rfl ?_
  refine w_bipush (v := (6 : Int32)) X0 hx (hb hby at_27) rfl (pc' := 29) rfl ?_
  refine w_iushr X0 hx (hb hby at_29) (pc' := 30) rfl ?_
  refine w_iconst (v := (3 : Int32)) X0 hx (hb hby at_30) rfl (pc' := 31) rfl ?_
  refine w_iand X0 hx (hb hby at_31) (pc' := 32) rfl ?_
  refine w_iadd X0 hx (hb hby at_32) (pc' := 33) rfl ?_
  refine w_eqI (z := (Int32.ofNat a1)) ea1 ?_
  refine w_istore (l' := #[.val (.int x0), .val (.int x1), .val (.int x2), .val (.int x3), .val (.int x4), .val (.int x5), .val (.int (Int32.ofNat g)), .val (.int (Int32.ofNat a)), .val (.int (Int32.ofNat g1)), .val (.int (Int32.ofNat a1)), .unset, .unset, .unset, .unset, .unset, .unset, .unset, .unset, .unset, .unset, .unset, .unset, .unset, .unset, .unset, .unset, .unset, .unset, .unset, .unset, .unset, .unset, .unset, .unset, .unset, .unset, .unset, .unset, .unset, .unset, .unset, .unset, .unset, .unset, .unset, .unset, .unset]) X0 hx (hb hby at_33) rfl (pc' := 35) rfl ?_
  refine w_iloadN X0 hx (hb hby at_35) rfl (pc' := 36) rfl ?_
  refine w_sipush (v := (255 : Int32)) X0 hx (hb hby at_36) rfl (pc' := 39) rfl ?_
  refine w_iand X0 hx (hb hby at_39) (pc' := 40) rfl ?_
  refine w_iload X0 hx (hb hby at_40) rfl (pc' := 42) rfl ?_
  refine w_irem X0 hx (hb hby at_42) (own_nz (by omega) (by omega)) (pc' := 43) rfl ?_
  refine w_eqI (z := (Int32.ofNat fb0)) efb0 ?_
  refine w_istore (l' := #[.val (.int x0), .val (.int x1), .val (.int x2), .val (.int x3), .val (.int x4), .val (.int x5), .val (.int (Int32.ofNat g)), .val (.int (Int32.ofNat a)), .val (.int (Int32.ofNat g1)), .val (.int (Int32.ofNat a1)), .val (.int (Int32.ofNat fb0)), .unset, .unset, .unset, .unset, .unset, .unset, .unset, .unset, .unset, .unset, .unset, .unset, .unset, .unset, .unset, .unset, .unset, .unset, .unset, .unset, .unset, .unset, .unset, .unset, .unset, .unset, .unset, .unset, .unset, .unset, .unset, .unset, .unset, .unset, .unset, .unset]) X0 hx (hb hby at_43) rfl (pc' := 45) rfl ?_
  refine w_iloadN X0 hx (hb hby at_45) rfl (pc' := 46) rfl ?_
  refine w_bipush (v := (8 : Int32)) X0 hx (hb hby at_46) rfl (pc' := 48) rfl ?_
  refine w_iushr X0 hx (hb hby at_48) (pc' := 49) rfl ?_
  refine w_sipush (v := (255 : Int32)) X0 hx (hb hby at_49) rfl (pc' := 52) rfl ?_
  refine w_iand X0 hx (hb hby at_52) (pc' := 53) rfl ?_
  refine w_iload X0 hx (hb hby at_53) rfl (pc' := 55) rfl ?_
  refine w_irem X0 hx (hb hby at_55) (own_nz (by omega) (by omega)) (pc' := 56) rfl ?_
  refine w_eqI (z := (Int32.ofNat fd0)) efd0 ?_
  refine w_istore (l' := #[.val (.int x0), .val (.int x1), .val (.int x2), .val (.int x3), .val (.int x4), .val (.int x5), .val (.int (Int32.ofNat g)), .val (.int (Int32.ofNat a)), .val (.int (Int32.ofNat g1)), .val (.int (Int32.ofNat a1)), .val (.int (Int32.ofNat fb0)), .val (.int (Int32.ofNat fd0)), .unset, .unset, .unset, .unset, .unset, .unset, .unset, .unset, .unset, .unset, .unset, .unset, .unset, .unset, .unset, .unset, .unset, .unset, .unset, .unset, .unset, .unset, .unset, .unset, .unset, .unset, .unset, .unset, .unset, .unset, .unset, .unset, .unset, .unset, .unset]) X0 hx (hb hby at_56) rfl (pc' := 58) rfl ?_
  refine w_iloadN X0 hx (hb hby at_58) rfl (pc' := 59) rfl ?_
  refine w_bipush (v := (16 : Int32)) X0 hx (hb hby at_59) rfl (pc' := 61) rfl ?_
  refine w_iushr X0 hx (hb hby at_61) (pc' := 62) rfl ?_
  refine w_sipush (v := (255 : Int32)) X0 hx (hb hby at_62) rfl (pc' := 65) rfl ?_
  refine w_iand X0 hx (hb hby at_65) (pc' := 66) rfl ?_
  refine w_iload X0 hx (hb hby at_66) rfl (pc' := 68) rfl ?_
  refine w_irem X0 hx (hb hby at_68) (own_nz (by omega) (by omega)) (pc' := 69) rfl ?_
  refine w_eqI (z := (Int32.ofNat fb1)) efb1 ?_
  refine w_istore (l' := #[.val (.int x0), .val (.int x1), .val (.int x2), .val (.int x3), .val (.int x4), .val (.int x5), .val (.int (Int32.ofNat g)), .val (.int (Int32.ofNat a)), .val (.int (Int32.ofNat g1)), .val (.int (Int32.ofNat a1)), .val (.int (Int32.ofNat fb0)), .val (.int (Int32.ofNat fd0)), .val (.int (Int32.ofNat fb1)), .unset, .unset, .unset, .unset, .unset, .unset, .unset, .unset, .unset, .unset, .unset, .unset, .unset, .unset, .unset, .unset, .unset, .unset, .unset, .unset, .unset, .unset, .unset, .unset, .unset, .unset, .unset, .unset, .unset, .unset, .unset, .unset, .unset, .unset]) X0 hx (hb hby at_69) rfl (pc' := 71) rfl ?_
  refine w_iloadN X0 hx (hb hby at_71) rfl (pc' := 72) rfl ?_
  refine w_bipush (v := (24 : Int32)) X0 hx (hb hby at_72) rfl (pc' := 74) rfl ?_
  refine w_iushr X0 hx (hb hby at_74) (pc' := 75) rfl ?_
  refine w_sipush (v := (255 : Int32)) X0 hx (hb hby at_75) rfl (pc' := 78) rfl ?_
  refine w_iand X0 hx (hb hby at_78) (pc' := 79) rfl ?_
  refine w_iload X0 hx (hb hby at_79) rfl (pc' := 81) rfl ?_
  refine w_irem X0 hx (hb hby at_81) (own_nz (by omega) (by omega)) (pc' := 82) rfl ?_
  refine w_eqI (z := (Int32.ofNat fd1)) efd1 ?_
  refine w_istore (l' := #[.val (.int x0), .val (.int x1), .val (.int x2), .val (.int x3), .val (.int x4), .val (.int x5), .val (.int (Int32.ofNat g)), .val (.int (Int32.ofNat a)), .val (.int (Int32.ofNat g1)), .val (.int (Int32.ofNat a1)), .val (.int (Int32.ofNat fb0)), .val (.int (Int32.ofNat fd0)), .val (.int (Int32.ofNat fb1)), .val (.int (Int32.ofNat fd1)), .unset, .unset, .unset, .unset, .unset, .unset, .unset, .unset, .unset, .unset, .unset, .unset, .unset, .unset, .unset, .unset, .unset, .unset, .unset, .unset, .unset, .unset, .unset, .unset, .unset, .unset, .unset, .unset, .unset, .unset, .unset, .unset, .unset]) X0 hx (hb hby at_82) rfl (pc' := 84) rfl ?_
  refine w_iloadN X0 hx (hb hby at_84) rfl (pc' := 85) rfl ?_
  refine w_iload X0 hx (hb hby at_85) rfl (pc' := 87) rfl ?_
  refine w_callP (W := 0) X0 hx hZ rfl hown hml.symm (wd0 hw) (wd1 hw) (wd2 hw) (wd3 hw) (rm1 l Z a0 hw [] x2 (Int32.ofNat g) _ (own_nz (by omega) (by omega))) (by decide) (by decide) (by decide) rfl rfl (by decide) (by decide) (argsL := [.int x2, .int (Int32.ofNat g)]) (rest := []) pd1 rfl rfl rfl (Nat.le_of_eq rfl) (hb hby at_87) (pc' := 90) rfl ?_
  intro T1 X1 e1
  have P1 : HP n0 T1.heap [] := by rw [e1]; exact P0
  refine w_eqI (z := (Int32.ofNat b0)) eb0 ?_
  refine w_istore (l' := #[.val (.int x0), .val (.int x1), .val (.int x2), .val (.int x3), .val (.int x4), .val (.int x5), .val (.int (Int32.ofNat g)), .val (.int (Int32.ofNat a)), .val (.int (Int32.ofNat g1)), .val (.int (Int32.ofNat a1)), .val (.int (Int32.ofNat fb0)), .val (.int (Int32.ofNat fd0)), .val (.int (Int32.ofNat fb1)), .val (.int (Int32.ofNat fd1)), .val (.int (Int32.ofNat b0)), .unset, .unset, .unset, .unset, .unset, .unset, .unset, .unset, .unset, .unset, .unset, .unset, .unset, .unset, .unset, .unset, .unset, .unset, .unset, .unset, .unset, .unset, .unset, .unset, .unset, .unset, .unset, .unset, .unset, .unset, .unset, .unset]) X1 hx (hb hby at_90) rfl (pc' := 92) rfl ?_
  refine w_iloadN X1 hx (hb hby at_92) rfl (pc' := 93) rfl ?_
  refine w_iload X1 hx (hb hby at_93) rfl (pc' := 95) rfl ?_
  refine w_callP (W := 0) X1 hx hZ rfl hown hml.symm (wd4 hw) (wd5 hw) (wd2 hw) (wd6 hw) (rm2 l Z a0 hw [] x2 (Int32.ofNat a) _ (own_nz (by omega) (by omega))) (by decide) (by decide) (by decide) rfl rfl (by decide) (by decide) (argsL := [.int x2, .int (Int32.ofNat a)]) (rest := []) pd2 rfl rfl rfl (Nat.le_of_eq rfl) (hb hby at_95) (pc' := 98) rfl ?_
  intro T2 X2 e2
  have P2 : HP n0 T2.heap [] := by rw [e2]; exact P1
  refine w_eqI (z := (Int32.ofNat d0)) ed0 ?_
  refine w_istore (l' := #[.val (.int x0), .val (.int x1), .val (.int x2), .val (.int x3), .val (.int x4), .val (.int x5), .val (.int (Int32.ofNat g)), .val (.int (Int32.ofNat a)), .val (.int (Int32.ofNat g1)), .val (.int (Int32.ofNat a1)), .val (.int (Int32.ofNat fb0)), .val (.int (Int32.ofNat fd0)), .val (.int (Int32.ofNat fb1)), .val (.int (Int32.ofNat fd1)), .val (.int (Int32.ofNat b0)), .val (.int (Int32.ofNat d0)), .unset, .unset, .unset, .unset, .unset, .unset, .unset, .unset, .unset, .unset, .unset, .unset, .unset, .unset, .unset, .unset, .unset, .unset, .unset, .unset, .unset, .unset, .unset, .unset, .unset, .unset, .unset, .unset, .unset, .unset, .unset]) X2 hx (hb hby at_98) rfl (pc' := 100) rfl ?_
  refine w_iloadN X2 hx (hb hby at_100) rfl (pc' := 101) rfl ?_
  refine w_iload X2 hx (hb hby at_101) rfl (pc' := 103) rfl ?_
  refine w_callP (W := 0) X2 hx hZ rfl hown hml.symm (wd0 hw) (wd1 hw) (wd2 hw) (wd3 hw) (rm1 l Z a0 hw [] x3 (Int32.ofNat g) _ (own_nz (by omega) (by omega))) (by decide) (by decide) (by decide) rfl rfl (by decide) (by decide) (argsL := [.int x3, .int (Int32.ofNat g)]) (rest := []) pd1 rfl rfl rfl (Nat.le_of_eq rfl) (hb hby at_103) (pc' := 106) rfl ?_
  intro T3 X3 e3
  have P3 : HP n0 T3.heap [] := by rw [e3]; exact P2
  refine w_eqI (z := (Int32.ofNat b1)) eb1 ?_
  refine w_istore (l' := #[.val (.int x0), .val (.int x1), .val (.int x2), .val (.int x3), .val (.int x4), .val (.int x5), .val (.int (Int32.ofNat g)), .val (.int (Int32.ofNat a)), .val (.int (Int32.ofNat g1)), .val (.int (Int32.ofNat a1)), .val (.int (Int32.ofNat fb0)), .val (.int (Int32.ofNat fd0)), .val (.int (Int32.ofNat fb1)), .val (.int (Int32.ofNat fd1)), .val (.int (Int32.ofNat b0)), .val (.int (Int32.ofNat d0)), .val (.int (Int32.ofNat b1)), .unset, .unset, .unset, .unset, .unset, .unset, .unset, .unset, .unset, .unset, .unset, .unset, .unset, .unset, .unset, .unset, .unset, .unset, .unset, .unset, .unset, .unset, .unset, .unset, .unset, .unset, .unset, .unset, .unset, .unset]) X3 hx (hb hby at_106) rfl (pc' := 108) rfl ?_
  refine w_iloadN X3 hx (hb hby at_108) rfl (pc' := 109) rfl ?_
  refine w_iload X3 hx (hb hby at_109) rfl (pc' := 111) rfl ?_
  refine w_callP (W := 0) X3 hx hZ rfl hown hml.symm (wd4 hw) (wd5 hw) (wd2 hw) (wd6 hw) (rm2 l Z a0 hw [] x3 (Int32.ofNat a) _ (own_nz (by omega) (by omega))) (by decide) (by decide) (by decide) rfl rfl (by decide) (by decide) (argsL := [.int x3, .int (Int32.ofNat a)]) (rest := []) pd2 rfl rfl rfl (Nat.le_of_eq rfl) (hb hby at_111) (pc' := 114) rfl ?_
  intro T4 X4 e4
  have P4 : HP n0 T4.heap [] := by rw [e4]; exact P3
  refine w_eqI (z := (Int32.ofNat d1)) ed1 ?_
  refine w_istore (l' := #[.val (.int x0), .val (.int x1), .val (.int x2), .val (.int x3), .val (.int x4), .val (.int x5), .val (.int (Int32.ofNat g)), .val (.int (Int32.ofNat a)), .val (.int (Int32.ofNat g1)), .val (.int (Int32.ofNat a1)), .val (.int (Int32.ofNat fb0)), .val (.int (Int32.ofNat fd0)), .val (.int (Int32.ofNat fb1)), .val (.int (Int32.ofNat fd1)), .val (.int (Int32.ofNat b0)), .val (.int (Int32.ofNat d0)), .val (.int (Int32.ofNat b1)), .val (.int (Int32.ofNat d1)), .unset, .unset, .unset, .unset, .unset, .unset, .unset, .unset, .unset, .unset, .unset, .unset, .unset, .unset, .unset, .unset, .unset, .unset, .unset, .unset, .unset, .unset, .unset, .unset, .unset, .unset, .unset, .unset, .unset]) X4 hx (hb hby at_114) rfl (pc' := 116) rfl ?_
  refine w_iload X4 hx (hb hby at_116) rfl (pc' := 118) rfl ?_
  refine w_iload X4 hx (hb hby at_118) rfl (pc' := 120) rfl ?_
  refine w_callP (W := 0) X4 hx hZ rfl hown hml.symm (wd0 hw) (wd1 hw) (wd2 hw) (wd3 hw) (rm1 l Z a0 hw [] x4 (Int32.ofNat g) _ (own_nz (by omega) (by omega))) (by decide) (by decide) (by decide) rfl rfl (by decide) (by decide) (argsL := [.int x4, .int (Int32.ofNat g)]) (rest := []) pd1 rfl rfl rfl (Nat.le_of_eq rfl) (hb hby at_120) (pc' := 123) rfl ?_
  intro T5 X5 e5
  have P5 : HP n0 T5.heap [] := by rw [e5]; exact P4
  refine w_eqI (z := (Int32.ofNat b2)) eb2 ?_
  refine w_istore (l' := #[.val (.int x0), .val (.int x1), .val (.int x2), .val (.int x3), .val (.int x4), .val (.int x5), .val (.int (Int32.ofNat g)), .val (.int (Int32.ofNat a)), .val (.int (Int32.ofNat g1)), .val (.int (Int32.ofNat a1)), .val (.int (Int32.ofNat fb0)), .val (.int (Int32.ofNat fd0)), .val (.int (Int32.ofNat fb1)), .val (.int (Int32.ofNat fd1)), .val (.int (Int32.ofNat b0)), .val (.int (Int32.ofNat d0)), .val (.int (Int32.ofNat b1)), .val (.int (Int32.ofNat d1)), .val (.int (Int32.ofNat b2)), .unset, .unset, .unset, .unset, .unset, .unset, .unset, .unset, .unset, .unset, .unset, .unset, .unset, .unset, .unset, .unset, .unset, .unset, .unset, .unset, .unset, .unset, .unset, .unset, .unset, .unset, .unset, .unset]) X5 hx (hb hby at_123) rfl (pc' := 125) rfl ?_
  refine w_iload X5 hx (hb hby at_125) rfl (pc' := 127) rfl ?_
  refine w_iload X5 hx (hb hby at_127) rfl (pc' := 129) rfl ?_
  refine w_callP (W := 0) X5 hx hZ rfl hown hml.symm (wd4 hw) (wd5 hw) (wd2 hw) (wd6 hw) (rm2 l Z a0 hw [] x4 (Int32.ofNat a) _ (own_nz (by omega) (by omega))) (by decide) (by decide) (by decide) rfl rfl (by decide) (by decide) (argsL := [.int x4, .int (Int32.ofNat a)]) (rest := []) pd2 rfl rfl rfl (Nat.le_of_eq rfl) (hb hby at_129) (pc' := 132) rfl ?_
  intro T6 X6 e6
  have P6 : HP n0 T6.heap [] := by rw [e6]; exact P5
  refine w_eqI (z := (Int32.ofNat d2)) ed2 ?_
  refine w_istore (l' := #[.val (.int x0), .val (.int x1), .val (.int x2), .val (.int x3), .val (.int x4), .val (.int x5), .val (.int (Int32.ofNat g)), .val (.int (Int32.ofNat a)), .val (.int (Int32.ofNat g1)), .val (.int (Int32.ofNat a1)), .val (.int (Int32.ofNat fb0)), .val (.int (Int32.ofNat fd0)), .val (.int (Int32.ofNat fb1)), .val (.int (Int32.ofNat fd1)), .val (.int (Int32.ofNat b0)), .val (.int (Int32.ofNat d0)), .val (.int (Int32.ofNat b1)), .val (.int (Int32.ofNat d1)), .val (.int (Int32.ofNat b2)), .val (.int (Int32.ofNat d2)), .unset, .unset, .unset, .unset, .unset, .unset, .unset, .unset, .unset, .unset, .unset, .unset, .unset, .unset, .unset, .unset, .unset, .unset, .unset, .unset, .unset, .unset, .unset, .unset, .unset, .unset, .unset]) X6 hx (hb hby at_132) rfl (pc' := 134) rfl ?_
  refine w_iload X6 hx (hb hby at_134) rfl (pc' := 136) rfl ?_
  refine w_iload X6 hx (hb hby at_136) rfl (pc' := 138) rfl ?_
  refine w_callP (W := 0) X6 hx hZ rfl hown hml.symm (wd0 hw) (wd1 hw) (wd2 hw) (wd3 hw) (rm1 l Z a0 hw [] x5 (Int32.ofNat g) _ (own_nz (by omega) (by omega))) (by decide) (by decide) (by decide) rfl rfl (by decide) (by decide) (argsL := [.int x5, .int (Int32.ofNat g)]) (rest := []) pd1 rfl rfl rfl (Nat.le_of_eq rfl) (hb hby at_138) (pc' := 141) rfl ?_
  intro T7 X7 e7
  have P7 : HP n0 T7.heap [] := by rw [e7]; exact P6
  refine w_eqI (z := (Int32.ofNat b3)) eb3 ?_
  refine w_istore (l' := #[.val (.int x0), .val (.int x1), .val (.int x2), .val (.int x3), .val (.int x4), .val (.int x5), .val (.int (Int32.ofNat g)), .val (.int (Int32.ofNat a)), .val (.int (Int32.ofNat g1)), .val (.int (Int32.ofNat a1)), .val (.int (Int32.ofNat fb0)), .val (.int (Int32.ofNat fd0)), .val (.int (Int32.ofNat fb1)), .val (.int (Int32.ofNat fd1)), .val (.int (Int32.ofNat b0)), .val (.int (Int32.ofNat d0)), .val (.int (Int32.ofNat b1)), .val (.int (Int32.ofNat d1)), .val (.int (Int32.ofNat b2)), .val (.int (Int32.ofNat d2)), .val (.int (Int32.ofNat b3)), .unset, .unset, .unset, .unset, .unset, .unset, .unset, .unset, .unset, .unset, .unset, .unset, .unset, .unset, .unset, .unset, .unset, .unset, .unset, .unset, .unset, .unset, .unset, .unset, .unset, .unset]) X7 hx (hb hby at_141) rfl (pc' := 143) rfl ?_
  refine w_iload X7 hx (hb hby at_143) rfl (pc' := 145) rfl ?_
  refine w_iload X7 hx (hb hby at_145) rfl (pc' := 147) rfl ?_
  refine w_callP (W := 0) X7 hx hZ rfl hown hml.symm (wd4 hw) (wd5 hw) (wd2 hw) (wd6 hw) (rm2 l Z a0 hw [] x5 (Int32.ofNat a) _ (own_nz (by omega) (by omega))) (by decide) (by decide) (by decide) rfl rfl (by decide) (by decide) (argsL := [.int x5, .int (Int32.ofNat a)]) (rest := []) pd2 rfl rfl rfl (Nat.le_of_eq rfl) (hb hby at_147) (pc' := 150) rfl ?_
  intro T8 X8 e8
  have P8 : HP n0 T8.heap [] := by rw [e8]; exact P7
  refine w_eqI (z := (Int32.ofNat d3)) ed3 ?_
  refine w_istore (l' := #[.val (.int x0), .val (.int x1), .val (.int x2), .val (.int x3), .val (.int x4), .val (.int x5), .val (.int (Int32.ofNat g)), .val (.int (Int32.ofNat a)), .val (.int (Int32.ofNat g1)), .val (.int (Int32.ofNat a1)), .val (.int (Int32.ofNat fb0)), .val (.int (Int32.ofNat fd0)), .val (.int (Int32.ofNat fb1)), .val (.int (Int32.ofNat fd1)), .val (.int (Int32.ofNat b0)), .val (.int (Int32.ofNat d0)), .val (.int (Int32.ofNat b1)), .val (.int (Int32.ofNat d1)), .val (.int (Int32.ofNat b2)), .val (.int (Int32.ofNat d2)), .val (.int (Int32.ofNat b3)), .val (.int (Int32.ofNat d3)), .unset, .unset, .unset, .unset, .unset, .unset, .unset, .unset, .unset, .unset, .unset, .unset, .unset, .unset, .unset, .unset, .unset, .unset, .unset, .unset, .unset, .unset, .unset, .unset, .unset]) X8 hx (hb hby at_150) rfl (pc' := 152) rfl ?_
  have Jt : ∀ (T9 : State) (L1 : List Loc) (tf1 tq0 tq1 tq2 tq3 tac tst tgc : Int32) (tsq : Int64) (ar0 ar1 ar2 : Addr) (cr : List Jvm.Cell) (to : Jvm.Cell), Fr n0 L1 → Stand p l e room_1 s m #[Value.int x0, Value.int x1, Value.int x2, Value.int x3, Value.int x4, Value.int x5] below meth c T9 L1 11 81 → HP n0 T9.heap (to :: cr) → ObjF Z to "com/example/protomata/protomata/Partition" fl_C0 [.ref ar0, .ref ar1, .ref ar2, .int tac, .int tst, .int tgc, .long tsq] → tq0 = 0 → tq1 = own_r1 (sp8 (Int32.ofNat b1) (Int32.ofNat d1) (Int32.ofNat b0) (Int32.ofNat d0)) → tq2 = own_r2 (sp8 (Int32.ofNat b1) (Int32.ofNat d1) (Int32.ofNat b0) (Int32.ofNat d0)) (sp8 (Int32.ofNat b2) (Int32.ofNat d2) (Int32.ofNat b0) (Int32.ofNat d0)) (sp8 (Int32.ofNat b2) (Int32.ofNat d2) (Int32.ofNat b1) (Int32.ofNat d1)) → tq3 = own_r3 (sp8 (Int32.ofNat b1) (Int32.ofNat d1) (Int32.ofNat b0) (Int32.ofNat d0)) (sp8 (Int32.ofNat b2) (Int32.ofNat d2) (Int32.ofNat b0) (Int32.ofNat d0)) (sp8 (Int32.ofNat b2) (Int32.ofNat d2) (Int32.ofNat b1) (Int32.ofNat d1)) (sp8 (Int32.ofNat b3) (Int32.ofNat d3) (Int32.ofNat b0) (Int32.ofNat d0)) (sp8 (Int32.ofNat b3) (Int32.ofNat d3) (Int32.ofNat b1) (Int32.ofNat d1)) (sp8 (Int32.ofNat b3) (Int32.ofNat d3) (Int32.ofNat b2) (Int32.ofNat d2)) → tgc = own_n3 (sp8 (Int32.ofNat b1) (Int32.ofNat d1) (Int32.ofNat b0) (Int32.ofNat d0)) (sp8 (Int32.ofNat b2) (Int32.ofNat d2) (Int32.ofNat b0) (Int32.ofNat d0)) (sp8 (Int32.ofNat b2) (Int32.ofNat d2) (Int32.ofNat b1) (Int32.ofNat d1)) (sp8 (Int32.ofNat b3) (Int32.ofNat d3) (Int32.ofNat b0) (Int32.ofNat d0)) (sp8 (Int32.ofNat b3) (Int32.ofNat d3) (Int32.ofNat b1) (Int32.ofNat d1)) (sp8 (Int32.ofNat b3) (Int32.ofNat d3) (Int32.ofNat b2) (Int32.ofNat d2)) → tsq = own_sq (sp8 (Int32.ofNat b1) (Int32.ofNat d1) (Int32.ofNat b0) (Int32.ofNat d0)) (sp8 (Int32.ofNat b2) (Int32.ofNat d2) (Int32.ofNat b0) (Int32.ofNat d0)) (sp8 (Int32.ofNat b2) (Int32.ofNat d2) (Int32.ofNat b1) (Int32.ofNat d1)) (sp8 (Int32.ofNat b3) (Int32.ofNat d3) (Int32.ofNat b0) (Int32.ofNat d0)) (sp8 (Int32.ofNat b3) (Int32.ofNat d3) (Int32.ofNat b1) (Int32.ofNat d1)) (sp8 (Int32.ofNat b3) (Int32.ofNat d3) (Int32.ofNat b2) (Int32.ofNat d2)) → Wp p e s below room_1.cells room_1.slots (LawQ n0) T9 (mkF m 285 #[.val (.int x0), .val (.int x1), .val (.int x2), .val (.int x3), .val (.int x4), .val (.int x5), .val (.int (Int32.ofNat g)), .val (.int (Int32.ofNat a)), .val (.int (Int32.ofNat g1)), .val (.int (Int32.ofNat a1)), .val (.int (Int32.ofNat fb0)), .val (.int (Int32.ofNat fd0)), .val (.int (Int32.ofNat fb1)), .val (.int (Int32.ofNat fd1)), .val (.int (Int32.ofNat b0)), .val (.int (Int32.ofNat d0)), .val (.int (Int32.ofNat b1)), .val (.int (Int32.ofNat d1)), .val (.int (Int32.ofNat b2)), .val (.int (Int32.ofNat d2)), .val (.int (Int32.ofNat b3)), .val (.int (Int32.ofNat d3)), .val (.ref (n0 + 0)), .val (.int (0 : Int32)), .val (.int tf1), .val (.int (1 : Int32)), .val (.int tq0), .val (.int tq1), .val (.int tq2), .val (.int tq3), .unset, .unset, .unset, .unset, .unset, .unset, .unset, .unset, .unset, .unset, .unset, .unset, .unset, .unset, .unset, .unset, .unset] []) := by
    intro T9 L1 tf1 tq0 tq1 tq2 tq3 tac tst tgc tsq ar0 ar1 ar2 cr to N1 X9 P9 tF hq0 hq1 hq2 hq3 hgc hsq
    refine w_iload X9 hx (hb hby at_285) rfl (pc' := 287) rfl ?_
    refine w_iload X9 hx (hb hby at_287) rfl (pc' := 289) rfl ?_
    refine w_iload X9 hx (hb hby at_289) rfl (pc' := 291) rfl ?_
    refine w_iload X9 hx (hb hby at_291) rfl (pc' := 293) rfl ?_
    refine w_callP (W := 0) X9 hx hZ rfl hown hml.symm (wd48 hw) (wd49 hw) (wd2 hw) (wd50 hw) (rm8 l Z a0 hw [] (Int32.ofNat b1) (Int32.ofNat d1) (Int32.ofNat b0) (Int32.ofNat d0) _) (by decide) (by decide) (by decide) rfl rfl (by decide) (by decide) (argsL := [.int (Int32.ofNat b1), .int (Int32.ofNat d1), .int (Int32.ofNat b0), .int (Int32.ofNat d0)]) (rest := []) pd8 rfl rfl rfl (Nat.le_of_eq rfl) (hb hby at_293) (pc' := 296) rfl ?_
    intro T10 X10 e10
    have P10 : HP n0 T10.heap (to :: cr) := by rw [e10]; exact P9
    refine w_genI (fun s10 es10 => ?_)
    refine w_istore (l' := #[.val (.int x0), .val (.int x1), .val (.int x2), .val (.int x3), .val (.int x4), .val (.int x5), .val (.int (Int32.ofNat g)), .val (.int (Int32.ofNat a)), .val (.int (Int32.ofNat g1)), .val (.int (Int32.ofNat a1)), .val (.int (Int32.ofNat fb0)), .val (.int (Int32.ofNat fd0)), .val (.int (Int32.ofNat fb1)), .val (.int (Int32.ofNat fd1)), .val (.int (Int32.ofNat b0)), .val (.int (Int32.ofNat d0)), .val (.int (Int32.ofNat b1)), .val (.int (Int32.ofNat d1)), .val (.int (Int32.ofNat b2)), .val (.int (Int32.ofNat d2)), .val (.int (Int32.ofNat b3)), .val (.int (Int32.ofNat d3)), .val (.ref (n0 + 0)), .val (.int (0 : Int32)), .val (.int tf1), .val (.int (1 : Int32)), .val (.int tq0), .val (.int tq1), .val (.int tq2), .val (.int tq3), .val (.int s10), .unset, .unset, .unset, .unset, .unset, .unset, .unset, .unset, .unset, .unset, .unset, .unset, .unset, .unset, .unset, .unset]) X10 hx (hb hby at_296) rfl (pc' := 298) rfl ?_
    refine w_iload X10 hx (hb hby at_298) rfl (pc' := 300) rfl ?_
    refine w_iload X10 hx (hb hby at_300) rfl (pc' := 302) rfl ?_
    refine w_iload X10 hx (hb hby at_302) rfl (pc' := 304) rfl ?_
    refine w_iload X10 hx (hb hby at_304) rfl (pc' := 306) rfl ?_
    refine w_callP (W := 0) X10 hx hZ rfl hown hml.symm (wd48 hw) (wd49 hw) (wd2 hw) (wd50 hw) (rm8 l Z a0 hw [] (Int32.ofNat b2) (Int32.ofNat d2) (Int32.ofNat b0) (Int32.ofNat d0) _) (by decide) (by decide) (by decide) rfl rfl (by decide) (by decide) (argsL := [.int (Int32.ofNat b2), .int (Int32.ofNat d2), .int (Int32.ofNat b0), .int (Int32.ofNat d0)]) (rest := []) pd8 rfl rfl rfl (Nat.le_of_eq rfl) (hb hby at_306) (pc' := 309) rfl ?_
    intro T11 X11 e11
    have P11 : HP n0 T11.heap (to :: cr) := by rw [e11]; exact P10
    refine w_genI (fun s20 es20 => ?_)
    refine w_istore (l' := #[.val (.int x0), .val (.int x1), .val (.int x2), .val (.int x3), .val (.int x4), .val (.int x5), .val (.int (Int32.ofNat g)), .val (.int (Int32.ofNat a)), .val (.int (Int32.ofNat g1)), .val (.int (Int32.ofNat a1)), .val (.int (Int32.ofNat fb0)), .val (.int (Int32.ofNat fd0)), .val (.int (Int32.ofNat fb1)), .val (.int (Int32.ofNat fd1)), .val (.int (Int32.ofNat b0)), .val (.int (Int32.ofNat d0)), .val (.int (Int32.ofNat b1)), .val (.int (Int32.ofNat d1)), .val (.int (Int32.ofNat b2)), .val (.int (Int32.ofNat d2)), .val (.int (Int32.ofNat b3)), .val (.int (Int32.ofNat d3)), .val (.ref (n0 + 0)), .val (.int (0 : Int32)), .val (.int tf1), .val (.int (1 : Int32)), .val (.int tq0), .val (.int tq1), .val (.int tq2), .val (.int tq3), .val (.int s10), .val (.int s20), .unset, .unset, .unset, .unset, .unset, .unset, .unset, .unset, .unset, .unset, .unset, .unset, .unset, .unset, .unset]) X11 hx (hb hby at_309) rfl (pc' := 311) rfl ?_
    refine w_iload X11 hx (hb hby at_311) rfl (pc' := 313) rfl ?_
    refine w_iload X11 hx (hb hby at_313) rfl (pc' := 315) rfl ?_
    refine w_iload X11 hx (hb hby at_315) rfl (pc' := 317) rfl ?_
    refine w_iload X11 hx (hb hby at_317) rfl (pc' := 319) rfl ?_
    refine w_callP (W := 0) X11 hx hZ rfl hown hml.symm (wd48 hw) (wd49 hw) (wd2 hw) (wd50 hw) (rm8 l Z a0 hw [] (Int32.ofNat b2) (Int32.ofNat d2) (Int32.ofNat b1) (Int32.ofNat d1) _) (by decide) (by decide) (by decide) rfl rfl (by decide) (by decide) (argsL := [.int (Int32.ofNat b2), .int (Int32.ofNat d2), .int (Int32.ofNat b1), .int (Int32.ofNat d1)]) (rest := []) pd8 rfl rfl rfl (Nat.le_of_eq rfl) (hb hby at_319) (pc' := 322) rfl ?_
    intro T12 X12 e12
    have P12 : HP n0 T12.heap (to :: cr) := by rw [e12]; exact P11
    refine w_genI (fun s21 es21 => ?_)
    refine w_istore (l' := #[.val (.int x0), .val (.int x1), .val (.int x2), .val (.int x3), .val (.int x4), .val (.int x5), .val (.int (Int32.ofNat g)), .val (.int (Int32.ofNat a)), .val (.int (Int32.ofNat g1)), .val (.int (Int32.ofNat a1)), .val (.int (Int32.ofNat fb0)), .val (.int (Int32.ofNat fd0)), .val (.int (Int32.ofNat fb1)), .val (.int (Int32.ofNat fd1)), .val (.int (Int32.ofNat b0)), .val (.int (Int32.ofNat d0)), .val (.int (Int32.ofNat b1)), .val (.int (Int32.ofNat d1)), .val (.int (Int32.ofNat b2)), .val (.int (Int32.ofNat d2)), .val (.int (Int32.ofNat b3)), .val (.int (Int32.ofNat d3)), .val (.ref (n0 + 0)), .val (.int (0 : Int32)), .val (.int tf1), .val (.int (1 : Int32)), .val (.int tq0), .val (.int tq1), .val (.int tq2), .val (.int tq3), .val (.int s10), .val (.int s20), .val (.int s21), .unset, .unset, .unset, .unset, .unset, .unset, .unset, .unset, .unset, .unset, .unset, .unset, .unset, .unset]) X12 hx (hb hby at_322) rfl (pc' := 324) rfl ?_
    refine w_iload X12 hx (hb hby at_324) rfl (pc' := 326) rfl ?_
    refine w_iload X12 hx (hb hby at_326) rfl (pc' := 328) rfl ?_
    refine w_iload X12 hx (hb hby at_328) rfl (pc' := 330) rfl ?_
    refine w_iload X12 hx (hb hby at_330) rfl (pc' := 332) rfl ?_
    refine w_callP (W := 0) X12 hx hZ rfl hown hml.symm (wd48 hw) (wd49 hw) (wd2 hw) (wd50 hw) (rm8 l Z a0 hw [] (Int32.ofNat b3) (Int32.ofNat d3) (Int32.ofNat b0) (Int32.ofNat d0) _) (by decide) (by decide) (by decide) rfl rfl (by decide) (by decide) (argsL := [.int (Int32.ofNat b3), .int (Int32.ofNat d3), .int (Int32.ofNat b0), .int (Int32.ofNat d0)]) (rest := []) pd8 rfl rfl rfl (Nat.le_of_eq rfl) (hb hby at_332) (pc' := 335) rfl ?_
    intro T13 X13 e13
    have P13 : HP n0 T13.heap (to :: cr) := by rw [e13]; exact P12
    refine w_genI (fun s30 es30 => ?_)
    refine w_istore (l' := #[.val (.int x0), .val (.int x1), .val (.int x2), .val (.int x3), .val (.int x4), .val (.int x5), .val (.int (Int32.ofNat g)), .val (.int (Int32.ofNat a)), .val (.int (Int32.ofNat g1)), .val (.int (Int32.ofNat a1)), .val (.int (Int32.ofNat fb0)), .val (.int (Int32.ofNat fd0)), .val (.int (Int32.ofNat fb1)), .val (.int (Int32.ofNat fd1)), .val (.int (Int32.ofNat b0)), .val (.int (Int32.ofNat d0)), .val (.int (Int32.ofNat b1)), .val (.int (Int32.ofNat d1)), .val (.int (Int32.ofNat b2)), .val (.int (Int32.ofNat d2)), .val (.int (Int32.ofNat b3)), .val (.int (Int32.ofNat d3)), .val (.ref (n0 + 0)), .val (.int (0 : Int32)), .val (.int tf1), .val (.int (1 : Int32)), .val (.int tq0), .val (.int tq1), .val (.int tq2), .val (.int tq3), .val (.int s10), .val (.int s20), .val (.int s21), .val (.int s30), .unset, .unset, .unset, .unset, .unset, .unset, .unset, .unset, .unset, .unset, .unset, .unset, .unset]) X13 hx (hb hby at_335) rfl (pc' := 337) rfl ?_
    refine w_iload X13 hx (hb hby at_337) rfl (pc' := 339) rfl ?_
    refine w_iload X13 hx (hb hby at_339) rfl (pc' := 341) rfl ?_
    refine w_iload X13 hx (hb hby at_341) rfl (pc' := 343) rfl ?_
    refine w_iload X13 hx (hb hby at_343) rfl (pc' := 345) rfl ?_
    refine w_callP (W := 0) X13 hx hZ rfl hown hml.symm (wd48 hw) (wd49 hw) (wd2 hw) (wd50 hw) (rm8 l Z a0 hw [] (Int32.ofNat b3) (Int32.ofNat d3) (Int32.ofNat b1) (Int32.ofNat d1) _) (by decide) (by decide) (by decide) rfl rfl (by decide) (by decide) (argsL := [.int (Int32.ofNat b3), .int (Int32.ofNat d3), .int (Int32.ofNat b1), .int (Int32.ofNat d1)]) (rest := []) pd8 rfl rfl rfl (Nat.le_of_eq rfl) (hb hby at_345) (pc' := 348) rfl ?_
    intro T14 X14 e14
    have P14 : HP n0 T14.heap (to :: cr) := by rw [e14]; exact P13
    refine w_genI (fun s31 es31 => ?_)
    refine w_istore (l' := #[.val (.int x0), .val (.int x1), .val (.int x2), .val (.int x3), .val (.int x4), .val (.int x5), .val (.int (Int32.ofNat g)), .val (.int (Int32.ofNat a)), .val (.int (Int32.ofNat g1)), .val (.int (Int32.ofNat a1)), .val (.int (Int32.ofNat fb0)), .val (.int (Int32.ofNat fd0)), .val (.int (Int32.ofNat fb1)), .val (.int (Int32.ofNat fd1)), .val (.int (Int32.ofNat b0)), .val (.int (Int32.ofNat d0)), .val (.int (Int32.ofNat b1)), .val (.int (Int32.ofNat d1)), .val (.int (Int32.ofNat b2)), .val (.int (Int32.ofNat d2)), .val (.int (Int32.ofNat b3)), .val (.int (Int32.ofNat d3)), .val (.ref (n0 + 0)), .val (.int (0 : Int32)), .val (.int tf1), .val (.int (1 : Int32)), .val (.int tq0), .val (.int tq1), .val (.int tq2), .val (.int tq3), .val (.int s10), .val (.int s20), .val (.int s21), .val (.int s30), .val (.int s31), .unset, .unset, .unset, .unset, .unset, .unset, .unset, .unset, .unset, .unset, .unset, .unset]) X14 hx (hb hby at_348) rfl (pc' := 350) rfl ?_
    refine w_iload X14 hx (hb hby at_350) rfl (pc' := 352) rfl ?_
    refine w_iload X14 hx (hb hby at_352) rfl (pc' := 354) rfl ?_
    refine w_iload X14 hx (hb hby at_354) rfl (pc' := 356) rfl ?_
    refine w_iload X14 hx (hb hby at_356) rfl (pc' := 358) rfl ?_
    refine w_callP (W := 0) X14 hx hZ rfl hown hml.symm (wd48 hw) (wd49 hw) (wd2 hw) (wd50 hw) (rm8 l Z a0 hw [] (Int32.ofNat b3) (Int32.ofNat d3) (Int32.ofNat b2) (Int32.ofNat d2) _) (by decide) (by decide) (by decide) rfl rfl (by decide) (by decide) (argsL := [.int (Int32.ofNat b3), .int (Int32.ofNat d3), .int (Int32.ofNat b2), .int (Int32.ofNat d2)]) (rest := []) pd8 rfl rfl rfl (Nat.le_of_eq rfl) (hb hby at_358) (pc' := 361) rfl ?_
    intro T15 X15 e15
    have P15 : HP n0 T15.heap (to :: cr) := by rw [e15]; exact P14
    refine w_genI (fun s32 es32 => ?_)
    refine w_istore (l' := #[.val (.int x0), .val (.int x1), .val (.int x2), .val (.int x3), .val (.int x4), .val (.int x5), .val (.int (Int32.ofNat g)), .val (.int (Int32.ofNat a)), .val (.int (Int32.ofNat g1)), .val (.int (Int32.ofNat a1)), .val (.int (Int32.ofNat fb0)), .val (.int (Int32.ofNat fd0)), .val (.int (Int32.ofNat fb1)), .val (.int (Int32.ofNat fd1)), .val (.int (Int32.ofNat b0)), .val (.int (Int32.ofNat d0)), .val (.int (Int32.ofNat b1)), .val (.int (Int32.ofNat d1)), .val (.int (Int32.ofNat b2)), .val (.int (Int32.ofNat d2)), .val (.int (Int32.ofNat b3)), .val (.int (Int32.ofNat d3)), .val (.ref (n0 + 0)), .val (.int (0 : Int32)), .val (.int tf1), .val (.int (1 : Int32)), .val (.int tq0), .val (.int tq1), .val (.int tq2), .val (.int tq3), .val (.int s10), .val (.int s20), .val (.int s21), .val (.int s30), .val (.int s31), .val (.int s32), .unset, .unset, .unset, .unset, .unset, .unset, .unset, .unset, .unset, .unset, .unset]) X15 hx (hb hby at_361) rfl (pc' := 363) rfl ?_
    refine w_iconst (v := (0 : Int32)) X15 hx (hb hby at_363) rfl (pc' := 364) rfl ?_
    refine w_istore (l' := #[.val (.int x0), .val (.int x1), .val (.int x2), .val (.int x3), .val (.int x4), .val (.int x5), .val (.int (Int32.ofNat g)), .val (.int (Int32.ofNat a)), .val (.int (Int32.ofNat g1)), .val (.int (Int32.ofNat a1)), .val (.int (Int32.ofNat fb0)), .val (.int (Int32.ofNat fd0)), .val (.int (Int32.ofNat fb1)), .val (.int (Int32.ofNat fd1)), .val (.int (Int32.ofNat b0)), .val (.int (Int32.ofNat d0)), .val (.int (Int32.ofNat b1)), .val (.int (Int32.ofNat d1)), .val (.int (Int32.ofNat b2)), .val (.int (Int32.ofNat d2)), .val (.int (Int32.ofNat b3)), .val (.int (Int32.ofNat d3)), .val (.ref (n0 + 0)), .val (.int (0 : Int32)), .val (.int tf1), .val (.int (1 : Int32)), .val (.int tq0), .val (.int tq1), .val (.int tq2), .val (.int tq3), .val (.int s10), .val (.int s20), .val (.int s21), .val (.int s30), .val (.int s31), .val (.int s32), .val (.int (0 : Int32)), .unset, .unset, .unset, .unset, .unset, .unset, .unset, .unset, .unset, .unset]) X15 hx (hb hby at_364) rfl (pc' := 366) rfl ?_
    refine w_iload X15 hx (hb hby at_366) rfl (pc' := 368) rfl ?_
    suffices K1 : ∀ mK1 : Int32, mK1 = (if s10 = 0 then (1 : Int32) else (0 : Int32)) → Wp p e s below room_1.cells room_1.slots (LawQ n0) T15 (mkF m 376 #[.val (.int x0), .val (.int x1), .val (.int x2), .val (.int x3), .val (.int x4), .val (.int x5), .val (.int (Int32.ofNat g)), .val (.int (Int32.ofNat a)), .val (.int (Int32.ofNat g1)), .val (.int (Int32.ofNat a1)), .val (.int (Int32.ofNat fb0)), .val (.int (Int32.ofNat fd0)), .val (.int (Int32.ofNat fb1)), .val (.int (Int32.ofNat fd1)), .val (.int (Int32.ofNat b0)), .val (.int (Int32.ofNat d0)), .val (.int (Int32.ofNat b1)), .val (.int (Int32.ofNat d1)), .val (.int (Int32.ofNat b2)), .val (.int (Int32.ofNat d2)), .val (.int (Int32.ofNat b3)), .val (.int (Int32.ofNat d3)), .val (.ref (n0 + 0)), .val (.int (0 : Int32)), .val (.int tf1), .val (.int (1 : Int32)), .val (.int tq0), .val (.int tq1), .val (.int tq2), .val (.int tq3), .val (.int s10), .val (.int s20), .val (.int s21), .val (.int s30), .val (.int s31), .val (.int s32), .val (.int (0 : Int32)), .unset, .unset, .unset, .unset, .unset, .unset, .unset, .unset, .unset, .unset] [.int mK1]) by
      refine w_if_eq X15 hx (hb hby at_368) (by decide) (pcY := 375) (by decide) (pc' := 371) rfl (fun h0 => ?_) (fun h0 => ?_)
      · refine w_iconst (v := (1 : Int32)) X15 hx (hb hby at_375) rfl (pc' := 376) rfl ?_
        exact K1 _ (if_pos h0).symm
      · refine w_iconst (v := (0 : Int32)) X15 hx (hb hby at_371) rfl (pc' := 372) rfl ?_
        refine w_goto X15 hx (hb hby at_372) (by decide) (pc' := 376) (by decide) ?_
        exact K1 _ (if_neg h0).symm
    intro mK1 emK1
    refine w_istore (l' := #[.val (.int x0), .val (.int x1), .val (.int x2), .val (.int x3), .val (.int x4), .val (.int x5), .val (.int (Int32.ofNat g)), .val (.int (Int32.ofNat a)), .val (.int (Int32.ofNat g1)), .val (.int (Int32.ofNat a1)), .val (.int (Int32.ofNat fb0)), .val (.int (Int32.ofNat fd0)), .val (.int (Int32.ofNat fb1)), .val (.int (Int32.ofNat fd1)), .val (.int (Int32.ofNat b0)), .val (.int (Int32.ofNat d0)), .val (.int (Int32.ofNat b1)), .val (.int (Int32.ofNat d1)), .val (.int (Int32.ofNat b2)), .val (.int (Int32.ofNat d2)), .val (.int (Int32.ofNat b3)), .val (.int (Int32.ofNat d3)), .val (.ref (n0 + 0)), .val (.int (0 : Int32)), .val (.int tf1), .val (.int (1 : Int32)), .val (.int tq0), .val (.int tq1), .val (.int tq2), .val (.int tq3), .val (.int s10), .val (.int s20), .val (.int s21), .val (.int s30), .val (.int s31), .val (.int s32), .val (.int (0 : Int32)), .val (.int mK1), .unset, .unset, .unset, .unset, .unset, .unset, .unset, .unset, .unset]) X15 hx (hb hby at_376) rfl (pc' := 378) rfl ?_
    refine w_iload X15 hx (hb hby at_378) rfl (pc' := 380) rfl ?_
    suffices K3 : ∀ mK3 : Int32, mK3 = (if s10 = 0 then (2 : Int32) else (1 : Int32)) → Wp p e s below room_1.cells room_1.slots (LawQ n0) T15 (mkF m 388 #[.val (.int x0), .val (.int x1), .val (.int x2), .val (.int x3), .val (.int x4), .val (.int x5), .val (.int (Int32.ofNat g)), .val (.int (Int32.ofNat a)), .val (.int (Int32.ofNat g1)), .val (.int (Int32.ofNat a1)), .val (.int (Int32.ofNat fb0)), .val (.int (Int32.ofNat fd0)), .val (.int (Int32.ofNat fb1)), .val (.int (Int32.ofNat fd1)), .val (.int (Int32.ofNat b0)), .val (.int (Int32.ofNat d0)), .val (.int (Int32.ofNat b1)), .val (.int (Int32.ofNat d1)), .val (.int (Int32.ofNat b2)), .val (.int (Int32.ofNat d2)), .val (.int (Int32.ofNat b3)), .val (.int (Int32.ofNat d3)), .val (.ref (n0 + 0)), .val (.int (0 : Int32)), .val (.int tf1), .val (.int (1 : Int32)), .val (.int tq0), .val (.int tq1), .val (.int tq2), .val (.int tq3), .val (.int s10), .val (.int s20), .val (.int s21), .val (.int s30), .val (.int s31), .val (.int s32), .val (.int (0 : Int32)), .val (.int mK1), .unset, .unset, .unset, .unset, .unset, .unset, .unset, .unset, .unset] [.int mK3]) by
      refine w_if_eq X15 hx (hb hby at_380) (by decide) (pcY := 387) (by decide) (pc' := 383) rfl (fun h2 => ?_) (fun h2 => ?_)
      · refine w_iconst (v := (2 : Int32)) X15 hx (hb hby at_387) rfl (pc' := 388) rfl ?_
        exact K3 _ (if_pos h2).symm
      · refine w_iconst (v := (1 : Int32)) X15 hx (hb hby at_383) rfl (pc' := 384) rfl ?_
        refine w_goto X15 hx (hb hby at_384) (by decide) (pc' := 388) (by decide) ?_
        exact K3 _ (if_neg h2).symm
    intro mK3 emK3
    refine w_istore (l' := #[.val (.int x0), .val (.int x1), .val (.int x2), .val (.int x3), .val (.int x4), .val (.int x5), .val (.int (Int32.ofNat g)), .val (.int (Int32.ofNat a)), .val (.int (Int32.ofNat g1)), .val (.int (Int32.ofNat a1)), .val (.int (Int32.ofNat fb0)), .val (.int (Int32.ofNat fd0)), .val (.int (Int32.ofNat fb1)), .val (.int (Int32.ofNat fd1)), .val (.int (Int32.ofNat b0)), .val (.int (Int32.ofNat d0)), .val (.int (Int32.ofNat b1)), .val (.int (Int32.ofNat d1)), .val (.int (Int32.ofNat b2)), .val (.int (Int32.ofNat d2)), .val (.int (Int32.ofNat b3)), .val (.int (Int32.ofNat d3)), .val (.ref (n0 + 0)), .val (.int (0 : Int32)), .val (.int tf1), .val (.int (1 : Int32)), .val (.int tq0), .val (.int tq1), .val (.int tq2), .val (.int tq3), .val (.int s10), .val (.int s20), .val (.int s21), .val (.int s30), .val (.int s31), .val (.int s32), .val (.int (0 : Int32)), .val (.int mK1), .val (.int mK3), .unset, .unset, .unset, .unset, .unset, .unset, .unset, .unset]) X15 hx (hb hby at_388) rfl (pc' := 390) rfl ?_
    refine w_iload X15 hx (hb hby at_390) rfl (pc' := 392) rfl ?_
    suffices K5 : ∀ mK5 : Int32, mK5 = (if s20 = 0 then (if s21 = 0 then mK3 else mK1) else (0 : Int32)) → Wp p e s below room_1.cells room_1.slots (LawQ n0) T15 (mkF m 412 #[.val (.int x0), .val (.int x1), .val (.int x2), .val (.int x3), .val (.int x4), .val (.int x5), .val (.int (Int32.ofNat g)), .val (.int (Int32.ofNat a)), .val (.int (Int32.ofNat g1)), .val (.int (Int32.ofNat a1)), .val (.int (Int32.ofNat fb0)), .val (.int (Int32.ofNat fd0)), .val (.int (Int32.ofNat fb1)), .val (.int (Int32.ofNat fd1)), .val (.int (Int32.ofNat b0)), .val (.int (Int32.ofNat d0)), .val (.int (Int32.ofNat b1)), .val (.int (Int32.ofNat d1)), .val (.int (Int32.ofNat b2)), .val (.int (Int32.ofNat d2)), .val (.int (Int32.ofNat b3)), .val (.int (Int32.ofNat d3)), .val (.ref (n0 + 0)), .val (.int (0 : Int32)), .val (.int tf1), .val (.int (1 : Int32)), .val (.int tq0), .val (.int tq1), .val (.int tq2), .val (.int tq3), .val (.int s10), .val (.int s20), .val (.int s21), .val (.int s30), .val (.int s31), .val (.int s32), .val (.int (0 : Int32)), .val (.int mK1), .val (.int mK3), .unset, .unset, .unset, .unset, .unset, .unset, .unset, .unset] [.int mK5]) by
      refine w_if_eq X15 hx (hb hby at_392) (by decide) (pcY := 400) (by decide) (pc' := 395) rfl (fun h4 => ?_) (fun h4 => ?_)
      · refine w_iload X15 hx (hb hby at_400) rfl (pc' := 402) rfl ?_
        suffices K7 : ∀ mK7 : Int32, mK7 = (if s21 = 0 then mK3 else mK1) → Wp p e s below room_1.cells room_1.slots (LawQ n0) T15 (mkF m 412 #[.val (.int x0), .val (.int x1), .val (.int x2), .val (.int x3), .val (.int x4), .val (.int x5), .val (.int (Int32.ofNat g)), .val (.int (Int32.ofNat a)), .val (.int (Int32.ofNat g1)), .val (.int (Int32.ofNat a1)), .val (.int (Int32.ofNat fb0)), .val (.int (Int32.ofNat fd0)), .val (.int (Int32.ofNat fb1)), .val (.int (Int32.ofNat fd1)), .val (.int (Int32.ofNat b0)), .val (.int (Int32.ofNat d0)), .val (.int (Int32.ofNat b1)), .val (.int (Int32.ofNat d1)), .val (.int (Int32.ofNat b2)), .val (.int (Int32.ofNat d2)), .val (.int (Int32.ofNat b3)), .val (.int (Int32.ofNat d3)), .val (.ref (n0 + 0)), .val (.int (0 : Int32)), .val (.int tf1), .val (.int (1 : Int32)), .val (.int tq0), .val (.int tq1), .val (.int tq2), .val (.int tq3), .val (.int s10), .val (.int s20), .val (.int s21), .val (.int s30), .val (.int s31), .val (.int s32), .val (.int (0 : Int32)), .val (.int mK1), .val (.int mK3), .unset, .unset, .unset, .unset, .unset, .unset, .unset, .unset] [.int mK7]) by
          refine w_if_eq X15 hx (hb hby at_402) (by decide) (pcY := 410) (by decide) (pc' := 405) rfl (fun h6 => ?_) (fun h6 => ?_)
          · refine w_iload X15 hx (hb hby at_410) rfl (pc' := 412) rfl ?_
            exact K7 _ (if_pos h6).symm
          · refine w_iload X15 hx (hb hby at_405) rfl (pc' := 407) rfl ?_
            refine w_goto X15 hx (hb hby at_407) (by decide) (pc' := 412) (by decide) ?_
            exact K7 _ (if_neg h6).symm
        intro mK7 emK7
        exact K5 _ (by rw [emK7, if_pos h4])
      · refine w_iload X15 hx (hb hby at_395) rfl (pc' := 397) rfl ?_
        refine w_goto X15 hx (hb hby at_397) (by decide) (pc' := 412) (by decide) ?_
        exact K5 _ (if_neg h4).symm
    intro mK5 emK5
    refine w_istore (l' := #[.val (.int x0), .val (.int x1), .val (.int x2), .val (.int x3), .val (.int x4), .val (.int x5), .val (.int (Int32.ofNat g)), .val (.int (Int32.ofNat a)), .val (.int (Int32.ofNat g1)), .val (.int (Int32.ofNat a1)), .val (.int (Int32.ofNat fb0)), .val (.int (Int32.ofNat fd0)), .val (.int (Int32.ofNat fb1)), .val (.int (Int32.ofNat fd1)), .val (.int (Int32.ofNat b0)), .val (.int (Int32.ofNat d0)), .val (.int (Int32.ofNat b1)), .val (.int (Int32.ofNat d1)), .val (.int (Int32.ofNat b2)), .val (.int (Int32.ofNat d2)), .val (.int (Int32.ofNat b3)), .val (.int (Int32.ofNat d3)), .val (.ref (n0 + 0)), .val (.int (0 : Int32)), .val (.int tf1), .val (.int (1 : Int32)), .val (.int tq0), .val (.int tq1), .val (.int tq2), .val (.int tq3), .val (.int s10), .val (.int s20), .val (.int s21), .val (.int s30), .val (.int s31), .val (.int s32), .val (.int (0 : Int32)), .val (.int mK1), .val (.int mK3), .val (.int mK5), .unset, .unset, .unset, .unset, .unset, .unset, .unset]) X15 hx (hb hby at_412) rfl (pc' := 414) rfl ?_
    refine w_iload X15 hx (hb hby at_414) rfl (pc' := 416) rfl ?_
    suffices K9 : ∀ mK9 : Int32, mK9 = (if s20 = 0 then (if s21 = 0 then (mK3 + (1 : Int32)) else mK3) else mK3) → Wp p e s below room_1.cells room_1.slots (LawQ n0) T15 (mkF m 433 #[.val (.int x0), .val (.int x1), .val (.int x2), .val (.int x3), .val (.int x4), .val (.int x5), .val (.int (Int32.ofNat g)), .val (.int (Int32.ofNat a)), .val (.int (Int32.ofNat g1)), .val (.int (Int32.ofNat a1)), .val (.int (Int32.ofNat fb0)), .val (.int (Int32.ofNat fd0)), .val (.int (Int32.ofNat fb1)), .val (.int (Int32.ofNat fd1)), .val (.int (Int32.ofNat b0)), .val (.int (Int32.ofNat d0)), .val (.int (Int32.ofNat b1)), .val (.int (Int32.ofNat d1)), .val (.int (Int32.ofNat b2)), .val (.int (Int32.ofNat d2)), .val (.int (Int32.ofNat b3)), .val (.int (Int32.ofNat d3)), .val (.ref (n0 + 0)), .val (.int (0 : Int32)), .val (.int tf1), .val (.int (1 : Int32)), .val (.int tq0), .val (.int tq1), .val (.int tq2), .val (.int tq3), .val (.int s10), .val (.int s20), .val (.int s21), .val (.int s30), .val (.int s31), .val (.int s32), .val (.int (0 : Int32)), .val (.int mK1), .val (.int mK3), .val (.int mK5), .unset, .unset, .unset, .unset, .unset, .unset, .unset] [.int mK9]) by
      refine w_if_ne X15 hx (hb hby at_416) (by decide) (pcY := 424) (by decide) (pc' := 419) rfl (fun h8 => ?_) (fun h8 => ?_)
      · refine w_iload X15 hx (hb hby at_424) rfl (pc' := 426) rfl ?_
        refine w_goto X15 hx (hb hby at_426) (by decide) (pc' := 433) (by decide) ?_
        exact K9 _ (if_neg h8).symm
      · refine w_iload X15 hx (hb hby at_419) rfl (pc' := 421) rfl ?_
        suffices K11 : ∀ mK11 : Int32, mK11 = (if s21 = 0 then (mK3 + (1 : Int32)) else mK3) → Wp p e s below room_1.cells room_1.slots (LawQ n0) T15 (mkF m 433 #[.val (.int x0), .val (.int x1), .val (.int x2), .val (.int x3), .val (.int x4), .val (.int x5), .val (.int (Int32.ofNat g)), .val (.int (Int32.ofNat a)), .val (.int (Int32.ofNat g1)), .val (.int (Int32.ofNat a1)), .val (.int (Int32.ofNat fb0)), .val (.int (Int32.ofNat fd0)), .val (.int (Int32.ofNat fb1)), .val (.int (Int32.ofNat fd1)), .val (.int (Int32.ofNat b0)), .val (.int (Int32.ofNat d0)), .val (.int (Int32.ofNat b1)), .val (.int (Int32.ofNat d1)), .val (.int (Int32.ofNat b2)), .val (.int (Int32.ofNat d2)), .val (.int (Int32.ofNat b3)), .val (.int (Int32.ofNat d3)), .val (.ref (n0 + 0)), .val (.int (0 : Int32)), .val (.int tf1), .val (.int (1 : Int32)), .val (.int tq0), .val (.int tq1), .val (.int tq2), .val (.int tq3), .val (.int s10), .val (.int s20), .val (.int s21), .val (.int s30), .val (.int s31), .val (.int s32), .val (.int (0 : Int32)), .val (.int mK1), .val (.int mK3), .val (.int mK5), .unset, .unset, .unset, .unset, .unset, .unset, .unset] [.int mK11]) by
          refine w_if_eq X15 hx (hb hby at_421) (by decide) (pcY := 429) (by decide) (pc' := 424) rfl (fun h10 => ?_) (fun h10 => ?_)
          · refine w_iload X15 hx (hb hby at_429) rfl (pc' := 431) rfl ?_
            refine w_iconst (v := (1 : Int32)) X15 hx (hb hby at_431) rfl (pc' := 432) rfl ?_
            refine w_iadd X15 hx (hb hby at_432) (pc' := 433) rfl ?_
            exact K11 _ (if_pos h10).symm
          · refine w_iload X15 hx (hb hby at_424) rfl (pc' := 426) rfl ?_
            refine w_goto X15 hx (hb hby at_426) (by decide) (pc' := 433) (by decide) ?_
            exact K11 _ (if_neg h10).symm
        intro mK11 emK11
        exact K9 _ (by rw [emK11, if_pos h8])
    intro mK9 emK9
    refine w_istore (l' := #[.val (.int x0), .val (.int x1), .val (.int x2), .val (.int x3), .val (.int x4), .val (.int x5), .val (.int (Int32.ofNat g)), .val (.int (Int32.ofNat a)), .val (.int (Int32.ofNat g1)), .val (.int (Int32.ofNat a1)), .val (.int (Int32.ofNat fb0)), .val (.int (Int32.ofNat fd0)), .val (.int (Int32.ofNat fb1)), .val (.int (Int32.ofNat fd1)), .val (.int (Int32.ofNat b0)), .val (.int (Int32.ofNat d0)), .val (.int (Int32.ofNat b1)), .val (.int (Int32.ofNat d1)), .val (.int (Int32.ofNat b2)), .val (.int (Int32.ofNat d2)), .val (.int (Int32.ofNat b3)), .val (.int (Int32.ofNat d3)), .val (.ref (n0 + 0)), .val (.int (0 : Int32)), .val (.int tf1), .val (.int (1 : Int32)), .val (.int tq0), .val (.int tq1), .val (.int tq2), .val (.int tq3), .val (.int s10), .val (.int s20), .val (.int s21), .val (.int s30), .val (.int s31), .val (.int s32), .val (.int (0 : Int32)), .val (.int mK1), .val (.int mK3), .val (.int mK5), .val (.int mK9), .unset, .unset, .unset, .unset, .unset, .unset]) X15 hx (hb hby at_433) rfl (pc' := 435) rfl ?_
    refine w_iload X15 hx (hb hby at_435) rfl (pc' := 437) rfl ?_
    suffices K13 : ∀ mK13 : Int32, mK13 = (if s30 = 0 then (if s31 = 0 then (if s32 = 0 then mK9 else mK5) else mK1) else (0 : Int32)) → Wp p e s below room_1.cells room_1.slots (LawQ n0) T15 (mkF m 467 #[.val (.int x0), .val (.int x1), .val (.int x2), .val (.int x3), .val (.int x4), .val (.int x5), .val (.int (Int32.ofNat g)), .val (.int (Int32.ofNat a)), .val (.int (Int32.ofNat g1)), .val (.int (Int32.ofNat a1)), .val (.int (Int32.ofNat fb0)), .val (.int (Int32.ofNat fd0)), .val (.int (Int32.ofNat fb1)), .val (.int (Int32.ofNat fd1)), .val (.int (Int32.ofNat b0)), .val (.int (Int32.ofNat d0)), .val (.int (Int32.ofNat b1)), .val (.int (Int32.ofNat d1)), .val (.int (Int32.ofNat b2)), .val (.int (Int32.ofNat d2)), .val (.int (Int32.ofNat b3)), .val (.int (Int32.ofNat d3)), .val (.ref (n0 + 0)), .val (.int (0 : Int32)), .val (.int tf1), .val (.int (1 : Int32)), .val (.int tq0), .val (.int tq1), .val (.int tq2), .val (.int tq3), .val (.int s10), .val (.int s20), .val (.int s21), .val (.int s30), .val (.int s31), .val (.int s32), .val (.int (0 : Int32)), .val (.int mK1), .val (.int mK3), .val (.int mK5), .val (.int mK9), .unset, .unset, .unset, .unset, .unset, .unset] [.int mK13]) by
      refine w_if_eq X15 hx (hb hby at_437) (by decide) (pcY := 445) (by decide) (pc' := 440) rfl (fun h12 => ?_) (fun h12 => ?_)
      · refine w_iload X15 hx (hb hby at_445) rfl (pc' := 447) rfl ?_
        suffices K15 : ∀ mK15 : Int32, mK15 = (if s31 = 0 then (if s32 = 0 then mK9 else mK5) else mK1) → Wp p e s below room_1.cells room_1.slots (LawQ n0) T15 (mkF m 467 #[.val (.int x0), .val (.int x1), .val (.int x2), .val (.int x3), .val (.int x4), .val (.int x5), .val (.int (Int32.ofNat g)), .val (.int (Int32.ofNat a)), .val (.int (Int32.ofNat g1)), .val (.int (Int32.ofNat a1)), .val (.int (Int32.ofNat fb0)), .val (.int (Int32.ofNat fd0)), .val (.int (Int32.ofNat fb1)), .val (.int (Int32.ofNat fd1)), .val (.int (Int32.ofNat b0)), .val (.int (Int32.ofNat d0)), .val (.int (Int32.ofNat b1)), .val (.int (Int32.ofNat d1)), .val (.int (Int32.ofNat b2)), .val (.int (Int32.ofNat d2)), .val (.int (Int32.ofNat b3)), .val (.int (Int32.ofNat d3)), .val (.ref (n0 + 0)), .val (.int (0 : Int32)), .val (.int tf1), .val (.int (1 : Int32)), .val (.int tq0), .val (.int tq1), .val (.int tq2), .val (.int tq3), .val (.int s10), .val (.int s20), .val (.int s21), .val (.int s30), .val (.int s31), .val (.int s32), .val (.int (0 : Int32)), .val (.int mK1), .val (.int mK3), .val (.int mK5), .val (.int mK9), .unset, .unset, .unset, .unset, .unset, .unset] [.int mK15]) by
          refine w_if_eq X15 hx (hb hby at_447) (by decide) (pcY := 455) (by decide) (pc' := 450) rfl (fun h14 => ?_) (fun h14 => ?_)
          · refine w_iload X15 hx (hb hby at_455) rfl (pc' := 457) rfl ?_
            suffices K17 : ∀ mK17 : Int32, mK17 = (if s32 = 0 then mK9 else mK5) → Wp p e s below room_1.cells room_1.slots (LawQ n0) T15 (mkF m 467 #[.val (.int x0), .val (.int x1), .val (.int x2), .val (.int x3), .val (.int x4), .val (.int x5), .val (.int (Int32.ofNat g)), .val (.int (Int32.ofNat a)), .val (.int (Int32.ofNat g1)), .val (.int (Int32.ofNat a1)), .val (.int (Int32.ofNat fb0)), .val (.int (Int32.ofNat fd0)), .val (.int (Int32.ofNat fb1)), .val (.int (Int32.ofNat fd1)), .val (.int (Int32.ofNat b0)), .val (.int (Int32.ofNat d0)), .val (.int (Int32.ofNat b1)), .val (.int (Int32.ofNat d1)), .val (.int (Int32.ofNat b2)), .val (.int (Int32.ofNat d2)), .val (.int (Int32.ofNat b3)), .val (.int (Int32.ofNat d3)), .val (.ref (n0 + 0)), .val (.int (0 : Int32)), .val (.int tf1), .val (.int (1 : Int32)), .val (.int tq0), .val (.int tq1), .val (.int tq2), .val (.int tq3), .val (.int s10), .val (.int s20), .val (.int s21), .val (.int s30), .val (.int s31), .val (.int s32), .val (.int (0 : Int32)), .val (.int mK1), .val (.int mK3), .val (.int mK5), .val (.int mK9), .unset, .unset, .unset, .unset, .unset, .unset] [.int mK17]) by
              refine w_if_eq X15 hx (hb hby at_457) (by decide) (pcY := 465) (by decide) (pc' := 460) rfl (fun h16 => ?_) (fun h16 => ?_)
              · refine w_iload X15 hx (hb hby at_465) rfl (pc' := 467) rfl ?_
                exact K17 _ (if_pos h16).symm
              · refine w_iload X15 hx (hb hby at_460) rfl (pc' := 462) rfl ?_
                refine w_goto X15 hx (hb hby at_462) (by decide) (pc' := 467) (by decide) ?_
                exact K17 _ (if_neg h16).symm
            intro mK17 emK17
            exact K15 _ (by rw [emK17, if_pos h14])
          · refine w_iload X15 hx (hb hby at_450) rfl (pc' := 452) rfl ?_
            refine w_goto X15 hx (hb hby at_452) (by decide) (pc' := 467) (by decide) ?_
            exact K15 _ (if_neg h14).symm
        intro mK15 emK15
        exact K13 _ (by rw [emK15, if_pos h12])
      · refine w_iload X15 hx (hb hby at_440) rfl (pc' := 442) rfl ?_
        refine w_goto X15 hx (hb hby at_442) (by decide) (pc' := 467) (by decide) ?_
        exact K13 _ (if_neg h12).symm
    intro mK13 emK13
    refine w_istore (l' := #[.val (.int x0), .val (.int x1), .val (.int x2), .val (.int x3), .val (.int x4), .val (.int x5), .val (.int (Int32.ofNat g)), .val (.int (Int32.ofNat a)), .val (.int (Int32.ofNat g1)), .val (.int (Int32.ofNat a1)), .val (.int (Int32.ofNat fb0)), .val (.int (Int32.ofNat fd0)), .val (.int (Int32.ofNat fb1)), .val (.int (Int32.ofNat fd1)), .val (.int (Int32.ofNat b0)), .val (.int (Int32.ofNat d0)), .val (.int (Int32.ofNat b1)), .val (.int (Int32.ofNat d1)), .val (.int (Int32.ofNat b2)), .val (.int (Int32.ofNat d2)), .val (.int (Int32.ofNat b3)), .val (.int (Int32.ofNat d3)), .val (.ref (n0 + 0)), .val (.int (0 : Int32)), .val (.int tf1), .val (.int (1 : Int32)), .val (.int tq0), .val (.int tq1), .val (.int tq2), .val (.int tq3), .val (.int s10), .val (.int s20), .val (.int s21), .val (.int s30), .val (.int s31), .val (.int s32), .val (.int (0 : Int32)), .val (.int mK1), .val (.int mK3), .val (.int mK5), .val (.int mK9), .val (.int mK13), .unset, .unset, .unset, .unset, .unset]) X15 hx (hb hby at_467) rfl (pc' := 469) rfl ?_
    refine w_iload X15 hx (hb hby at_469) rfl (pc' := 471) rfl ?_
    suffices K19 : ∀ mK19 : Int32, mK19 = (if s30 = 0 then (if s31 = 0 then (if s32 = 0 then (mK9 + (1 : Int32)) else mK9) else mK9) else mK9) → Wp p e s below room_1.cells room_1.slots (LawQ n0) T15 (mkF m 493 #[.val (.int x0), .val (.int x1), .val (.int x2), .val (.int x3), .val (.int x4), .val (.int x5), .val (.int (Int32.ofNat g)), .val (.int (Int32.ofNat a)), .val (.int (Int32.ofNat g1)), .val (.int (Int32.ofNat a1)), .val (.int (Int32.ofNat fb0)), .val (.int (Int32.ofNat fd0)), .val (.int (Int32.ofNat fb1)), .val (.int (Int32.ofNat fd1)), .val (.int (Int32.ofNat b0)), .val (.int (Int32.ofNat d0)), .val (.int (Int32.ofNat b1)), .val (.int (Int32.ofNat d1)), .val (.int (Int32.ofNat b2)), .val (.int (Int32.ofNat d2)), .val (.int (Int32.ofNat b3)), .val (.int (Int32.ofNat d3)), .val (.ref (n0 + 0)), .val (.int (0 : Int32)), .val (.int tf1), .val (.int (1 : Int32)), .val (.int tq0), .val (.int tq1), .val (.int tq2), .val (.int tq3), .val (.int s10), .val (.int s20), .val (.int s21), .val (.int s30), .val (.int s31), .val (.int s32), .val (.int (0 : Int32)), .val (.int mK1), .val (.int mK3), .val (.int mK5), .val (.int mK9), .val (.int mK13), .unset, .unset, .unset, .unset, .unset] [.int mK19]) by
      refine w_if_ne X15 hx (hb hby at_471) (by decide) (pcY := 484) (by decide) (pc' := 474) rfl (fun h18 => ?_) (fun h18 => ?_)
      · refine w_iload X15 hx (hb hby at_484) rfl (pc' := 486) rfl ?_
        refine w_goto X15 hx (hb hby at_486) (by decide) (pc' := 493) (by decide) ?_
        exact K19 _ (if_neg h18).symm
      · refine w_iload X15 hx (hb hby at_474) rfl (pc' := 476) rfl ?_
        suffices K21 : ∀ mK21 : Int32, mK21 = (if s31 = 0 then (if s32 = 0 then (mK9 + (1 : Int32)) else mK9) else mK9) → Wp p e s below room_1.cells room_1.slots (LawQ n0) T15 (mkF m 493 #[.val (.int x0), .val (.int x1), .val (.int x2), .val (.int x3), .val (.int x4), .val (.int x5), .val (.int (Int32.ofNat g)), .val (.int (Int32.ofNat a)), .val (.int (Int32.ofNat g1)), .val (.int (Int32.ofNat a1)), .val (.int (Int32.ofNat fb0)), .val (.int (Int32.ofNat fd0)), .val (.int (Int32.ofNat fb1)), .val (.int (Int32.ofNat fd1)), .val (.int (Int32.ofNat b0)), .val (.int (Int32.ofNat d0)), .val (.int (Int32.ofNat b1)), .val (.int (Int32.ofNat d1)), .val (.int (Int32.ofNat b2)), .val (.int (Int32.ofNat d2)), .val (.int (Int32.ofNat b3)), .val (.int (Int32.ofNat d3)), .val (.ref (n0 + 0)), .val (.int (0 : Int32)), .val (.int tf1), .val (.int (1 : Int32)), .val (.int tq0), .val (.int tq1), .val (.int tq2), .val (.int tq3), .val (.int s10), .val (.int s20), .val (.int s21), .val (.int s30), .val (.int s31), .val (.int s32), .val (.int (0 : Int32)), .val (.int mK1), .val (.int mK3), .val (.int mK5), .val (.int mK9), .val (.int mK13), .unset, .unset, .unset, .unset, .unset] [.int mK21]) by
          refine w_if_ne X15 hx (hb hby at_476) (by decide) (pcY := 484) (by decide) (pc' := 479) rfl (fun h20 => ?_) (fun h20 => ?_)
          · refine w_iload X15 hx (hb hby at_484) rfl (pc' := 486) rfl ?_
            refine w_goto X15 hx (hb hby at_486) (by decide) (pc' := 493) (by decide) ?_
            exact K21 _ (if_neg h20).symm
          · refine w_iload X15 hx (hb hby at_479) rfl (pc' := 481) rfl ?_
            suffices K23 : ∀ mK23 : Int32, mK23 = (if s32 = 0 then (mK9 + (1 : Int32)) else mK9) → Wp p e s below room_1.cells room_1.slots (LawQ n0) T15 (mkF m 493 #[.val (.int x0), .val (.int x1), .val (.int x2), .val (.int x3), .val (.int x4), .val (.int x5), .val (.int (Int32.ofNat g)), .val (.int (Int32.ofNat a)), .val (.int (Int32.ofNat g1)), .val (.int (Int32.ofNat a1)), .val (.int (Int32.ofNat fb0)), .val (.int (Int32.ofNat fd0)), .val (.int (Int32.ofNat fb1)), .val (.int (Int32.ofNat fd1)), .val (.int (Int32.ofNat b0)), .val (.int (Int32.ofNat d0)), .val (.int (Int32.ofNat b1)), .val (.int (Int32.ofNat d1)), .val (.int (Int32.ofNat b2)), .val (.int (Int32.ofNat d2)), .val (.int (Int32.ofNat b3)), .val (.int (Int32.ofNat d3)), .val (.ref (n0 + 0)), .val (.int (0 : Int32)), .val (.int tf1), .val (.int (1 : Int32)), .val (.int tq0), .val (.int tq1), .val (.int tq2), .val (.int tq3), .val (.int s10), .val (.int s20), .val (.int s21), .val (.int s30), .val (.int s31), .val (.int s32), .val (.int (0 : Int32)), .val (.int mK1), .val (.int mK3), .val (.int mK5), .val (.int mK9), .val (.int mK13), .unset, .unset, .unset, .unset, .unset] [.int mK23]) by
              refine w_if_eq X15 hx (hb hby at_481) (by decide) (pcY := 489) (by decide) (pc' := 484) rfl (fun h22 => ?_) (fun h22 => ?_)
              · refine w_iload X15 hx (hb hby at_489) rfl (pc' := 491) rfl ?_
                refine w_iconst (v := (1 : Int32)) X15 hx (hb hby at_491) rfl (pc' := 492) rfl ?_
                refine w_iadd X15 hx (hb hby at_492) (pc' := 493) rfl ?_
                exact K23 _ (if_pos h22).symm
              · refine w_iload X15 hx (hb hby at_484) rfl (pc' := 486) rfl ?_
                refine w_goto X15 hx (hb hby at_486) (by decide) (pc' := 493) (by decide) ?_
                exact K23 _ (if_neg h22).symm
            intro mK23 emK23
            exact K21 _ (by rw [emK23, if_pos h20])
        intro mK21 emK21
        exact K19 _ (by rw [emK21, if_pos h18])
    intro mK19 emK19
    refine w_istore (l' := #[.val (.int x0), .val (.int x1), .val (.int x2), .val (.int x3), .val (.int x4), .val (.int x5), .val (.int (Int32.ofNat g)), .val (.int (Int32.ofNat a)), .val (.int (Int32.ofNat g1)), .val (.int (Int32.ofNat a1)), .val (.int (Int32.ofNat fb0)), .val (.int (Int32.ofNat fd0)), .val (.int (Int32.ofNat fb1)), .val (.int (Int32.ofNat fd1)), .val (.int (Int32.ofNat b0)), .val (.int (Int32.ofNat d0)), .val (.int (Int32.ofNat b1)), .val (.int (Int32.ofNat d1)), .val (.int (Int32.ofNat b2)), .val (.int (Int32.ofNat d2)), .val (.int (Int32.ofNat b3)), .val (.int (Int32.ofNat d3)), .val (.ref (n0 + 0)), .val (.int (0 : Int32)), .val (.int tf1), .val (.int (1 : Int32)), .val (.int tq0), .val (.int tq1), .val (.int tq2), .val (.int tq3), .val (.int s10), .val (.int s20), .val (.int s21), .val (.int s30), .val (.int s31), .val (.int s32), .val (.int (0 : Int32)), .val (.int mK1), .val (.int mK3), .val (.int mK5), .val (.int mK9), .val (.int mK13), .val (.int mK19), .unset, .unset, .unset, .unset]) X15 hx (hb hby at_493) rfl (pc' := 495) rfl ?_
    refine w_iload X15 hx (hb hby at_495) rfl (pc' := 497) rfl ?_
    refine w_callP (W := 0) X15 hx hZ rfl hown hml.symm (wd51 hw) (wd52 hw) (wd2 hw) (wd53 hw) (rm9 l Z a0 hw [] s10 _) (by decide) (by decide) (by decide) rfl rfl (by decide) (by decide) (argsL := [.int s10]) (rest := []) pd9 rfl rfl rfl (Nat.le_of_eq rfl) (hb hby at_497) (pc' := 500) rfl ?_
    intro T16 X16 e16
    have P16 : HP n0 T16.heap (to :: cr) := by rw [e16]; exact P15
    refine w_iload X16 hx (hb hby at_500) rfl (pc' := 502) rfl ?_
    refine w_callP (W := 1) X16 hx hZ rfl hown hml.symm (wd51 hw) (wd52 hw) (wd2 hw) (wd53 hw) (rm9 l Z a0 hw [] s20 _) (by decide) (by decide) (by decide) rfl rfl (by decide) (by decide) (argsL := [.int s20]) (rest := [.int (sp9 s10)]) pd9 rfl rfl rfl (Nat.le_of_eq rfl) (hb hby at_502) (pc' := 505) rfl ?_
    intro T17 X17 e17
    have P17 : HP n0 T17.heap (to :: cr) := by rw [e17]; exact P16
    refine w_iadd X17 hx (hb hby at_505) (pc' := 506) rfl ?_
    refine w_iload X17 hx (hb hby at_506) rfl (pc' := 508) rfl ?_
    refine w_callP (W := 1) X17 hx hZ rfl hown hml.symm (wd51 hw) (wd52 hw) (wd2 hw) (wd53 hw) (rm9 l Z a0 hw [] s21 _) (by decide) (by decide) (by decide) rfl rfl (by decide) (by decide) (argsL := [.int s21]) (rest := [.int ((sp9 s10) + (sp9 s20))]) pd9 rfl rfl rfl (Nat.le_of_eq rfl) (hb hby at_508) (pc' := 511) rfl ?_
    intro T18 X18 e18
    have P18 : HP n0 T18.heap (to :: cr) := by rw [e18]; exact P17
    refine w_iadd X18 hx (hb hby at_511) (pc' := 512) rfl ?_
    refine w_iload X18 hx (hb hby at_512) rfl (pc' := 514) rfl ?_
    refine w_callP (W := 1) X18 hx hZ rfl hown hml.symm (wd51 hw) (wd52 hw) (wd2 hw) (wd53 hw) (rm9 l Z a0 hw [] s30 _) (by decide) (by decide) (by decide) rfl rfl (by decide) (by decide) (argsL := [.int s30]) (rest := [.int (((sp9 s10) + (sp9 s20)) + (sp9 s21))]) pd9 rfl rfl rfl (Nat.le_of_eq rfl) (hb hby at_514) (pc' := 517) rfl ?_
    intro T19 X19 e19
    have P19 : HP n0 T19.heap (to :: cr) := by rw [e19]; exact P18
    refine w_iadd X19 hx (hb hby at_517) (pc' := 518) rfl ?_
    refine w_iload X19 hx (hb hby at_518) rfl (pc' := 520) rfl ?_
    refine w_callP (W := 1) X19 hx hZ rfl hown hml.symm (wd51 hw) (wd52 hw) (wd2 hw) (wd53 hw) (rm9 l Z a0 hw [] s31 _) (by decide) (by decide) (by decide) rfl rfl (by decide) (by decide) (argsL := [.int s31]) (rest := [.int ((((sp9 s10) + (sp9 s20)) + (sp9 s21)) + (sp9 s30))]) pd9 rfl rfl rfl (Nat.le_of_eq rfl) (hb hby at_520) (pc' := 523) rfl ?_
    intro T20 X20 e20
    have P20 : HP n0 T20.heap (to :: cr) := by rw [e20]; exact P19
    refine w_iadd X20 hx (hb hby at_523) (pc' := 524) rfl ?_
    refine w_iload X20 hx (hb hby at_524) rfl (pc' := 526) rfl ?_
    refine w_callP (W := 1) X20 hx hZ rfl hown hml.symm (wd51 hw) (wd52 hw) (wd2 hw) (wd53 hw) (rm9 l Z a0 hw [] s32 _) (by decide) (by decide) (by decide) rfl rfl (by decide) (by decide) (argsL := [.int s32]) (rest := [.int (((((sp9 s10) + (sp9 s20)) + (sp9 s21)) + (sp9 s30)) + (sp9 s31))]) pd9 rfl rfl rfl (Nat.le_of_eq rfl) (hb hby at_526) (pc' := 529) rfl ?_
    intro T21 X21 e21
    have P21 : HP n0 T21.heap (to :: cr) := by rw [e21]; exact P20
    refine w_iadd X21 hx (hb hby at_529) (pc' := 530) rfl ?_
    refine w_i2l X21 hx (hb hby at_530) (pc' := 531) rfl ?_
    refine w_lstore (l' := #[.val (.int x0), .val (.int x1), .val (.int x2), .val (.int x3), .val (.int x4), .val (.int x5), .val (.int (Int32.ofNat g)), .val (.int (Int32.ofNat a)), .val (.int (Int32.ofNat g1)), .val (.int (Int32.ofNat a1)), .val (.int (Int32.ofNat fb0)), .val (.int (Int32.ofNat fd0)), .val (.int (Int32.ofNat fb1)), .val (.int (Int32.ofNat fd1)), .val (.int (Int32.ofNat b0)), .val (.int (Int32.ofNat d0)), .val (.int (Int32.ofNat b1)), .val (.int (Int32.ofNat d1)), .val (.int (Int32.ofNat b2)), .val (.int (Int32.ofNat d2)), .val (.int (Int32.ofNat b3)), .val (.int (Int32.ofNat d3)), .val (.ref (n0 + 0)), .val (.int (0 : Int32)), .val (.int tf1), .val (.int (1 : Int32)), .val (.int tq0), .val (.int tq1), .val (.int tq2), .val (.int tq3), .val (.int s10), .val (.int s20), .val (.int s21), .val (.int s30), .val (.int s31), .val (.int s32), .val (.int (0 : Int32)), .val (.int mK1), .val (.int mK3), .val (.int mK5), .val (.int mK9), .val (.int mK13), .val (.int mK19), .val (.long (Int32.toInt64 ((((((sp9 s10) + (sp9 s20)) + (sp9 s21)) + (sp9 s30)) + (sp9 s31)) + (sp9 s32)))), .second, .unset, .unset]) X21 hx (hb hby at_531) rfl (pc' := 533) rfl ?_
    refine w_ldc2 X21 hx (hb hby at_533) hown (mvT hZ (wd54 hw)) (pc' := 536) rfl ?_
    refine w_ldc2 X21 hx (hb hby at_536) hown (mvT hZ (wd55 hw)) (pc' := 539) rfl ?_
    refine w_lload X21 hx (hb hby at_539) rfl (pc' := 541) rfl ?_
    refine w_lmul X21 hx (hb hby at_541) (pc' := 542) rfl ?_
    refine w_ladd X21 hx (hb hby at_542) (pc' := 543) rfl ?_
    refine w_lstore (l' := #[.val (.int x0), .val (.int x1), .val (.int x2), .val (.int x3), .val (.int x4), .val (.int x5), .val (.int (Int32.ofNat g)), .val (.int (Int32.ofNat a)), .val (.int (Int32.ofNat g1)), .val (.int (Int32.ofNat a1)), .val (.int (Int32.ofNat fb0)), .val (.int (Int32.ofNat fd0)), .val (.int (Int32.ofNat fb1)), .val (.int (Int32.ofNat fd1)), .val (.int (Int32.ofNat b0)), .val (.int (Int32.ofNat d0)), .val (.int (Int32.ofNat b1)), .val (.int (Int32.ofNat d1)), .val (.int (Int32.ofNat b2)), .val (.int (Int32.ofNat d2)), .val (.int (Int32.ofNat b3)), .val (.int (Int32.ofNat d3)), .val (.ref (n0 + 0)), .val (.int (0 : Int32)), .val (.int tf1), .val (.int (1 : Int32)), .val (.int tq0), .val (.int tq1), .val (.int tq2), .val (.int tq3), .val (.int s10), .val (.int s20), .val (.int s21), .val (.int s30), .val (.int s31), .val (.int s32), .val (.int (0 : Int32)), .val (.int mK1), .val (.int mK3), .val (.int mK5), .val (.int mK9), .val (.int mK13), .val (.int mK19), .val (.long (Int32.toInt64 ((((((sp9 s10) + (sp9 s20)) + (sp9 s21)) + (sp9 s30)) + (sp9 s31)) + (sp9 s32)))), .second, .val (.long ((4 : Int64) + ((2 : Int64) * (Int32.toInt64 ((((((sp9 s10) + (sp9 s20)) + (sp9 s21)) + (sp9 s30)) + (sp9 s31)) + (sp9 s32)))))), .second]) X21 hx (hb hby at_543) rfl (pc' := 545) rfl ?_
    refine w_iload X21 hx (hb hby at_545) rfl (pc' := 547) rfl ?_
    refine w_if_eq X21 hx (hb hby at_547) (by decide) (pcY := 603) (by decide) (pc' := 550) rfl (fun h24 => absurd h24 (by decide)) (fun h24 => ?_)
    refine w_iload X21 hx (hb hby at_550) rfl (pc' := 552) rfl ?_
    refine w_iload X21 hx (hb hby at_552) rfl (pc' := 554) rfl ?_
    refine w_icmp_ne X21 hx (hb hby at_554) (by decide) (pcY := 603) (by decide) (pc' := 557) rfl (fun h25 => absurd (by subst emK19 emK13 emK9 emK5 emK3 emK1 es10 es20 es21 es30 es31 es32; exact hq0) h25) (fun h25 => ?_)
    refine w_iload X21 hx (hb hby at_557) rfl (pc' := 559) rfl ?_
    refine w_iload X21 hx (hb hby at_559) rfl (pc' := 561) rfl ?_
    refine w_icmp_ne X21 hx (hb hby at_561) (by decide) (pcY := 603) (by decide) (pc' := 564) rfl (fun h26 => absurd (by subst emK19 emK13 emK9 emK5 emK3 emK1 es10 es20 es21 es30 es31 es32; exact hq1) h26) (fun h26 => ?_)
    refine w_iload X21 hx (hb hby at_564) rfl (pc' := 566) rfl ?_
    refine w_iload X21 hx (hb hby at_566) rfl (pc' := 568) rfl ?_
    refine w_icmp_ne X21 hx (hb hby at_568) (by decide) (pcY := 603) (by decide) (pc' := 571) rfl (fun h27 => absurd (by subst emK19 emK13 emK9 emK5 emK3 emK1 es10 es20 es21 es30 es31 es32; exact hq2) h27) (fun h27 => ?_)
    refine w_iload X21 hx (hb hby at_571) rfl (pc' := 573) rfl ?_
    refine w_iload X21 hx (hb hby at_573) rfl (pc' := 575) rfl ?_
    refine w_icmp_ne X21 hx (hb hby at_575) (by decide) (pcY := 603) (by decide) (pc' := 578) rfl (fun h28 => absurd (by subst emK19 emK13 emK9 emK5 emK3 emK1 es10 es20 es21 es30 es31 es32; exact hq3) h28) (fun h28 => ?_)
    refine w_aload X21 hx (hb hby at_578) rfl rfl (pc' := 580) rfl ?_
    refine own_callV (W := 0) X21 hx hZ rfl hown hml.symm (wd56 hw) (wd57 hw) (wd59 hw) (wd58 hw) (wd10 hw) (wd60 hw) (rm10_0 l Z a0 hw [] n0 to ar0 ar1 ar2 tac tst tgc tsq tF cr _ P21) (a := (n0 + 0)) (P21.exa (i := 0) rfl tF.1) (by decide) (by decide) (by decide) (by decide) (by decide) (argsL := []) (rest := []) pd10 rfl rfl rfl (Nat.le_of_eq rfl) (hb hby at_580) (pc' := 583) rfl ?_
    intro _ T22 L2 X22 hq
    obtain ⟨rfl, N2, P22⟩ := hq
    replace N2 := Fr.app N1 N2
    replace P22 : HP n0 T22.heap (to :: cr) := P22
    refine w_iload X22 hx (hb hby at_583) rfl (pc' := 585) rfl ?_
    refine w_icmp_ne X22 hx (hb hby at_585) (by decide) (pcY := 603) (by decide) (pc' := 588) rfl (fun h29 => absurd (by subst emK19 emK13 emK9 emK5 emK3 emK1 es10 es20 es21 es30 es31 es32; exact hgc) h29) (fun h29 => ?_)
    refine w_aload X22 hx (hb hby at_588) rfl rfl (pc' := 590) rfl ?_
    refine own_callV (W := 0) X22 hx hZ rfl hown hml.symm (wd61 hw) (wd62 hw) (wd64 hw) (wd63 hw) (wd10 hw) (wd65 hw) (rm11_1 l Z a0 hw [] n0 to ar0 ar1 ar2 tac tst tgc tsq tF cr _ P22) (a := (n0 + 0)) (P22.exa (i := 0) rfl tF.1) (by decide) (by decide) (by decide) (by decide) (by decide) (argsL := []) (rest := []) pd11 rfl rfl rfl (Nat.le_of_eq rfl) (hb hby at_590) (pc' := 593) rfl ?_
    intro _ T23 L3 X23 hq
    obtain ⟨rfl, N3, P23⟩ := hq
    replace N3 := Fr.app N2 N3
    replace P23 : HP n0 T23.heap (to :: cr) := P23
    refine w_lload X23 hx (hb hby at_593) rfl (pc' := 595) rfl ?_
    refine w_lcmp_ne X23 hx (hb hby at_595) rfl (hb hby at_596) (by decide) (pcY := 603) (by decide) (pc' := 599) rfl (fun h30 => absurd (by subst emK19 emK13 emK9 emK5 emK3 emK1 es10 es20 es21 es30 es31 es32; exact hsq) h30) (fun h30 => ?_)
    refine w_iconst (v := (1 : Int32)) X23 hx (hb hby at_599) rfl (pc' := 600) rfl ?_
    refine w_goto X23 hx (hb hby at_600) (by decide) (pc' := 604) (by decide) ?_
    exact w_ret_n (t := .boolean) X23 hx hret hlk (by simp) (hb hby at_604) (z' := (1 : Int32)) rfl (by decide) (by decide) ⟨rfl, N3⟩
  have Ja : ∀ (T24 : State) (L4 : List Loc) (tf1 tgc : Int32) (tsq : Int64) (tz0 tz1 : Int32) (tk1 tk2 tk3 tk4 tk5 tk6 : ClassId) (tC tS : List Int32) (to : Jvm.Cell), Fr n0 L4 → Stand p l e room_1 s m #[Value.int x0, Value.int x1, Value.int x2, Value.int x3, Value.int x4, Value.int x5] below meth c T24 L4 7 41 → IsA Z tk1 .int → IsA Z tk2 .int → IsA Z tk3 .int → IsA Z tk4 .int → IsA Z tk5 .int → IsA Z tk6 .int → tC.length = M1 → tS.length = M1 → (∀ x, tS.getD x 0 = 0 ∨ tS.getD x 0 = 1) → HP n0 T24.heap [to, AC tk1 [], AC tk2 [], AC tk3 [], AC tk4 (List.map Value.int tC), AC tk5 (List.map Value.int tS), AC tk6 [.int tz0, .int tz1]] → ObjF Z to "com/example/protomata/protomata/Partition" fl_C0 [.ref (n0 + 4), .ref (n0 + 5), .ref (n0 + 6), .int (Int32.ofNat a1), .int (1 : Int32), .int tgc, .long tsq] → Wp p e s below room_1.cells room_1.slots (LawQ n0) T24 (mkF m 230 #[.val (.int x0), .val (.int x1), .val (.int x2), .val (.int x3), .val (.int x4), .val (.int x5), .val (.int (Int32.ofNat g)), .val (.int (Int32.ofNat a)), .val (.int (Int32.ofNat g1)), .val (.int (Int32.ofNat a1)), .val (.int (Int32.ofNat fb0)), .val (.int (Int32.ofNat fd0)), .val (.int (Int32.ofNat fb1)), .val (.int (Int32.ofNat fd1)), .val (.int (Int32.ofNat b0)), .val (.int (Int32.ofNat d0)), .val (.int (Int32.ofNat b1)), .val (.int (Int32.ofNat d1)), .val (.int (Int32.ofNat b2)), .val (.int (Int32.ofNat d2)), .val (.int (Int32.ofNat b3)), .val (.int (Int32.ofNat d3)), .val (.ref (n0 + 0)), .val (.int (0 : Int32)), .val (.int tf1), .val (.int (1 : Int32)), .unset, .unset, .unset, .unset, .unset, .unset, .unset, .unset, .unset, .unset, .unset, .unset, .unset, .unset, .unset, .unset, .unset, .unset, .unset, .unset, .unset] []) := by
    intro T24 L4 tf1 tgc tsq tz0 tz1 tk1 tk2 tk3 tk4 tk5 tk6 tC tS to N4 X24 thk1 thk2 thk3 thk4 thk5 thk6 htC htS h01 P24 tF
    refine w_aload X24 hx (hb hby at_230) rfl rfl (pc' := 232) rfl ?_
    refine w_iconst (v := (4 : Int32)) X24 hx (hb hby at_232) rfl (pc' := 233) rfl ?_
    refine w_iload X24 hx (hb hby at_233) rfl (pc' := 235) rfl ?_
    refine w_iload X24 hx (hb hby at_235) rfl (pc' := 237) rfl ?_
    refine own_callV (W := 0) X24 hx hZ rfl hown hml.symm (wd24 hw) (wd25 hw) (wd27 hw) (wd26 hw) (wd10 hw) (wd28 hw) (rm_beg2 l Z a0 hw [] n0 tk1 tk2 tk3 tk4 tk5 tk6 to tC tS M1 g a M (Int32.ofNat a1) tgc tsq tz0 tz1 _ P24 thk1 thk2 thk3 thk4 thk5 thk6 htC htS (by omega) tF (by omega) (by omega) eM (by omega) (by omega)) (a := (n0 + 0)) (P24.exa (i := 0) rfl tF.1) (by decide) (by decide) (by decide) (by decide) (by decide) (argsL := [.int (4 : Int32), .int (Int32.ofNat g), .int (Int32.ofNat a)]) (rest := []) pd5 rfl rfl rfl (Nat.le_of_eq rfl) (hb hby at_237) (pc' := 240) rfl ?_
    intro v25 T25 L5 X25 hq
    obtain ⟨rfl, N5, hq⟩ := hq
    replace N5 := Fr.app N4 N5
    rcases hq with ⟨hmm, c1, F1, kA2, hkA2, kA3, hkA3, kA4, hkA4, P25⟩ | ⟨hmm, c5, F5, kA6, hkA6, P25⟩
    · replace P25 : HP n0 T25.heap [c1, AC tk1 [], AC tk2 [], AC tk3 [], AC tk4 (List.map Value.int tC), AC tk5 (List.map Value.int tS), AC tk6 [.int tz0, .int tz1], AC kA2 (List.map Value.int (List.replicate M 0)), AC kA3 (List.map Value.int (List.replicate M 0)), AC kA4 [.int (0 : Int32), .int (0 : Int32), .int (0 : Int32), .int (0 : Int32)]] := P25
      have hfr : ∀ x, ¬ (List.replicate M (0 : Int32)).getD x 0 = 1 := fun x => by rw [own_rep0]; decide
      refine w_pop X25 hx (hb hby at_240) rfl (pc' := 241) rfl ?_
      refine w_aload X25 hx (hb hby at_241) rfl rfl (pc' := 243) rfl ?_
      refine w_iload X25 hx (hb hby at_243) rfl (pc' := 245) rfl ?_
      refine w_iload X25 hx (hb hby at_245) rfl (pc' := 247) rfl ?_
      refine own_callV (W := 0) X25 hx hZ rfl hown hml.symm (wd42 hw) (wd43 hw) (wd45 hw) (wd44 hw) (wd10 hw) (wd46 hw) (rm_msB0 l Z a0 hw [] n0 tk1 tk2 tk3 tk4 tk5 tk6 kA2 kA3 kA4 c1 (List.replicate M 0) (List.replicate M 0) M tC tS tz0 tz1 b0 a d0 ky0 (0 : Int64) (0 : Int32) (0 : Int32) (0 : Int32) (0 : Int32) _ P25 thk1 thk2 thk3 thk4 thk5 thk6 hkA2 hkA3 hkA4 (List.length_replicate (n := M) (a := (0 : Int32))) (List.length_replicate (n := M) (a := (0 : Int32))) F1 eky0 (by omega) (by omega) (by exact hfr ky0)) (a := (n0 + 0)) (P25.exa (i := 0) rfl F1.1) (by decide) (by decide) (by decide) (by decide) (by decide) (argsL := [.int (Int32.ofNat b0), .int (Int32.ofNat d0)]) (rest := []) pd7 rfl rfl rfl (Nat.le_of_eq rfl) (hb hby at_247) (pc' := 250) rfl ?_
      intro v26 T26 L6 X26 hq
      obtain ⟨rfl, N6, c7, F7, P26⟩ := hq
      replace N6 := Fr.app N5 N6
      replace P26 : HP n0 T26.heap [c7, AC tk1 [], AC tk2 [], AC tk3 [], AC tk4 (List.map Value.int tC), AC tk5 (List.map Value.int tS), AC tk6 [.int tz0, .int tz1], AC kA2 (List.map Value.int ((List.replicate M 0).set ky0 (0 : Int32))), AC kA3 (List.map Value.int ((List.replicate M 0).set ky0 (1 : Int32))), AC kA4 [.int (1 : Int32), .int (0 : Int32), .int (0 : Int32), .int (0 : Int32)]] := P26
      rw [show ((0 : Int64) + (1 : Int64)) = (1 : Int64) from by decide] at F7
      replace P26 : HP n0 T26.heap [c7, AC tk1 [], AC tk2 [], AC tk3 [], AC tk4 (List.map Value.int tC), AC tk5 (List.map Value.int tS), AC tk6 [.int tz0, .int tz1], AC kA2 (List.map Value.int ((List.replicate M 0).set ky0 (0 : Int32))), AC kA3 (List.map Value.int ((List.replicate M 0).set ky0 (1 : Int32))), AC kA4 [.int (1 : Int32), .int (0 : Int32), .int (0 : Int32), .int (0 : Int32)]] := P26
      replace F7 : ObjF Z c7 "com/example/protomata/protomata/Partition" fl_C0 [.ref (n0 + 7), .ref (n0 + 8), .ref (n0 + 9), .int (Int32.ofNat a), .int (1 : Int32), .int (1 : Int32), .long (1 : Int64)] := F7
      refine w_istore (l' := #[.val (.int x0), .val (.int x1), .val (.int x2), .val (.int x3), .val (.int x4), .val (.int x5), .val (.int (Int32.ofNat g)), .val (.int (Int32.ofNat a)), .val (.int (Int32.ofNat g1)), .val (.int (Int32.ofNat a1)), .val (.int (Int32.ofNat fb0)), .val (.int (Int32.ofNat fd0)), .val (.int (Int32.ofNat fb1)), .val (.int (Int32.ofNat fd1)), .val (.int (Int32.ofNat b0)), .val (.int (Int32.ofNat d0)), .val (.int (Int32.ofNat b1)), .val (.int (Int32.ofNat d1)), .val (.int (Int32.ofNat b2)), .val (.int (Int32.ofNat d2)), .val (.int (Int32.ofNat b3)), .val (.int (Int32.ofNat d3)), .val (.ref (n0 + 0)), .val (.int (0 : Int32)), .val (.int tf1), .val (.int (1 : Int32)), .val (.int (0 : Int32)), .unset, .unset, .unset, .unset, .unset, .unset, .unset, .unset, .unset, .unset, .unset, .unset, .unset, .unset, .unset, .unset, .unset, .unset, .unset, .unset]) X26 hx (hb hby at_250) rfl (pc' := 252) rfl ?_
      refine w_aload X26 hx (hb hby at_252) rfl rfl (pc' := 254) rfl ?_
      refine w_iload X26 hx (hb hby at_254) rfl (pc' := 256) rfl ?_
      refine w_iload X26 hx (hb hby at_256) rfl (pc' := 258) rfl ?_
      by_cases hy10 : ky1 = ky0
      · refine own_callV (W := 0) X26 hx hZ rfl hown hml.symm (wd42 hw) (wd43 hw) (wd45 hw) (wd44 hw) (wd10 hw) (wd46 hw) (rm_htB0 l Z a0 hw [] n0 tk1 tk2 tk3 tk4 tk5 tk6 kA2 kA3 kA4 c7 ((List.replicate M 0).set ky0 (0 : Int32)) ((List.replicate M 0).set ky0 (1 : Int32)) M tC tS tz0 tz1 b1 a d1 ky1 (1 : Int64) (1 : Int32) (0 : Int32) (0 : Int32) (0 : Int32) (1 : Int32) _ P26 thk1 thk2 thk3 thk4 thk5 thk6 hkA2 hkA3 hkA4 (own_sl (List.length_replicate (n := M) (a := (0 : Int32)))) (own_sl (List.length_replicate (n := M) (a := (0 : Int32)))) F7 eky1 (by omega) (by omega) (by rw [own_gs, if_pos ⟨by omega, own_llt (List.length_replicate (n := M) (a := (0 : Int32))) (by omega)⟩]) (by rw [own_gs, if_pos ⟨by omega, own_llt (List.length_replicate (n := M) (a := (0 : Int32))) (by omega)⟩])) (a := (n0 + 0)) (P26.exa (i := 0) rfl F7.1) (by decide) (by decide) (by decide) (by decide) (by decide) (argsL := [.int (Int32.ofNat b1), .int (Int32.ofNat d1)]) (rest := []) pd7 rfl rfl rfl (Nat.le_of_eq rfl) (hb hby at_258) (pc' := 261) rfl ?_
        intro v27 T27 L7 X27 hq
        obtain ⟨rfl, N7, c8, F8, P27⟩ := hq
        replace N7 := Fr.app N6 N7
        replace P27 : HP n0 T27.heap [c8, AC tk1 [], AC tk2 [], AC tk3 [], AC tk4 (List.map Value.int tC), AC tk5 (List.map Value.int tS), AC tk6 [.int tz0, .int tz1], AC kA2 (List.map Value.int ((List.replicate M 0).set ky0 (0 : Int32))), AC kA3 (List.map Value.int ((List.replicate M 0).set ky0 (1 : Int32))), AC kA4 [.int ((1 : Int32) + (1 : Int32)), .int (0 : Int32), .int (0 : Int32), .int (0 : Int32)]] := P27
        rw [show ((1 : Int64) + (((2 : Int64) * (Int32.toInt64 (1 : Int32))) + (1 : Int64))) = (4 : Int64) from by decide] at F8
        rw [show ((1 : Int32) + (1 : Int32)) = (2 : Int32) from by decide] at P27
        replace P27 : HP n0 T27.heap [c8, AC tk1 [], AC tk2 [], AC tk3 [], AC tk4 (List.map Value.int tC), AC tk5 (List.map Value.int tS), AC tk6 [.int tz0, .int tz1], AC kA2 (List.map Value.int ((List.replicate M 0).set ky0 (0 : Int32))), AC kA3 (List.map Value.int ((List.replicate M 0).set ky0 (1 : Int32))), AC kA4 [.int (2 : Int32), .int (0 : Int32), .int (0 : Int32), .int (0 : Int32)]] := P27
        replace F8 : ObjF Z c8 "com/example/protomata/protomata/Partition" fl_C0 [.ref (n0 + 7), .ref (n0 + 8), .ref (n0 + 9), .int (Int32.ofNat a), .int (1 : Int32), .int (1 : Int32), .long (4 : Int64)] := F8
        refine w_istore (l' := #[.val (.int x0), .val (.int x1), .val (.int x2), .val (.int x3), .val (.int x4), .val (.int x5), .val (.int (Int32.ofNat g)), .val (.int (Int32.ofNat a)), .val (.int (Int32.ofNat g1)), .val (.int (Int32.ofNat a1)), .val (.int (Int32.ofNat fb0)), .val (.int (Int32.ofNat fd0)), .val (.int (Int32.ofNat fb1)), .val (.int (Int32.ofNat fd1)), .val (.int (Int32.ofNat b0)), .val (.int (Int32.ofNat d0)), .val (.int (Int32.ofNat b1)), .val (.int (Int32.ofNat d1)), .val (.int (Int32.ofNat b2)), .val (.int (Int32.ofNat d2)), .val (.int (Int32.ofNat b3)), .val (.int (Int32.ofNat d3)), .val (.ref (n0 + 0)), .val (.int (0 : Int32)), .val (.int tf1), .val (.int (1 : Int32)), .val (.int (0 : Int32)), .val (.int (0 : Int32)), .unset, .unset, .unset, .unset, .unset, .unset, .unset, .unset, .unset, .unset, .unset, .unset, .unset, .unset, .unset, .unset, .unset, .unset, .unset]) X27 hx (hb hby at_261) rfl (pc' := 263) rfl ?_
        refine w_aload X27 hx (hb hby at_263) rfl rfl (pc' := 265) rfl ?_
        refine w_iload X27 hx (hb hby at_265) rfl (pc' := 267) rfl ?_
        refine w_iload X27 hx (hb hby at_267) rfl (pc' := 269) rfl ?_
        by_cases hy20 : ky2 = ky0
        · refine own_callV (W := 0) X27 hx hZ rfl hown hml.symm (wd42 hw) (wd43 hw) (wd45 hw) (wd44 hw) (wd10 hw) (wd46 hw) (rm_htB0 l Z a0 hw [] n0 tk1 tk2 tk3 tk4 tk5 tk6 kA2 kA3 kA4 c8 ((List.replicate M 0).set ky0 (0 : Int32)) ((List.replicate M 0).set ky0 (1 : Int32)) M tC tS tz0 tz1 b2 a d2 ky2 (4 : Int64) (2 : Int32) (0 : Int32) (0 : Int32) (0 : Int32) (1 : Int32) _ P27 thk1 thk2 thk3 thk4 thk5 thk6 hkA2 hkA3 hkA4 (own_sl (List.length_replicate (n := M) (a := (0 : Int32)))) (own_sl (List.length_replicate (n := M) (a := (0 : Int32)))) F8 eky2 (by omega) (by omega) (by rw [own_gs, if_pos ⟨by omega, own_llt (List.length_replicate (n := M) (a := (0 : Int32))) (by omega)⟩]) (by rw [own_gs, if_pos ⟨by omega, own_llt (List.length_replicate (n := M) (a := (0 : Int32))) (by omega)⟩])) (a := (n0 + 0)) (P27.exa (i := 0) rfl F8.1) (by decide) (by decide) (by decide) (by decide) (by decide) (argsL := [.int (Int32.ofNat b2), .int (Int32.ofNat d2)]) (rest := []) pd7 rfl rfl rfl (Nat.le_of_eq rfl) (hb hby at_269) (pc' := 272) rfl ?_
          intro v28 T28 L8 X28 hq
          obtain ⟨rfl, N8, c9, F9, P28⟩ := hq
          replace N8 := Fr.app N7 N8
          replace P28 : HP n0 T28.heap [c9, AC tk1 [], AC tk2 [], AC tk3 [], AC tk4 (List.map Value.int tC), AC tk5 (List.map Value.int tS), AC tk6 [.int tz0, .int tz1], AC kA2 (List.map Value.int ((List.replicate M 0).set ky0 (0 : Int32))), AC kA3 (List.map Value.int ((List.replicate M 0).set ky0 (1 : Int32))), AC kA4 [.int ((2 : Int32) + (1 : Int32)), .int (0 : Int32), .int (0 : Int32), .int (0 : Int32)]] := P28
          rw [show ((4 : Int64) + (((2 : Int64) * (Int32.toInt64 (2 : Int32))) + (1 : Int64))) = (9 : Int64) from by decide] at F9
          rw [show ((2 : Int32) + (1 : Int32)) = (3 : Int32) from by decide] at P28
          replace P28 : HP n0 T28.heap [c9, AC tk1 [], AC tk2 [], AC tk3 [], AC tk4 (List.map Value.int tC), AC tk5 (List.map Value.int tS), AC tk6 [.int tz0, .int tz1], AC kA2 (List.map Value.int ((List.replicate M 0).set ky0 (0 : Int32))), AC kA3 (List.map Value.int ((List.replicate M 0).set ky0 (1 : Int32))), AC kA4 [.int (3 : Int32), .int (0 : Int32), .int (0 : Int32), .int (0 : Int32)]] := P28
          replace F9 : ObjF Z c9 "com/example/protomata/protomata/Partition" fl_C0 [.ref (n0 + 7), .ref (n0 + 8), .ref (n0 + 9), .int (Int32.ofNat a), .int (1 : Int32), .int (1 : Int32), .long (9 : Int64)] := F9
          refine w_istore (l' := #[.val (.int x0), .val (.int x1), .val (.int x2), .val (.int x3), .val (.int x4), .val (.int x5), .val (.int (Int32.ofNat g)), .val (.int (Int32.ofNat a)), .val (.int (Int32.ofNat g1)), .val (.int (Int32.ofNat a1)), .val (.int (Int32.ofNat fb0)), .val (.int (Int32.ofNat fd0)), .val (.int (Int32.ofNat fb1)), .val (.int (Int32.ofNat fd1)), .val (.int (Int32.ofNat b0)), .val (.int (Int32.ofNat d0)), .val (.int (Int32.ofNat b1)), .val (.int (Int32.ofNat d1)), .val (.int (Int32.ofNat b2)), .val (.int (Int32.ofNat d2)), .val (.int (Int32.ofNat b3)), .val (.int (Int32.ofNat d3)), .val (.ref (n0 + 0)), .val (.int (0 : Int32)), .val (.int tf1), .val (.int (1 : Int32)), .val (.int (0 : Int32)), .val (.int (0 : Int32)), .val (.int (0 : Int32)), .unset, .unset, .unset, .unset, .unset, .unset, .unset, .unset, .unset, .unset, .unset, .unset, .unset, .unset, .unset, .unset, .unset, .unset]) X28 hx (hb hby at_272) rfl (pc' := 274) rfl ?_
          refine w_aload X28 hx (hb hby at_274) rfl rfl (pc' := 276) rfl ?_
          refine w_iload X28 hx (hb hby at_276) rfl (pc' := 278) rfl ?_
          refine w_iload X28 hx (hb hby at_278) rfl (pc' := 280) rfl ?_
          by_cases hy30 : ky3 = ky0
          · refine own_callV (W := 0) X28 hx hZ rfl hown hml.symm (wd42 hw) (wd43 hw) (wd45 hw) (wd44 hw) (wd10 hw) (wd46 hw) (rm_htB0 l Z a0 hw [] n0 tk1 tk2 tk3 tk4 tk5 tk6 kA2 kA3 kA4 c9 ((List.replicate M 0).set ky0 (0 : Int32)) ((List.replicate M 0).set ky0 (1 : Int32)) M tC tS tz0 tz1 b3 a d3 ky3 (9 : Int64) (3 : Int32) (0 : Int32) (0 : Int32) (0 : Int32) (1 : Int32) _ P28 thk1 thk2 thk3 thk4 thk5 thk6 hkA2 hkA3 hkA4 (own_sl (List.length_replicate (n := M) (a := (0 : Int32)))) (own_sl (List.length_replicate (n := M) (a := (0 : Int32)))) F9 eky3 (by omega) (by omega) (by rw [own_gs, if_pos ⟨by omega, own_llt (List.length_replicate (n := M) (a := (0 : Int32))) (by omega)⟩]) (by rw [own_gs, if_pos ⟨by omega, own_llt (List.length_replicate (n := M) (a := (0 : Int32))) (by omega)⟩])) (a := (n0 + 0)) (P28.exa (i := 0) rfl F9.1) (by decide) (by decide) (by decide) (by decide) (by decide) (argsL := [.int (Int32.ofNat b3), .int (Int32.ofNat d3)]) (rest := []) pd7 rfl rfl rfl (Nat.le_of_eq rfl) (hb hby at_280) (pc' := 283) rfl ?_
            intro v29 T29 L9 X29 hq
            obtain ⟨rfl, N9, c10, F10, P29⟩ := hq
            replace N9 := Fr.app N8 N9
            replace P29 : HP n0 T29.heap [c10, AC tk1 [], AC tk2 [], AC tk3 [], AC tk4 (List.map Value.int tC), AC tk5 (List.map Value.int tS), AC tk6 [.int tz0, .int tz1], AC kA2 (List.map Value.int ((List.replicate M 0).set ky0 (0 : Int32))), AC kA3 (List.map Value.int ((List.replicate M 0).set ky0 (1 : Int32))), AC kA4 [.int ((3 : Int32) + (1 : Int32)), .int (0 : Int32), .int (0 : Int32), .int (0 : Int32)]] := P29
            rw [show ((9 : Int64) + (((2 : Int64) * (Int32.toInt64 (3 : Int32))) + (1 : Int64))) = (16 : Int64) from by decide] at F10
            rw [show ((3 : Int32) + (1 : Int32)) = (4 : Int32) from by decide] at P29
            replace P29 : HP n0 T29.heap [c10, AC tk1 [], AC tk2 [], AC tk3 [], AC tk4 (List.map Value.int tC), AC tk5 (List.map Value.int tS), AC tk6 [.int tz0, .int tz1], AC kA2 (List.map Value.int ((List.replicate M 0).set ky0 (0 : Int32))), AC kA3 (List.map Value.int ((List.replicate M 0).set ky0 (1 : Int32))), AC kA4 [.int (4 : Int32), .int (0 : Int32), .int (0 : Int32), .int (0 : Int32)]] := P29
            replace F10 : ObjF Z c10 "com/example/protomata/protomata/Partition" fl_C0 [.ref (n0 + 7), .ref (n0 + 8), .ref (n0 + 9), .int (Int32.ofNat a), .int (1 : Int32), .int (1 : Int32), .long (16 : Int64)] := F10
            refine w_istore (l' := #[.val (.int x0), .val (.int x1), .val (.int x2), .val (.int x3), .val (.int x4), .val (.int x5), .val (.int (Int32.ofNat g)), .val (.int (Int32.ofNat a)), .val (.int (Int32.ofNat g1)), .val (.int (Int32.ofNat a1)), .val (.int (Int32.ofNat fb0)), .val (.int (Int32.ofNat fd0)), .val (.int (Int32.ofNat fb1)), .val (.int (Int32.ofNat fd1)), .val (.int (Int32.ofNat b0)), .val (.int (Int32.ofNat d0)), .val (.int (Int32.ofNat b1)), .val (.int (Int32.ofNat d1)), .val (.int (Int32.ofNat b2)), .val (.int (Int32.ofNat d2)), .val (.int (Int32.ofNat b3)), .val (.int (Int32.ofNat d3)), .val (.ref (n0 + 0)), .val (.int (0 : Int32)), .val (.int tf1), .val (.int (1 : Int32)), .val (.int (0 : Int32)), .val (.int (0 : Int32)), .val (.int (0 : Int32)), .val (.int (0 : Int32)), .unset, .unset, .unset, .unset, .unset, .unset, .unset, .unset, .unset, .unset, .unset, .unset, .unset, .unset, .unset, .unset, .unset]) X29 hx (hb hby at_283) rfl (pc' := 285) rfl ?_
            have hs10 : sp8 (Int32.ofNat b1) (Int32.ofNat d1) (Int32.ofNat b0) (Int32.ofNat d0) = 1 := (own_sm1 (own_inj (a := a) hd1 hd0 (by rw [eky1, eky0]; omega)).1 (own_inj (a := a) hd1 hd0 (by rw [eky1, eky0]; omega)).2)
            have hs20 : sp8 (Int32.ofNat b2) (Int32.ofNat d2) (Int32.ofNat b0) (Int32.ofNat d0) = 1 := (own_sm1 (own_inj (a := a) hd2 hd0 (by rw [eky2, eky0]; omega)).1 (own_inj (a := a) hd2 hd0 (by rw [eky2, eky0]; omega)).2)
            have hs21 : sp8 (Int32.ofNat b2) (Int32.ofNat d2) (Int32.ofNat b1) (Int32.ofNat d1) = 1 := (own_sm1 (own_inj (a := a) hd2 hd1 (by rw [eky2, eky1]; omega)).1 (own_inj (a := a) hd2 hd1 (by rw [eky2, eky1]; omega)).2)
            have hs30 : sp8 (Int32.ofNat b3) (Int32.ofNat d3) (Int32.ofNat b0) (Int32.ofNat d0) = 1 := (own_sm1 (own_inj (a := a) hd3 hd0 (by rw [eky3, eky0]; omega)).1 (own_inj (a := a) hd3 hd0 (by rw [eky3, eky0]; omega)).2)
            have hs31 : sp8 (Int32.ofNat b3) (Int32.ofNat d3) (Int32.ofNat b1) (Int32.ofNat d1) = 1 := (own_sm1 (own_inj (a := a) hd3 hd1 (by rw [eky3, eky1]; omega)).1 (own_inj (a := a) hd3 hd1 (by rw [eky3, eky1]; omega)).2)
            have hs32 : sp8 (Int32.ofNat b3) (Int32.ofNat d3) (Int32.ofNat b2) (Int32.ofNat d2) = 1 := (own_sm1 (own_inj (a := a) hd3 hd2 (by rw [eky3, eky2]; omega)).1 (own_inj (a := a) hd3 hd2 (by rw [eky3, eky2]; omega)).2)
            exact Jt T29 _ tf1 (0 : Int32) (0 : Int32) (0 : Int32) (0 : Int32) (Int32.ofNat a) (1 : Int32) (1 : Int32) (16 : Int64) (n0 + 7) (n0 + 8) (n0 + 9) _ c10 N9 X29 P29 F10 rfl (by rw [hs10]; decide) (by rw [hs10, hs20, hs21]; decide) (by rw [hs10, hs20, hs21, hs30, hs31, hs32]; decide) (by rw [hs10, hs20, hs21, hs30, hs31, hs32]; decide) (by rw [hs10, hs20, hs21, hs30, hs31, hs32]; decide)
          · refine own_callV (W := 0) X28 hx hZ rfl hown hml.symm (wd42 hw) (wd43 hw) (wd45 hw) (wd44 hw) (wd10 hw) (wd46 hw) (rm_msB1 l Z a0 hw [] n0 tk1 tk2 tk3 tk4 tk5 tk6 kA2 kA3 kA4 c9 ((List.replicate M 0).set ky0 (0 : Int32)) ((List.replicate M 0).set ky0 (1 : Int32)) M tC tS tz0 tz1 b3 a d3 ky3 (9 : Int64) (3 : Int32) (0 : Int32) (0 : Int32) (0 : Int32) _ P28 thk1 thk2 thk3 thk4 thk5 thk6 hkA2 hkA3 hkA4 (own_sl (List.length_replicate (n := M) (a := (0 : Int32)))) (own_sl (List.length_replicate (n := M) (a := (0 : Int32)))) F9 eky3 (by omega) (by omega) (by rw [own_gs, if_neg (by omega)]; exact hfr ky3)) (a := (n0 + 0)) (P28.exa (i := 0) rfl F9.1) (by decide) (by decide) (by decide) (by decide) (by decide) (argsL := [.int (Int32.ofNat b3), .int (Int32.ofNat d3)]) (rest := []) pd7 rfl rfl rfl (Nat.le_of_eq rfl) (hb hby at_280) (pc' := 283) rfl ?_
            intro v30 T30 L10 X30 hq
            obtain ⟨rfl, N10, c11, F11, P30⟩ := hq
            replace N10 := Fr.app N8 N10
            replace P30 : HP n0 T30.heap [c11, AC tk1 [], AC tk2 [], AC tk3 [], AC tk4 (List.map Value.int tC), AC tk5 (List.map Value.int tS), AC tk6 [.int tz0, .int tz1], AC kA2 (List.map Value.int (((List.replicate M 0).set ky0 (0 : Int32)).set ky3 (1 : Int32))), AC kA3 (List.map Value.int (((List.replicate M 0).set ky0 (1 : Int32)).set ky3 (1 : Int32))), AC kA4 [.int (3 : Int32), .int (1 : Int32), .int (0 : Int32), .int (0 : Int32)]] := P30
            rw [show ((9 : Int64) + (1 : Int64)) = (10 : Int64) from by decide] at F11
            replace P30 : HP n0 T30.heap [c11, AC tk1 [], AC tk2 [], AC tk3 [], AC tk4 (List.map Value.int tC), AC tk5 (List.map Value.int tS), AC tk6 [.int tz0, .int tz1], AC kA2 (List.map Value.int (((List.replicate M 0).set ky0 (0 : Int32)).set ky3 (1 : Int32))), AC kA3 (List.map Value.int (((List.replicate M 0).set ky0 (1 : Int32)).set ky3 (1 : Int32))), AC kA4 [.int (3 : Int32), .int (1 : Int32), .int (0 : Int32), .int (0 : Int32)]] := P30
            replace F11 : ObjF Z c11 "com/example/protomata/protomata/Partition" fl_C0 [.ref (n0 + 7), .ref (n0 + 8), .ref (n0 + 9), .int (Int32.ofNat a), .int (1 : Int32), .int (2 : Int32), .long (10 : Int64)] := F11
            refine w_istore (l' := #[.val (.int x0), .val (.int x1), .val (.int x2), .val (.int x3), .val (.int x4), .val (.int x5), .val (.int (Int32.ofNat g)), .val (.int (Int32.ofNat a)), .val (.int (Int32.ofNat g1)), .val (.int (Int32.ofNat a1)), .val (.int (Int32.ofNat fb0)), .val (.int (Int32.ofNat fd0)), .val (.int (Int32.ofNat fb1)), .val (.int (Int32.ofNat fd1)), .val (.int (Int32.ofNat b0)), .val (.int (Int32.ofNat d0)), .val (.int (Int32.ofNat b1)), .val (.int (Int32.ofNat d1)), .val (.int (Int32.ofNat b2)), .val (.int (Int32.ofNat d2)), .val (.int (Int32.ofNat b3)), .val (.int (Int32.ofNat d3)), .val (.ref (n0 + 0)), .val (.int (0 : Int32)), .val (.int tf1), .val (.int (1 : Int32)), .val (.int (0 : Int32)), .val (.int (0 : Int32)), .val (.int (0 : Int32)), .val (.int (1 : Int32)), .unset, .unset, .unset, .unset, .unset, .unset, .unset, .unset, .unset, .unset, .unset, .unset, .unset, .unset, .unset, .unset, .unset]) X30 hx (hb hby at_283) rfl (pc' := 285) rfl ?_
            have hs10 : sp8 (Int32.ofNat b1) (Int32.ofNat d1) (Int32.ofNat b0) (Int32.ofNat d0) = 1 := (own_sm1 (own_inj (a := a) hd1 hd0 (by rw [eky1, eky0]; omega)).1 (own_inj (a := a) hd1 hd0 (by rw [eky1, eky0]; omega)).2)
            have hs20 : sp8 (Int32.ofNat b2) (Int32.ofNat d2) (Int32.ofNat b0) (Int32.ofNat d0) = 1 := (own_sm1 (own_inj (a := a) hd2 hd0 (by rw [eky2, eky0]; omega)).1 (own_inj (a := a) hd2 hd0 (by rw [eky2, eky0]; omega)).2)
            have hs21 : sp8 (Int32.ofNat b2) (Int32.ofNat d2) (Int32.ofNat b1) (Int32.ofNat d1) = 1 := (own_sm1 (own_inj (a := a) hd2 hd1 (by rw [eky2, eky1]; omega)).1 (own_inj (a := a) hd2 hd1 (by rw [eky2, eky1]; omega)).2)
            have hs30 : sp8 (Int32.ofNat b3) (Int32.ofNat d3) (Int32.ofNat b0) (Int32.ofNat d0) = 0 := (own_sm0 (by omega) (by omega) (by omega) (by omega) (fun z => absurd (show ky3 = ky0 by rw [← eky3, ← eky0, z.1, z.2]) (by omega)))
            have hs31 : sp8 (Int32.ofNat b3) (Int32.ofNat d3) (Int32.ofNat b1) (Int32.ofNat d1) = 0 := (own_sm0 (by omega) (by omega) (by omega) (by omega) (fun z => absurd (show ky3 = ky1 by rw [← eky3, ← eky1, z.1, z.2]) (by omega)))
            have hs32 : sp8 (Int32.ofNat b3) (Int32.ofNat d3) (Int32.ofNat b2) (Int32.ofNat d2) = 0 := (own_sm0 (by omega) (by omega) (by omega) (by omega) (fun z => absurd (show ky3 = ky2 by rw [← eky3, ← eky2, z.1, z.2]) (by omega)))
            exact Jt T30 _ tf1 (0 : Int32) (0 : Int32) (0 : Int32) (1 : Int32) (Int32.ofNat a) (1 : Int32) (2 : Int32) (10 : Int64) (n0 + 7) (n0 + 8) (n0 + 9) _ c11 N10 X30 P30 F11 rfl (by rw [hs10]; decide) (by rw [hs10, hs20, hs21]; decide) (by rw [hs10, hs20, hs21, hs30, hs31, hs32]; decide) (by rw [hs10, hs20, hs21, hs30, hs31, hs32]; decide) (by rw [hs10, hs20, hs21, hs30, hs31, hs32]; decide)
        · refine own_callV (W := 0) X27 hx hZ rfl hown hml.symm (wd42 hw) (wd43 hw) (wd45 hw) (wd44 hw) (wd10 hw) (wd46 hw) (rm_msB1 l Z a0 hw [] n0 tk1 tk2 tk3 tk4 tk5 tk6 kA2 kA3 kA4 c8 ((List.replicate M 0).set ky0 (0 : Int32)) ((List.replicate M 0).set ky0 (1 : Int32)) M tC tS tz0 tz1 b2 a d2 ky2 (4 : Int64) (2 : Int32) (0 : Int32) (0 : Int32) (0 : Int32) _ P27 thk1 thk2 thk3 thk4 thk5 thk6 hkA2 hkA3 hkA4 (own_sl (List.length_replicate (n := M) (a := (0 : Int32)))) (own_sl (List.length_replicate (n := M) (a := (0 : Int32)))) F8 eky2 (by omega) (by omega) (by rw [own_gs, if_neg (by omega)]; exact hfr ky2)) (a := (n0 + 0)) (P27.exa (i := 0) rfl F8.1) (by decide) (by decide) (by decide) (by decide) (by decide) (argsL := [.int (Int32.ofNat b2), .int (Int32.ofNat d2)]) (rest := []) pd7 rfl rfl rfl (Nat.le_of_eq rfl) (hb hby at_269) (pc' := 272) rfl ?_
          intro v31 T31 L11 X31 hq
          obtain ⟨rfl, N11, c12, F12, P31⟩ := hq
          replace N11 := Fr.app N7 N11
          replace P31 : HP n0 T31.heap [c12, AC tk1 [], AC tk2 [], AC tk3 [], AC tk4 (List.map Value.int tC), AC tk5 (List.map Value.int tS), AC tk6 [.int tz0, .int tz1], AC kA2 (List.map Value.int (((List.replicate M 0).set ky0 (0 : Int32)).set ky2 (1 : Int32))), AC kA3 (List.map Value.int (((List.replicate M 0).set ky0 (1 : Int32)).set ky2 (1 : Int32))), AC kA4 [.int (2 : Int32), .int (1 : Int32), .int (0 : Int32), .int (0 : Int32)]] := P31
          rw [show ((4 : Int64) + (1 : Int64)) = (5 : Int64) from by decide] at F12
          replace P31 : HP n0 T31.heap [c12, AC tk1 [], AC tk2 [], AC tk3 [], AC tk4 (List.map Value.int tC), AC tk5 (List.map Value.int tS), AC tk6 [.int tz0, .int tz1], AC kA2 (List.map Value.int (((List.replicate M 0).set ky0 (0 : Int32)).set ky2 (1 : Int32))), AC kA3 (List.map Value.int (((List.replicate M 0).set ky0 (1 : Int32)).set ky2 (1 : Int32))), AC kA4 [.int (2 : Int32), .int (1 : Int32), .int (0 : Int32), .int (0 : Int32)]] := P31
          replace F12 : ObjF Z c12 "com/example/protomata/protomata/Partition" fl_C0 [.ref (n0 + 7), .ref (n0 + 8), .ref (n0 + 9), .int (Int32.ofNat a), .int (1 : Int32), .int (2 : Int32), .long (5 : Int64)] := F12
          refine w_istore (l' := #[.val (.int x0), .val (.int x1), .val (.int x2), .val (.int x3), .val (.int x4), .val (.int x5), .val (.int (Int32.ofNat g)), .val (.int (Int32.ofNat a)), .val (.int (Int32.ofNat g1)), .val (.int (Int32.ofNat a1)), .val (.int (Int32.ofNat fb0)), .val (.int (Int32.ofNat fd0)), .val (.int (Int32.ofNat fb1)), .val (.int (Int32.ofNat fd1)), .val (.int (Int32.ofNat b0)), .val (.int (Int32.ofNat d0)), .val (.int (Int32.ofNat b1)), .val (.int (Int32.ofNat d1)), .val (.int (Int32.ofNat b2)), .val (.int (Int32.ofNat d2)), .val (.int (Int32.ofNat b3)), .val (.int (Int32.ofNat d3)), .val (.ref (n0 + 0)), .val (.int (0 : Int32)), .val (.int tf1), .val (.int (1 : Int32)), .val (.int (0 : Int32)), .val (.int (0 : Int32)), .val (.int (1 : Int32)), .unset, .unset, .unset, .unset, .unset, .unset, .unset, .unset, .unset, .unset, .unset, .unset, .unset, .unset, .unset, .unset, .unset, .unset]) X31 hx (hb hby at_272) rfl (pc' := 274) rfl ?_
          refine w_aload X31 hx (hb hby at_274) rfl rfl (pc' := 276) rfl ?_
          refine w_iload X31 hx (hb hby at_276) rfl (pc' := 278) rfl ?_
          refine w_iload X31 hx (hb hby at_278) rfl (pc' := 280) rfl ?_
          by_cases hy30 : ky3 = ky0
          · refine own_callV (W := 0) X31 hx hZ rfl hown hml.symm (wd42 hw) (wd43 hw) (wd45 hw) (wd44 hw) (wd10 hw) (wd46 hw) (rm_htB0 l Z a0 hw [] n0 tk1 tk2 tk3 tk4 tk5 tk6 kA2 kA3 kA4 c12 (((List.replicate M 0).set ky0 (0 : Int32)).set ky2 (1 : Int32)) (((List.replicate M 0).set ky0 (1 : Int32)).set ky2 (1 : Int32)) M tC tS tz0 tz1 b3 a d3 ky3 (5 : Int64) (2 : Int32) (1 : Int32) (0 : Int32) (0 : Int32) (2 : Int32) _ P31 thk1 thk2 thk3 thk4 thk5 thk6 hkA2 hkA3 hkA4 (own_sl (own_sl (List.length_replicate (n := M) (a := (0 : Int32))))) (own_sl (own_sl (List.length_replicate (n := M) (a := (0 : Int32))))) F12 eky3 (by omega) (by omega) (by rw [own_gs, if_neg (by omega), own_gs, if_pos ⟨by omega, own_llt (List.length_replicate (n := M) (a := (0 : Int32))) (by omega)⟩]) (by rw [own_gs, if_neg (by omega), own_gs, if_pos ⟨by omega, own_llt (List.length_replicate (n := M) (a := (0 : Int32))) (by omega)⟩])) (a := (n0 + 0)) (P31.exa (i := 0) rfl F12.1) (by decide) (by decide) (by decide) (by decide) (by decide) (argsL := [.int (Int32.ofNat b3), .int (Int32.ofNat d3)]) (rest := []) pd7 rfl rfl rfl (Nat.le_of_eq rfl) (hb hby at_280) (pc' := 283) rfl ?_
            intro v32 T32 L12 X32 hq
            obtain ⟨rfl, N12, c13, F13, P32⟩ := hq
            replace N12 := Fr.app N11 N12
            replace P32 : HP n0 T32.heap [c13, AC tk1 [], AC tk2 [], AC tk3 [], AC tk4 (List.map Value.int tC), AC tk5 (List.map Value.int tS), AC tk6 [.int tz0, .int tz1], AC kA2 (List.map Value.int (((List.replicate M 0).set ky0 (0 : Int32)).set ky2 (1 : Int32))), AC kA3 (List.map Value.int (((List.replicate M 0).set ky0 (1 : Int32)).set ky2 (1 : Int32))), AC kA4 [.int ((2 : Int32) + (1 : Int32)), .int (1 : Int32), .int (0 : Int32), .int (0 : Int32)]] := P32
            rw [show ((5 : Int64) + (((2 : Int64) * (Int32.toInt64 (2 : Int32))) + (1 : Int64))) = (10 : Int64) from by decide] at F13
            rw [show ((2 : Int32) + (1 : Int32)) = (3 : Int32) from by decide] at P32
            replace P32 : HP n0 T32.heap [c13, AC tk1 [], AC tk2 [], AC tk3 [], AC tk4 (List.map Value.int tC), AC tk5 (List.map Value.int tS), AC tk6 [.int tz0, .int tz1], AC kA2 (List.map Value.int (((List.replicate M 0).set ky0 (0 : Int32)).set ky2 (1 : Int32))), AC kA3 (List.map Value.int (((List.replicate M 0).set ky0 (1 : Int32)).set ky2 (1 : Int32))), AC kA4 [.int (3 : Int32), .int (1 : Int32), .int (0 : Int32), .int (0 : Int32)]] := P32
            replace F13 : ObjF Z c13 "com/example/protomata/protomata/Partition" fl_C0 [.ref (n0 + 7), .ref (n0 + 8), .ref (n0 + 9), .int (Int32.ofNat a), .int (1 : Int32), .int (2 : Int32), .long (10 : Int64)] := F13
            refine w_istore (l' := #[.val (.int x0), .val (.int x1), .val (.int x2), .val (.int x3), .val (.int x4), .val (.int x5), .val (.int (Int32.ofNat g)), .val (.int (Int32.ofNat a)), .val (.int (Int32.ofNat g1)), .val (.int (Int32.ofNat a1)), .val (.int (Int32.ofNat fb0)), .val (.int (Int32.ofNat fd0)), .val (.int (Int32.ofNat fb1)), .val (.int (Int32.ofNat fd1)), .val (.int (Int32.ofNat b0)), .val (.int (Int32.ofNat d0)), .val (.int (Int32.ofNat b1)), .val (.int (Int32.ofNat d1)), .val (.int (Int32.ofNat b2)), .val (.int (Int32.ofNat d2)), .val (.int (Int32.ofNat b3)), .val (.int (Int32.ofNat d3)), .val (.ref (n0 + 0)), .val (.int (0 : Int32)), .val (.int tf1), .val (.int (1 : Int32)), .val (.int (0 : Int32)), .val (.int (0 : Int32)), .val (.int (1 : Int32)), .val (.int (0 : Int32)), .unset, .unset, .unset, .unset, .unset, .unset, .unset, .unset, .unset, .unset, .unset, .unset, .unset, .unset, .unset, .unset, .unset]) X32 hx (hb hby at_283) rfl (pc' := 285) rfl ?_
            have hs10 : sp8 (Int32.ofNat b1) (Int32.ofNat d1) (Int32.ofNat b0) (Int32.ofNat d0) = 1 := (own_sm1 (own_inj (a := a) hd1 hd0 (by rw [eky1, eky0]; omega)).1 (own_inj (a := a) hd1 hd0 (by rw [eky1, eky0]; omega)).2)
            have hs20 : sp8 (Int32.ofNat b2) (Int32.ofNat d2) (Int32.ofNat b0) (Int32.ofNat d0) = 0 := (own_sm0 (by omega) (by omega) (by omega) (by omega) (fun z => absurd (show ky2 = ky0 by rw [← eky2, ← eky0, z.1, z.2]) (by omega)))
            have hs21 : sp8 (Int32.ofNat b2) (Int32.ofNat d2) (Int32.ofNat b1) (Int32.ofNat d1) = 0 := (own_sm0 (by omega) (by omega) (by omega) (by omega) (fun z => absurd (show ky2 = ky1 by rw [← eky2, ← eky1, z.1, z.2]) (by omega)))
            have hs30 : sp8 (Int32.ofNat b3) (Int32.ofNat d3) (Int32.ofNat b0) (Int32.ofNat d0) = 1 := (own_sm1 (own_inj (a := a) hd3 hd0 (by rw [eky3, eky0]; omega)).1 (own_inj (a := a) hd3 hd0 (by rw [eky3, eky0]; omega)).2)
            have hs31 : sp8 (Int32.ofNat b3) (Int32.ofNat d3) (Int32.ofNat b1) (Int32.ofNat d1) = 1 := (own_sm1 (own_inj (a := a) hd3 hd1 (by rw [eky3, eky1]; omega)).1 (own_inj (a := a) hd3 hd1 (by rw [eky3, eky1]; omega)).2)
            have hs32 : sp8 (Int32.ofNat b3) (Int32.ofNat d3) (Int32.ofNat b2) (Int32.ofNat d2) = 0 := (own_sm0 (by omega) (by omega) (by omega) (by omega) (fun z => absurd (show ky3 = ky2 by rw [← eky3, ← eky2, z.1, z.2]) (by omega)))
            exact Jt T32 _ tf1 (0 : Int32) (0 : Int32) (1 : Int32) (0 : Int32) (Int32.ofNat a) (1 : Int32) (2 : Int32) (10 : Int64) (n0 + 7) (n0 + 8) (n0 + 9) _ c13 N12 X32 P32 F13 rfl (by rw [hs10]; decide) (by rw [hs10, hs20, hs21]; decide) (by rw [hs10, hs20, hs21, hs30, hs31, hs32]; decide) (by rw [hs10, hs20, hs21, hs30, hs31, hs32]; decide) (by rw [hs10, hs20, hs21, hs30, hs31, hs32]; decide)
          · by_cases hy31 : ky3 = ky2
            · refine own_callV (W := 0) X31 hx hZ rfl hown hml.symm (wd42 hw) (wd43 hw) (wd45 hw) (wd44 hw) (wd10 hw) (wd46 hw) (rm_htB1 l Z a0 hw [] n0 tk1 tk2 tk3 tk4 tk5 tk6 kA2 kA3 kA4 c12 (((List.replicate M 0).set ky0 (0 : Int32)).set ky2 (1 : Int32)) (((List.replicate M 0).set ky0 (1 : Int32)).set ky2 (1 : Int32)) M tC tS tz0 tz1 b3 a d3 ky3 (5 : Int64) (2 : Int32) (1 : Int32) (0 : Int32) (0 : Int32) (2 : Int32) _ P31 thk1 thk2 thk3 thk4 thk5 thk6 hkA2 hkA3 hkA4 (own_sl (own_sl (List.length_replicate (n := M) (a := (0 : Int32))))) (own_sl (own_sl (List.length_replicate (n := M) (a := (0 : Int32))))) F12 eky3 (by omega) (by omega) (by rw [own_gs, if_pos ⟨by omega, own_llt (own_sl (List.length_replicate (n := M) (a := (0 : Int32)))) (by omega)⟩]) (by rw [own_gs, if_pos ⟨by omega, own_llt (own_sl (List.length_replicate (n := M) (a := (0 : Int32)))) (by omega)⟩])) (a := (n0 + 0)) (P31.exa (i := 0) rfl F12.1) (by decide) (by decide) (by decide) (by decide) (by decide) (argsL := [.int (Int32.ofNat b3), .int (Int32.ofNat d3)]) (rest := []) pd7 rfl rfl rfl (Nat.le_of_eq rfl) (hb hby at_280) (pc' := 283) rfl ?_
              intro v33 T33 L13 X33 hq
              obtain ⟨rfl, N13, c14, F14, P33⟩ := hq
              replace N13 := Fr.app N11 N13
              replace P33 : HP n0 T33.heap [c14, AC tk1 [], AC tk2 [], AC tk3 [], AC tk4 (List.map Value.int tC), AC tk5 (List.map Value.int tS), AC tk6 [.int tz0, .int tz1], AC kA2 (List.map Value.int (((List.replicate M 0).set ky0 (0 : Int32)).set ky2 (1 : Int32))), AC kA3 (List.map Value.int (((List.replicate M 0).set ky0 (1 : Int32)).set ky2 (1 : Int32))), AC kA4 [.int (2 : Int32), .int ((1 : Int32) + (1 : Int32)), .int (0 : Int32), .int (0 : Int32)]] := P33
              rw [show ((5 : Int64) + (((2 : Int64) * (Int32.toInt64 (1 : Int32))) + (1 : Int64))) = (8 : Int64) from by decide] at F14
              rw [show ((1 : Int32) + (1 : Int32)) = (2 : Int32) from by decide] at P33
              replace P33 : HP n0 T33.heap [c14, AC tk1 [], AC tk2 [], AC tk3 [], AC tk4 (List.map Value.int tC), AC tk5 (List.map Value.int tS), AC tk6 [.int tz0, .int tz1], AC kA2 (List.map Value.int (((List.replicate M 0).set ky0 (0 : Int32)).set ky2 (1 : Int32))), AC kA3 (List.map Value.int (((List.replicate M 0).set ky0 (1 : Int32)).set ky2 (1 : Int32))), AC kA4 [.int (2 : Int32), .int (2 : Int32), .int (0 : Int32), .int (0 : Int32)]] := P33
              replace F14 : ObjF Z c14 "com/example/protomata/protomata/Partition" fl_C0 [.ref (n0 + 7), .ref (n0 + 8), .ref (n0 + 9), .int (Int32.ofNat a), .int (1 : Int32), .int (2 : Int32), .long (8 : Int64)] := F14
              refine w_istore (l' := #[.val (.int x0), .val (.int x1), .val (.int x2), .val (.int x3), .val (.int x4), .val (.int x5), .val (.int (Int32.ofNat g)), .val (.int (Int32.ofNat a)), .val (.int (Int32.ofNat g1)), .val (.int (Int32.ofNat a1)), .val (.int (Int32.ofNat fb0)), .val (.int (Int32.ofNat fd0)), .val (.int (Int32.ofNat fb1)), .val (.int (Int32.ofNat fd1)), .val (.int (Int32.ofNat b0)), .val (.int (Int32.ofNat d0)), .val (.int (Int32.ofNat b1)), .val (.int (Int32.ofNat d1)), .val (.int (Int32.ofNat b2)), .val (.int (Int32.ofNat d2)), .val (.int (Int32.ofNat b3)), .val (.int (Int32.ofNat d3)), .val (.ref (n0 + 0)), .val (.int (0 : Int32)), .val (.int tf1), .val (.int (1 : Int32)), .val (.int (0 : Int32)), .val (.int (0 : Int32)), .val (.int (1 : Int32)), .val (.int (1 : Int32)), .unset, .unset, .unset, .unset, .unset, .unset, .unset, .unset, .unset, .unset, .unset, .unset, .unset, .unset, .unset, .unset, .unset]) X33 hx (hb hby at_283) rfl (pc' := 285) rfl ?_
              have hs10 : sp8 (Int32.ofNat b1) (Int32.ofNat d1) (Int32.ofNat b0) (Int32.ofNat d0) = 1 := (own_sm1 (own_inj (a := a) hd1 hd0 (by rw [eky1, eky0]; omega)).1 (own_inj (a := a) hd1 hd0 (by rw [eky1, eky0]; omega)).2)
              have hs20 : sp8 (Int32.ofNat b2) (Int32.ofNat d2) (Int32.ofNat b0) (Int32.ofNat d0) = 0 := (own_sm0 (by omega) (by omega) (by omega) (by omega) (fun z => absurd (show ky2 = ky0 by rw [← eky2, ← eky0, z.1, z.2]) (by omega)))
              have hs21 : sp8 (Int32.ofNat b2) (Int32.ofNat d2) (Int32.ofNat b1) (Int32.ofNat d1) = 0 := (own_sm0 (by omega) (by omega) (by omega) (by omega) (fun z => absurd (show ky2 = ky1 by rw [← eky2, ← eky1, z.1, z.2]) (by omega)))
              have hs30 : sp8 (Int32.ofNat b3) (Int32.ofNat d3) (Int32.ofNat b0) (Int32.ofNat d0) = 0 := (own_sm0 (by omega) (by omega) (by omega) (by omega) (fun z => absurd (show ky3 = ky0 by rw [← eky3, ← eky0, z.1, z.2]) (by omega)))
              have hs31 : sp8 (Int32.ofNat b3) (Int32.ofNat d3) (Int32.ofNat b1) (Int32.ofNat d1) = 0 := (own_sm0 (by omega) (by omega) (by omega) (by omega) (fun z => absurd (show ky3 = ky1 by rw [← eky3, ← eky1, z.1, z.2]) (by omega)))
              have hs32 : sp8 (Int32.ofNat b3) (Int32.ofNat d3) (Int32.ofNat b2) (Int32.ofNat d2) = 1 := (own_sm1 (own_inj (a := a) hd3 hd2 (by rw [eky3, eky2]; omega)).1 (own_inj (a := a) hd3 hd2 (by rw [eky3, eky2]; omega)).2)
              exact Jt T33 _ tf1 (0 : Int32) (0 : Int32) (1 : Int32) (1 : Int32) (Int32.ofNat a) (1 : Int32) (2 : Int32) (8 : Int64) (n0 + 7) (n0 + 8) (n0 + 9) _ c14 N13 X33 P33 F14 rfl (by rw [hs10]; decide) (by rw [hs10, hs20, hs21]; decide) (by rw [hs10, hs20, hs21, hs30, hs31, hs32]; decide) (by rw [hs10, hs20, hs21, hs30, hs31, hs32]; decide) (by rw [hs10, hs20, hs21, hs30, hs31, hs32]; decide)
            · refine own_callV (W := 0) X31 hx hZ rfl hown hml.symm (wd42 hw) (wd43 hw) (wd45 hw) (wd44 hw) (wd10 hw) (wd46 hw) (rm_msB2 l Z a0 hw [] n0 tk1 tk2 tk3 tk4 tk5 tk6 kA2 kA3 kA4 c12 (((List.replicate M 0).set ky0 (0 : Int32)).set ky2 (1 : Int32)) (((List.replicate M 0).set ky0 (1 : Int32)).set ky2 (1 : Int32)) M tC tS tz0 tz1 b3 a d3 ky3 (5 : Int64) (2 : Int32) (1 : Int32) (0 : Int32) (0 : Int32) _ P31 thk1 thk2 thk3 thk4 thk5 thk6 hkA2 hkA3 hkA4 (own_sl (own_sl (List.length_replicate (n := M) (a := (0 : Int32))))) (own_sl (own_sl (List.length_replicate (n := M) (a := (0 : Int32))))) F12 eky3 (by omega) (by omega) (by rw [own_gs, if_neg (by omega), own_gs, if_neg (by omega)]; exact hfr ky3)) (a := (n0 + 0)) (P31.exa (i := 0) rfl F12.1) (by decide) (by decide) (by decide) (by decide) (by decide) (argsL := [.int (Int32.ofNat b3), .int (Int32.ofNat d3)]) (rest := []) pd7 rfl rfl rfl (Nat.le_of_eq rfl) (hb hby at_280) (pc' := 283) rfl ?_
              intro v34 T34 L14 X34 hq
              obtain ⟨rfl, N14, c15, F15, P34⟩ := hq
              replace N14 := Fr.app N11 N14
              replace P34 : HP n0 T34.heap [c15, AC tk1 [], AC tk2 [], AC tk3 [], AC tk4 (List.map Value.int tC), AC tk5 (List.map Value.int tS), AC tk6 [.int tz0, .int tz1], AC kA2 (List.map Value.int ((((List.replicate M 0).set ky0 (0 : Int32)).set ky2 (1 : Int32)).set ky3 (2 : Int32))), AC kA3 (List.map Value.int ((((List.replicate M 0).set ky0 (1 : Int32)).set ky2 (1 : Int32)).set ky3 (1 : Int32))), AC kA4 [.int (2 : Int32), .int (1 : Int32), .int (1 : Int32), .int (0 : Int32)]] := P34
              rw [show ((5 : Int64) + (1 : Int64)) = (6 : Int64) from by decide] at F15
              replace P34 : HP n0 T34.heap [c15, AC tk1 [], AC tk2 [], AC tk3 [], AC tk4 (List.map Value.int tC), AC tk5 (List.map Value.int tS), AC tk6 [.int tz0, .int tz1], AC kA2 (List.map Value.int ((((List.replicate M 0).set ky0 (0 : Int32)).set ky2 (1 : Int32)).set ky3 (2 : Int32))), AC kA3 (List.map Value.int ((((List.replicate M 0).set ky0 (1 : Int32)).set ky2 (1 : Int32)).set ky3 (1 : Int32))), AC kA4 [.int (2 : Int32), .int (1 : Int32), .int (1 : Int32), .int (0 : Int32)]] := P34
              replace F15 : ObjF Z c15 "com/example/protomata/protomata/Partition" fl_C0 [.ref (n0 + 7), .ref (n0 + 8), .ref (n0 + 9), .int (Int32.ofNat a), .int (1 : Int32), .int (3 : Int32), .long (6 : Int64)] := F15
              refine w_istore (l' := #[.val (.int x0), .val (.int x1), .val (.int x2), .val (.int x3), .val (.int x4), .val (.int x5), .val (.int (Int32.ofNat g)), .val (.int (Int32.ofNat a)), .val (.int (Int32.ofNat g1)), .val (.int (Int32.ofNat a1)), .val (.int (Int32.ofNat fb0)), .val (.int (Int32.ofNat fd0)), .val (.int (Int32.ofNat fb1)), .val (.int (Int32.ofNat fd1)), .val (.int (Int32.ofNat b0)), .val (.int (Int32.ofNat d0)), .val (.int (Int32.ofNat b1)), .val (.int (Int32.ofNat d1)), .val (.int (Int32.ofNat b2)), .val (.int (Int32.ofNat d2)), .val (.int (Int32.ofNat b3)), .val (.int (Int32.ofNat d3)), .val (.ref (n0 + 0)), .val (.int (0 : Int32)), .val (.int tf1), .val (.int (1 : Int32)), .val (.int (0 : Int32)), .val (.int (0 : Int32)), .val (.int (1 : Int32)), .val (.int (2 : Int32)), .unset, .unset, .unset, .unset, .unset, .unset, .unset, .unset, .unset, .unset, .unset, .unset, .unset, .unset, .unset, .unset, .unset]) X34 hx (hb hby at_283) rfl (pc' := 285) rfl ?_
              have hs10 : sp8 (Int32.ofNat b1) (Int32.ofNat d1) (Int32.ofNat b0) (Int32.ofNat d0) = 1 := (own_sm1 (own_inj (a := a) hd1 hd0 (by rw [eky1, eky0]; omega)).1 (own_inj (a := a) hd1 hd0 (by rw [eky1, eky0]; omega)).2)
              have hs20 : sp8 (Int32.ofNat b2) (Int32.ofNat d2) (Int32.ofNat b0) (Int32.ofNat d0) = 0 := (own_sm0 (by omega) (by omega) (by omega) (by omega) (fun z => absurd (show ky2 = ky0 by rw [← eky2, ← eky0, z.1, z.2]) (by omega)))
              have hs21 : sp8 (Int32.ofNat b2) (Int32.ofNat d2) (Int32.ofNat b1) (Int32.ofNat d1) = 0 := (own_sm0 (by omega) (by omega) (by omega) (by omega) (fun z => absurd (show ky2 = ky1 by rw [← eky2, ← eky1, z.1, z.2]) (by omega)))
              have hs30 : sp8 (Int32.ofNat b3) (Int32.ofNat d3) (Int32.ofNat b0) (Int32.ofNat d0) = 0 := (own_sm0 (by omega) (by omega) (by omega) (by omega) (fun z => absurd (show ky3 = ky0 by rw [← eky3, ← eky0, z.1, z.2]) (by omega)))
              have hs31 : sp8 (Int32.ofNat b3) (Int32.ofNat d3) (Int32.ofNat b1) (Int32.ofNat d1) = 0 := (own_sm0 (by omega) (by omega) (by omega) (by omega) (fun z => absurd (show ky3 = ky1 by rw [← eky3, ← eky1, z.1, z.2]) (by omega)))
              have hs32 : sp8 (Int32.ofNat b3) (Int32.ofNat d3) (Int32.ofNat b2) (Int32.ofNat d2) = 0 := (own_sm0 (by omega) (by omega) (by omega) (by omega) (fun z => absurd (show ky3 = ky2 by rw [← eky3, ← eky2, z.1, z.2]) (by omega)))
              exact Jt T34 _ tf1 (0 : Int32) (0 : Int32) (1 : Int32) (2 : Int32) (Int32.ofNat a) (1 : Int32) (3 : Int32) (6 : Int64) (n0 + 7) (n0 + 8) (n0 + 9) _ c15 N14 X34 P34 F15 rfl (by rw [hs10]; decide) (by rw [hs10, hs20, hs21]; decide) (by rw [hs10, hs20, hs21, hs30, hs31, hs32]; decide) (by rw [hs10, hs20, hs21, hs30, hs31, hs32]; decide) (by rw [hs10, hs20, hs21, hs30, hs31, hs32]; decide)
      · refine own_callV (W := 0) X26 hx hZ rfl hown hml.symm (wd42 hw) (wd43 hw) (wd45 hw) (wd44 hw) (wd10 hw) (wd46 hw) (rm_msB1 l Z a0 hw [] n0 tk1 tk2 tk3 tk4 tk5 tk6 kA2 kA3 kA4 c7 ((List.replicate M 0).set ky0 (0 : Int32)) ((List.replicate M 0).set ky0 (1 : Int32)) M tC tS tz0 tz1 b1 a d1 ky1 (1 : Int64) (1 : Int32) (0 : Int32) (0 : Int32) (0 : Int32) _ P26 thk1 thk2 thk3 thk4 thk5 thk6 hkA2 hkA3 hkA4 (own_sl (List.length_replicate (n := M) (a := (0 : Int32)))) (own_sl (List.length_replicate (n := M) (a := (0 : Int32)))) F7 eky1 (by omega) (by omega) (by rw [own_gs, if_neg (by omega)]; exact hfr ky1)) (a := (n0 + 0)) (P26.exa (i := 0) rfl F7.1) (by decide) (by decide) (by decide) (by decide) (by decide) (argsL := [.int (Int32.ofNat b1), .int (Int32.ofNat d1)]) (rest := []) pd7 rfl rfl rfl (Nat.le_of_eq rfl) (hb hby at_258) (pc' := 261) rfl ?_
        intro v35 T35 L15 X35 hq
        obtain ⟨rfl, N15, c16, F16, P35⟩ := hq
        replace N15 := Fr.app N6 N15
        replace P35 : HP n0 T35.heap [c16, AC tk1 [], AC tk2 [], AC tk3 [], AC tk4 (List.map Value.int tC), AC tk5 (List.map Value.int tS), AC tk6 [.int tz0, .int tz1], AC kA2 (List.map Value.int (((List.replicate M 0).set ky0 (0 : Int32)).set ky1 (1 : Int32))), AC kA3 (List.map Value.int (((List.replicate M 0).set ky0 (1 : Int32)).set ky1 (1 : Int32))), AC kA4 [.int (1 : Int32), .int (1 : Int32), .int (0 : Int32), .int (0 : Int32)]] := P35
        rw [show ((1 : Int64) + (1 : Int64)) = (2 : Int64) from by decide] at F16
        replace P35 : HP n0 T35.heap [c16, AC tk1 [], AC tk2 [], AC tk3 [], AC tk4 (List.map Value.int tC), AC tk5 (List.map Value.int tS), AC tk6 [.int tz0, .int tz1], AC kA2 (List.map Value.int (((List.replicate M 0).set ky0 (0 : Int32)).set ky1 (1 : Int32))), AC kA3 (List.map Value.int (((List.replicate M 0).set ky0 (1 : Int32)).set ky1 (1 : Int32))), AC kA4 [.int (1 : Int32), .int (1 : Int32), .int (0 : Int32), .int (0 : Int32)]] := P35
        replace F16 : ObjF Z c16 "com/example/protomata/protomata/Partition" fl_C0 [.ref (n0 + 7), .ref (n0 + 8), .ref (n0 + 9), .int (Int32.ofNat a), .int (1 : Int32), .int (2 : Int32), .long (2 : Int64)] := F16
        refine w_istore (l' := #[.val (.int x0), .val (.int x1), .val (.int x2), .val (.int x3), .val (.int x4), .val (.int x5), .val (.int (Int32.ofNat g)), .val (.int (Int32.ofNat a)), .val (.int (Int32.ofNat g1)), .val (.int (Int32.ofNat a1)), .val (.int (Int32.ofNat fb0)), .val (.int (Int32.ofNat fd0)), .val (.int (Int32.ofNat fb1)), .val (.int (Int32.ofNat fd1)), .val (.int (Int32.ofNat b0)), .val (.int (Int32.ofNat d0)), .val (.int (Int32.ofNat b1)), .val (.int (Int32.ofNat d1)), .val (.int (Int32.ofNat b2)), .val (.int (Int32.ofNat d2)), .val (.int (Int32.ofNat b3)), .val (.int (Int32.ofNat d3)), .val (.ref (n0 + 0)), .val (.int (0 : Int32)), .val (.int tf1), .val (.int (1 : Int32)), .val (.int (0 : Int32)), .val (.int (1 : Int32)), .unset, .unset, .unset, .unset, .unset, .unset, .unset, .unset, .unset, .unset, .unset, .unset, .unset, .unset, .unset, .unset, .unset, .unset, .unset]) X35 hx (hb hby at_261) rfl (pc' := 263) rfl ?_
        refine w_aload X35 hx (hb hby at_263) rfl rfl (pc' := 265) rfl ?_
        refine w_iload X35 hx (hb hby at_265) rfl (pc' := 267) rfl ?_
        refine w_iload X35 hx (hb hby at_267) rfl (pc' := 269) rfl ?_
        by_cases hy20 : ky2 = ky0
        · refine own_callV (W := 0) X35 hx hZ rfl hown hml.symm (wd42 hw) (wd43 hw) (wd45 hw) (wd44 hw) (wd10 hw) (wd46 hw) (rm_htB0 l Z a0 hw [] n0 tk1 tk2 tk3 tk4 tk5 tk6 kA2 kA3 kA4 c16 (((List.replicate M 0).set ky0 (0 : Int32)).set ky1 (1 : Int32)) (((List.replicate M 0).set ky0 (1 : Int32)).set ky1 (1 : Int32)) M tC tS tz0 tz1 b2 a d2 ky2 (2 : Int64) (1 : Int32) (1 : Int32) (0 : Int32) (0 : Int32) (2 : Int32) _ P35 thk1 thk2 thk3 thk4 thk5 thk6 hkA2 hkA3 hkA4 (own_sl (own_sl (List.length_replicate (n := M) (a := (0 : Int32))))) (own_sl (own_sl (List.length_replicate (n := M) (a := (0 : Int32))))) F16 eky2 (by omega) (by omega) (by rw [own_gs, if_neg (by omega), own_gs, if_pos ⟨by omega, own_llt (List.length_replicate (n := M) (a := (0 : Int32))) (by omega)⟩]) (by rw [own_gs, if_neg (by omega), own_gs, if_pos ⟨by omega, own_llt (List.length_replicate (n := M) (a := (0 : Int32))) (by omega)⟩])) (a := (n0 + 0)) (P35.exa (i := 0) rfl F16.1) (by decide) (by decide) (by decide) (by decide) (by decide) (argsL := [.int (Int32.ofNat b2), .int (Int32.ofNat d2)]) (rest := []) pd7 rfl rfl rfl (Nat.le_of_eq rfl) (hb hby at_269) (pc' := 272) rfl ?_
          intro v36 T36 L16 X36 hq
          obtain ⟨rfl, N16, c17, F17, P36⟩ := hq
          replace N16 := Fr.app N15 N16
          replace P36 : HP n0 T36.heap [c17, AC tk1 [], AC tk2 [], AC tk3 [], AC tk4 (List.map Value.int tC), AC tk5 (List.map Value.int tS), AC tk6 [.int tz0, .int tz1], AC kA2 (List.map Value.int (((List.replicate M 0).set ky0 (0 : Int32)).set ky1 (1 : Int32))), AC kA3 (List.map Value.int (((List.replicate M 0).set ky0 (1 : Int32)).set ky1 (1 : Int32))), AC kA4 [.int ((1 : Int32) + (1 : Int32)), .int (1 : Int32), .int (0 : Int32), .int (0 : Int32)]] := P36
          rw [show ((2 : Int64) + (((2 : Int64) * (Int32.toInt64 (1 : Int32))) + (1 : Int64))) = (5 : Int64) from by decide] at F17
          rw [show ((1 : Int32) + (1 : Int32)) = (2 : Int32) from by decide] at P36
          replace P36 : HP n0 T36.heap [c17, AC tk1 [], AC tk2 [], AC tk3 [], AC tk4 (List.map Value.int tC), AC tk5 (List.map Value.int tS), AC tk6 [.int tz0, .int tz1], AC kA2 (List.map Value.int (((List.replicate M 0).set ky0 (0 : Int32)).set ky1 (1 : Int32))), AC kA3 (List.map Value.int (((List.replicate M 0).set ky0 (1 : Int32)).set ky1 (1 : Int32))), AC kA4 [.int (2 : Int32), .int (1 : Int32), .int (0 : Int32), .int (0 : Int32)]] := P36
          replace F17 : ObjF Z c17 "com/example/protomata/protomata/Partition" fl_C0 [.ref (n0 + 7), .ref (n0 + 8), .ref (n0 + 9), .int (Int32.ofNat a), .int (1 : Int32), .int (2 : Int32), .long (5 : Int64)] := F17
          refine w_istore (l' := #[.val (.int x0), .val (.int x1), .val (.int x2), .val (.int x3), .val (.int x4), .val (.int x5), .val (.int (Int32.ofNat g)), .val (.int (Int32.ofNat a)), .val (.int (Int32.ofNat g1)), .val (.int (Int32.ofNat a1)), .val (.int (Int32.ofNat fb0)), .val (.int (Int32.ofNat fd0)), .val (.int (Int32.ofNat fb1)), .val (.int (Int32.ofNat fd1)), .val (.int (Int32.ofNat b0)), .val (.int (Int32.ofNat d0)), .val (.int (Int32.ofNat b1)), .val (.int (Int32.ofNat d1)), .val (.int (Int32.ofNat b2)), .val (.int (Int32.ofNat d2)), .val (.int (Int32.ofNat b3)), .val (.int (Int32.ofNat d3)), .val (.ref (n0 + 0)), .val (.int (0 : Int32)), .val (.int tf1), .val (.int (1 : Int32)), .val (.int (0 : Int32)), .val (.int (1 : Int32)), .val (.int (0 : Int32)), .unset, .unset, .unset, .unset, .unset, .unset, .unset, .unset, .unset, .unset, .unset, .unset, .unset, .unset, .unset, .unset, .unset, .unset]) X36 hx (hb hby at_272) rfl (pc' := 274) rfl ?_
          refine w_aload X36 hx (hb hby at_274) rfl rfl (pc' := 276) rfl ?_
          refine w_iload X36 hx (hb hby at_276) rfl (pc' := 278) rfl ?_
          refine w_iload X36 hx (hb hby at_278) rfl (pc' := 280) rfl ?_
          by_cases hy30 : ky3 = ky0
          · refine own_callV (W := 0) X36 hx hZ rfl hown hml.symm (wd42 hw) (wd43 hw) (wd45 hw) (wd44 hw) (wd10 hw) (wd46 hw) (rm_htB0 l Z a0 hw [] n0 tk1 tk2 tk3 tk4 tk5 tk6 kA2 kA3 kA4 c17 (((List.replicate M 0).set ky0 (0 : Int32)).set ky1 (1 : Int32)) (((List.replicate M 0).set ky0 (1 : Int32)).set ky1 (1 : Int32)) M tC tS tz0 tz1 b3 a d3 ky3 (5 : Int64) (2 : Int32) (1 : Int32) (0 : Int32) (0 : Int32) (2 : Int32) _ P36 thk1 thk2 thk3 thk4 thk5 thk6 hkA2 hkA3 hkA4 (own_sl (own_sl (List.length_replicate (n := M) (a := (0 : Int32))))) (own_sl (own_sl (List.length_replicate (n := M) (a := (0 : Int32))))) F17 eky3 (by omega) (by omega) (by rw [own_gs, if_neg (by omega), own_gs, if_pos ⟨by omega, own_llt (List.length_replicate (n := M) (a := (0 : Int32))) (by omega)⟩]) (by rw [own_gs, if_neg (by omega), own_gs, if_pos ⟨by omega, own_llt (List.length_replicate (n := M) (a := (0 : Int32))) (by omega)⟩])) (a := (n0 + 0)) (P36.exa (i := 0) rfl F17.1) (by decide) (by decide) (by decide) (by decide) (by decide) (argsL := [.int (Int32.ofNat b3), .int (Int32.ofNat d3)]) (rest := []) pd7 rfl rfl rfl (Nat.le_of_eq rfl) (hb hby at_280) (pc' := 283) rfl ?_
            intro v37 T37 L17 X37 hq
            obtain ⟨rfl, N17, c18, F18, P37⟩ := hq
            replace N17 := Fr.app N16 N17
            replace P37 : HP n0 T37.heap [c18, AC tk1 [], AC tk2 [], AC tk3 [], AC tk4 (List.map Value.int tC), AC tk5 (List.map Value.int tS), AC tk6 [.int tz0, .int tz1], AC kA2 (List.map Value.int (((List.replicate M 0).set ky0 (0 : Int32)).set ky1 (1 : Int32))), AC kA3 (List.map Value.int (((List.replicate M 0).set ky0 (1 : Int32)).set ky1 (1 : Int32))), AC kA4 [.int ((2 : Int32) + (1 : Int32)), .int (1 : Int32), .int (0 : Int32), .int (0 : Int32)]] := P37
            rw [show ((5 : Int64) + (((2 : Int64) * (Int32.toInt64 (2 : Int32))) + (1 : Int64))) = (10 : Int64) from by decide] at F18
            rw [show ((2 : Int32) + (1 : Int32)) = (3 : Int32) from by decide] at P37
            replace P37 : HP n0 T37.heap [c18, AC tk1 [], AC tk2 [], AC tk3 [], AC tk4 (List.map Value.int tC), AC tk5 (List.map Value.int tS), AC tk6 [.int tz0, .int tz1], AC kA2 (List.map Value.int (((List.replicate M 0).set ky0 (0 : Int32)).set ky1 (1 : Int32))), AC kA3 (List.map Value.int (((List.replicate M 0).set ky0 (1 : Int32)).set ky1 (1 : Int32))), AC kA4 [.int (3 : Int32), .int (1 : Int32), .int (0 : Int32), .int (0 : Int32)]] := P37
            replace F18 : ObjF Z c18 "com/example/protomata/protomata/Partition" fl_C0 [.ref (n0 + 7), .ref (n0 + 8), .ref (n0 + 9), .int (Int32.ofNat a), .int (1 : Int32), .int (2 : Int32), .long (10 : Int64)] := F18
            refine w_istore (l' := #[.val (.int x0), .val (.int x1), .val (.int x2), .val (.int x3), .val (.int x4), .val (.int x5), .val (.int (Int32.ofNat g)), .val (.int (Int32.ofNat a)), .val (.int (Int32.ofNat g1)), .val (.int (Int32.ofNat a1)), .val (.int (Int32.ofNat fb0)), .val (.int (Int32.ofNat fd0)), .val (.int (Int32.ofNat fb1)), .val (.int (Int32.ofNat fd1)), .val (.int (Int32.ofNat b0)), .val (.int (Int32.ofNat d0)), .val (.int (Int32.ofNat b1)), .val (.int (Int32.ofNat d1)), .val (.int (Int32.ofNat b2)), .val (.int (Int32.ofNat d2)), .val (.int (Int32.ofNat b3)), .val (.int (Int32.ofNat d3)), .val (.ref (n0 + 0)), .val (.int (0 : Int32)), .val (.int tf1), .val (.int (1 : Int32)), .val (.int (0 : Int32)), .val (.int (1 : Int32)), .val (.int (0 : Int32)), .val (.int (0 : Int32)), .unset, .unset, .unset, .unset, .unset, .unset, .unset, .unset, .unset, .unset, .unset, .unset, .unset, .unset, .unset, .unset, .unset]) X37 hx (hb hby at_283) rfl (pc' := 285) rfl ?_
            have hs10 : sp8 (Int32.ofNat b1) (Int32.ofNat d1) (Int32.ofNat b0) (Int32.ofNat d0) = 0 := (own_sm0 (by omega) (by omega) (by omega) (by omega) (fun z => absurd (show ky1 = ky0 by rw [← eky1, ← eky0, z.1, z.2]) (by omega)))
            have hs20 : sp8 (Int32.ofNat b2) (Int32.ofNat d2) (Int32.ofNat b0) (Int32.ofNat d0) = 1 := (own_sm1 (own_inj (a := a) hd2 hd0 (by rw [eky2, eky0]; omega)).1 (own_inj (a := a) hd2 hd0 (by rw [eky2, eky0]; omega)).2)
            have hs21 : sp8 (Int32.ofNat b2) (Int32.ofNat d2) (Int32.ofNat b1) (Int32.ofNat d1) = 0 := (own_sm0 (by omega) (by omega) (by omega) (by omega) (fun z => absurd (show ky2 = ky1 by rw [← eky2, ← eky1, z.1, z.2]) (by omega)))
            have hs30 : sp8 (Int32.ofNat b3) (Int32.ofNat d3) (Int32.ofNat b0) (Int32.ofNat d0) = 1 := (own_sm1 (own_inj (a := a) hd3 hd0 (by rw [eky3, eky0]; omega)).1 (own_inj (a := a) hd3 hd0 (by rw [eky3, eky0]; omega)).2)
            have hs31 : sp8 (Int32.ofNat b3) (Int32.ofNat d3) (Int32.ofNat b1) (Int32.ofNat d1) = 0 := (own_sm0 (by omega) (by omega) (by omega) (by omega) (fun z => absurd (show ky3 = ky1 by rw [← eky3, ← eky1, z.1, z.2]) (by omega)))
            have hs32 : sp8 (Int32.ofNat b3) (Int32.ofNat d3) (Int32.ofNat b2) (Int32.ofNat d2) = 1 := (own_sm1 (own_inj (a := a) hd3 hd2 (by rw [eky3, eky2]; omega)).1 (own_inj (a := a) hd3 hd2 (by rw [eky3, eky2]; omega)).2)
            exact Jt T37 _ tf1 (0 : Int32) (1 : Int32) (0 : Int32) (0 : Int32) (Int32.ofNat a) (1 : Int32) (2 : Int32) (10 : Int64) (n0 + 7) (n0 + 8) (n0 + 9) _ c18 N17 X37 P37 F18 rfl (by rw [hs10]; decide) (by rw [hs10, hs20, hs21]; decide) (by rw [hs10, hs20, hs21, hs30, hs31, hs32]; decide) (by rw [hs10, hs20, hs21, hs30, hs31, hs32]; decide) (by rw [hs10, hs20, hs21, hs30, hs31, hs32]; decide)
          · by_cases hy31 : ky3 = ky1
            · refine own_callV (W := 0) X36 hx hZ rfl hown hml.symm (wd42 hw) (wd43 hw) (wd45 hw) (wd44 hw) (wd10 hw) (wd46 hw) (rm_htB1 l Z a0 hw [] n0 tk1 tk2 tk3 tk4 tk5 tk6 kA2 kA3 kA4 c17 (((List.replicate M 0).set ky0 (0 : Int32)).set ky1 (1 : Int32)) (((List.replicate M 0).set ky0 (1 : Int32)).set ky1 (1 : Int32)) M tC tS tz0 tz1 b3 a d3 ky3 (5 : Int64) (2 : Int32) (1 : Int32) (0 : Int32) (0 : Int32) (2 : Int32) _ P36 thk1 thk2 thk3 thk4 thk5 thk6 hkA2 hkA3 hkA4 (own_sl (own_sl (List.length_replicate (n := M) (a := (0 : Int32))))) (own_sl (own_sl (List.length_replicate (n := M) (a := (0 : Int32))))) F17 eky3 (by omega) (by omega) (by rw [own_gs, if_pos ⟨by omega, own_llt (own_sl (List.length_replicate (n := M) (a := (0 : Int32)))) (by omega)⟩]) (by rw [own_gs, if_pos ⟨by omega, own_llt (own_sl (List.length_replicate (n := M) (a := (0 : Int32)))) (by omega)⟩])) (a := (n0 + 0)) (P36.exa (i := 0) rfl F17.1) (by decide) (by decide) (by decide) (by decide) (by decide) (argsL := [.int (Int32.ofNat b3), .int (Int32.ofNat d3)]) (rest := []) pd7 rfl rfl rfl (Nat.le_of_eq rfl) (hb hby at_280) (pc' := 283) rfl ?_
              intro v38 T38 L18 X38 hq
              obtain ⟨rfl, N18, c19, F19, P38⟩ := hq
              replace N18 := Fr.app N16 N18
              replace P38 : HP n0 T38.heap [c19, AC tk1 [], AC tk2 [], AC tk3 [], AC tk4 (List.map Value.int tC), AC tk5 (List.map Value.int tS), AC tk6 [.int tz0, .int tz1], AC kA2 (List.map Value.int (((List.replicate M 0).set ky0 (0 : Int32)).set ky1 (1 : Int32))), AC kA3 (List.map Value.int (((List.replicate M 0).set ky0 (1 : Int32)).set ky1 (1 : Int32))), AC kA4 [.int (2 : Int32), .int ((1 : Int32) + (1 : Int32)), .int (0 : Int32), .int (0 : Int32)]] := P38
              rw [show ((5 : Int64) + (((2 : Int64) * (Int32.toInt64 (1 : Int32))) + (1 : Int64))) = (8 : Int64) from by decide] at F19
              rw [show ((1 : Int32) + (1 : Int32)) = (2 : Int32) from by decide] at P38
              replace P38 : HP n0 T38.heap [c19, AC tk1 [], AC tk2 [], AC tk3 [], AC tk4 (List.map Value.int tC), AC tk5 (List.map Value.int tS), AC tk6 [.int tz0, .int tz1], AC kA2 (List.map Value.int (((List.replicate M 0).set ky0 (0 : Int32)).set ky1 (1 : Int32))), AC kA3 (List.map Value.int (((List.replicate M 0).set ky0 (1 : Int32)).set ky1 (1 : Int32))), AC kA4 [.int (2 : Int32), .int (2 : Int32), .int (0 : Int32), .int (0 : Int32)]] := P38
              replace F19 : ObjF Z c19 "com/example/protomata/protomata/Partition" fl_C0 [.ref (n0 + 7), .ref (n0 + 8), .ref (n0 + 9), .int (Int32.ofNat a), .int (1 : Int32), .int (2 : Int32), .long (8 : Int64)] := F19
              refine w_istore (l' := #[.val (.int x0), .val (.int x1), .val (.int x2), .val (.int x3), .val (.int x4), .val (.int x5), .val (.int (Int32.ofNat g)), .val (.int (Int32.ofNat a)), .val (.int (Int32.ofNat g1)), .val (.int (Int32.ofNat a1)), .val (.int (Int32.ofNat fb0)), .val (.int (Int32.ofNat fd0)), .val (.int (Int32.ofNat fb1)), .val (.int (Int32.ofNat fd1)), .val (.int (Int32.ofNat b0)), .val (.int (Int32.ofNat d0)), .val (.int (Int32.ofNat b1)), .val (.int (Int32.ofNat d1)), .val (.int (Int32.ofNat b2)), .val (.int (Int32.ofNat d2)), .val (.int (Int32.ofNat b3)), .val (.int (Int32.ofNat d3)), .val (.ref (n0 + 0)), .val (.int (0 : Int32)), .val (.int tf1), .val (.int (1 : Int32)), .val (.int (0 : Int32)), .val (.int (1 : Int32)), .val (.int (0 : Int32)), .val (.int (1 : Int32)), .unset, .unset, .unset, .unset, .unset, .unset, .unset, .unset, .unset, .unset, .unset, .unset, .unset, .unset, .unset, .unset, .unset]) X38 hx (hb hby at_283) rfl (pc' := 285) rfl ?_
              have hs10 : sp8 (Int32.ofNat b1) (Int32.ofNat d1) (Int32.ofNat b0) (Int32.ofNat d0) = 0 := (own_sm0 (by omega) (by omega) (by omega) (by omega) (fun z => absurd (show ky1 = ky0 by rw [← eky1, ← eky0, z.1, z.2]) (by omega)))
              have hs20 : sp8 (Int32.ofNat b2) (Int32.ofNat d2) (Int32.ofNat b0) (Int32.ofNat d0) = 1 := (own_sm1 (own_inj (a := a) hd2 hd0 (by rw [eky2, eky0]; omega)).1 (own_inj (a := a) hd2 hd0 (by rw [eky2, eky0]; omega)).2)
              have hs21 : sp8 (Int32.ofNat b2) (Int32.ofNat d2) (Int32.ofNat b1) (Int32.ofNat d1) = 0 := (own_sm0 (by omega) (by omega) (by omega) (by omega) (fun z => absurd (show ky2 = ky1 by rw [← eky2, ← eky1, z.1, z.2]) (by omega)))
              have hs30 : sp8 (Int32.ofNat b3) (Int32.ofNat d3) (Int32.ofNat b0) (Int32.ofNat d0) = 0 := (own_sm0 (by omega) (by omega) (by omega) (by omega) (fun z => absurd (show ky3 = ky0 by rw [← eky3, ← eky0, z.1, z.2]) (by omega)))
              have hs31 : sp8 (Int32.ofNat b3) (Int32.ofNat d3) (Int32.ofNat b1) (Int32.ofNat d1) = 1 := (own_sm1 (own_inj (a := a) hd3 hd1 (by rw [eky3, eky1]; omega)).1 (own_inj (a := a) hd3 hd1 (by rw [eky3, eky1]; omega)).2)
              have hs32 : sp8 (Int32.ofNat b3) (Int32.ofNat d3) (Int32.ofNat b2) (Int32.ofNat d2) = 0 := (own_sm0 (by omega) (by omega) (by omega) (by omega) (fun z => absurd (show ky3 = ky2 by rw [← eky3, ← eky2, z.1, z.2]) (by omega)))
              exact Jt T38 _ tf1 (0 : Int32) (1 : Int32) (0 : Int32) (1 : Int32) (Int32.ofNat a) (1 : Int32) (2 : Int32) (8 : Int64) (n0 + 7) (n0 + 8) (n0 + 9) _ c19 N18 X38 P38 F19 rfl (by rw [hs10]; decide) (by rw [hs10, hs20, hs21]; decide) (by rw [hs10, hs20, hs21, hs30, hs31, hs32]; decide) (by rw [hs10, hs20, hs21, hs30, hs31, hs32]; decide) (by rw [hs10, hs20, hs21, hs30, hs31, hs32]; decide)
            · refine own_callV (W := 0) X36 hx hZ rfl hown hml.symm (wd42 hw) (wd43 hw) (wd45 hw) (wd44 hw) (wd10 hw) (wd46 hw) (rm_msB2 l Z a0 hw [] n0 tk1 tk2 tk3 tk4 tk5 tk6 kA2 kA3 kA4 c17 (((List.replicate M 0).set ky0 (0 : Int32)).set ky1 (1 : Int32)) (((List.replicate M 0).set ky0 (1 : Int32)).set ky1 (1 : Int32)) M tC tS tz0 tz1 b3 a d3 ky3 (5 : Int64) (2 : Int32) (1 : Int32) (0 : Int32) (0 : Int32) _ P36 thk1 thk2 thk3 thk4 thk5 thk6 hkA2 hkA3 hkA4 (own_sl (own_sl (List.length_replicate (n := M) (a := (0 : Int32))))) (own_sl (own_sl (List.length_replicate (n := M) (a := (0 : Int32))))) F17 eky3 (by omega) (by omega) (by rw [own_gs, if_neg (by omega), own_gs, if_neg (by omega)]; exact hfr ky3)) (a := (n0 + 0)) (P36.exa (i := 0) rfl F17.1) (by decide) (by decide) (by decide) (by decide) (by decide) (argsL := [.int (Int32.ofNat b3), .int (Int32.ofNat d3)]) (rest := []) pd7 rfl rfl rfl (Nat.le_of_eq rfl) (hb hby at_280) (pc' := 283) rfl ?_
              intro v39 T39 L19 X39 hq
              obtain ⟨rfl, N19, c20, F20, P39⟩ := hq
              replace N19 := Fr.app N16 N19
              replace P39 : HP n0 T39.heap [c20, AC tk1 [], AC tk2 [], AC tk3 [], AC tk4 (List.map Value.int tC), AC tk5 (List.map Value.int tS), AC tk6 [.int tz0, .int tz1], AC kA2 (List.map Value.int ((((List.replicate M 0).set ky0 (0 : Int32)).set ky1 (1 : Int32)).set ky3 (2 : Int32))), AC kA3 (List.map Value.int ((((List.replicate M 0).set ky0 (1 : Int32)).set ky1 (1 : Int32)).set ky3 (1 : Int32))), AC kA4 [.int (2 : Int32), .int (1 : Int32), .int (1 : Int32), .int (0 : Int32)]] := P39
              rw [show ((5 : Int64) + (1 : Int64)) = (6 : Int64) from by decide] at F20
              replace P39 : HP n0 T39.heap [c20, AC tk1 [], AC tk2 [], AC tk3 [], AC tk4 (List.map Value.int tC), AC tk5 (List.map Value.int tS), AC tk6 [.int tz0, .int tz1], AC kA2 (List.map Value.int ((((List.replicate M 0).set ky0 (0 : Int32)).set ky1 (1 : Int32)).set ky3 (2 : Int32))), AC kA3 (List.map Value.int ((((List.replicate M 0).set ky0 (1 : Int32)).set ky1 (1 : Int32)).set ky3 (1 : Int32))), AC kA4 [.int (2 : Int32), .int (1 : Int32), .int (1 : Int32), .int (0 : Int32)]] := P39
              replace F20 : ObjF Z c20 "com/example/protomata/protomata/Partition" fl_C0 [.ref (n0 + 7), .ref (n0 + 8), .ref (n0 + 9), .int (Int32.ofNat a), .int (1 : Int32), .int (3 : Int32), .long (6 : Int64)] := F20
              refine w_istore (l' := #[.val (.int x0), .val (.int x1), .val (.int x2), .val (.int x3), .val (.int x4), .val (.int x5), .val (.int (Int32.ofNat g)), .val (.int (Int32.ofNat a)), .val (.int (Int32.ofNat g1)), .val (.int (Int32.ofNat a1)), .val (.int (Int32.ofNat fb0)), .val (.int (Int32.ofNat fd0)), .val (.int (Int32.ofNat fb1)), .val (.int (Int32.ofNat fd1)), .val (.int (Int32.ofNat b0)), .val (.int (Int32.ofNat d0)), .val (.int (Int32.ofNat b1)), .val (.int (Int32.ofNat d1)), .val (.int (Int32.ofNat b2)), .val (.int (Int32.ofNat d2)), .val (.int (Int32.ofNat b3)), .val (.int (Int32.ofNat d3)), .val (.ref (n0 + 0)), .val (.int (0 : Int32)), .val (.int tf1), .val (.int (1 : Int32)), .val (.int (0 : Int32)), .val (.int (1 : Int32)), .val (.int (0 : Int32)), .val (.int (2 : Int32)), .unset, .unset, .unset, .unset, .unset, .unset, .unset, .unset, .unset, .unset, .unset, .unset, .unset, .unset, .unset, .unset, .unset]) X39 hx (hb hby at_283) rfl (pc' := 285) rfl ?_
              have hs10 : sp8 (Int32.ofNat b1) (Int32.ofNat d1) (Int32.ofNat b0) (Int32.ofNat d0) = 0 := (own_sm0 (by omega) (by omega) (by omega) (by omega) (fun z => absurd (show ky1 = ky0 by rw [← eky1, ← eky0, z.1, z.2]) (by omega)))
              have hs20 : sp8 (Int32.ofNat b2) (Int32.ofNat d2) (Int32.ofNat b0) (Int32.ofNat d0) = 1 := (own_sm1 (own_inj (a := a) hd2 hd0 (by rw [eky2, eky0]; omega)).1 (own_inj (a := a) hd2 hd0 (by rw [eky2, eky0]; omega)).2)
              have hs21 : sp8 (Int32.ofNat b2) (Int32.ofNat d2) (Int32.ofNat b1) (Int32.ofNat d1) = 0 := (own_sm0 (by omega) (by omega) (by omega) (by omega) (fun z => absurd (show ky2 = ky1 by rw [← eky2, ← eky1, z.1, z.2]) (by omega)))
              have hs30 : sp8 (Int32.ofNat b3) (Int32.ofNat d3) (Int32.ofNat b0) (Int32.ofNat d0) = 0 := (own_sm0 (by omega) (by omega) (by omega) (by omega) (fun z => absurd (show ky3 = ky0 by rw [← eky3, ← eky0, z.1, z.2]) (by omega)))
              have hs31 : sp8 (Int32.ofNat b3) (Int32.ofNat d3) (Int32.ofNat b1) (Int32.ofNat d1) = 0 := (own_sm0 (by omega) (by omega) (by omega) (by omega) (fun z => absurd (show ky3 = ky1 by rw [← eky3, ← eky1, z.1, z.2]) (by omega)))
              have hs32 : sp8 (Int32.ofNat b3) (Int32.ofNat d3) (Int32.ofNat b2) (Int32.ofNat d2) = 0 := (own_sm0 (by omega) (by omega) (by omega) (by omega) (fun z => absurd (show ky3 = ky2 by rw [← eky3, ← eky2, z.1, z.2]) (by omega)))
              exact Jt T39 _ tf1 (0 : Int32) (1 : Int32) (0 : Int32) (2 : Int32) (Int32.ofNat a) (1 : Int32) (3 : Int32) (6 : Int64) (n0 + 7) (n0 + 8) (n0 + 9) _ c20 N19 X39 P39 F20 rfl (by rw [hs10]; decide) (by rw [hs10, hs20, hs21]; decide) (by rw [hs10, hs20, hs21, hs30, hs31, hs32]; decide) (by rw [hs10, hs20, hs21, hs30, hs31, hs32]; decide) (by rw [hs10, hs20, hs21, hs30, hs31, hs32]; decide)
        · by_cases hy21 : ky2 = ky1
          · refine own_callV (W := 0) X35 hx hZ rfl hown hml.symm (wd42 hw) (wd43 hw) (wd45 hw) (wd44 hw) (wd10 hw) (wd46 hw) (rm_htB1 l Z a0 hw [] n0 tk1 tk2 tk3 tk4 tk5 tk6 kA2 kA3 kA4 c16 (((List.replicate M 0).set ky0 (0 : Int32)).set ky1 (1 : Int32)) (((List.replicate M 0).set ky0 (1 : Int32)).set ky1 (1 : Int32)) M tC tS tz0 tz1 b2 a d2 ky2 (2 : Int64) (1 : Int32) (1 : Int32) (0 : Int32) (0 : Int32) (2 : Int32) _ P35 thk1 thk2 thk3 thk4 thk5 thk6 hkA2 hkA3 hkA4 (own_sl (own_sl (List.length_replicate (n := M) (a := (0 : Int32))))) (own_sl (own_sl (List.length_replicate (n := M) (a := (0 : Int32))))) F16 eky2 (by omega) (by omega) (by rw [own_gs, if_pos ⟨by omega, own_llt (own_sl (List.length_replicate (n := M) (a := (0 : Int32)))) (by omega)⟩]) (by rw [own_gs, if_pos ⟨by omega, own_llt (own_sl (List.length_replicate (n := M) (a := (0 : Int32)))) (by omega)⟩])) (a := (n0 + 0)) (P35.exa (i := 0) rfl F16.1) (by decide) (by decide) (by decide) (by decide) (by decide) (argsL := [.int (Int32.ofNat b2), .int (Int32.ofNat d2)]) (rest := []) pd7 rfl rfl rfl (Nat.le_of_eq rfl) (hb hby at_269) (pc' := 272) rfl ?_
            intro v40 T40 L20 X40 hq
            obtain ⟨rfl, N20, c21, F21, P40⟩ := hq
            replace N20 := Fr.app N15 N20
            replace P40 : HP n0 T40.heap [c21, AC tk1 [], AC tk2 [], AC tk3 [], AC tk4 (List.map Value.int tC), AC tk5 (List.map Value.int tS), AC tk6 [.int tz0, .int tz1], AC kA2 (List.map Value.int (((List.replicate M 0).set ky0 (0 : Int32)).set ky1 (1 : Int32))), AC kA3 (List.map Value.int (((List.replicate M 0).set ky0 (1 : Int32)).set ky1 (1 : Int32))), AC kA4 [.int (1 : Int32), .int ((1 : Int32) + (1 : Int32)), .int (0 : Int32), .int (0 : Int32)]] := P40
            rw [show ((2 : Int64) + (((2 : Int64) * (Int32.toInt64 (1 : Int32))) + (1 : Int64))) = (5 : Int64) from by decide] at F21
            rw [show ((1 : Int32) + (1 : Int32)) = (2 : Int32) from by decide] at P40
            replace P40 : HP n0 T40.heap [c21, AC tk1 [], AC tk2 [], AC tk3 [], AC tk4 (List.map Value.int tC), AC tk5 (List.map Value.int tS), AC tk6 [.int tz0, .int tz1], AC kA2 (List.map Value.int (((List.replicate M 0).set ky0 (0 : Int32)).set ky1 (1 : Int32))), AC kA3 (List.map Value.int (((List.replicate M 0).set ky0 (1 : Int32)).set ky1 (1 : Int32))), AC kA4 [.int (1 : Int32), .int (2 : Int32), .int (0 : Int32), .int (0 : Int32)]] := P40
            replace F21 : ObjF Z c21 "com/example/protomata/protomata/Partition" fl_C0 [.ref (n0 + 7), .ref (n0 + 8), .ref (n0 + 9), .int (Int32.ofNat a), .int (1 : Int32), .int (2 : Int32), .long (5 : Int64)] := F21
            refine w_istore (l' := #[.val (.int x0), .val (.int x1), .val (.int x2), .val (.int x3), .val (.int x4), .val (.int x5), .val (.int (Int32.ofNat g)), .val (.int (Int32.ofNat a)), .val (.int (Int32.ofNat g1)), .val (.int (Int32.ofNat a1)), .val (.int (Int32.ofNat fb0)), .val (.int (Int32.ofNat fd0)), .val (.int (Int32.ofNat fb1)), .val (.int (Int32.ofNat fd1)), .val (.int (Int32.ofNat b0)), .val (.int (Int32.ofNat d0)), .val (.int (Int32.ofNat b1)), .val (.int (Int32.ofNat d1)), .val (.int (Int32.ofNat b2)), .val (.int (Int32.ofNat d2)), .val (.int (Int32.ofNat b3)), .val (.int (Int32.ofNat d3)), .val (.ref (n0 + 0)), .val (.int (0 : Int32)), .val (.int tf1), .val (.int (1 : Int32)), .val (.int (0 : Int32)), .val (.int (1 : Int32)), .val (.int (1 : Int32)), .unset, .unset, .unset, .unset, .unset, .unset, .unset, .unset, .unset, .unset, .unset, .unset, .unset, .unset, .unset, .unset, .unset, .unset]) X40 hx (hb hby at_272) rfl (pc' := 274) rfl ?_
            refine w_aload X40 hx (hb hby at_274) rfl rfl (pc' := 276) rfl ?_
            refine w_iload X40 hx (hb hby at_276) rfl (pc' := 278) rfl ?_
            refine w_iload X40 hx (hb hby at_278) rfl (pc' := 280) rfl ?_
            by_cases hy30 : ky3 = ky0
            · refine own_callV (W := 0) X40 hx hZ rfl hown hml.symm (wd42 hw) (wd43 hw) (wd45 hw) (wd44 hw) (wd10 hw) (wd46 hw) (rm_htB0 l Z a0 hw [] n0 tk1 tk2 tk3 tk4 tk5 tk6 kA2 kA3 kA4 c21 (((List.replicate M 0).set ky0 (0 : Int32)).set ky1 (1 : Int32)) (((List.replicate M 0).set ky0 (1 : Int32)).set ky1 (1 : Int32)) M tC tS tz0 tz1 b3 a d3 ky3 (5 : Int64) (1 : Int32) (2 : Int32) (0 : Int32) (0 : Int32) (2 : Int32) _ P40 thk1 thk2 thk3 thk4 thk5 thk6 hkA2 hkA3 hkA4 (own_sl (own_sl (List.length_replicate (n := M) (a := (0 : Int32))))) (own_sl (own_sl (List.length_replicate (n := M) (a := (0 : Int32))))) F21 eky3 (by omega) (by omega) (by rw [own_gs, if_neg (by omega), own_gs, if_pos ⟨by omega, own_llt (List.length_replicate (n := M) (a := (0 : Int32))) (by omega)⟩]) (by rw [own_gs, if_neg (by omega), own_gs, if_pos ⟨by omega, own_llt (List.length_replicate (n := M) (a := (0 : Int32))) (by omega)⟩])) (a := (n0 + 0)) (P40.exa (i := 0) rfl F21.1) (by decide) (by decide) (by decide) (by decide) (by decide) (argsL := [.int (Int32.ofNat b3), .int (Int32.ofNat d3)]) (rest := []) pd7 rfl rfl rfl (Nat.le_of_eq rfl) (hb hby at_280) (pc' := 283) rfl ?_
              intro v41 T41 L21 X41 hq
              obtain ⟨rfl, N21, c22, F22, P41⟩ := hq
              replace N21 := Fr.app N20 N21
              replace P41 : HP n0 T41.heap [c22, AC tk1 [], AC tk2 [], AC tk3 [], AC tk4 (List.map Value.int tC), AC tk5 (List.map Value.int tS), AC tk6 [.int tz0, .int tz1], AC kA2 (List.map Value.int (((List.replicate M 0).set ky0 (0 : Int32)).set ky1 (1 : Int32))), AC kA3 (List.map Value.int (((List.replicate M 0).set ky0 (1 : Int32)).set ky1 (1 : Int32))), AC kA4 [.int ((1 : Int32) + (1 : Int32)), .int (2 : Int32), .int (0 : Int32), .int (0 : Int32)]] := P41
              rw [show ((5 : Int64) + (((2 : Int64) * (Int32.toInt64 (1 : Int32))) + (1 : Int64))) = (8 : Int64) from by decide] at F22
              rw [show ((1 : Int32) + (1 : Int32)) = (2 : Int32) from by decide] at P41
              replace P41 : HP n0 T41.heap [c22, AC tk1 [], AC tk2 [], AC tk3 [], AC tk4 (List.map Value.int tC), AC tk5 (List.map Value.int tS), AC tk6 [.int tz0, .int tz1], AC kA2 (List.map Value.int (((List.replicate M 0).set ky0 (0 : Int32)).set ky1 (1 : Int32))), AC kA3 (List.map Value.int (((List.replicate M 0).set ky0 (1 : Int32)).set ky1 (1 : Int32))), AC kA4 [.int (2 : Int32), .int (2 : Int32), .int (0 : Int32), .int (0 : Int32)]] := P41
              replace F22 : ObjF Z c22 "com/example/protomata/protomata/Partition" fl_C0 [.ref (n0 + 7), .ref (n0 + 8), .ref (n0 + 9), .int (Int32.ofNat a), .int (1 : Int32), .int (2 : Int32), .long (8 : Int64)] := F22
              refine w_istore (l' := #[.val (.int x0), .val (.int x1), .val (.int x2), .val (.int x3), .val (.int x4), .val (.int x5), .val (.int (Int32.ofNat g)), .val (.int (Int32.ofNat a)), .val (.int (Int32.ofNat g1)), .val (.int (Int32.ofNat a1)), .val (.int (Int32.ofNat fb0)), .val (.int (Int32.ofNat fd0)), .val (.int (Int32.ofNat fb1)), .val (.int (Int32.ofNat fd1)), .val (.int (Int32.ofNat b0)), .val (.int (Int32.ofNat d0)), .val (.int (Int32.ofNat b1)), .val (.int (Int32.ofNat d1)), .val (.int (Int32.ofNat b2)), .val (.int (Int32.ofNat d2)), .val (.int (Int32.ofNat b3)), .val (.int (Int32.ofNat d3)), .val (.ref (n0 + 0)), .val (.int (0 : Int32)), .val (.int tf1), .val (.int (1 : Int32)), .val (.int (0 : Int32)), .val (.int (1 : Int32)), .val (.int (1 : Int32)), .val (.int (0 : Int32)), .unset, .unset, .unset, .unset, .unset, .unset, .unset, .unset, .unset, .unset, .unset, .unset, .unset, .unset, .unset, .unset, .unset]) X41 hx (hb hby at_283) rfl (pc' := 285) rfl ?_
              have hs10 : sp8 (Int32.ofNat b1) (Int32.ofNat d1) (Int32.ofNat b0) (Int32.ofNat d0) = 0 := (own_sm0 (by omega) (by omega) (by omega) (by omega) (fun z => absurd (show ky1 = ky0 by rw [← eky1, ← eky0, z.1, z.2]) (by omega)))
              have hs20 : sp8 (Int32.ofNat b2) (Int32.ofNat d2) (Int32.ofNat b0) (Int32.ofNat d0) = 0 := (own_sm0 (by omega) (by omega) (by omega) (by omega) (fun z => absurd (show ky2 = ky0 by rw [← eky2, ← eky0, z.1, z.2]) (by omega)))
              have hs21 : sp8 (Int32.ofNat b2) (Int32.ofNat d2) (Int32.ofNat b1) (Int32.ofNat d1) = 1 := (own_sm1 (own_inj (a := a) hd2 hd1 (by rw [eky2, eky1]; omega)).1 (own_inj (a := a) hd2 hd1 (by rw [eky2, eky1]; omega)).2)
              have hs30 : sp8 (Int32.ofNat b3) (Int32.ofNat d3) (Int32.ofNat b0) (Int32.ofNat d0) = 1 := (own_sm1 (own_inj (a := a) hd3 hd0 (by rw [eky3, eky0]; omega)).1 (own_inj (a := a) hd3 hd0 (by rw [eky3, eky0]; omega)).2)
              have hs31 : sp8 (Int32.ofNat b3) (Int32.ofNat d3) (Int32.ofNat b1) (Int32.ofNat d1) = 0 := (own_sm0 (by omega) (by omega) (by omega) (by omega) (fun z => absurd (show ky3 = ky1 by rw [← eky3, ← eky1, z.1, z.2]) (by omega)))
              have hs32 : sp8 (Int32.ofNat b3) (Int32.ofNat d3) (Int32.ofNat b2) (Int32.ofNat d2) = 0 := (own_sm0 (by omega) (by omega) (by omega) (by omega) (fun z => absurd (show ky3 = ky2 by rw [← eky3, ← eky2, z.1, z.2]) (by omega)))
              exact Jt T41 _ tf1 (0 : Int32) (1 : Int32) (1 : Int32) (0 : Int32) (Int32.ofNat a) (1 : Int32) (2 : Int32) (8 : Int64) (n0 + 7) (n0 + 8) (n0 + 9) _ c22 N21 X41 P41 F22 rfl (by rw [hs10]; decide) (by rw [hs10, hs20, hs21]; decide) (by rw [hs10, hs20, hs21, hs30, hs31, hs32]; decide) (by rw [hs10, hs20, hs21, hs30, hs31, hs32]; decide) (by rw [hs10, hs20, hs21, hs30, hs31, hs32]; decide)
            · by_cases hy31 : ky3 = ky1
              · refine own_callV (W := 0) X40 hx hZ rfl hown hml.symm (wd42 hw) (wd43 hw) (wd45 hw) (wd44 hw) (wd10 hw) (wd46 hw) (rm_htB1 l Z a0 hw [] n0 tk1 tk2 tk3 tk4 tk5 tk6 kA2 kA3 kA4 c21 (((List.replicate M 0).set ky0 (0 : Int32)).set ky1 (1 : Int32)) (((List.replicate M 0).set ky0 (1 : Int32)).set ky1 (1 : Int32)) M tC tS tz0 tz1 b3 a d3 ky3 (5 : Int64) (1 : Int32) (2 : Int32) (0 : Int32) (0 : Int32) (2 : Int32) _ P40 thk1 thk2 thk3 thk4 thk5 thk6 hkA2 hkA3 hkA4 (own_sl (own_sl (List.length_replicate (n := M) (a := (0 : Int32))))) (own_sl (own_sl (List.length_replicate (n := M) (a := (0 : Int32))))) F21 eky3 (by omega) (by omega) (by rw [own_gs, if_pos ⟨by omega, own_llt (own_sl (List.length_replicate (n := M) (a := (0 : Int32)))) (by omega)⟩]) (by rw [own_gs, if_pos ⟨by omega, own_llt (own_sl (List.length_replicate (n := M) (a := (0 : Int32)))) (by omega)⟩])) (a := (n0 + 0)) (P40.exa (i := 0) rfl F21.1) (by decide) (by decide) (by decide) (by decide) (by decide) (argsL := [.int (Int32.ofNat b3), .int (Int32.ofNat d3)]) (rest := []) pd7 rfl rfl rfl (Nat.le_of_eq rfl) (hb hby at_280) (pc' := 283) rfl ?_
                intro v42 T42 L22 X42 hq
                obtain ⟨rfl, N22, c23, F23, P42⟩ := hq
                replace N22 := Fr.app N20 N22
                replace P42 : HP n0 T42.heap [c23, AC tk1 [], AC tk2 [], AC tk3 [], AC tk4 (List.map Value.int tC), AC tk5 (List.map Value.int tS), AC tk6 [.int tz0, .int tz1], AC kA2 (List.map Value.int (((List.replicate M 0).set ky0 (0 : Int32)).set ky1 (1 : Int32))), AC kA3 (List.map Value.int (((List.replicate M 0).set ky0 (1 : Int32)).set ky1 (1 : Int32))), AC kA4 [.int (1 : Int32), .int ((2 : Int32) + (1 : Int32)), .int (0 : Int32), .int (0 : Int32)]] := P42
                rw [show ((5 : Int64) + (((2 : Int64) * (Int32.toInt64 (2 : Int32))) + (1 : Int64))) = (10 : Int64) from by decide] at F23
                rw [show ((2 : Int32) + (1 : Int32)) = (3 : Int32) from by decide] at P42
                replace P42 : HP n0 T42.heap [c23, AC tk1 [], AC tk2 [], AC tk3 [], AC tk4 (List.map Value.int tC), AC tk5 (List.map Value.int tS), AC tk6 [.int tz0, .int tz1], AC kA2 (List.map Value.int (((List.replicate M 0).set ky0 (0 : Int32)).set ky1 (1 : Int32))), AC kA3 (List.map Value.int (((List.replicate M 0).set ky0 (1 : Int32)).set ky1 (1 : Int32))), AC kA4 [.int (1 : Int32), .int (3 : Int32), .int (0 : Int32), .int (0 : Int32)]] := P42
                replace F23 : ObjF Z c23 "com/example/protomata/protomata/Partition" fl_C0 [.ref (n0 + 7), .ref (n0 + 8), .ref (n0 + 9), .int (Int32.ofNat a), .int (1 : Int32), .int (2 : Int32), .long (10 : Int64)] := F23
                refine w_istore (l' := #[.val (.int x0), .val (.int x1), .val (.int x2), .val (.int x3), .val (.int x4), .val (.int x5), .val (.int (Int32.ofNat g)), .val (.int (Int32.ofNat a)), .val (.int (Int32.ofNat g1)), .val (.int (Int32.ofNat a1)), .val (.int (Int32.ofNat fb0)), .val (.int (Int32.ofNat fd0)), .val (.int (Int32.ofNat fb1)), .val (.int (Int32.ofNat fd1)), .val (.int (Int32.ofNat b0)), .val (.int (Int32.ofNat d0)), .val (.int (Int32.ofNat b1)), .val (.int (Int32.ofNat d1)), .val (.int (Int32.ofNat b2)), .val (.int (Int32.ofNat d2)), .val (.int (Int32.ofNat b3)), .val (.int (Int32.ofNat d3)), .val (.ref (n0 + 0)), .val (.int (0 : Int32)), .val (.int tf1), .val (.int (1 : Int32)), .val (.int (0 : Int32)), .val (.int (1 : Int32)), .val (.int (1 : Int32)), .val (.int (1 : Int32)), .unset, .unset, .unset, .unset, .unset, .unset, .unset, .unset, .unset, .unset, .unset, .unset, .unset, .unset, .unset, .unset, .unset]) X42 hx (hb hby at_283) rfl (pc' := 285) rfl ?_
                have hs10 : sp8 (Int32.ofNat b1) (Int32.ofNat d1) (Int32.ofNat b0) (Int32.ofNat d0) = 0 := (own_sm0 (by omega) (by omega) (by omega) (by omega) (fun z => absurd (show ky1 = ky0 by rw [← eky1, ← eky0, z.1, z.2]) (by omega)))
                have hs20 : sp8 (Int32.ofNat b2) (Int32.ofNat d2) (Int32.ofNat b0) (Int32.ofNat d0) = 0 := (own_sm0 (by omega) (by omega) (by omega) (by omega) (fun z => absurd (show ky2 = ky0 by rw [← eky2, ← eky0, z.1, z.2]) (by omega)))
                have hs21 : sp8 (Int32.ofNat b2) (Int32.ofNat d2) (Int32.ofNat b1) (Int32.ofNat d1) = 1 := (own_sm1 (own_inj (a := a) hd2 hd1 (by rw [eky2, eky1]; omega)).1 (own_inj (a := a) hd2 hd1 (by rw [eky2, eky1]; omega)).2)
                have hs30 : sp8 (Int32.ofNat b3) (Int32.ofNat d3) (Int32.ofNat b0) (Int32.ofNat d0) = 0 := (own_sm0 (by omega) (by omega) (by omega) (by omega) (fun z => absurd (show ky3 = ky0 by rw [← eky3, ← eky0, z.1, z.2]) (by omega)))
                have hs31 : sp8 (Int32.ofNat b3) (Int32.ofNat d3) (Int32.ofNat b1) (Int32.ofNat d1) = 1 := (own_sm1 (own_inj (a := a) hd3 hd1 (by rw [eky3, eky1]; omega)).1 (own_inj (a := a) hd3 hd1 (by rw [eky3, eky1]; omega)).2)
                have hs32 : sp8 (Int32.ofNat b3) (Int32.ofNat d3) (Int32.ofNat b2) (Int32.ofNat d2) = 1 := (own_sm1 (own_inj (a := a) hd3 hd2 (by rw [eky3, eky2]; omega)).1 (own_inj (a := a) hd3 hd2 (by rw [eky3, eky2]; omega)).2)
                exact Jt T42 _ tf1 (0 : Int32) (1 : Int32) (1 : Int32) (1 : Int32) (Int32.ofNat a) (1 : Int32) (2 : Int32) (10 : Int64) (n0 + 7) (n0 + 8) (n0 + 9) _ c23 N22 X42 P42 F23 rfl (by rw [hs10]; decide) (by rw [hs10, hs20, hs21]; decide) (by rw [hs10, hs20, hs21, hs30, hs31, hs32]; decide) (by rw [hs10, hs20, hs21, hs30, hs31, hs32]; decide) (by rw [hs10, hs20, hs21, hs30, hs31, hs32]; decide)
              · refine own_callV (W := 0) X40 hx hZ rfl hown hml.symm (wd42 hw) (wd43 hw) (wd45 hw) (wd44 hw) (wd10 hw) (wd46 hw) (rm_msB2 l Z a0 hw [] n0 tk1 tk2 tk3 tk4 tk5 tk6 kA2 kA3 kA4 c21 (((List.replicate M 0).set ky0 (0 : Int32)).set ky1 (1 : Int32)) (((List.replicate M 0).set ky0 (1 : Int32)).set ky1 (1 : Int32)) M tC tS tz0 tz1 b3 a d3 ky3 (5 : Int64) (1 : Int32) (2 : Int32) (0 : Int32) (0 : Int32) _ P40 thk1 thk2 thk3 thk4 thk5 thk6 hkA2 hkA3 hkA4 (own_sl (own_sl (List.length_replicate (n := M) (a := (0 : Int32))))) (own_sl (own_sl (List.length_replicate (n := M) (a := (0 : Int32))))) F21 eky3 (by omega) (by omega) (by rw [own_gs, if_neg (by omega), own_gs, if_neg (by omega)]; exact hfr ky3)) (a := (n0 + 0)) (P40.exa (i := 0) rfl F21.1) (by decide) (by decide) (by decide) (by decide) (by decide) (argsL := [.int (Int32.ofNat b3), .int (Int32.ofNat d3)]) (rest := []) pd7 rfl rfl rfl (Nat.le_of_eq rfl) (hb hby at_280) (pc' := 283) rfl ?_
                intro v43 T43 L23 X43 hq
                obtain ⟨rfl, N23, c24, F24, P43⟩ := hq
                replace N23 := Fr.app N20 N23
                replace P43 : HP n0 T43.heap [c24, AC tk1 [], AC tk2 [], AC tk3 [], AC tk4 (List.map Value.int tC), AC tk5 (List.map Value.int tS), AC tk6 [.int tz0, .int tz1], AC kA2 (List.map Value.int ((((List.replicate M 0).set ky0 (0 : Int32)).set ky1 (1 : Int32)).set ky3 (2 : Int32))), AC kA3 (List.map Value.int ((((List.replicate M 0).set ky0 (1 : Int32)).set ky1 (1 : Int32)).set ky3 (1 : Int32))), AC kA4 [.int (1 : Int32), .int (2 : Int32), .int (1 : Int32), .int (0 : Int32)]] := P43
                rw [show ((5 : Int64) + (1 : Int64)) = (6 : Int64) from by decide] at F24
                replace P43 : HP n0 T43.heap [c24, AC tk1 [], AC tk2 [], AC tk3 [], AC tk4 (List.map Value.int tC), AC tk5 (List.map Value.int tS), AC tk6 [.int tz0, .int tz1], AC kA2 (List.map Value.int ((((List.replicate M 0).set ky0 (0 : Int32)).set ky1 (1 : Int32)).set ky3 (2 : Int32))), AC kA3 (List.map Value.int ((((List.replicate M 0).set ky0 (1 : Int32)).set ky1 (1 : Int32)).set ky3 (1 : Int32))), AC kA4 [.int (1 : Int32), .int (2 : Int32), .int (1 : Int32), .int (0 : Int32)]] := P43
                replace F24 : ObjF Z c24 "com/example/protomata/protomata/Partition" fl_C0 [.ref (n0 + 7), .ref (n0 + 8), .ref (n0 + 9), .int (Int32.ofNat a), .int (1 : Int32), .int (3 : Int32), .long (6 : Int64)] := F24
                refine w_istore (l' := #[.val (.int x0), .val (.int x1), .val (.int x2), .val (.int x3), .val (.int x4), .val (.int x5), .val (.int (Int32.ofNat g)), .val (.int (Int32.ofNat a)), .val (.int (Int32.ofNat g1)), .val (.int (Int32.ofNat a1)), .val (.int (Int32.ofNat fb0)), .val (.int (Int32.ofNat fd0)), .val (.int (Int32.ofNat fb1)), .val (.int (Int32.ofNat fd1)), .val (.int (Int32.ofNat b0)), .val (.int (Int32.ofNat d0)), .val (.int (Int32.ofNat b1)), .val (.int (Int32.ofNat d1)), .val (.int (Int32.ofNat b2)), .val (.int (Int32.ofNat d2)), .val (.int (Int32.ofNat b3)), .val (.int (Int32.ofNat d3)), .val (.ref (n0 + 0)), .val (.int (0 : Int32)), .val (.int tf1), .val (.int (1 : Int32)), .val (.int (0 : Int32)), .val (.int (1 : Int32)), .val (.int (1 : Int32)), .val (.int (2 : Int32)), .unset, .unset, .unset, .unset, .unset, .unset, .unset, .unset, .unset, .unset, .unset, .unset, .unset, .unset, .unset, .unset, .unset]) X43 hx (hb hby at_283) rfl (pc' := 285) rfl ?_
                have hs10 : sp8 (Int32.ofNat b1) (Int32.ofNat d1) (Int32.ofNat b0) (Int32.ofNat d0) = 0 := (own_sm0 (by omega) (by omega) (by omega) (by omega) (fun z => absurd (show ky1 = ky0 by rw [← eky1, ← eky0, z.1, z.2]) (by omega)))
                have hs20 : sp8 (Int32.ofNat b2) (Int32.ofNat d2) (Int32.ofNat b0) (Int32.ofNat d0) = 0 := (own_sm0 (by omega) (by omega) (by omega) (by omega) (fun z => absurd (show ky2 = ky0 by rw [← eky2, ← eky0, z.1, z.2]) (by omega)))
                have hs21 : sp8 (Int32.ofNat b2) (Int32.ofNat d2) (Int32.ofNat b1) (Int32.ofNat d1) = 1 := (own_sm1 (own_inj (a := a) hd2 hd1 (by rw [eky2, eky1]; omega)).1 (own_inj (a := a) hd2 hd1 (by rw [eky2, eky1]; omega)).2)
                have hs30 : sp8 (Int32.ofNat b3) (Int32.ofNat d3) (Int32.ofNat b0) (Int32.ofNat d0) = 0 := (own_sm0 (by omega) (by omega) (by omega) (by omega) (fun z => absurd (show ky3 = ky0 by rw [← eky3, ← eky0, z.1, z.2]) (by omega)))
                have hs31 : sp8 (Int32.ofNat b3) (Int32.ofNat d3) (Int32.ofNat b1) (Int32.ofNat d1) = 0 := (own_sm0 (by omega) (by omega) (by omega) (by omega) (fun z => absurd (show ky3 = ky1 by rw [← eky3, ← eky1, z.1, z.2]) (by omega)))
                have hs32 : sp8 (Int32.ofNat b3) (Int32.ofNat d3) (Int32.ofNat b2) (Int32.ofNat d2) = 0 := (own_sm0 (by omega) (by omega) (by omega) (by omega) (fun z => absurd (show ky3 = ky2 by rw [← eky3, ← eky2, z.1, z.2]) (by omega)))
                exact Jt T43 _ tf1 (0 : Int32) (1 : Int32) (1 : Int32) (2 : Int32) (Int32.ofNat a) (1 : Int32) (3 : Int32) (6 : Int64) (n0 + 7) (n0 + 8) (n0 + 9) _ c24 N23 X43 P43 F24 rfl (by rw [hs10]; decide) (by rw [hs10, hs20, hs21]; decide) (by rw [hs10, hs20, hs21, hs30, hs31, hs32]; decide) (by rw [hs10, hs20, hs21, hs30, hs31, hs32]; decide) (by rw [hs10, hs20, hs21, hs30, hs31, hs32]; decide)
          · refine own_callV (W := 0) X35 hx hZ rfl hown hml.symm (wd42 hw) (wd43 hw) (wd45 hw) (wd44 hw) (wd10 hw) (wd46 hw) (rm_msB2 l Z a0 hw [] n0 tk1 tk2 tk3 tk4 tk5 tk6 kA2 kA3 kA4 c16 (((List.replicate M 0).set ky0 (0 : Int32)).set ky1 (1 : Int32)) (((List.replicate M 0).set ky0 (1 : Int32)).set ky1 (1 : Int32)) M tC tS tz0 tz1 b2 a d2 ky2 (2 : Int64) (1 : Int32) (1 : Int32) (0 : Int32) (0 : Int32) _ P35 thk1 thk2 thk3 thk4 thk5 thk6 hkA2 hkA3 hkA4 (own_sl (own_sl (List.length_replicate (n := M) (a := (0 : Int32))))) (own_sl (own_sl (List.length_replicate (n := M) (a := (0 : Int32))))) F16 eky2 (by omega) (by omega) (by rw [own_gs, if_neg (by omega), own_gs, if_neg (by omega)]; exact hfr ky2)) (a := (n0 + 0)) (P35.exa (i := 0) rfl F16.1) (by decide) (by decide) (by decide) (by decide) (by decide) (argsL := [.int (Int32.ofNat b2), .int (Int32.ofNat d2)]) (rest := []) pd7 rfl rfl rfl (Nat.le_of_eq rfl) (hb hby at_269) (pc' := 272) rfl ?_
            intro v44 T44 L24 X44 hq
            obtain ⟨rfl, N24, c25, F25, P44⟩ := hq
            replace N24 := Fr.app N15 N24
            replace P44 : HP n0 T44.heap [c25, AC tk1 [], AC tk2 [], AC tk3 [], AC tk4 (List.map Value.int tC), AC tk5 (List.map Value.int tS), AC tk6 [.int tz0, .int tz1], AC kA2 (List.map Value.int ((((List.replicate M 0).set ky0 (0 : Int32)).set ky1 (1 : Int32)).set ky2 (2 : Int32))), AC kA3 (List.map Value.int ((((List.replicate M 0).set ky0 (1 : Int32)).set ky1 (1 : Int32)).set ky2 (1 : Int32))), AC kA4 [.int (1 : Int32), .int (1 : Int32), .int (1 : Int32), .int (0 : Int32)]] := P44
            rw [show ((2 : Int64) + (1 : Int64)) = (3 : Int64) from by decide] at F25
            replace P44 : HP n0 T44.heap [c25, AC tk1 [], AC tk2 [], AC tk3 [], AC tk4 (List.map Value.int tC), AC tk5 (List.map Value.int tS), AC tk6 [.int tz0, .int tz1], AC kA2 (List.map Value.int ((((List.replicate M 0).set ky0 (0 : Int32)).set ky1 (1 : Int32)).set ky2 (2 : Int32))), AC kA3 (List.map Value.int ((((List.replicate M 0).set ky0 (1 : Int32)).set ky1 (1 : Int32)).set ky2 (1 : Int32))), AC kA4 [.int (1 : Int32), .int (1 : Int32), .int (1 : Int32), .int (0 : Int32)]] := P44
            replace F25 : ObjF Z c25 "com/example/protomata/protomata/Partition" fl_C0 [.ref (n0 + 7), .ref (n0 + 8), .ref (n0 + 9), .int (Int32.ofNat a), .int (1 : Int32), .int (3 : Int32), .long (3 : Int64)] := F25
            refine w_istore (l' := #[.val (.int x0), .val (.int x1), .val (.int x2), .val (.int x3), .val (.int x4), .val (.int x5), .val (.int (Int32.ofNat g)), .val (.int (Int32.ofNat a)), .val (.int (Int32.ofNat g1)), .val (.int (Int32.ofNat a1)), .val (.int (Int32.ofNat fb0)), .val (.int (Int32.ofNat fd0)), .val (.int (Int32.ofNat fb1)), .val (.int (Int32.ofNat fd1)), .val (.int (Int32.ofNat b0)), .val (.int (Int32.ofNat d0)), .val (.int (Int32.ofNat b1)), .val (.int (Int32.ofNat d1)), .val (.int (Int32.ofNat b2)), .val (.int (Int32.ofNat d2)), .val (.int (Int32.ofNat b3)), .val (.int (Int32.ofNat d3)), .val (.ref (n0 + 0)), .val (.int (0 : Int32)), .val (.int tf1), .val (.int (1 : Int32)), .val (.int (0 : Int32)), .val (.int (1 : Int32)), .val (.int (2 : Int32)), .unset, .unset, .unset, .unset, .unset, .unset, .unset, .unset, .unset, .unset, .unset, .unset, .unset, .unset, .unset, .unset, .unset, .unset]) X44 hx (hb hby at_272) rfl (pc' := 274) rfl ?_
            refine w_aload X44 hx (hb hby at_274) rfl rfl (pc' := 276) rfl ?_
            refine w_iload X44 hx (hb hby at_276) rfl (pc' := 278) rfl ?_
            refine w_iload X44 hx (hb hby at_278) rfl (pc' := 280) rfl ?_
            by_cases hy30 : ky3 = ky0
            · refine own_callV (W := 0) X44 hx hZ rfl hown hml.symm (wd42 hw) (wd43 hw) (wd45 hw) (wd44 hw) (wd10 hw) (wd46 hw) (rm_htB0 l Z a0 hw [] n0 tk1 tk2 tk3 tk4 tk5 tk6 kA2 kA3 kA4 c25 ((((List.replicate M 0).set ky0 (0 : Int32)).set ky1 (1 : Int32)).set ky2 (2 : Int32)) ((((List.replicate M 0).set ky0 (1 : Int32)).set ky1 (1 : Int32)).set ky2 (1 : Int32)) M tC tS tz0 tz1 b3 a d3 ky3 (3 : Int64) (1 : Int32) (1 : Int32) (1 : Int32) (0 : Int32) (3 : Int32) _ P44 thk1 thk2 thk3 thk4 thk5 thk6 hkA2 hkA3 hkA4 (own_sl (own_sl (own_sl (List.length_replicate (n := M) (a := (0 : Int32)))))) (own_sl (own_sl (own_sl (List.length_replicate (n := M) (a := (0 : Int32)))))) F25 eky3 (by omega) (by omega) (by rw [own_gs, if_neg (by omega), own_gs, if_neg (by omega), own_gs, if_pos ⟨by omega, own_llt (List.length_replicate (n := M) (a := (0 : Int32))) (by omega)⟩]) (by rw [own_gs, if_neg (by omega), own_gs, if_neg (by omega), own_gs, if_pos ⟨by omega, own_llt (List.length_replicate (n := M) (a := (0 : Int32))) (by omega)⟩])) (a := (n0 + 0)) (P44.exa (i := 0) rfl F25.1) (by decide) (by decide) (by decide) (by decide) (by decide) (argsL := [.int (Int32.ofNat b3), .int (Int32.ofNat d3)]) (rest := []) pd7 rfl rfl rfl (Nat.le_of_eq rfl) (hb hby at_280) (pc' := 283) rfl ?_
              intro v45 T45 L25 X45 hq
              obtain ⟨rfl, N25, c26, F26, P45⟩ := hq
              replace N25 := Fr.app N24 N25
              replace P45 : HP n0 T45.heap [c26, AC tk1 [], AC tk2 [], AC tk3 [], AC tk4 (List.map Value.int tC), AC tk5 (List.map Value.int tS), AC tk6 [.int tz0, .int tz1], AC kA2 (List.map Value.int ((((List.replicate M 0).set ky0 (0 : Int32)).set ky1 (1 : Int32)).set ky2 (2 : Int32))), AC kA3 (List.map Value.int ((((List.replicate M 0).set ky0 (1 : Int32)).set ky1 (1 : Int32)).set ky2 (1 : Int32))), AC kA4 [.int ((1 : Int32) + (1 : Int32)), .int (1 : Int32), .int (1 : Int32), .int (0 : Int32)]] := P45
              rw [show ((3 : Int64) + (((2 : Int64) * (Int32.toInt64 (1 : Int32))) + (1 : Int64))) = (6 : Int64) from by decide] at F26
              rw [show ((1 : Int32) + (1 : Int32)) = (2 : Int32) from by decide] at P45
              replace P45 : HP n0 T45.heap [c26, AC tk1 [], AC tk2 [], AC tk3 [], AC tk4 (List.map Value.int tC), AC tk5 (List.map Value.int tS), AC tk6 [.int tz0, .int tz1], AC kA2 (List.map Value.int ((((List.replicate M 0).set ky0 (0 : Int32)).set ky1 (1 : Int32)).set ky2 (2 : Int32))), AC kA3 (List.map Value.int ((((List.replicate M 0).set ky0 (1 : Int32)).set ky1 (1 : Int32)).set ky2 (1 : Int32))), AC kA4 [.int (2 : Int32), .int (1 : Int32), .int (1 : Int32), .int (0 : Int32)]] := P45
              replace F26 : ObjF Z c26 "com/example/protomata/protomata/Partition" fl_C0 [.ref (n0 + 7), .ref (n0 + 8), .ref (n0 + 9), .int (Int32.ofNat a), .int (1 : Int32), .int (3 : Int32), .long (6 : Int64)] := F26
              refine w_istore (l' := #[.val (.int x0), .val (.int x1), .val (.int x2), .val (.int x3), .val (.int x4), .val (.int x5), .val (.int (Int32.ofNat g)), .val (.int (Int32.ofNat a)), .val (.int (Int32.ofNat g1)), .val (.int (Int32.ofNat a1)), .val (.int (Int32.ofNat fb0)), .val (.int (Int32.ofNat fd0)), .val (.int (Int32.ofNat fb1)), .val (.int (Int32.ofNat fd1)), .val (.int (Int32.ofNat b0)), .val (.int (Int32.ofNat d0)), .val (.int (Int32.ofNat b1)), .val (.int (Int32.ofNat d1)), .val (.int (Int32.ofNat b2)), .val (.int (Int32.ofNat d2)), .val (.int (Int32.ofNat b3)), .val (.int (Int32.ofNat d3)), .val (.ref (n0 + 0)), .val (.int (0 : Int32)), .val (.int tf1), .val (.int (1 : Int32)), .val (.int (0 : Int32)), .val (.int (1 : Int32)), .val (.int (2 : Int32)), .val (.int (0 : Int32)), .unset, .unset, .unset, .unset, .unset, .unset, .unset, .unset, .unset, .unset, .unset, .unset, .unset, .unset, .unset, .unset, .unset]) X45 hx (hb hby at_283) rfl (pc' := 285) rfl ?_
              have hs10 : sp8 (Int32.ofNat b1) (Int32.ofNat d1) (Int32.ofNat b0) (Int32.ofNat d0) = 0 := (own_sm0 (by omega) (by omega) (by omega) (by omega) (fun z => absurd (show ky1 = ky0 by rw [← eky1, ← eky0, z.1, z.2]) (by omega)))
              have hs20 : sp8 (Int32.ofNat b2) (Int32.ofNat d2) (Int32.ofNat b0) (Int32.ofNat d0) = 0 := (own_sm0 (by omega) (by omega) (by omega) (by omega) (fun z => absurd (show ky2 = ky0 by rw [← eky2, ← eky0, z.1, z.2]) (by omega)))
              have hs21 : sp8 (Int32.ofNat b2) (Int32.ofNat d2) (Int32.ofNat b1) (Int32.ofNat d1) = 0 := (own_sm0 (by omega) (by omega) (by omega) (by omega) (fun z => absurd (show ky2 = ky1 by rw [← eky2, ← eky1, z.1, z.2]) (by omega)))
              have hs30 : sp8 (Int32.ofNat b3) (Int32.ofNat d3) (Int32.ofNat b0) (Int32.ofNat d0) = 1 := (own_sm1 (own_inj (a := a) hd3 hd0 (by rw [eky3, eky0]; omega)).1 (own_inj (a := a) hd3 hd0 (by rw [eky3, eky0]; omega)).2)
              have hs31 : sp8 (Int32.ofNat b3) (Int32.ofNat d3) (Int32.ofNat b1) (Int32.ofNat d1) = 0 := (own_sm0 (by omega) (by omega) (by omega) (by omega) (fun z => absurd (show ky3 = ky1 by rw [← eky3, ← eky1, z.1, z.2]) (by omega)))
              have hs32 : sp8 (Int32.ofNat b3) (Int32.ofNat d3) (Int32.ofNat b2) (Int32.ofNat d2) = 0 := (own_sm0 (by omega) (by omega) (by omega) (by omega) (fun z => absurd (show ky3 = ky2 by rw [← eky3, ← eky2, z.1, z.2]) (by omega)))
              exact Jt T45 _ tf1 (0 : Int32) (1 : Int32) (2 : Int32) (0 : Int32) (Int32.ofNat a) (1 : Int32) (3 : Int32) (6 : Int64) (n0 + 7) (n0 + 8) (n0 + 9) _ c26 N25 X45 P45 F26 rfl (by rw [hs10]; decide) (by rw [hs10, hs20, hs21]; decide) (by rw [hs10, hs20, hs21, hs30, hs31, hs32]; decide) (by rw [hs10, hs20, hs21, hs30, hs31, hs32]; decide) (by rw [hs10, hs20, hs21, hs30, hs31, hs32]; decide)
            · by_cases hy31 : ky3 = ky1
              · refine own_callV (W := 0) X44 hx hZ rfl hown hml.symm (wd42 hw) (wd43 hw) (wd45 hw) (wd44 hw) (wd10 hw) (wd46 hw) (rm_htB1 l Z a0 hw [] n0 tk1 tk2 tk3 tk4 tk5 tk6 kA2 kA3 kA4 c25 ((((List.replicate M 0).set ky0 (0 : Int32)).set ky1 (1 : Int32)).set ky2 (2 : Int32)) ((((List.replicate M 0).set ky0 (1 : Int32)).set ky1 (1 : Int32)).set ky2 (1 : Int32)) M tC tS tz0 tz1 b3 a d3 ky3 (3 : Int64) (1 : Int32) (1 : Int32) (1 : Int32) (0 : Int32) (3 : Int32) _ P44 thk1 thk2 thk3 thk4 thk5 thk6 hkA2 hkA3 hkA4 (own_sl (own_sl (own_sl (List.length_replicate (n := M) (a := (0 : Int32)))))) (own_sl (own_sl (own_sl (List.length_replicate (n := M) (a := (0 : Int32)))))) F25 eky3 (by omega) (by omega) (by rw [own_gs, if_neg (by omega), own_gs, if_pos ⟨by omega, own_llt (own_sl (List.length_replicate (n := M) (a := (0 : Int32)))) (by omega)⟩]) (by rw [own_gs, if_neg (by omega), own_gs, if_pos ⟨by omega, own_llt (own_sl (List.length_replicate (n := M) (a := (0 : Int32)))) (by omega)⟩])) (a := (n0 + 0)) (P44.exa (i := 0) rfl F25.1) (by decide) (by decide) (by decide) (by decide) (by decide) (argsL := [.int (Int32.ofNat b3), .int (Int32.ofNat d3)]) (rest := []) pd7 rfl rfl rfl (Nat.le_of_eq rfl) (hb hby at_280) (pc' := 283) rfl ?_
                intro v46 T46 L26 X46 hq
                obtain ⟨rfl, N26, c27, F27, P46⟩ := hq
                replace N26 := Fr.app N24 N26
                replace P46 : HP n0 T46.heap [c27, AC tk1 [], AC tk2 [], AC tk3 [], AC tk4 (List.map Value.int tC), AC tk5 (List.map Value.int tS), AC tk6 [.int tz0, .int tz1], AC kA2 (List.map Value.int ((((List.replicate M 0).set ky0 (0 : Int32)).set ky1 (1 : Int32)).set ky2 (2 : Int32))), AC kA3 (List.map Value.int ((((List.replicate M 0).set ky0 (1 : Int32)).set ky1 (1 : Int32)).set ky2 (1 : Int32))), AC kA4 [.int (1 : Int32), .int ((1 : Int32) + (1 : Int32)), .int (1 : Int32), .int (0 : Int32)]] := P46
                rw [show ((3 : Int64) + (((2 : Int64) * (Int32.toInt64 (1 : Int32))) + (1 : Int64))) = (6 : Int64) from by decide] at F27
                rw [show ((1 : Int32) + (1 : Int32)) = (2 : Int32) from by decide] at P46
                replace P46 : HP n0 T46.heap [c27, AC tk1 [], AC tk2 [], AC tk3 [], AC tk4 (List.map Value.int tC), AC tk5 (List.map Value.int tS), AC tk6 [.int tz0, .int tz1], AC kA2 (List.map Value.int ((((List.replicate M 0).set ky0 (0 : Int32)).set ky1 (1 : Int32)).set ky2 (2 : Int32))), AC kA3 (List.map Value.int ((((List.replicate M 0).set ky0 (1 : Int32)).set ky1 (1 : Int32)).set ky2 (1 : Int32))), AC kA4 [.int (1 : Int32), .int (2 : Int32), .int (1 : Int32), .int (0 : Int32)]] := P46
                replace F27 : ObjF Z c27 "com/example/protomata/protomata/Partition" fl_C0 [.ref (n0 + 7), .ref (n0 + 8), .ref (n0 + 9), .int (Int32.ofNat a), .int (1 : Int32), .int (3 : Int32), .long (6 : Int64)] := F27
                refine w_istore (l' := #[.val (.int x0), .val (.int x1), .val (.int x2), .val (.int x3), .val (.int x4), .val (.int x5), .val (.int (Int32.ofNat g)), .val (.int (Int32.ofNat a)), .val (.int (Int32.ofNat g1)), .val (.int (Int32.ofNat a1)), .val (.int (Int32.ofNat fb0)), .val (.int (Int32.ofNat fd0)), .val (.int (Int32.ofNat fb1)), .val (.int (Int32.ofNat fd1)), .val (.int (Int32.ofNat b0)), .val (.int (Int32.ofNat d0)), .val (.int (Int32.ofNat b1)), .val (.int (Int32.ofNat d1)), .val (.int (Int32.ofNat b2)), .val (.int (Int32.ofNat d2)), .val (.int (Int32.ofNat b3)), .val (.int (Int32.ofNat d3)), .val (.ref (n0 + 0)), .val (.int (0 : Int32)), .val (.int tf1), .val (.int (1 : Int32)), .val (.int (0 : Int32)), .val (.int (1 : Int32)), .val (.int (2 : Int32)), .val (.int (1 : Int32)), .unset, .unset, .unset, .unset, .unset, .unset, .unset, .unset, .unset, .unset, .unset, .unset, .unset, .unset, .unset, .unset, .unset]) X46 hx (hb hby at_283) rfl (pc' := 285) rfl ?_
                have hs10 : sp8 (Int32.ofNat b1) (Int32.ofNat d1) (Int32.ofNat b0) (Int32.ofNat d0) = 0 := (own_sm0 (by omega) (by omega) (by omega) (by omega) (fun z => absurd (show ky1 = ky0 by rw [← eky1, ← eky0, z.1, z.2]) (by omega)))
                have hs20 : sp8 (Int32.ofNat b2) (Int32.ofNat d2) (Int32.ofNat b0) (Int32.ofNat d0) = 0 := (own_sm0 (by omega) (by omega) (by omega) (by omega) (fun z => absurd (show ky2 = ky0 by rw [← eky2, ← eky0, z.1, z.2]) (by omega)))
                have hs21 : sp8 (Int32.ofNat b2) (Int32.ofNat d2) (Int32.ofNat b1) (Int32.ofNat d1) = 0 := (own_sm0 (by omega) (by omega) (by omega) (by omega) (fun z => absurd (show ky2 = ky1 by rw [← eky2, ← eky1, z.1, z.2]) (by omega)))
                have hs30 : sp8 (Int32.ofNat b3) (Int32.ofNat d3) (Int32.ofNat b0) (Int32.ofNat d0) = 0 := (own_sm0 (by omega) (by omega) (by omega) (by omega) (fun z => absurd (show ky3 = ky0 by rw [← eky3, ← eky0, z.1, z.2]) (by omega)))
                have hs31 : sp8 (Int32.ofNat b3) (Int32.ofNat d3) (Int32.ofNat b1) (Int32.ofNat d1) = 1 := (own_sm1 (own_inj (a := a) hd3 hd1 (by rw [eky3, eky1]; omega)).1 (own_inj (a := a) hd3 hd1 (by rw [eky3, eky1]; omega)).2)
                have hs32 : sp8 (Int32.ofNat b3) (Int32.ofNat d3) (Int32.ofNat b2) (Int32.ofNat d2) = 0 := (own_sm0 (by omega) (by omega) (by omega) (by omega) (fun z => absurd (show ky3 = ky2 by rw [← eky3, ← eky2, z.1, z.2]) (by omega)))
                exact Jt T46 _ tf1 (0 : Int32) (1 : Int32) (2 : Int32) (1 : Int32) (Int32.ofNat a) (1 : Int32) (3 : Int32) (6 : Int64) (n0 + 7) (n0 + 8) (n0 + 9) _ c27 N26 X46 P46 F27 rfl (by rw [hs10]; decide) (by rw [hs10, hs20, hs21]; decide) (by rw [hs10, hs20, hs21, hs30, hs31, hs32]; decide) (by rw [hs10, hs20, hs21, hs30, hs31, hs32]; decide) (by rw [hs10, hs20, hs21, hs30, hs31, hs32]; decide)
              · by_cases hy32 : ky3 = ky2
                · refine own_callV (W := 0) X44 hx hZ rfl hown hml.symm (wd42 hw) (wd43 hw) (wd45 hw) (wd44 hw) (wd10 hw) (wd46 hw) (rm_htB2 l Z a0 hw [] n0 tk1 tk2 tk3 tk4 tk5 tk6 kA2 kA3 kA4 c25 ((((List.replicate M 0).set ky0 (0 : Int32)).set ky1 (1 : Int32)).set ky2 (2 : Int32)) ((((List.replicate M 0).set ky0 (1 : Int32)).set ky1 (1 : Int32)).set ky2 (1 : Int32)) M tC tS tz0 tz1 b3 a d3 ky3 (3 : Int64) (1 : Int32) (1 : Int32) (1 : Int32) (0 : Int32) (3 : Int32) _ P44 thk1 thk2 thk3 thk4 thk5 thk6 hkA2 hkA3 hkA4 (own_sl (own_sl (own_sl (List.length_replicate (n := M) (a := (0 : Int32)))))) (own_sl (own_sl (own_sl (List.length_replicate (n := M) (a := (0 : Int32)))))) F25 eky3 (by omega) (by omega) (by rw [own_gs, if_pos ⟨by omega, own_llt (own_sl (own_sl (List.length_replicate (n := M) (a := (0 : Int32))))) (by omega)⟩]) (by rw [own_gs, if_pos ⟨by omega, own_llt (own_sl (own_sl (List.length_replicate (n := M) (a := (0 : Int32))))) (by omega)⟩])) (a := (n0 + 0)) (P44.exa (i := 0) rfl F25.1) (by decide) (by decide) (by decide) (by decide) (by decide) (argsL := [.int (Int32.ofNat b3), .int (Int32.ofNat d3)]) (rest := []) pd7 rfl rfl rfl (Nat.le_of_eq rfl) (hb hby at_280) (pc' := 283) rfl ?_
                  intro v47 T47 L27 X47 hq
                  obtain ⟨rfl, N27, c28, F28, P47⟩ := hq
                  replace N27 := Fr.app N24 N27
                  replace P47 : HP n0 T47.heap [c28, AC tk1 [], AC tk2 [], AC tk3 [], AC tk4 (List.map Value.int tC), AC tk5 (List.map Value.int tS), AC tk6 [.int tz0, .int tz1], AC kA2 (List.map Value.int ((((List.replicate M 0).set ky0 (0 : Int32)).set ky1 (1 : Int32)).set ky2 (2 : Int32))), AC kA3 (List.map Value.int ((((List.replicate M 0).set ky0 (1 : Int32)).set ky1 (1 : Int32)).set ky2 (1 : Int32))), AC kA4 [.int (1 : Int32), .int (1 : Int32), .int ((1 : Int32) + (1 : Int32)), .int (0 : Int32)]] := P47
                  rw [show ((3 : Int64) + (((2 : Int64) * (Int32.toInt64 (1 : Int32))) + (1 : Int64))) = (6 : Int64) from by decide] at F28
                  rw [show ((1 : Int32) + (1 : Int32)) = (2 : Int32) from by decide] at P47
                  replace P47 : HP n0 T47.heap [c28, AC tk1 [], AC tk2 [], AC tk3 [], AC tk4 (List.map Value.int tC), AC tk5 (List.map Value.int tS), AC tk6 [.int tz0, .int tz1], AC kA2 (List.map Value.int ((((List.replicate M 0).set ky0 (0 : Int32)).set ky1 (1 : Int32)).set ky2 (2 : Int32))), AC kA3 (List.map Value.int ((((List.replicate M 0).set ky0 (1 : Int32)).set ky1 (1 : Int32)).set ky2 (1 : Int32))), AC kA4 [.int (1 : Int32), .int (1 : Int32), .int (2 : Int32), .int (0 : Int32)]] := P47
                  replace F28 : ObjF Z c28 "com/example/protomata/protomata/Partition" fl_C0 [.ref (n0 + 7), .ref (n0 + 8), .ref (n0 + 9), .int (Int32.ofNat a), .int (1 : Int32), .int (3 : Int32), .long (6 : Int64)] := F28
                  refine w_istore (l' := #[.val (.int x0), .val (.int x1), .val (.int x2), .val (.int x3), .val (.int x4), .val (.int x5), .val (.int (Int32.ofNat g)), .val (.int (Int32.ofNat a)), .val (.int (Int32.ofNat g1)), .val (.int (Int32.ofNat a1)), .val (.int (Int32.ofNat fb0)), .val (.int (Int32.ofNat fd0)), .val (.int (Int32.ofNat fb1)), .val (.int (Int32.ofNat fd1)), .val (.int (Int32.ofNat b0)), .val (.int (Int32.ofNat d0)), .val (.int (Int32.ofNat b1)), .val (.int (Int32.ofNat d1)), .val (.int (Int32.ofNat b2)), .val (.int (Int32.ofNat d2)), .val (.int (Int32.ofNat b3)), .val (.int (Int32.ofNat d3)), .val (.ref (n0 + 0)), .val (.int (0 : Int32)), .val (.int tf1), .val (.int (1 : Int32)), .val (.int (0 : Int32)), .val (.int (1 : Int32)), .val (.int (2 : Int32)), .val (.int (2 : Int32)), .unset, .unset, .unset, .unset, .unset, .unset, .unset, .unset, .unset, .unset, .unset, .unset, .unset, .unset, .unset, .unset, .unset]) X47 hx (hb hby at_283) rfl (pc' := 285) rfl ?_
                  have hs10 : sp8 (Int32.ofNat b1) (Int32.ofNat d1) (Int32.ofNat b0) (Int32.ofNat d0) = 0 := (own_sm0 (by omega) (by omega) (by omega) (by omega) (fun z => absurd (show ky1 = ky0 by rw [← eky1, ← eky0, z.1, z.2]) (by omega)))
                  have hs20 : sp8 (Int32.ofNat b2) (Int32.ofNat d2) (Int32.ofNat b0) (Int32.ofNat d0) = 0 := (own_sm0 (by omega) (by omega) (by omega) (by omega) (fun z => absurd (show ky2 = ky0 by rw [← eky2, ← eky0, z.1, z.2]) (by omega)))
                  have hs21 : sp8 (Int32.ofNat b2) (Int32.ofNat d2) (Int32.ofNat b1) (Int32.ofNat d1) = 0 := (own_sm0 (by omega) (by omega) (by omega) (by omega) (fun z => absurd (show ky2 = ky1 by rw [← eky2, ← eky1, z.1, z.2]) (by omega)))
                  have hs30 : sp8 (Int32.ofNat b3) (Int32.ofNat d3) (Int32.ofNat b0) (Int32.ofNat d0) = 0 := (own_sm0 (by omega) (by omega) (by omega) (by omega) (fun z => absurd (show ky3 = ky0 by rw [← eky3, ← eky0, z.1, z.2]) (by omega)))
                  have hs31 : sp8 (Int32.ofNat b3) (Int32.ofNat d3) (Int32.ofNat b1) (Int32.ofNat d1) = 0 := (own_sm0 (by omega) (by omega) (by omega) (by omega) (fun z => absurd (show ky3 = ky1 by rw [← eky3, ← eky1, z.1, z.2]) (by omega)))
                  have hs32 : sp8 (Int32.ofNat b3) (Int32.ofNat d3) (Int32.ofNat b2) (Int32.ofNat d2) = 1 := (own_sm1 (own_inj (a := a) hd3 hd2 (by rw [eky3, eky2]; omega)).1 (own_inj (a := a) hd3 hd2 (by rw [eky3, eky2]; omega)).2)
                  exact Jt T47 _ tf1 (0 : Int32) (1 : Int32) (2 : Int32) (2 : Int32) (Int32.ofNat a) (1 : Int32) (3 : Int32) (6 : Int64) (n0 + 7) (n0 + 8) (n0 + 9) _ c28 N27 X47 P47 F28 rfl (by rw [hs10]; decide) (by rw [hs10, hs20, hs21]; decide) (by rw [hs10, hs20, hs21, hs30, hs31, hs32]; decide) (by rw [hs10, hs20, hs21, hs30, hs31, hs32]; decide) (by rw [hs10, hs20, hs21, hs30, hs31, hs32]; decide)
                · refine own_callV (W := 0) X44 hx hZ rfl hown hml.symm (wd42 hw) (wd43 hw) (wd45 hw) (wd44 hw) (wd10 hw) (wd46 hw) (rm_msB3 l Z a0 hw [] n0 tk1 tk2 tk3 tk4 tk5 tk6 kA2 kA3 kA4 c25 ((((List.replicate M 0).set ky0 (0 : Int32)).set ky1 (1 : Int32)).set ky2 (2 : Int32)) ((((List.replicate M 0).set ky0 (1 : Int32)).set ky1 (1 : Int32)).set ky2 (1 : Int32)) M tC tS tz0 tz1 b3 a d3 ky3 (3 : Int64) (1 : Int32) (1 : Int32) (1 : Int32) (0 : Int32) _ P44 thk1 thk2 thk3 thk4 thk5 thk6 hkA2 hkA3 hkA4 (own_sl (own_sl (own_sl (List.length_replicate (n := M) (a := (0 : Int32)))))) (own_sl (own_sl (own_sl (List.length_replicate (n := M) (a := (0 : Int32)))))) F25 eky3 (by omega) (by omega) (by rw [own_gs, if_neg (by omega), own_gs, if_neg (by omega), own_gs, if_neg (by omega)]; exact hfr ky3)) (a := (n0 + 0)) (P44.exa (i := 0) rfl F25.1) (by decide) (by decide) (by decide) (by decide) (by decide) (argsL := [.int (Int32.ofNat b3), .int (Int32.ofNat d3)]) (rest := []) pd7 rfl rfl rfl (Nat.le_of_eq rfl) (hb hby at_280) (pc' := 283) rfl ?_
                  intro v48 T48 L28 X48 hq
                  obtain ⟨rfl, N28, c29, F29, P48⟩ := hq
                  replace N28 := Fr.app N24 N28
                  replace P48 : HP n0 T48.heap [c29, AC tk1 [], AC tk2 [], AC tk3 [], AC tk4 (List.map Value.int tC), AC tk5 (List.map Value.int tS), AC tk6 [.int tz0, .int tz1], AC kA2 (List.map Value.int (((((List.replicate M 0).set ky0 (0 : Int32)).set ky1 (1 : Int32)).set ky2 (2 : Int32)).set ky3 (3 : Int32))), AC kA3 (List.map Value.int (((((List.replicate M 0).set ky0 (1 : Int32)).set ky1 (1 : Int32)).set ky2 (1 : Int32)).set ky3 (1 : Int32))), AC kA4 [.int (1 : Int32), .int (1 : Int32), .int (1 : Int32), .int (1 : Int32)]] := P48
                  rw [show ((3 : Int64) + (1 : Int64)) = (4 : Int64) from by decide] at F29
                  replace P48 : HP n0 T48.heap [c29, AC tk1 [], AC tk2 [], AC tk3 [], AC tk4 (List.map Value.int tC), AC tk5 (List.map Value.int tS), AC tk6 [.int tz0, .int tz1], AC kA2 (List.map Value.int (((((List.replicate M 0).set ky0 (0 : Int32)).set ky1 (1 : Int32)).set ky2 (2 : Int32)).set ky3 (3 : Int32))), AC kA3 (List.map Value.int (((((List.replicate M 0).set ky0 (1 : Int32)).set ky1 (1 : Int32)).set ky2 (1 : Int32)).set ky3 (1 : Int32))), AC kA4 [.int (1 : Int32), .int (1 : Int32), .int (1 : Int32), .int (1 : Int32)]] := P48
                  replace F29 : ObjF Z c29 "com/example/protomata/protomata/Partition" fl_C0 [.ref (n0 + 7), .ref (n0 + 8), .ref (n0 + 9), .int (Int32.ofNat a), .int (1 : Int32), .int (4 : Int32), .long (4 : Int64)] := F29
                  refine w_istore (l' := #[.val (.int x0), .val (.int x1), .val (.int x2), .val (.int x3), .val (.int x4), .val (.int x5), .val (.int (Int32.ofNat g)), .val (.int (Int32.ofNat a)), .val (.int (Int32.ofNat g1)), .val (.int (Int32.ofNat a1)), .val (.int (Int32.ofNat fb0)), .val (.int (Int32.ofNat fd0)), .val (.int (Int32.ofNat fb1)), .val (.int (Int32.ofNat fd1)), .val (.int (Int32.ofNat b0)), .val (.int (Int32.ofNat d0)), .val (.int (Int32.ofNat b1)), .val (.int (Int32.ofNat d1)), .val (.int (Int32.ofNat b2)), .val (.int (Int32.ofNat d2)), .val (.int (Int32.ofNat b3)), .val (.int (Int32.ofNat d3)), .val (.ref (n0 + 0)), .val (.int (0 : Int32)), .val (.int tf1), .val (.int (1 : Int32)), .val (.int (0 : Int32)), .val (.int (1 : Int32)), .val (.int (2 : Int32)), .val (.int (3 : Int32)), .unset, .unset, .unset, .unset, .unset, .unset, .unset, .unset, .unset, .unset, .unset, .unset, .unset, .unset, .unset, .unset, .unset]) X48 hx (hb hby at_283) rfl (pc' := 285) rfl ?_
                  have hs10 : sp8 (Int32.ofNat b1) (Int32.ofNat d1) (Int32.ofNat b0) (Int32.ofNat d0) = 0 := (own_sm0 (by omega) (by omega) (by omega) (by omega) (fun z => absurd (show ky1 = ky0 by rw [← eky1, ← eky0, z.1, z.2]) (by omega)))
                  have hs20 : sp8 (Int32.ofNat b2) (Int32.ofNat d2) (Int32.ofNat b0) (Int32.ofNat d0) = 0 := (own_sm0 (by omega) (by omega) (by omega) (by omega) (fun z => absurd (show ky2 = ky0 by rw [← eky2, ← eky0, z.1, z.2]) (by omega)))
                  have hs21 : sp8 (Int32.ofNat b2) (Int32.ofNat d2) (Int32.ofNat b1) (Int32.ofNat d1) = 0 := (own_sm0 (by omega) (by omega) (by omega) (by omega) (fun z => absurd (show ky2 = ky1 by rw [← eky2, ← eky1, z.1, z.2]) (by omega)))
                  have hs30 : sp8 (Int32.ofNat b3) (Int32.ofNat d3) (Int32.ofNat b0) (Int32.ofNat d0) = 0 := (own_sm0 (by omega) (by omega) (by omega) (by omega) (fun z => absurd (show ky3 = ky0 by rw [← eky3, ← eky0, z.1, z.2]) (by omega)))
                  have hs31 : sp8 (Int32.ofNat b3) (Int32.ofNat d3) (Int32.ofNat b1) (Int32.ofNat d1) = 0 := (own_sm0 (by omega) (by omega) (by omega) (by omega) (fun z => absurd (show ky3 = ky1 by rw [← eky3, ← eky1, z.1, z.2]) (by omega)))
                  have hs32 : sp8 (Int32.ofNat b3) (Int32.ofNat d3) (Int32.ofNat b2) (Int32.ofNat d2) = 0 := (own_sm0 (by omega) (by omega) (by omega) (by omega) (fun z => absurd (show ky3 = ky2 by rw [← eky3, ← eky2, z.1, z.2]) (by omega)))
                  exact Jt T48 _ tf1 (0 : Int32) (1 : Int32) (2 : Int32) (3 : Int32) (Int32.ofNat a) (1 : Int32) (4 : Int32) (4 : Int64) (n0 + 7) (n0 + 8) (n0 + 9) _ c29 N28 X48 P48 F29 rfl (by rw [hs10]; decide) (by rw [hs10, hs20, hs21]; decide) (by rw [hs10, hs20, hs21, hs30, hs31, hs32]; decide) (by rw [hs10, hs20, hs21, hs30, hs31, hs32]; decide) (by rw [hs10, hs20, hs21, hs30, hs31, hs32]; decide)
    · replace P25 : HP n0 T25.heap [c5, AC tk1 [], AC tk2 [], AC tk3 [], AC tk4 (List.map Value.int tC), AC tk5 (List.map Value.int tS), AC tk6 [.int tz0, .int tz1], AC kA6 [.int (0 : Int32), .int (0 : Int32), .int (0 : Int32), .int (0 : Int32)]] := P25
      have hfr : ∀ x, ¬ tS.getD x 0 = 2 := fun x => by rcases h01 x with h | h <;> rw [h] <;> decide
      refine w_pop X25 hx (hb hby at_240) rfl (pc' := 241) rfl ?_
      refine w_aload X25 hx (hb hby at_241) rfl rfl (pc' := 243) rfl ?_
      refine w_iload X25 hx (hb hby at_243) rfl (pc' := 245) rfl ?_
      refine w_iload X25 hx (hb hby at_245) rfl (pc' := 247) rfl ?_
      refine own_callV (W := 0) X25 hx hZ rfl hown hml.symm (wd42 hw) (wd43 hw) (wd45 hw) (wd44 hw) (wd10 hw) (wd46 hw) (rm_msC0 l Z a0 hw [] n0 tk1 tk2 tk3 tk4 tk5 tk6 kA6 c5 tC tS M1 tz0 tz1 b0 a d0 ky0 (0 : Int64) (0 : Int32) (0 : Int32) (0 : Int32) (0 : Int32) _ P25 thk1 thk2 thk3 thk4 thk5 thk6 hkA6 htC htS F5 eky0 (by omega) (by omega) (by exact hfr ky0)) (a := (n0 + 0)) (P25.exa (i := 0) rfl F5.1) (by decide) (by decide) (by decide) (by decide) (by decide) (argsL := [.int (Int32.ofNat b0), .int (Int32.ofNat d0)]) (rest := []) pd7 rfl rfl rfl (Nat.le_of_eq rfl) (hb hby at_247) (pc' := 250) rfl ?_
      intro v49 T49 L29 X49 hq
      obtain ⟨rfl, N29, c30, F30, P49⟩ := hq
      replace N29 := Fr.app N5 N29
      replace P49 : HP n0 T49.heap [c30, AC tk1 [], AC tk2 [], AC tk3 [], AC tk4 (List.map Value.int (tC.set ky0 (0 : Int32))), AC tk5 (List.map Value.int (tS.set ky0 (2 : Int32))), AC tk6 [.int tz0, .int tz1], AC kA6 [.int (1 : Int32), .int (0 : Int32), .int (0 : Int32), .int (0 : Int32)]] := P49
      rw [show ((0 : Int64) + (1 : Int64)) = (1 : Int64) from by decide] at F30
      replace P49 : HP n0 T49.heap [c30, AC tk1 [], AC tk2 [], AC tk3 [], AC tk4 (List.map Value.int (tC.set ky0 (0 : Int32))), AC tk5 (List.map Value.int (tS.set ky0 (2 : Int32))), AC tk6 [.int tz0, .int tz1], AC kA6 [.int (1 : Int32), .int (0 : Int32), .int (0 : Int32), .int (0 : Int32)]] := P49
      replace F30 : ObjF Z c30 "com/example/protomata/protomata/Partition" fl_C0 [.ref (n0 + 4), .ref (n0 + 5), .ref (n0 + 7), .int (Int32.ofNat a), .int (2 : Int32), .int (1 : Int32), .long (1 : Int64)] := F30
      refine w_istore (l' := #[.val (.int x0), .val (.int x1), .val (.int x2), .val (.int x3), .val (.int x4), .val (.int x5), .val (.int (Int32.ofNat g)), .val (.int (Int32.ofNat a)), .val (.int (Int32.ofNat g1)), .val (.int (Int32.ofNat a1)), .val (.int (Int32.ofNat fb0)), .val (.int (Int32.ofNat fd0)), .val (.int (Int32.ofNat fb1)), .val (.int (Int32.ofNat fd1)), .val (.int (Int32.ofNat b0)), .val (.int (Int32.ofNat d0)), .val (.int (Int32.ofNat b1)), .val (.int (Int32.ofNat d1)), .val (.int (Int32.ofNat b2)), .val (.int (Int32.ofNat d2)), .val (.int (Int32.ofNat b3)), .val (.int (Int32.ofNat d3)), .val (.ref (n0 + 0)), .val (.int (0 : Int32)), .val (.int tf1), .val (.int (1 : Int32)), .val (.int (0 : Int32)), .unset, .unset, .unset, .unset, .unset, .unset, .unset, .unset, .unset, .unset, .unset, .unset, .unset, .unset, .unset, .unset, .unset, .unset, .unset, .unset]) X49 hx (hb hby at_250) rfl (pc' := 252) rfl ?_
      refine w_aload X49 hx (hb hby at_252) rfl rfl (pc' := 254) rfl ?_
      refine w_iload X49 hx (hb hby at_254) rfl (pc' := 256) rfl ?_
      refine w_iload X49 hx (hb hby at_256) rfl (pc' := 258) rfl ?_
      by_cases hy10 : ky1 = ky0
      · refine own_callV (W := 0) X49 hx hZ rfl hown hml.symm (wd42 hw) (wd43 hw) (wd45 hw) (wd44 hw) (wd10 hw) (wd46 hw) (rm_htC0 l Z a0 hw [] n0 tk1 tk2 tk3 tk4 tk5 tk6 kA6 c30 (tC.set ky0 (0 : Int32)) (tS.set ky0 (2 : Int32)) M1 tz0 tz1 b1 a d1 ky1 (1 : Int64) (1 : Int32) (0 : Int32) (0 : Int32) (0 : Int32) (1 : Int32) _ P49 thk1 thk2 thk3 thk4 thk5 thk6 hkA6 (own_sl htC) (own_sl htS) F30 eky1 (by omega) (by omega) (by rw [own_gs, if_pos ⟨by omega, own_llt htS (by omega)⟩]) (by rw [own_gs, if_pos ⟨by omega, own_llt htC (by omega)⟩])) (a := (n0 + 0)) (P49.exa (i := 0) rfl F30.1) (by decide) (by decide) (by decide) (by decide) (by decide) (argsL := [.int (Int32.ofNat b1), .int (Int32.ofNat d1)]) (rest := []) pd7 rfl rfl rfl (Nat.le_of_eq rfl) (hb hby at_258) (pc' := 261) rfl ?_
        intro v50 T50 L30 X50 hq
        obtain ⟨rfl, N30, c31, F31, P50⟩ := hq
        replace N30 := Fr.app N29 N30
        replace P50 : HP n0 T50.heap [c31, AC tk1 [], AC tk2 [], AC tk3 [], AC tk4 (List.map Value.int (tC.set ky0 (0 : Int32))), AC tk5 (List.map Value.int (tS.set ky0 (2 : Int32))), AC tk6 [.int tz0, .int tz1], AC kA6 [.int ((1 : Int32) + (1 : Int32)), .int (0 : Int32), .int (0 : Int32), .int (0 : Int32)]] := P50
        rw [show ((1 : Int64) + (((2 : Int64) * (Int32.toInt64 (1 : Int32))) + (1 : Int64))) = (4 : Int64) from by decide] at F31
        rw [show ((1 : Int32) + (1 : Int32)) = (2 : Int32) from by decide] at P50
        replace P50 : HP n0 T50.heap [c31, AC tk1 [], AC tk2 [], AC tk3 [], AC tk4 (List.map Value.int (tC.set ky0 (0 : Int32))), AC tk5 (List.map Value.int (tS.set ky0 (2 : Int32))), AC tk6 [.int tz0, .int tz1], AC kA6 [.int (2 : Int32), .int (0 : Int32), .int (0 : Int32), .int (0 : Int32)]] := P50
        replace F31 : ObjF Z c31 "com/example/protomata/protomata/Partition" fl_C0 [.ref (n0 + 4), .ref (n0 + 5), .ref (n0 + 7), .int (Int32.ofNat a), .int (2 : Int32), .int (1 : Int32), .long (4 : Int64)] := F31
        refine w_istore (l' := #[.val (.int x0), .val (.int x1), .val (.int x2), .val (.int x3), .val (.int x4), .val (.int x5), .val (.int (Int32.ofNat g)), .val (.int (Int32.ofNat a)), .val (.int (Int32.ofNat g1)), .val (.int (Int32.ofNat a1)), .val (.int (Int32.ofNat fb0)), .val (.int (Int32.ofNat fd0)), .val (.int (Int32.ofNat fb1)), .val (.int (Int32.ofNat fd1)), .val (.int (Int32.ofNat b0)), .val (.int (Int32.ofNat d0)), .val (.int (Int32.ofNat b1)), .val (.int (Int32.ofNat d1)), .val (.int (Int32.ofNat b2)), .val (.int (Int32.ofNat d2)), .val (.int (Int32.ofNat b3)), .val (.int (Int32.ofNat d3)), .val (.ref (n0 + 0)), .val (.int (0 : Int32)), .val (.int tf1), .val (.int (1 : Int32)), .val (.int (0 : Int32)), .val (.int (0 : Int32)), .unset, .unset, .unset, .unset, .unset, .unset, .unset, .unset, .unset, .unset, .unset, .unset, .unset, .unset, .unset, .unset, .unset, .unset, .unset]) X50 hx (hb hby at_261) rfl (pc' := 263) rfl ?_
        refine w_aload X50 hx (hb hby at_263) rfl rfl (pc' := 265) rfl ?_
        refine w_iload X50 hx (hb hby at_265) rfl (pc' := 267) rfl ?_
        refine w_iload X50 hx (hb hby at_267) rfl (pc' := 269) rfl ?_
        by_cases hy20 : ky2 = ky0
        · refine own_callV (W := 0) X50 hx hZ rfl hown hml.symm (wd42 hw) (wd43 hw) (wd45 hw) (wd44 hw) (wd10 hw) (wd46 hw) (rm_htC0 l Z a0 hw [] n0 tk1 tk2 tk3 tk4 tk5 tk6 kA6 c31 (tC.set ky0 (0 : Int32)) (tS.set ky0 (2 : Int32)) M1 tz0 tz1 b2 a d2 ky2 (4 : Int64) (2 : Int32) (0 : Int32) (0 : Int32) (0 : Int32) (1 : Int32) _ P50 thk1 thk2 thk3 thk4 thk5 thk6 hkA6 (own_sl htC) (own_sl htS) F31 eky2 (by omega) (by omega) (by rw [own_gs, if_pos ⟨by omega, own_llt htS (by omega)⟩]) (by rw [own_gs, if_pos ⟨by omega, own_llt htC (by omega)⟩])) (a := (n0 + 0)) (P50.exa (i := 0) rfl F31.1) (by decide) (by decide) (by decide) (by decide) (by decide) (argsL := [.int (Int32.ofNat b2), .int (Int32.ofNat d2)]) (rest := []) pd7 rfl rfl rfl (Nat.le_of_eq rfl) (hb hby at_269) (pc' := 272) rfl ?_
          intro v51 T51 L31 X51 hq
          obtain ⟨rfl, N31, c32, F32, P51⟩ := hq
          replace N31 := Fr.app N30 N31
          replace P51 : HP n0 T51.heap [c32, AC tk1 [], AC tk2 [], AC tk3 [], AC tk4 (List.map Value.int (tC.set ky0 (0 : Int32))), AC tk5 (List.map Value.int (tS.set ky0 (2 : Int32))), AC tk6 [.int tz0, .int tz1], AC kA6 [.int ((2 : Int32) + (1 : Int32)), .int (0 : Int32), .int (0 : Int32), .int (0 : Int32)]] := P51
          rw [show ((4 : Int64) + (((2 : Int64) * (Int32.toInt64 (2 : Int32))) + (1 : Int64))) = (9 : Int64) from by decide] at F32
          rw [show ((2 : Int32) + (1 : Int32)) = (3 : Int32) from by decide] at P51
          replace P51 : HP n0 T51.heap [c32, AC tk1 [], AC tk2 [], AC tk3 [], AC tk4 (List.map Value.int (tC.set ky0 (0 : Int32))), AC tk5 (List.map Value.int (tS.set ky0 (2 : Int32))), AC tk6 [.int tz0, .int tz1], AC kA6 [.int (3 : Int32), .int (0 : Int32), .int (0 : Int32), .int (0 : Int32)]] := P51
          replace F32 : ObjF Z c32 "com/example/protomata/protomata/Partition" fl_C0 [.ref (n0 + 4), .ref (n0 + 5), .ref (n0 + 7), .int (Int32.ofNat a), .int (2 : Int32), .int (1 : Int32), .long (9 : Int64)] := F32
          refine w_istore (l' := #[.val (.int x0), .val (.int x1), .val (.int x2), .val (.int x3), .val (.int x4), .val (.int x5), .val (.int (Int32.ofNat g)), .val (.int (Int32.ofNat a)), .val (.int (Int32.ofNat g1)), .val (.int (Int32.ofNat a1)), .val (.int (Int32.ofNat fb0)), .val (.int (Int32.ofNat fd0)), .val (.int (Int32.ofNat fb1)), .val (.int (Int32.ofNat fd1)), .val (.int (Int32.ofNat b0)), .val (.int (Int32.ofNat d0)), .val (.int (Int32.ofNat b1)), .val (.int (Int32.ofNat d1)), .val (.int (Int32.ofNat b2)), .val (.int (Int32.ofNat d2)), .val (.int (Int32.ofNat b3)), .val (.int (Int32.ofNat d3)), .val (.ref (n0 + 0)), .val (.int (0 : Int32)), .val (.int tf1), .val (.int (1 : Int32)), .val (.int (0 : Int32)), .val (.int (0 : Int32)), .val (.int (0 : Int32)), .unset, .unset, .unset, .unset, .unset, .unset, .unset, .unset, .unset, .unset, .unset, .unset, .unset, .unset, .unset, .unset, .unset, .unset]) X51 hx (hb hby at_272) rfl (pc' := 274) rfl ?_
          refine w_aload X51 hx (hb hby at_274) rfl rfl (pc' := 276) rfl ?_
          refine w_iload X51 hx (hb hby at_276) rfl (pc' := 278) rfl ?_
          refine w_iload X51 hx (hb hby at_278) rfl (pc' := 280) rfl ?_
          by_cases hy30 : ky3 = ky0
          · refine own_callV (W := 0) X51 hx hZ rfl hown hml.symm (wd42 hw) (wd43 hw) (wd45 hw) (wd44 hw) (wd10 hw) (wd46 hw) (rm_htC0 l Z a0 hw [] n0 tk1 tk2 tk3 tk4 tk5 tk6 kA6 c32 (tC.set ky0 (0 : Int32)) (tS.set ky0 (2 : Int32)) M1 tz0 tz1 b3 a d3 ky3 (9 : Int64) (3 : Int32) (0 : Int32) (0 : Int32) (0 : Int32) (1 : Int32) _ P51 thk1 thk2 thk3 thk4 thk5 thk6 hkA6 (own_sl htC) (own_sl htS) F32 eky3 (by omega) (by omega) (by rw [own_gs, if_pos ⟨by omega, own_llt htS (by omega)⟩]) (by rw [own_gs, if_pos ⟨by omega, own_llt htC (by omega)⟩])) (a := (n0 + 0)) (P51.exa (i := 0) rfl F32.1) (by decide) (by decide) (by decide) (by decide) (by decide) (argsL := [.int (Int32.ofNat b3), .int (Int32.ofNat d3)]) (rest := []) pd7 rfl rfl rfl (Nat.le_of_eq rfl) (hb hby at_280) (pc' := 283) rfl ?_
            intro v52 T52 L32 X52 hq
            obtain ⟨rfl, N32, c33, F33, P52⟩ := hq
            replace N32 := Fr.app N31 N32
            replace P52 : HP n0 T52.heap [c33, AC tk1 [], AC tk2 [], AC tk3 [], AC tk4 (List.map Value.int (tC.set ky0 (0 : Int32))), AC tk5 (List.map Value.int (tS.set ky0 (2 : Int32))), AC tk6 [.int tz0, .int tz1], AC kA6 [.int ((3 : Int32) + (1 : Int32)), .int (0 : Int32), .int (0 : Int32), .int (0 : Int32)]] := P52
            rw [show ((9 : Int64) + (((2 : Int64) * (Int32.toInt64 (3 : Int32))) + (1 : Int64))) = (16 : Int64) from by decide] at F33
            rw [show ((3 : Int32) + (1 : Int32)) = (4 : Int32) from by decide] at P52
            replace P52 : HP n0 T52.heap [c33, AC tk1 [], AC tk2 [], AC tk3 [], AC tk4 (List.map Value.int (tC.set ky0 (0 : Int32))), AC tk5 (List.map Value.int (tS.set ky0 (2 : Int32))), AC tk6 [.int tz0, .int tz1], AC kA6 [.int (4 : Int32), .int (0 : Int32), .int (0 : Int32), .int (0 : Int32)]] := P52
            replace F33 : ObjF Z c33 "com/example/protomata/protomata/Partition" fl_C0 [.ref (n0 + 4), .ref (n0 + 5), .ref (n0 + 7), .int (Int32.ofNat a), .int (2 : Int32), .int (1 : Int32), .long (16 : Int64)] := F33
            refine w_istore (l' := #[.val (.int x0), .val (.int x1), .val (.int x2), .val (.int x3), .val (.int x4), .val (.int x5), .val (.int (Int32.ofNat g)), .val (.int (Int32.ofNat a)), .val (.int (Int32.ofNat g1)), .val (.int (Int32.ofNat a1)), .val (.int (Int32.ofNat fb0)), .val (.int (Int32.ofNat fd0)), .val (.int (Int32.ofNat fb1)), .val (.int (Int32.ofNat fd1)), .val (.int (Int32.ofNat b0)), .val (.int (Int32.ofNat d0)), .val (.int (Int32.ofNat b1)), .val (.int (Int32.ofNat d1)), .val (.int (Int32.ofNat b2)), .val (.int (Int32.ofNat d2)), .val (.int (Int32.ofNat b3)), .val (.int (Int32.ofNat d3)), .val (.ref (n0 + 0)), .val (.int (0 : Int32)), .val (.int tf1), .val (.int (1 : Int32)), .val (.int (0 : Int32)), .val (.int (0 : Int32)), .val (.int (0 : Int32)), .val (.int (0 : Int32)), .unset, .unset, .unset, .unset, .unset, .unset, .unset, .unset, .unset, .unset, .unset, .unset, .unset, .unset, .unset, .unset, .unset]) X52 hx (hb hby at_283) rfl (pc' := 285) rfl ?_
            have hs10 : sp8 (Int32.ofNat b1) (Int32.ofNat d1) (Int32.ofNat b0) (Int32.ofNat d0) = 1 := (own_sm1 (own_inj (a := a) hd1 hd0 (by rw [eky1, eky0]; omega)).1 (own_inj (a := a) hd1 hd0 (by rw [eky1, eky0]; omega)).2)
            have hs20 : sp8 (Int32.ofNat b2) (Int32.ofNat d2) (Int32.ofNat b0) (Int32.ofNat d0) = 1 := (own_sm1 (own_inj (a := a) hd2 hd0 (by rw [eky2, eky0]; omega)).1 (own_inj (a := a) hd2 hd0 (by rw [eky2, eky0]; omega)).2)
            have hs21 : sp8 (Int32.ofNat b2) (Int32.ofNat d2) (Int32.ofNat b1) (Int32.ofNat d1) = 1 := (own_sm1 (own_inj (a := a) hd2 hd1 (by rw [eky2, eky1]; omega)).1 (own_inj (a := a) hd2 hd1 (by rw [eky2, eky1]; omega)).2)
            have hs30 : sp8 (Int32.ofNat b3) (Int32.ofNat d3) (Int32.ofNat b0) (Int32.ofNat d0) = 1 := (own_sm1 (own_inj (a := a) hd3 hd0 (by rw [eky3, eky0]; omega)).1 (own_inj (a := a) hd3 hd0 (by rw [eky3, eky0]; omega)).2)
            have hs31 : sp8 (Int32.ofNat b3) (Int32.ofNat d3) (Int32.ofNat b1) (Int32.ofNat d1) = 1 := (own_sm1 (own_inj (a := a) hd3 hd1 (by rw [eky3, eky1]; omega)).1 (own_inj (a := a) hd3 hd1 (by rw [eky3, eky1]; omega)).2)
            have hs32 : sp8 (Int32.ofNat b3) (Int32.ofNat d3) (Int32.ofNat b2) (Int32.ofNat d2) = 1 := (own_sm1 (own_inj (a := a) hd3 hd2 (by rw [eky3, eky2]; omega)).1 (own_inj (a := a) hd3 hd2 (by rw [eky3, eky2]; omega)).2)
            exact Jt T52 _ tf1 (0 : Int32) (0 : Int32) (0 : Int32) (0 : Int32) (Int32.ofNat a) (2 : Int32) (1 : Int32) (16 : Int64) (n0 + 4) (n0 + 5) (n0 + 7) _ c33 N32 X52 P52 F33 rfl (by rw [hs10]; decide) (by rw [hs10, hs20, hs21]; decide) (by rw [hs10, hs20, hs21, hs30, hs31, hs32]; decide) (by rw [hs10, hs20, hs21, hs30, hs31, hs32]; decide) (by rw [hs10, hs20, hs21, hs30, hs31, hs32]; decide)
          · refine own_callV (W := 0) X51 hx hZ rfl hown hml.symm (wd42 hw) (wd43 hw) (wd45 hw) (wd44 hw) (wd10 hw) (wd46 hw) (rm_msC1 l Z a0 hw [] n0 tk1 tk2 tk3 tk4 tk5 tk6 kA6 c32 (tC.set ky0 (0 : Int32)) (tS.set ky0 (2 : Int32)) M1 tz0 tz1 b3 a d3 ky3 (9 : Int64) (3 : Int32) (0 : Int32) (0 : Int32) (0 : Int32) _ P51 thk1 thk2 thk3 thk4 thk5 thk6 hkA6 (own_sl htC) (own_sl htS) F32 eky3 (by omega) (by omega) (by rw [own_gs, if_neg (by omega)]; exact hfr ky3)) (a := (n0 + 0)) (P51.exa (i := 0) rfl F32.1) (by decide) (by decide) (by decide) (by decide) (by decide) (argsL := [.int (Int32.ofNat b3), .int (Int32.ofNat d3)]) (rest := []) pd7 rfl rfl rfl (Nat.le_of_eq rfl) (hb hby at_280) (pc' := 283) rfl ?_
            intro v53 T53 L33 X53 hq
            obtain ⟨rfl, N33, c34, F34, P53⟩ := hq
            replace N33 := Fr.app N31 N33
            replace P53 : HP n0 T53.heap [c34, AC tk1 [], AC tk2 [], AC tk3 [], AC tk4 (List.map Value.int ((tC.set ky0 (0 : Int32)).set ky3 (1 : Int32))), AC tk5 (List.map Value.int ((tS.set ky0 (2 : Int32)).set ky3 (2 : Int32))), AC tk6 [.int tz0, .int tz1], AC kA6 [.int (3 : Int32), .int (1 : Int32), .int (0 : Int32), .int (0 : Int32)]] := P53
            rw [show ((9 : Int64) + (1 : Int64)) = (10 : Int64) from by decide] at F34
            replace P53 : HP n0 T53.heap [c34, AC tk1 [], AC tk2 [], AC tk3 [], AC tk4 (List.map Value.int ((tC.set ky0 (0 : Int32)).set ky3 (1 : Int32))), AC tk5 (List.map Value.int ((tS.set ky0 (2 : Int32)).set ky3 (2 : Int32))), AC tk6 [.int tz0, .int tz1], AC kA6 [.int (3 : Int32), .int (1 : Int32), .int (0 : Int32), .int (0 : Int32)]] := P53
            replace F34 : ObjF Z c34 "com/example/protomata/protomata/Partition" fl_C0 [.ref (n0 + 4), .ref (n0 + 5), .ref (n0 + 7), .int (Int32.ofNat a), .int (2 : Int32), .int (2 : Int32), .long (10 : Int64)] := F34
            refine w_istore (l' := #[.val (.int x0), .val (.int x1), .val (.int x2), .val (.int x3), .val (.int x4), .val (.int x5), .val (.int (Int32.ofNat g)), .val (.int (Int32.ofNat a)), .val (.int (Int32.ofNat g1)), .val (.int (Int32.ofNat a1)), .val (.int (Int32.ofNat fb0)), .val (.int (Int32.ofNat fd0)), .val (.int (Int32.ofNat fb1)), .val (.int (Int32.ofNat fd1)), .val (.int (Int32.ofNat b0)), .val (.int (Int32.ofNat d0)), .val (.int (Int32.ofNat b1)), .val (.int (Int32.ofNat d1)), .val (.int (Int32.ofNat b2)), .val (.int (Int32.ofNat d2)), .val (.int (Int32.ofNat b3)), .val (.int (Int32.ofNat d3)), .val (.ref (n0 + 0)), .val (.int (0 : Int32)), .val (.int tf1), .val (.int (1 : Int32)), .val (.int (0 : Int32)), .val (.int (0 : Int32)), .val (.int (0 : Int32)), .val (.int (1 : Int32)), .unset, .unset, .unset, .unset, .unset, .unset, .unset, .unset, .unset, .unset, .unset, .unset, .unset, .unset, .unset, .unset, .unset]) X53 hx (hb hby at_283) rfl (pc' := 285) rfl ?_
            have hs10 : sp8 (Int32.ofNat b1) (Int32.ofNat d1) (Int32.ofNat b0) (Int32.ofNat d0) = 1 := (own_sm1 (own_inj (a := a) hd1 hd0 (by rw [eky1, eky0]; omega)).1 (own_inj (a := a) hd1 hd0 (by rw [eky1, eky0]; omega)).2)
            have hs20 : sp8 (Int32.ofNat b2) (Int32.ofNat d2) (Int32.ofNat b0) (Int32.ofNat d0) = 1 := (own_sm1 (own_inj (a := a) hd2 hd0 (by rw [eky2, eky0]; omega)).1 (own_inj (a := a) hd2 hd0 (by rw [eky2, eky0]; omega)).2)
            have hs21 : sp8 (Int32.ofNat b2) (Int32.ofNat d2) (Int32.ofNat b1) (Int32.ofNat d1) = 1 := (own_sm1 (own_inj (a := a) hd2 hd1 (by rw [eky2, eky1]; omega)).1 (own_inj (a := a) hd2 hd1 (by rw [eky2, eky1]; omega)).2)
            have hs30 : sp8 (Int32.ofNat b3) (Int32.ofNat d3) (Int32.ofNat b0) (Int32.ofNat d0) = 0 := (own_sm0 (by omega) (by omega) (by omega) (by omega) (fun z => absurd (show ky3 = ky0 by rw [← eky3, ← eky0, z.1, z.2]) (by omega)))
            have hs31 : sp8 (Int32.ofNat b3) (Int32.ofNat d3) (Int32.ofNat b1) (Int32.ofNat d1) = 0 := (own_sm0 (by omega) (by omega) (by omega) (by omega) (fun z => absurd (show ky3 = ky1 by rw [← eky3, ← eky1, z.1, z.2]) (by omega)))
            have hs32 : sp8 (Int32.ofNat b3) (Int32.ofNat d3) (Int32.ofNat b2) (Int32.ofNat d2) = 0 := (own_sm0 (by omega) (by omega) (by omega) (by omega) (fun z => absurd (show ky3 = ky2 by rw [← eky3, ← eky2, z.1, z.2]) (by omega)))
            exact Jt T53 _ tf1 (0 : Int32) (0 : Int32) (0 : Int32) (1 : Int32) (Int32.ofNat a) (2 : Int32) (2 : Int32) (10 : Int64) (n0 + 4) (n0 + 5) (n0 + 7) _ c34 N33 X53 P53 F34 rfl (by rw [hs10]; decide) (by rw [hs10, hs20, hs21]; decide) (by rw [hs10, hs20, hs21, hs30, hs31, hs32]; decide) (by rw [hs10, hs20, hs21, hs30, hs31, hs32]; decide) (by rw [hs10, hs20, hs21, hs30, hs31, hs32]; decide)
        · refine own_callV (W := 0) X50 hx hZ rfl hown hml.symm (wd42 hw) (wd43 hw) (wd45 hw) (wd44 hw) (wd10 hw) (wd46 hw) (rm_msC1 l Z a0 hw [] n0 tk1 tk2 tk3 tk4 tk5 tk6 kA6 c31 (tC.set ky0 (0 : Int32)) (tS.set ky0 (2 : Int32)) M1 tz0 tz1 b2 a d2 ky2 (4 : Int64) (2 : Int32) (0 : Int32) (0 : Int32) (0 : Int32) _ P50 thk1 thk2 thk3 thk4 thk5 thk6 hkA6 (own_sl htC) (own_sl htS) F31 eky2 (by omega) (by omega) (by rw [own_gs, if_neg (by omega)]; exact hfr ky2)) (a := (n0 + 0)) (P50.exa (i := 0) rfl F31.1) (by decide) (by decide) (by decide) (by decide) (by decide) (argsL := [.int (Int32.ofNat b2), .int (Int32.ofNat d2)]) (rest := []) pd7 rfl rfl rfl (Nat.le_of_eq rfl) (hb hby at_269) (pc' := 272) rfl ?_
          intro v54 T54 L34 X54 hq
          obtain ⟨rfl, N34, c35, F35, P54⟩ := hq
          replace N34 := Fr.app N30 N34
          replace P54 : HP n0 T54.heap [c35, AC tk1 [], AC tk2 [], AC tk3 [], AC tk4 (List.map Value.int ((tC.set ky0 (0 : Int32)).set ky2 (1 : Int32))), AC tk5 (List.map Value.int ((tS.set ky0 (2 : Int32)).set ky2 (2 : Int32))), AC tk6 [.int tz0, .int tz1], AC kA6 [.int (2 : Int32), .int (1 : Int32), .int (0 : Int32), .int (0 : Int32)]] := P54
          rw [show ((4 : Int64) + (1 : Int64)) = (5 : Int64) from by decide] at F35
          replace P54 : HP n0 T54.heap [c35, AC tk1 [], AC tk2 [], AC tk3 [], AC tk4 (List.map Value.int ((tC.set ky0 (0 : Int32)).set ky2 (1 : Int32))), AC tk5 (List.map Value.int ((tS.set ky0 (2 : Int32)).set ky2 (2 : Int32))), AC tk6 [.int tz0, .int tz1], AC kA6 [.int (2 : Int32), .int (1 : Int32), .int (0 : Int32), .int (0 : Int32)]] := P54
          replace F35 : ObjF Z c35 "com/example/protomata/protomata/Partition" fl_C0 [.ref (n0 + 4), .ref (n0 + 5), .ref (n0 + 7), .int (Int32.ofNat a), .int (2 : Int32), .int (2 : Int32), .long (5 : Int64)] := F35
          refine w_istore (l' := #[.val (.int x0), .val (.int x1), .val (.int x2), .val (.int x3), .val (.int x4), .val (.int x5), .val (.int (Int32.ofNat g)), .val (.int (Int32.ofNat a)), .val (.int (Int32.ofNat g1)), .val (.int (Int32.ofNat a1)), .val (.int (Int32.ofNat fb0)), .val (.int (Int32.ofNat fd0)), .val (.int (Int32.ofNat fb1)), .val (.int (Int32.ofNat fd1)), .val (.int (Int32.ofNat b0)), .val (.int (Int32.ofNat d0)), .val (.int (Int32.ofNat b1)), .val (.int (Int32.ofNat d1)), .val (.int (Int32.ofNat b2)), .val (.int (Int32.ofNat d2)), .val (.int (Int32.ofNat b3)), .val (.int (Int32.ofNat d3)), .val (.ref (n0 + 0)), .val (.int (0 : Int32)), .val (.int tf1), .val (.int (1 : Int32)), .val (.int (0 : Int32)), .val (.int (0 : Int32)), .val (.int (1 : Int32)), .unset, .unset, .unset, .unset, .unset, .unset, .unset, .unset, .unset, .unset, .unset, .unset, .unset, .unset, .unset, .unset, .unset, .unset]) X54 hx (hb hby at_272) rfl (pc' := 274) rfl ?_
          refine w_aload X54 hx (hb hby at_274) rfl rfl (pc' := 276) rfl ?_
          refine w_iload X54 hx (hb hby at_276) rfl (pc' := 278) rfl ?_
          refine w_iload X54 hx (hb hby at_278) rfl (pc' := 280) rfl ?_
          by_cases hy30 : ky3 = ky0
          · refine own_callV (W := 0) X54 hx hZ rfl hown hml.symm (wd42 hw) (wd43 hw) (wd45 hw) (wd44 hw) (wd10 hw) (wd46 hw) (rm_htC0 l Z a0 hw [] n0 tk1 tk2 tk3 tk4 tk5 tk6 kA6 c35 ((tC.set ky0 (0 : Int32)).set ky2 (1 : Int32)) ((tS.set ky0 (2 : Int32)).set ky2 (2 : Int32)) M1 tz0 tz1 b3 a d3 ky3 (5 : Int64) (2 : Int32) (1 : Int32) (0 : Int32) (0 : Int32) (2 : Int32) _ P54 thk1 thk2 thk3 thk4 thk5 thk6 hkA6 (own_sl (own_sl htC)) (own_sl (own_sl htS)) F35 eky3 (by omega) (by omega) (by rw [own_gs, if_neg (by omega), own_gs, if_pos ⟨by omega, own_llt htS (by omega)⟩]) (by rw [own_gs, if_neg (by omega), own_gs, if_pos ⟨by omega, own_llt htC (by omega)⟩])) (a := (n0 + 0)) (P54.exa (i := 0) rfl F35.1) (by decide) (by decide) (by decide) (by decide) (by decide) (argsL := [.int (Int32.ofNat b3), .int (Int32.ofNat d3)]) (rest := []) pd7 rfl rfl rfl (Nat.le_of_eq rfl) (hb hby at_280) (pc' := 283) rfl ?_
            intro v55 T55 L35 X55 hq
            obtain ⟨rfl, N35, c36, F36, P55⟩ := hq
            replace N35 := Fr.app N34 N35
            replace P55 : HP n0 T55.heap [c36, AC tk1 [], AC tk2 [], AC tk3 [], AC tk4 (List.map Value.int ((tC.set ky0 (0 : Int32)).set ky2 (1 : Int32))), AC tk5 (List.map Value.int ((tS.set ky0 (2 : Int32)).set ky2 (2 : Int32))), AC tk6 [.int tz0, .int tz1], AC kA6 [.int ((2 : Int32) + (1 : Int32)), .int (1 : Int32), .int (0 : Int32), .int (0 : Int32)]] := P55
            rw [show ((5 : Int64) + (((2 : Int64) * (Int32.toInt64 (2 : Int32))) + (1 : Int64))) = (10 : Int64) from by decide] at F36
            rw [show ((2 : Int32) + (1 : Int32)) = (3 : Int32) from by decide] at P55
            replace P55 : HP n0 T55.heap [c36, AC tk1 [], AC tk2 [], AC tk3 [], AC tk4 (List.map Value.int ((tC.set ky0 (0 : Int32)).set ky2 (1 : Int32))), AC tk5 (List.map Value.int ((tS.set ky0 (2 : Int32)).set ky2 (2 : Int32))), AC tk6 [.int tz0, .int tz1], AC kA6 [.int (3 : Int32), .int (1 : Int32), .int (0 : Int32), .int (0 : Int32)]] := P55
            replace F36 : ObjF Z c36 "com/example/protomata/protomata/Partition" fl_C0 [.ref (n0 + 4), .ref (n0 + 5), .ref (n0 + 7), .int (Int32.ofNat a), .int (2 : Int32), .int (2 : Int32), .long (10 : Int64)] := F36
            refine w_istore (l' := #[.val (.int x0), .val (.int x1), .val (.int x2), .val (.int x3), .val (.int x4), .val (.int x5), .val (.int (Int32.ofNat g)), .val (.int (Int32.ofNat a)), .val (.int (Int32.ofNat g1)), .val (.int (Int32.ofNat a1)), .val (.int (Int32.ofNat fb0)), .val (.int (Int32.ofNat fd0)), .val (.int (Int32.ofNat fb1)), .val (.int (Int32.ofNat fd1)), .val (.int (Int32.ofNat b0)), .val (.int (Int32.ofNat d0)), .val (.int (Int32.ofNat b1)), .val (.int (Int32.ofNat d1)), .val (.int (Int32.ofNat b2)), .val (.int (Int32.ofNat d2)), .val (.int (Int32.ofNat b3)), .val (.int (Int32.ofNat d3)), .val (.ref (n0 + 0)), .val (.int (0 : Int32)), .val (.int tf1), .val (.int (1 : Int32)), .val (.int (0 : Int32)), .val (.int (0 : Int32)), .val (.int (1 : Int32)), .val (.int (0 : Int32)), .unset, .unset, .unset, .unset, .unset, .unset, .unset, .unset, .unset, .unset, .unset, .unset, .unset, .unset, .unset, .unset, .unset]) X55 hx (hb hby at_283) rfl (pc' := 285) rfl ?_
            have hs10 : sp8 (Int32.ofNat b1) (Int32.ofNat d1) (Int32.ofNat b0) (Int32.ofNat d0) = 1 := (own_sm1 (own_inj (a := a) hd1 hd0 (by rw [eky1, eky0]; omega)).1 (own_inj (a := a) hd1 hd0 (by rw [eky1, eky0]; omega)).2)
            have hs20 : sp8 (Int32.ofNat b2) (Int32.ofNat d2) (Int32.ofNat b0) (Int32.ofNat d0) = 0 := (own_sm0 (by omega) (by omega) (by omega) (by omega) (fun z => absurd (show ky2 = ky0 by rw [← eky2, ← eky0, z.1, z.2]) (by omega)))
            have hs21 : sp8 (Int32.ofNat b2) (Int32.ofNat d2) (Int32.ofNat b1) (Int32.ofNat d1) = 0 := (own_sm0 (by omega) (by omega) (by omega) (by omega) (fun z => absurd (show ky2 = ky1 by rw [← eky2, ← eky1, z.1, z.2]) (by omega)))
            have hs30 : sp8 (Int32.ofNat b3) (Int32.ofNat d3) (Int32.ofNat b0) (Int32.ofNat d0) = 1 := (own_sm1 (own_inj (a := a) hd3 hd0 (by rw [eky3, eky0]; omega)).1 (own_inj (a := a) hd3 hd0 (by rw [eky3, eky0]; omega)).2)
            have hs31 : sp8 (Int32.ofNat b3) (Int32.ofNat d3) (Int32.ofNat b1) (Int32.ofNat d1) = 1 := (own_sm1 (own_inj (a := a) hd3 hd1 (by rw [eky3, eky1]; omega)).1 (own_inj (a := a) hd3 hd1 (by rw [eky3, eky1]; omega)).2)
            have hs32 : sp8 (Int32.ofNat b3) (Int32.ofNat d3) (Int32.ofNat b2) (Int32.ofNat d2) = 0 := (own_sm0 (by omega) (by omega) (by omega) (by omega) (fun z => absurd (show ky3 = ky2 by rw [← eky3, ← eky2, z.1, z.2]) (by omega)))
            exact Jt T55 _ tf1 (0 : Int32) (0 : Int32) (1 : Int32) (0 : Int32) (Int32.ofNat a) (2 : Int32) (2 : Int32) (10 : Int64) (n0 + 4) (n0 + 5) (n0 + 7) _ c36 N35 X55 P55 F36 rfl (by rw [hs10]; decide) (by rw [hs10, hs20, hs21]; decide) (by rw [hs10, hs20, hs21, hs30, hs31, hs32]; decide) (by rw [hs10, hs20, hs21, hs30, hs31, hs32]; decide) (by rw [hs10, hs20, hs21, hs30, hs31, hs32]; decide)
          · by_cases hy31 : ky3 = ky2
            · refine own_callV (W := 0) X54 hx hZ rfl hown hml.symm (wd42 hw) (wd43 hw) (wd45 hw) (wd44 hw) (wd10 hw) (wd46 hw) (rm_htC1 l Z a0 hw [] n0 tk1 tk2 tk3 tk4 tk5 tk6 kA6 c35 ((tC.set ky0 (0 : Int32)).set ky2 (1 : Int32)) ((tS.set ky0 (2 : Int32)).set ky2 (2 : Int32)) M1 tz0 tz1 b3 a d3 ky3 (5 : Int64) (2 : Int32) (1 : Int32) (0 : Int32) (0 : Int32) (2 : Int32) _ P54 thk1 thk2 thk3 thk4 thk5 thk6 hkA6 (own_sl (own_sl htC)) (own_sl (own_sl htS)) F35 eky3 (by omega) (by omega) (by rw [own_gs, if_pos ⟨by omega, own_llt (own_sl htS) (by omega)⟩]) (by rw [own_gs, if_pos ⟨by omega, own_llt (own_sl htC) (by omega)⟩])) (a := (n0 + 0)) (P54.exa (i := 0) rfl F35.1) (by decide) (by decide) (by decide) (by decide) (by decide) (argsL := [.int (Int32.ofNat b3), .int (Int32.ofNat d3)]) (rest := []) pd7 rfl rfl rfl (Nat.le_of_eq rfl) (hb hby at_280) (pc' := 283) rfl ?_
              intro v56 T56 L36 X56 hq
              obtain ⟨rfl, N36, c37, F37, P56⟩ := hq
              replace N36 := Fr.app N34 N36
              replace P56 : HP n0 T56.heap [c37, AC tk1 [], AC tk2 [], AC tk3 [], AC tk4 (List.map Value.int ((tC.set ky0 (0 : Int32)).set ky2 (1 : Int32))), AC tk5 (List.map Value.int ((tS.set ky0 (2 : Int32)).set ky2 (2 : Int32))), AC tk6 [.int tz0, .int tz1], AC kA6 [.int (2 : Int32), .int ((1 : Int32) + (1 : Int32)), .int (0 : Int32), .int (0 : Int32)]] := P56
              rw [show ((5 : Int64) + (((2 : Int64) * (Int32.toInt64 (1 : Int32))) + (1 : Int64))) = (8 : Int64) from by decide] at F37
              rw [show ((1 : Int32) + (1 : Int32)) = (2 : Int32) from by decide] at P56
              replace P56 : HP n0 T56.heap [c37, AC tk1 [], AC tk2 [], AC tk3 [], AC tk4 (List.map Value.int ((tC.set ky0 (0 : Int32)).set ky2 (1 : Int32))), AC tk5 (List.map Value.int ((tS.set ky0 (2 : Int32)).set ky2 (2 : Int32))), AC tk6 [.int tz0, .int tz1], AC kA6 [.int (2 : Int32), .int (2 : Int32), .int (0 : Int32), .int (0 : Int32)]] := P56
              replace F37 : ObjF Z c37 "com/example/protomata/protomata/Partition" fl_C0 [.ref (n0 + 4), .ref (n0 + 5), .ref (n0 + 7), .int (Int32.ofNat a), .int (2 : Int32), .int (2 : Int32), .long (8 : Int64)] := F37
              refine w_istore (l' := #[.val (.int x0), .val (.int x1), .val (.int x2), .val (.int x3), .val (.int x4), .val (.int x5), .val (.int (Int32.ofNat g)), .val (.int (Int32.ofNat a)), .val (.int (Int32.ofNat g1)), .val (.int (Int32.ofNat a1)), .val (.int (Int32.ofNat fb0)), .val (.int (Int32.ofNat fd0)), .val (.int (Int32.ofNat fb1)), .val (.int (Int32.ofNat fd1)), .val (.int (Int32.ofNat b0)), .val (.int (Int32.ofNat d0)), .val (.int (Int32.ofNat b1)), .val (.int (Int32.ofNat d1)), .val (.int (Int32.ofNat b2)), .val (.int (Int32.ofNat d2)), .val (.int (Int32.ofNat b3)), .val (.int (Int32.ofNat d3)), .val (.ref (n0 + 0)), .val (.int (0 : Int32)), .val (.int tf1), .val (.int (1 : Int32)), .val (.int (0 : Int32)), .val (.int (0 : Int32)), .val (.int (1 : Int32)), .val (.int (1 : Int32)), .unset, .unset, .unset, .unset, .unset, .unset, .unset, .unset, .unset, .unset, .unset, .unset, .unset, .unset, .unset, .unset, .unset]) X56 hx (hb hby at_283) rfl (pc' := 285) rfl ?_
              have hs10 : sp8 (Int32.ofNat b1) (Int32.ofNat d1) (Int32.ofNat b0) (Int32.ofNat d0) = 1 := (own_sm1 (own_inj (a := a) hd1 hd0 (by rw [eky1, eky0]; omega)).1 (own_inj (a := a) hd1 hd0 (by rw [eky1, eky0]; omega)).2)
              have hs20 : sp8 (Int32.ofNat b2) (Int32.ofNat d2) (Int32.ofNat b0) (Int32.ofNat d0) = 0 := (own_sm0 (by omega) (by omega) (by omega) (by omega) (fun z => absurd (show ky2 = ky0 by rw [← eky2, ← eky0, z.1, z.2]) (by omega)))
              have hs21 : sp8 (Int32.ofNat b2) (Int32.ofNat d2) (Int32.ofNat b1) (Int32.ofNat d1) = 0 := (own_sm0 (by omega) (by omega) (by omega) (by omega) (fun z => absurd (show ky2 = ky1 by rw [← eky2, ← eky1, z.1, z.2]) (by omega)))
              have hs30 : sp8 (Int32.ofNat b3) (Int32.ofNat d3) (Int32.ofNat b0) (Int32.ofNat d0) = 0 := (own_sm0 (by omega) (by omega) (by omega) (by omega) (fun z => absurd (show ky3 = ky0 by rw [← eky3, ← eky0, z.1, z.2]) (by omega)))
              have hs31 : sp8 (Int32.ofNat b3) (Int32.ofNat d3) (Int32.ofNat b1) (Int32.ofNat d1) = 0 := (own_sm0 (by omega) (by omega) (by omega) (by omega) (fun z => absurd (show ky3 = ky1 by rw [← eky3, ← eky1, z.1, z.2]) (by omega)))
              have hs32 : sp8 (Int32.ofNat b3) (Int32.ofNat d3) (Int32.ofNat b2) (Int32.ofNat d2) = 1 := (own_sm1 (own_inj (a := a) hd3 hd2 (by rw [eky3, eky2]; omega)).1 (own_inj (a := a) hd3 hd2 (by rw [eky3, eky2]; omega)).2)
              exact Jt T56 _ tf1 (0 : Int32) (0 : Int32) (1 : Int32) (1 : Int32) (Int32.ofNat a) (2 : Int32) (2 : Int32) (8 : Int64) (n0 + 4) (n0 + 5) (n0 + 7) _ c37 N36 X56 P56 F37 rfl (by rw [hs10]; decide) (by rw [hs10, hs20, hs21]; decide) (by rw [hs10, hs20, hs21, hs30, hs31, hs32]; decide) (by rw [hs10, hs20, hs21, hs30, hs31, hs32]; decide) (by rw [hs10, hs20, hs21, hs30, hs31, hs32]; decide)
            · refine own_callV (W := 0) X54 hx hZ rfl hown hml.symm (wd42 hw) (wd43 hw) (wd45 hw) (wd44 hw) (wd10 hw) (wd46 hw) (rm_msC2 l Z a0 hw [] n0 tk1 tk2 tk3 tk4 tk5 tk6 kA6 c35 ((tC.set ky0 (0 : Int32)).set ky2 (1 : Int32)) ((tS.set ky0 (2 : Int32)).set ky2 (2 : Int32)) M1 tz0 tz1 b3 a d3 ky3 (5 : Int64) (2 : Int32) (1 : Int32) (0 : Int32) (0 : Int32) _ P54 thk1 thk2 thk3 thk4 thk5 thk6 hkA6 (own_sl (own_sl htC)) (own_sl (own_sl htS)) F35 eky3 (by omega) (by omega) (by rw [own_gs, if_neg (by omega), own_gs, if_neg (by omega)]; exact hfr ky3)) (a := (n0 + 0)) (P54.exa (i := 0) rfl F35.1) (by decide) (by decide) (by decide) (by decide) (by decide) (argsL := [.int (Int32.ofNat b3), .int (Int32.ofNat d3)]) (rest := []) pd7 rfl rfl rfl (Nat.le_of_eq rfl) (hb hby at_280) (pc' := 283) rfl ?_
              intro v57 T57 L37 X57 hq
              obtain ⟨rfl, N37, c38, F38, P57⟩ := hq
              replace N37 := Fr.app N34 N37
              replace P57 : HP n0 T57.heap [c38, AC tk1 [], AC tk2 [], AC tk3 [], AC tk4 (List.map Value.int (((tC.set ky0 (0 : Int32)).set ky2 (1 : Int32)).set ky3 (2 : Int32))), AC tk5 (List.map Value.int (((tS.set ky0 (2 : Int32)).set ky2 (2 : Int32)).set ky3 (2 : Int32))), AC tk6 [.int tz0, .int tz1], AC kA6 [.int (2 : Int32), .int (1 : Int32), .int (1 : Int32), .int (0 : Int32)]] := P57
              rw [show ((5 : Int64) + (1 : Int64)) = (6 : Int64) from by decide] at F38
              replace P57 : HP n0 T57.heap [c38, AC tk1 [], AC tk2 [], AC tk3 [], AC tk4 (List.map Value.int (((tC.set ky0 (0 : Int32)).set ky2 (1 : Int32)).set ky3 (2 : Int32))), AC tk5 (List.map Value.int (((tS.set ky0 (2 : Int32)).set ky2 (2 : Int32)).set ky3 (2 : Int32))), AC tk6 [.int tz0, .int tz1], AC kA6 [.int (2 : Int32), .int (1 : Int32), .int (1 : Int32), .int (0 : Int32)]] := P57
              replace F38 : ObjF Z c38 "com/example/protomata/protomata/Partition" fl_C0 [.ref (n0 + 4), .ref (n0 + 5), .ref (n0 + 7), .int (Int32.ofNat a), .int (2 : Int32), .int (3 : Int32), .long (6 : Int64)] := F38
              refine w_istore (l' := #[.val (.int x0), .val (.int x1), .val (.int x2), .val (.int x3), .val (.int x4), .val (.int x5), .val (.int (Int32.ofNat g)), .val (.int (Int32.ofNat a)), .val (.int (Int32.ofNat g1)), .val (.int (Int32.ofNat a1)), .val (.int (Int32.ofNat fb0)), .val (.int (Int32.ofNat fd0)), .val (.int (Int32.ofNat fb1)), .val (.int (Int32.ofNat fd1)), .val (.int (Int32.ofNat b0)), .val (.int (Int32.ofNat d0)), .val (.int (Int32.ofNat b1)), .val (.int (Int32.ofNat d1)), .val (.int (Int32.ofNat b2)), .val (.int (Int32.ofNat d2)), .val (.int (Int32.ofNat b3)), .val (.int (Int32.ofNat d3)), .val (.ref (n0 + 0)), .val (.int (0 : Int32)), .val (.int tf1), .val (.int (1 : Int32)), .val (.int (0 : Int32)), .val (.int (0 : Int32)), .val (.int (1 : Int32)), .val (.int (2 : Int32)), .unset, .unset, .unset, .unset, .unset, .unset, .unset, .unset, .unset, .unset, .unset, .unset, .unset, .unset, .unset, .unset, .unset]) X57 hx (hb hby at_283) rfl (pc' := 285) rfl ?_
              have hs10 : sp8 (Int32.ofNat b1) (Int32.ofNat d1) (Int32.ofNat b0) (Int32.ofNat d0) = 1 := (own_sm1 (own_inj (a := a) hd1 hd0 (by rw [eky1, eky0]; omega)).1 (own_inj (a := a) hd1 hd0 (by rw [eky1, eky0]; omega)).2)
              have hs20 : sp8 (Int32.ofNat b2) (Int32.ofNat d2) (Int32.ofNat b0) (Int32.ofNat d0) = 0 := (own_sm0 (by omega) (by omega) (by omega) (by omega) (fun z => absurd (show ky2 = ky0 by rw [← eky2, ← eky0, z.1, z.2]) (by omega)))
              have hs21 : sp8 (Int32.ofNat b2) (Int32.ofNat d2) (Int32.ofNat b1) (Int32.ofNat d1) = 0 := (own_sm0 (by omega) (by omega) (by omega) (by omega) (fun z => absurd (show ky2 = ky1 by rw [← eky2, ← eky1, z.1, z.2]) (by omega)))
              have hs30 : sp8 (Int32.ofNat b3) (Int32.ofNat d3) (Int32.ofNat b0) (Int32.ofNat d0) = 0 := (own_sm0 (by omega) (by omega) (by omega) (by omega) (fun z => absurd (show ky3 = ky0 by rw [← eky3, ← eky0, z.1, z.2]) (by omega)))
              have hs31 : sp8 (Int32.ofNat b3) (Int32.ofNat d3) (Int32.ofNat b1) (Int32.ofNat d1) = 0 := (own_sm0 (by omega) (by omega) (by omega) (by omega) (fun z => absurd (show ky3 = ky1 by rw [← eky3, ← eky1, z.1, z.2]) (by omega)))
              have hs32 : sp8 (Int32.ofNat b3) (Int32.ofNat d3) (Int32.ofNat b2) (Int32.ofNat d2) = 0 := (own_sm0 (by omega) (by omega) (by omega) (by omega) (fun z => absurd (show ky3 = ky2 by rw [← eky3, ← eky2, z.1, z.2]) (by omega)))
              exact Jt T57 _ tf1 (0 : Int32) (0 : Int32) (1 : Int32) (2 : Int32) (Int32.ofNat a) (2 : Int32) (3 : Int32) (6 : Int64) (n0 + 4) (n0 + 5) (n0 + 7) _ c38 N37 X57 P57 F38 rfl (by rw [hs10]; decide) (by rw [hs10, hs20, hs21]; decide) (by rw [hs10, hs20, hs21, hs30, hs31, hs32]; decide) (by rw [hs10, hs20, hs21, hs30, hs31, hs32]; decide) (by rw [hs10, hs20, hs21, hs30, hs31, hs32]; decide)
      · refine own_callV (W := 0) X49 hx hZ rfl hown hml.symm (wd42 hw) (wd43 hw) (wd45 hw) (wd44 hw) (wd10 hw) (wd46 hw) (rm_msC1 l Z a0 hw [] n0 tk1 tk2 tk3 tk4 tk5 tk6 kA6 c30 (tC.set ky0 (0 : Int32)) (tS.set ky0 (2 : Int32)) M1 tz0 tz1 b1 a d1 ky1 (1 : Int64) (1 : Int32) (0 : Int32) (0 : Int32) (0 : Int32) _ P49 thk1 thk2 thk3 thk4 thk5 thk6 hkA6 (own_sl htC) (own_sl htS) F30 eky1 (by omega) (by omega) (by rw [own_gs, if_neg (by omega)]; exact hfr ky1)) (a := (n0 + 0)) (P49.exa (i := 0) rfl F30.1) (by decide) (by decide) (by decide) (by decide) (by decide) (argsL := [.int (Int32.ofNat b1), .int (Int32.ofNat d1)]) (rest := []) pd7 rfl rfl rfl (Nat.le_of_eq rfl) (hb hby at_258) (pc' := 261) rfl ?_
        intro v58 T58 L38 X58 hq
        obtain ⟨rfl, N38, c39, F39, P58⟩ := hq
        replace N38 := Fr.app N29 N38
        replace P58 : HP n0 T58.heap [c39, AC tk1 [], AC tk2 [], AC tk3 [], AC tk4 (List.map Value.int ((tC.set ky0 (0 : Int32)).set ky1 (1 : Int32))), AC tk5 (List.map Value.int ((tS.set ky0 (2 : Int32)).set ky1 (2 : Int32))), AC tk6 [.int tz0, .int tz1], AC kA6 [.int (1 : Int32), .int (1 : Int32), .int (0 : Int32), .int (0 : Int32)]] := P58
        rw [show ((1 : Int64) + (1 : Int64)) = (2 : Int64) from by decide] at F39
        replace P58 : HP n0 T58.heap [c39, AC tk1 [], AC tk2 [], AC tk3 [], AC tk4 (List.map Value.int ((tC.set ky0 (0 : Int32)).set ky1 (1 : Int32))), AC tk5 (List.map Value.int ((tS.set ky0 (2 : Int32)).set ky1 (2 : Int32))), AC tk6 [.int tz0, .int tz1], AC kA6 [.int (1 : Int32), .int (1 : Int32), .int (0 : Int32), .int (0 : Int32)]] := P58
        replace F39 : ObjF Z c39 "com/example/protomata/protomata/Partition" fl_C0 [.ref (n0 + 4), .ref (n0 + 5), .ref (n0 + 7), .int (Int32.ofNat a), .int (2 : Int32), .int (2 : Int32), .long (2 : Int64)] := F39
        refine w_istore (l' := #[.val (.int x0), .val (.int x1), .val (.int x2), .val (.int x3), .val (.int x4), .val (.int x5), .val (.int (Int32.ofNat g)), .val (.int (Int32.ofNat a)), .val (.int (Int32.ofNat g1)), .val (.int (Int32.ofNat a1)), .val (.int (Int32.ofNat fb0)), .val (.int (Int32.ofNat fd0)), .val (.int (Int32.ofNat fb1)), .val (.int (Int32.ofNat fd1)), .val (.int (Int32.ofNat b0)), .val (.int (Int32.ofNat d0)), .val (.int (Int32.ofNat b1)), .val (.int (Int32.ofNat d1)), .val (.int (Int32.ofNat b2)), .val (.int (Int32.ofNat d2)), .val (.int (Int32.ofNat b3)), .val (.int (Int32.ofNat d3)), .val (.ref (n0 + 0)), .val (.int (0 : Int32)), .val (.int tf1), .val (.int (1 : Int32)), .val (.int (0 : Int32)), .val (.int (1 : Int32)), .unset, .unset, .unset, .unset, .unset, .unset, .unset, .unset, .unset, .unset, .unset, .unset, .unset, .unset, .unset, .unset, .unset, .unset, .unset]) X58 hx (hb hby at_261) rfl (pc' := 263) rfl ?_
        refine w_aload X58 hx (hb hby at_263) rfl rfl (pc' := 265) rfl ?_
        refine w_iload X58 hx (hb hby at_265) rfl (pc' := 267) rfl ?_
        refine w_iload X58 hx (hb hby at_267) rfl (pc' := 269) rfl ?_
        by_cases hy20 : ky2 = ky0
        · refine own_callV (W := 0) X58 hx hZ rfl hown hml.symm (wd42 hw) (wd43 hw) (wd45 hw) (wd44 hw) (wd10 hw) (wd46 hw) (rm_htC0 l Z a0 hw [] n0 tk1 tk2 tk3 tk4 tk5 tk6 kA6 c39 ((tC.set ky0 (0 : Int32)).set ky1 (1 : Int32)) ((tS.set ky0 (2 : Int32)).set ky1 (2 : Int32)) M1 tz0 tz1 b2 a d2 ky2 (2 : Int64) (1 : Int32) (1 : Int32) (0 : Int32) (0 : Int32) (2 : Int32) _ P58 thk1 thk2 thk3 thk4 thk5 thk6 hkA6 (own_sl (own_sl htC)) (own_sl (own_sl htS)) F39 eky2 (by omega) (by omega) (by rw [own_gs, if_neg (by omega), own_gs, if_pos ⟨by omega, own_llt htS (by omega)⟩]) (by rw [own_gs, if_neg (by omega), own_gs, if_pos ⟨by omega, own_llt htC (by omega)⟩])) (a := (n0 + 0)) (P58.exa (i := 0) rfl F39.1) (by decide) (by decide) (by decide) (by decide) (by decide) (argsL := [.int (Int32.ofNat b2), .int (Int32.ofNat d2)]) (rest := []) pd7 rfl rfl rfl (Nat.le_of_eq rfl) (hb hby at_269) (pc' := 272) rfl ?_
          intro v59 T59 L39 X59 hq
          obtain ⟨rfl, N39, c40, F40, P59⟩ := hq
          replace N39 := Fr.app N38 N39
          replace P59 : HP n0 T59.heap [c40, AC tk1 [], AC tk2 [], AC tk3 [], AC tk4 (List.map Value.int ((tC.set ky0 (0 : Int32)).set ky1 (1 : Int32))), AC tk5 (List.map Value.int ((tS.set ky0 (2 : Int32)).set ky1 (2 : Int32))), AC tk6 [.int tz0, .int tz1], AC kA6 [.int ((1 : Int32) + (1 : Int32)), .int (1 : Int32), .int (0 : Int32), .int (0 : Int32)]] := P59
          rw [show ((2 : Int64) + (((2 : Int64) * (Int32.toInt64 (1 : Int32))) + (1 : Int64))) = (5 : Int64) from by decide] at F40
          rw [show ((1 : Int32) + (1 : Int32)) = (2 : Int32) from by decide] at P59
          replace P59 : HP n0 T59.heap [c40, AC tk1 [], AC tk2 [], AC tk3 [], AC tk4 (List.map Value.int ((tC.set ky0 (0 : Int32)).set ky1 (1 : Int32))), AC tk5 (List.map Value.int ((tS.set ky0 (2 : Int32)).set ky1 (2 : Int32))), AC tk6 [.int tz0, .int tz1], AC kA6 [.int (2 : Int32), .int (1 : Int32), .int (0 : Int32), .int (0 : Int32)]] := P59
          replace F40 : ObjF Z c40 "com/example/protomata/protomata/Partition" fl_C0 [.ref (n0 + 4), .ref (n0 + 5), .ref (n0 + 7), .int (Int32.ofNat a), .int (2 : Int32), .int (2 : Int32), .long (5 : Int64)] := F40
          refine w_istore (l' := #[.val (.int x0), .val (.int x1), .val (.int x2), .val (.int x3), .val (.int x4), .val (.int x5), .val (.int (Int32.ofNat g)), .val (.int (Int32.ofNat a)), .val (.int (Int32.ofNat g1)), .val (.int (Int32.ofNat a1)), .val (.int (Int32.ofNat fb0)), .val (.int (Int32.ofNat fd0)), .val (.int (Int32.ofNat fb1)), .val (.int (Int32.ofNat fd1)), .val (.int (Int32.ofNat b0)), .val (.int (Int32.ofNat d0)), .val (.int (Int32.ofNat b1)), .val (.int (Int32.ofNat d1)), .val (.int (Int32.ofNat b2)), .val (.int (Int32.ofNat d2)), .val (.int (Int32.ofNat b3)), .val (.int (Int32.ofNat d3)), .val (.ref (n0 + 0)), .val (.int (0 : Int32)), .val (.int tf1), .val (.int (1 : Int32)), .val (.int (0 : Int32)), .val (.int (1 : Int32)), .val (.int (0 : Int32)), .unset, .unset, .unset, .unset, .unset, .unset, .unset, .unset, .unset, .unset, .unset, .unset, .unset, .unset, .unset, .unset, .unset, .unset]) X59 hx (hb hby at_272) rfl (pc' := 274) rfl ?_
          refine w_aload X59 hx (hb hby at_274) rfl rfl (pc' := 276) rfl ?_
          refine w_iload X59 hx (hb hby at_276) rfl (pc' := 278) rfl ?_
          refine w_iload X59 hx (hb hby at_278) rfl (pc' := 280) rfl ?_
          by_cases hy30 : ky3 = ky0
          · refine own_callV (W := 0) X59 hx hZ rfl hown hml.symm (wd42 hw) (wd43 hw) (wd45 hw) (wd44 hw) (wd10 hw) (wd46 hw) (rm_htC0 l Z a0 hw [] n0 tk1 tk2 tk3 tk4 tk5 tk6 kA6 c40 ((tC.set ky0 (0 : Int32)).set ky1 (1 : Int32)) ((tS.set ky0 (2 : Int32)).set ky1 (2 : Int32)) M1 tz0 tz1 b3 a d3 ky3 (5 : Int64) (2 : Int32) (1 : Int32) (0 : Int32) (0 : Int32) (2 : Int32) _ P59 thk1 thk2 thk3 thk4 thk5 thk6 hkA6 (own_sl (own_sl htC)) (own_sl (own_sl htS)) F40 eky3 (by omega) (by omega) (by rw [own_gs, if_neg (by omega), own_gs, if_pos ⟨by omega, own_llt htS (by omega)⟩]) (by rw [own_gs, if_neg (by omega), own_gs, if_pos ⟨by omega, own_llt htC (by omega)⟩])) (a := (n0 + 0)) (P59.exa (i := 0) rfl F40.1) (by decide) (by decide) (by decide) (by decide) (by decide) (argsL := [.int (Int32.ofNat b3), .int (Int32.ofNat d3)]) (rest := []) pd7 rfl rfl rfl (Nat.le_of_eq rfl) (hb hby at_280) (pc' := 283) rfl ?_
            intro v60 T60 L40 X60 hq
            obtain ⟨rfl, N40, c41, F41, P60⟩ := hq
            replace N40 := Fr.app N39 N40
            replace P60 : HP n0 T60.heap [c41, AC tk1 [], AC tk2 [], AC tk3 [], AC tk4 (List.map Value.int ((tC.set ky0 (0 : Int32)).set ky1 (1 : Int32))), AC tk5 (List.map Value.int ((tS.set ky0 (2 : Int32)).set ky1 (2 : Int32))), AC tk6 [.int tz0, .int tz1], AC kA6 [.int ((2 : Int32) + (1 : Int32)), .int (1 : Int32), .int (0 : Int32), .int (0 : Int32)]] := P60
            rw [show ((5 : Int64) + (((2 : Int64) * (Int32.toInt64 (2 : Int32))) + (1 : Int64))) = (10 : Int64) from by decide] at F41
            rw [show ((2 : Int32) + (1 : Int32)) = (3 : Int32) from by decide] at P60
            replace P60 : HP n0 T60.heap [c41, AC tk1 [], AC tk2 [], AC tk3 [], AC tk4 (List.map Value.int ((tC.set ky0 (0 : Int32)).set ky1 (1 : Int32))), AC tk5 (List.map Value.int ((tS.set ky0 (2 : Int32)).set ky1 (2 : Int32))), AC tk6 [.int tz0, .int tz1], AC kA6 [.int (3 : Int32), .int (1 : Int32), .int (0 : Int32), .int (0 : Int32)]] := P60
            replace F41 : ObjF Z c41 "com/example/protomata/protomata/Partition" fl_C0 [.ref (n0 + 4), .ref (n0 + 5), .ref (n0 + 7), .int (Int32.ofNat a), .int (2 : Int32), .int (2 : Int32), .long (10 : Int64)] := F41
            refine w_istore (l' := #[.val (.int x0), .val (.int x1), .val (.int x2), .val (.int x3), .val (.int x4), .val (.int x5), .val (.int (Int32.ofNat g)), .val (.int (Int32.ofNat a)), .val (.int (Int32.ofNat g1)), .val (.int (Int32.ofNat a1)), .val (.int (Int32.ofNat fb0)), .val (.int (Int32.ofNat fd0)), .val (.int (Int32.ofNat fb1)), .val (.int (Int32.ofNat fd1)), .val (.int (Int32.ofNat b0)), .val (.int (Int32.ofNat d0)), .val (.int (Int32.ofNat b1)), .val (.int (Int32.ofNat d1)), .val (.int (Int32.ofNat b2)), .val (.int (Int32.ofNat d2)), .val (.int (Int32.ofNat b3)), .val (.int (Int32.ofNat d3)), .val (.ref (n0 + 0)), .val (.int (0 : Int32)), .val (.int tf1), .val (.int (1 : Int32)), .val (.int (0 : Int32)), .val (.int (1 : Int32)), .val (.int (0 : Int32)), .val (.int (0 : Int32)), .unset, .unset, .unset, .unset, .unset, .unset, .unset, .unset, .unset, .unset, .unset, .unset, .unset, .unset, .unset, .unset, .unset]) X60 hx (hb hby at_283) rfl (pc' := 285) rfl ?_
            have hs10 : sp8 (Int32.ofNat b1) (Int32.ofNat d1) (Int32.ofNat b0) (Int32.ofNat d0) = 0 := (own_sm0 (by omega) (by omega) (by omega) (by omega) (fun z => absurd (show ky1 = ky0 by rw [← eky1, ← eky0, z.1, z.2]) (by omega)))
            have hs20 : sp8 (Int32.ofNat b2) (Int32.ofNat d2) (Int32.ofNat b0) (Int32.ofNat d0) = 1 := (own_sm1 (own_inj (a := a) hd2 hd0 (by rw [eky2, eky0]; omega)).1 (own_inj (a := a) hd2 hd0 (by rw [eky2, eky0]; omega)).2)
            have hs21 : sp8 (Int32.ofNat b2) (Int32.ofNat d2) (Int32.ofNat b1) (Int32.ofNat d1) = 0 := (own_sm0 (by omega) (by omega) (by omega) (by omega) (fun z => absurd (show ky2 = ky1 by rw [← eky2, ← eky1, z.1, z.2]) (by omega)))
            have hs30 : sp8 (Int32.ofNat b3) (Int32.ofNat d3) (Int32.ofNat b0) (Int32.ofNat d0) = 1 := (own_sm1 (own_inj (a := a) hd3 hd0 (by rw [eky3, eky0]; omega)).1 (own_inj (a := a) hd3 hd0 (by rw [eky3, eky0]; omega)).2)
            have hs31 : sp8 (Int32.ofNat b3) (Int32.ofNat d3) (Int32.ofNat b1) (Int32.ofNat d1) = 0 := (own_sm0 (by omega) (by omega) (by omega) (by omega) (fun z => absurd (show ky3 = ky1 by rw [← eky3, ← eky1, z.1, z.2]) (by omega)))
            have hs32 : sp8 (Int32.ofNat b3) (Int32.ofNat d3) (Int32.ofNat b2) (Int32.ofNat d2) = 1 := (own_sm1 (own_inj (a := a) hd3 hd2 (by rw [eky3, eky2]; omega)).1 (own_inj (a := a) hd3 hd2 (by rw [eky3, eky2]; omega)).2)
            exact Jt T60 _ tf1 (0 : Int32) (1 : Int32) (0 : Int32) (0 : Int32) (Int32.ofNat a) (2 : Int32) (2 : Int32) (10 : Int64) (n0 + 4) (n0 + 5) (n0 + 7) _ c41 N40 X60 P60 F41 rfl (by rw [hs10]; decide) (by rw [hs10, hs20, hs21]; decide) (by rw [hs10, hs20, hs21, hs30, hs31, hs32]; decide) (by rw [hs10, hs20, hs21, hs30, hs31, hs32]; decide) (by rw [hs10, hs20, hs21, hs30, hs31, hs32]; decide)
          · by_cases hy31 : ky3 = ky1
            · refine own_callV (W := 0) X59 hx hZ rfl hown hml.symm (wd42 hw) (wd43 hw) (wd45 hw) (wd44 hw) (wd10 hw) (wd46 hw) (rm_htC1 l Z a0 hw [] n0 tk1 tk2 tk3 tk4 tk5 tk6 kA6 c40 ((tC.set ky0 (0 : Int32)).set ky1 (1 : Int32)) ((tS.set ky0 (2 : Int32)).set ky1 (2 : Int32)) M1 tz0 tz1 b3 a d3 ky3 (5 : Int64) (2 : Int32) (1 : Int32) (0 : Int32) (0 : Int32) (2 : Int32) _ P59 thk1 thk2 thk3 thk4 thk5 thk6 hkA6 (own_sl (own_sl htC)) (own_sl (own_sl htS)) F40 eky3 (by omega) (by omega) (by rw [own_gs, if_pos ⟨by omega, own_llt (own_sl htS) (by omega)⟩]) (by rw [own_gs, if_pos ⟨by omega, own_llt (own_sl htC) (by omega)⟩])) (a := (n0 + 0)) (P59.exa (i := 0) rfl F40.1) (by decide) (by decide) (by decide) (by decide) (by decide) (argsL := [.int (Int32.ofNat b3), .int (Int32.ofNat d3)]) (rest := []) pd7 rfl rfl rfl (Nat.le_of_eq rfl) (hb hby at_280) (pc' := 283) rfl ?_
              intro v61 T61 L41 X61 hq
              obtain ⟨rfl, N41, c42, F42, P61⟩ := hq
              replace N41 := Fr.app N39 N41
              replace P61 : HP n0 T61.heap [c42, AC tk1 [], AC tk2 [], AC tk3 [], AC tk4 (List.map Value.int ((tC.set ky0 (0 : Int32)).set ky1 (1 : Int32))), AC tk5 (List.map Value.int ((tS.set ky0 (2 : Int32)).set ky1 (2 : Int32))), AC tk6 [.int tz0, .int tz1], AC kA6 [.int (2 : Int32), .int ((1 : Int32) + (1 : Int32)), .int (0 : Int32), .int (0 : Int32)]] := P61
              rw [show ((5 : Int64) + (((2 : Int64) * (Int32.toInt64 (1 : Int32))) + (1 : Int64))) = (8 : Int64) from by decide] at F42
              rw [show ((1 : Int32) + (1 : Int32)) = (2 : Int32) from by decide] at P61
              replace P61 : HP n0 T61.heap [c42, AC tk1 [], AC tk2 [], AC tk3 [], AC tk4 (List.map Value.int ((tC.set ky0 (0 : Int32)).set ky1 (1 : Int32))), AC tk5 (List.map Value.int ((tS.set ky0 (2 : Int32)).set ky1 (2 : Int32))), AC tk6 [.int tz0, .int tz1], AC kA6 [.int (2 : Int32), .int (2 : Int32), .int (0 : Int32), .int (0 : Int32)]] := P61
              replace F42 : ObjF Z c42 "com/example/protomata/protomata/Partition" fl_C0 [.ref (n0 + 4), .ref (n0 + 5), .ref (n0 + 7), .int (Int32.ofNat a), .int (2 : Int32), .int (2 : Int32), .long (8 : Int64)] := F42
              refine w_istore (l' := #[.val (.int x0), .val (.int x1), .val (.int x2), .val (.int x3), .val (.int x4), .val (.int x5), .val (.int (Int32.ofNat g)), .val (.int (Int32.ofNat a)), .val (.int (Int32.ofNat g1)), .val (.int (Int32.ofNat a1)), .val (.int (Int32.ofNat fb0)), .val (.int (Int32.ofNat fd0)), .val (.int (Int32.ofNat fb1)), .val (.int (Int32.ofNat fd1)), .val (.int (Int32.ofNat b0)), .val (.int (Int32.ofNat d0)), .val (.int (Int32.ofNat b1)), .val (.int (Int32.ofNat d1)), .val (.int (Int32.ofNat b2)), .val (.int (Int32.ofNat d2)), .val (.int (Int32.ofNat b3)), .val (.int (Int32.ofNat d3)), .val (.ref (n0 + 0)), .val (.int (0 : Int32)), .val (.int tf1), .val (.int (1 : Int32)), .val (.int (0 : Int32)), .val (.int (1 : Int32)), .val (.int (0 : Int32)), .val (.int (1 : Int32)), .unset, .unset, .unset, .unset, .unset, .unset, .unset, .unset, .unset, .unset, .unset, .unset, .unset, .unset, .unset, .unset, .unset]) X61 hx (hb hby at_283) rfl (pc' := 285) rfl ?_
              have hs10 : sp8 (Int32.ofNat b1) (Int32.ofNat d1) (Int32.ofNat b0) (Int32.ofNat d0) = 0 := (own_sm0 (by omega) (by omega) (by omega) (by omega) (fun z => absurd (show ky1 = ky0 by rw [← eky1, ← eky0, z.1, z.2]) (by omega)))
              have hs20 : sp8 (Int32.ofNat b2) (Int32.ofNat d2) (Int32.ofNat b0) (Int32.ofNat d0) = 1 := (own_sm1 (own_inj (a := a) hd2 hd0 (by rw [eky2, eky0]; omega)).1 (own_inj (a := a) hd2 hd0 (by rw [eky2, eky0]; omega)).2)
              have hs21 : sp8 (Int32.ofNat b2) (Int32.ofNat d2) (Int32.ofNat b1) (Int32.ofNat d1) = 0 := (own_sm0 (by omega) (by omega) (by omega) (by omega) (fun z => absurd (show ky2 = ky1 by rw [← eky2, ← eky1, z.1, z.2]) (by omega)))
              have hs30 : sp8 (Int32.ofNat b3) (Int32.ofNat d3) (Int32.ofNat b0) (Int32.ofNat d0) = 0 := (own_sm0 (by omega) (by omega) (by omega) (by omega) (fun z => absurd (show ky3 = ky0 by rw [← eky3, ← eky0, z.1, z.2]) (by omega)))
              have hs31 : sp8 (Int32.ofNat b3) (Int32.ofNat d3) (Int32.ofNat b1) (Int32.ofNat d1) = 1 := (own_sm1 (own_inj (a := a) hd3 hd1 (by rw [eky3, eky1]; omega)).1 (own_inj (a := a) hd3 hd1 (by rw [eky3, eky1]; omega)).2)
              have hs32 : sp8 (Int32.ofNat b3) (Int32.ofNat d3) (Int32.ofNat b2) (Int32.ofNat d2) = 0 := (own_sm0 (by omega) (by omega) (by omega) (by omega) (fun z => absurd (show ky3 = ky2 by rw [← eky3, ← eky2, z.1, z.2]) (by omega)))
              exact Jt T61 _ tf1 (0 : Int32) (1 : Int32) (0 : Int32) (1 : Int32) (Int32.ofNat a) (2 : Int32) (2 : Int32) (8 : Int64) (n0 + 4) (n0 + 5) (n0 + 7) _ c42 N41 X61 P61 F42 rfl (by rw [hs10]; decide) (by rw [hs10, hs20, hs21]; decide) (by rw [hs10, hs20, hs21, hs30, hs31, hs32]; decide) (by rw [hs10, hs20, hs21, hs30, hs31, hs32]; decide) (by rw [hs10, hs20, hs21, hs30, hs31, hs32]; decide)
            · refine own_callV (W := 0) X59 hx hZ rfl hown hml.symm (wd42 hw) (wd43 hw) (wd45 hw) (wd44 hw) (wd10 hw) (wd46 hw) (rm_msC2 l Z a0 hw [] n0 tk1 tk2 tk3 tk4 tk5 tk6 kA6 c40 ((tC.set ky0 (0 : Int32)).set ky1 (1 : Int32)) ((tS.set ky0 (2 : Int32)).set ky1 (2 : Int32)) M1 tz0 tz1 b3 a d3 ky3 (5 : Int64) (2 : Int32) (1 : Int32) (0 : Int32) (0 : Int32) _ P59 thk1 thk2 thk3 thk4 thk5 thk6 hkA6 (own_sl (own_sl htC)) (own_sl (own_sl htS)) F40 eky3 (by omega) (by omega) (by rw [own_gs, if_neg (by omega), own_gs, if_neg (by omega)]; exact hfr ky3)) (a := (n0 + 0)) (P59.exa (i := 0) rfl F40.1) (by decide) (by decide) (by decide) (by decide) (by decide) (argsL := [.int (Int32.ofNat b3), .int (Int32.ofNat d3)]) (rest := []) pd7 rfl rfl rfl (Nat.le_of_eq rfl) (hb hby at_280) (pc' := 283) rfl ?_
              intro v62 T62 L42 X62 hq
              obtain ⟨rfl, N42, c43, F43, P62⟩ := hq
              replace N42 := Fr.app N39 N42
              replace P62 : HP n0 T62.heap [c43, AC tk1 [], AC tk2 [], AC tk3 [], AC tk4 (List.map Value.int (((tC.set ky0 (0 : Int32)).set ky1 (1 : Int32)).set ky3 (2 : Int32))), AC tk5 (List.map Value.int (((tS.set ky0 (2 : Int32)).set ky1 (2 : Int32)).set ky3 (2 : Int32))), AC tk6 [.int tz0, .int tz1], AC kA6 [.int (2 : Int32), .int (1 : Int32), .int (1 : Int32), .int (0 : Int32)]] := P62
              rw [show ((5 : Int64) + (1 : Int64)) = (6 : Int64) from by decide] at F43
              replace P62 : HP n0 T62.heap [c43, AC tk1 [], AC tk2 [], AC tk3 [], AC tk4 (List.map Value.int (((tC.set ky0 (0 : Int32)).set ky1 (1 : Int32)).set ky3 (2 : Int32))), AC tk5 (List.map Value.int (((tS.set ky0 (2 : Int32)).set ky1 (2 : Int32)).set ky3 (2 : Int32))), AC tk6 [.int tz0, .int tz1], AC kA6 [.int (2 : Int32), .int (1 : Int32), .int (1 : Int32), .int (0 : Int32)]] := P62
              replace F43 : ObjF Z c43 "com/example/protomata/protomata/Partition" fl_C0 [.ref (n0 + 4), .ref (n0 + 5), .ref (n0 + 7), .int (Int32.ofNat a), .int (2 : Int32), .int (3 : Int32), .long (6 : Int64)] := F43
              refine w_istore (l' := #[.val (.int x0), .val (.int x1), .val (.int x2), .val (.int x3), .val (.int x4), .val (.int x5), .val (.int (Int32.ofNat g)), .val (.int (Int32.ofNat a)), .val (.int (Int32.ofNat g1)), .val (.int (Int32.ofNat a1)), .val (.int (Int32.ofNat fb0)), .val (.int (Int32.ofNat fd0)), .val (.int (Int32.ofNat fb1)), .val (.int (Int32.ofNat fd1)), .val (.int (Int32.ofNat b0)), .val (.int (Int32.ofNat d0)), .val (.int (Int32.ofNat b1)), .val (.int (Int32.ofNat d1)), .val (.int (Int32.ofNat b2)), .val (.int (Int32.ofNat d2)), .val (.int (Int32.ofNat b3)), .val (.int (Int32.ofNat d3)), .val (.ref (n0 + 0)), .val (.int (0 : Int32)), .val (.int tf1), .val (.int (1 : Int32)), .val (.int (0 : Int32)), .val (.int (1 : Int32)), .val (.int (0 : Int32)), .val (.int (2 : Int32)), .unset, .unset, .unset, .unset, .unset, .unset, .unset, .unset, .unset, .unset, .unset, .unset, .unset, .unset, .unset, .unset, .unset]) X62 hx (hb hby at_283) rfl (pc' := 285) rfl ?_
              have hs10 : sp8 (Int32.ofNat b1) (Int32.ofNat d1) (Int32.ofNat b0) (Int32.ofNat d0) = 0 := (own_sm0 (by omega) (by omega) (by omega) (by omega) (fun z => absurd (show ky1 = ky0 by rw [← eky1, ← eky0, z.1, z.2]) (by omega)))
              have hs20 : sp8 (Int32.ofNat b2) (Int32.ofNat d2) (Int32.ofNat b0) (Int32.ofNat d0) = 1 := (own_sm1 (own_inj (a := a) hd2 hd0 (by rw [eky2, eky0]; omega)).1 (own_inj (a := a) hd2 hd0 (by rw [eky2, eky0]; omega)).2)
              have hs21 : sp8 (Int32.ofNat b2) (Int32.ofNat d2) (Int32.ofNat b1) (Int32.ofNat d1) = 0 := (own_sm0 (by omega) (by omega) (by omega) (by omega) (fun z => absurd (show ky2 = ky1 by rw [← eky2, ← eky1, z.1, z.2]) (by omega)))
              have hs30 : sp8 (Int32.ofNat b3) (Int32.ofNat d3) (Int32.ofNat b0) (Int32.ofNat d0) = 0 := (own_sm0 (by omega) (by omega) (by omega) (by omega) (fun z => absurd (show ky3 = ky0 by rw [← eky3, ← eky0, z.1, z.2]) (by omega)))
              have hs31 : sp8 (Int32.ofNat b3) (Int32.ofNat d3) (Int32.ofNat b1) (Int32.ofNat d1) = 0 := (own_sm0 (by omega) (by omega) (by omega) (by omega) (fun z => absurd (show ky3 = ky1 by rw [← eky3, ← eky1, z.1, z.2]) (by omega)))
              have hs32 : sp8 (Int32.ofNat b3) (Int32.ofNat d3) (Int32.ofNat b2) (Int32.ofNat d2) = 0 := (own_sm0 (by omega) (by omega) (by omega) (by omega) (fun z => absurd (show ky3 = ky2 by rw [← eky3, ← eky2, z.1, z.2]) (by omega)))
              exact Jt T62 _ tf1 (0 : Int32) (1 : Int32) (0 : Int32) (2 : Int32) (Int32.ofNat a) (2 : Int32) (3 : Int32) (6 : Int64) (n0 + 4) (n0 + 5) (n0 + 7) _ c43 N42 X62 P62 F43 rfl (by rw [hs10]; decide) (by rw [hs10, hs20, hs21]; decide) (by rw [hs10, hs20, hs21, hs30, hs31, hs32]; decide) (by rw [hs10, hs20, hs21, hs30, hs31, hs32]; decide) (by rw [hs10, hs20, hs21, hs30, hs31, hs32]; decide)
        · by_cases hy21 : ky2 = ky1
          · refine own_callV (W := 0) X58 hx hZ rfl hown hml.symm (wd42 hw) (wd43 hw) (wd45 hw) (wd44 hw) (wd10 hw) (wd46 hw) (rm_htC1 l Z a0 hw [] n0 tk1 tk2 tk3 tk4 tk5 tk6 kA6 c39 ((tC.set ky0 (0 : Int32)).set ky1 (1 : Int32)) ((tS.set ky0 (2 : Int32)).set ky1 (2 : Int32)) M1 tz0 tz1 b2 a d2 ky2 (2 : Int64) (1 : Int32) (1 : Int32) (0 : Int32) (0 : Int32) (2 : Int32) _ P58 thk1 thk2 thk3 thk4 thk5 thk6 hkA6 (own_sl (own_sl htC)) (own_sl (own_sl htS)) F39 eky2 (by omega) (by omega) (by rw [own_gs, if_pos ⟨by omega, own_llt (own_sl htS) (by omega)⟩]) (by rw [own_gs, if_pos ⟨by omega, own_llt (own_sl htC) (by omega)⟩])) (a := (n0 + 0)) (P58.exa (i := 0) rfl F39.1) (by decide) (by decide) (by decide) (by decide) (by decide) (argsL := [.int (Int32.ofNat b2), .int (Int32.ofNat d2)]) (rest := []) pd7 rfl rfl rfl (Nat.le_of_eq rfl) (hb hby at_269) (pc' := 272) rfl ?_
            intro v63 T63 L43 X63 hq
            obtain ⟨rfl, N43, c44, F44, P63⟩ := hq
            replace N43 := Fr.app N38 N43
            replace P63 : HP n0 T63.heap [c44, AC tk1 [], AC tk2 [], AC tk3 [], AC tk4 (List.map Value.int ((tC.set ky0 (0 : Int32)).set ky1 (1 : Int32))), AC tk5 (List.map Value.int ((tS.set ky0 (2 : Int32)).set ky1 (2 : Int32))), AC tk6 [.int tz0, .int tz1], AC kA6 [.int (1 : Int32), .int ((1 : Int32) + (1 : Int32)), .int (0 : Int32), .int (0 : Int32)]] := P63
            rw [show ((2 : Int64) + (((2 : Int64) * (Int32.toInt64 (1 : Int32))) + (1 : Int64))) = (5 : Int64) from by decide] at F44
            rw [show ((1 : Int32) + (1 : Int32)) = (2 : Int32) from by decide] at P63
            replace P63 : HP n0 T63.heap [c44, AC tk1 [], AC tk2 [], AC tk3 [], AC tk4 (List.map Value.int ((tC.set ky0 (0 : Int32)).set ky1 (1 : Int32))), AC tk5 (List.map Value.int ((tS.set ky0 (2 : Int32)).set ky1 (2 : Int32))), AC tk6 [.int tz0, .int tz1], AC kA6 [.int (1 : Int32), .int (2 : Int32), .int (0 : Int32), .int (0 : Int32)]] := P63
            replace F44 : ObjF Z c44 "com/example/protomata/protomata/Partition" fl_C0 [.ref (n0 + 4), .ref (n0 + 5), .ref (n0 + 7), .int (Int32.ofNat a), .int (2 : Int32), .int (2 : Int32), .long (5 : Int64)] := F44
            refine w_istore (l' := #[.val (.int x0), .val (.int x1), .val (.int x2), .val (.int x3), .val (.int x4), .val (.int x5), .val (.int (Int32.ofNat g)), .val (.int (Int32.ofNat a)), .val (.int (Int32.ofNat g1)), .val (.int (Int32.ofNat a1)), .val (.int (Int32.ofNat fb0)), .val (.int (Int32.ofNat fd0)), .val (.int (Int32.ofNat fb1)), .val (.int (Int32.ofNat fd1)), .val (.int (Int32.ofNat b0)), .val (.int (Int32.ofNat d0)), .val (.int (Int32.ofNat b1)), .val (.int (Int32.ofNat d1)), .val (.int (Int32.ofNat b2)), .val (.int (Int32.ofNat d2)), .val (.int (Int32.ofNat b3)), .val (.int (Int32.ofNat d3)), .val (.ref (n0 + 0)), .val (.int (0 : Int32)), .val (.int tf1), .val (.int (1 : Int32)), .val (.int (0 : Int32)), .val (.int (1 : Int32)), .val (.int (1 : Int32)), .unset, .unset, .unset, .unset, .unset, .unset, .unset, .unset, .unset, .unset, .unset, .unset, .unset, .unset, .unset, .unset, .unset, .unset]) X63 hx (hb hby at_272) rfl (pc' := 274) rfl ?_
            refine w_aload X63 hx (hb hby at_274) rfl rfl (pc' := 276) rfl ?_
            refine w_iload X63 hx (hb hby at_276) rfl (pc' := 278) rfl ?_
            refine w_iload X63 hx (hb hby at_278) rfl (pc' := 280) rfl ?_
            by_cases hy30 : ky3 = ky0
            · refine own_callV (W := 0) X63 hx hZ rfl hown hml.symm (wd42 hw) (wd43 hw) (wd45 hw) (wd44 hw) (wd10 hw) (wd46 hw) (rm_htC0 l Z a0 hw [] n0 tk1 tk2 tk3 tk4 tk5 tk6 kA6 c44 ((tC.set ky0 (0 : Int32)).set ky1 (1 : Int32)) ((tS.set ky0 (2 : Int32)).set ky1 (2 : Int32)) M1 tz0 tz1 b3 a d3 ky3 (5 : Int64) (1 : Int32) (2 : Int32) (0 : Int32) (0 : Int32) (2 : Int32) _ P63 thk1 thk2 thk3 thk4 thk5 thk6 hkA6 (own_sl (own_sl htC)) (own_sl (own_sl htS)) F44 eky3 (by omega) (by omega) (by rw [own_gs, if_neg (by omega), own_gs, if_pos ⟨by omega, own_llt htS (by omega)⟩]) (by rw [own_gs, if_neg (by omega), own_gs, if_pos ⟨by omega, own_llt htC (by omega)⟩])) (a := (n0 + 0)) (P63.exa (i := 0) rfl F44.1) (by decide) (by decide) (by decide) (by decide) (by decide) (argsL := [.int (Int32.ofNat b3), .int (Int32.ofNat d3)]) (rest := []) pd7 rfl rfl rfl (Nat.le_of_eq rfl) (hb hby at_280) (pc' := 283) rfl ?_
              intro v64 T64 L44 X64 hq
              obtain ⟨rfl, N44, c45, F45, P64⟩ := hq
              replace N44 := Fr.app N43 N44
              replace P64 : HP n0 T64.heap [c45, AC tk1 [], AC tk2 [], AC tk3 [], AC tk4 (List.map Value.int ((tC.set ky0 (0 : Int32)).set ky1 (1 : Int32))), AC tk5 (List.map Value.int ((tS.set ky0 (2 : Int32)).set ky1 (2 : Int32))), AC tk6 [.int tz0, .int tz1], AC kA6 [.int ((1 : Int32) + (1 : Int32)), .int (2 : Int32), .int (0 : Int32), .int (0 : Int32)]] := P64
              rw [show ((5 : Int64) + (((2 : Int64) * (Int32.toInt64 (1 : Int32))) + (1 : Int64))) = (8 : Int64) from by decide] at F45
              rw [show ((1 : Int32) + (1 : Int32)) = (2 : Int32) from by decide] at P64
              replace P64 : HP n0 T64.heap [c45, AC tk1 [], AC tk2 [], AC tk3 [], AC tk4 (List.map Value.int ((tC.set ky0 (0 : Int32)).set ky1 (1 : Int32))), AC tk5 (List.map Value.int ((tS.set ky0 (2 : Int32)).set ky1 (2 : Int32))), AC tk6 [.int tz0, .int tz1], AC kA6 [.int (2 : Int32), .int (2 : Int32), .int (0 : Int32), .int (0 : Int32)]] := P64
              replace F45 : ObjF Z c45 "com/example/protomata/protomata/Partition" fl_C0 [.ref (n0 + 4), .ref (n0 + 5), .ref (n0 + 7), .int (Int32.ofNat a), .int (2 : Int32), .int (2 : Int32), .long (8 : Int64)] := F45
              refine w_istore (l' := #[.val (.int x0), .val (.int x1), .val (.int x2), .val (.int x3), .val (.int x4), .val (.int x5), .val (.int (Int32.ofNat g)), .val (.int (Int32.ofNat a)), .val (.int (Int32.ofNat g1)), .val (.int (Int32.ofNat a1)), .val (.int (Int32.ofNat fb0)), .val (.int (Int32.ofNat fd0)), .val (.int (Int32.ofNat fb1)), .val (.int (Int32.ofNat fd1)), .val (.int (Int32.ofNat b0)), .val (.int (Int32.ofNat d0)), .val (.int (Int32.ofNat b1)), .val (.int (Int32.ofNat d1)), .val (.int (Int32.ofNat b2)), .val (.int (Int32.ofNat d2)), .val (.int (Int32.ofNat b3)), .val (.int (Int32.ofNat d3)), .val (.ref (n0 + 0)), .val (.int (0 : Int32)), .val (.int tf1), .val (.int (1 : Int32)), .val (.int (0 : Int32)), .val (.int (1 : Int32)), .val (.int (1 : Int32)), .val (.int (0 : Int32)), .unset, .unset, .unset, .unset, .unset, .unset, .unset, .unset, .unset, .unset, .unset, .unset, .unset, .unset, .unset, .unset, .unset]) X64 hx (hb hby at_283) rfl (pc' := 285) rfl ?_
              have hs10 : sp8 (Int32.ofNat b1) (Int32.ofNat d1) (Int32.ofNat b0) (Int32.ofNat d0) = 0 := (own_sm0 (by omega) (by omega) (by omega) (by omega) (fun z => absurd (show ky1 = ky0 by rw [← eky1, ← eky0, z.1, z.2]) (by omega)))
              have hs20 : sp8 (Int32.ofNat b2) (Int32.ofNat d2) (Int32.ofNat b0) (Int32.ofNat d0) = 0 := (own_sm0 (by omega) (by omega) (by omega) (by omega) (fun z => absurd (show ky2 = ky0 by rw [← eky2, ← eky0, z.1, z.2]) (by omega)))
              have hs21 : sp8 (Int32.ofNat b2) (Int32.ofNat d2) (Int32.ofNat b1) (Int32.ofNat d1) = 1 := (own_sm1 (own_inj (a := a) hd2 hd1 (by rw [eky2, eky1]; omega)).1 (own_inj (a := a) hd2 hd1 (by rw [eky2, eky1]; omega)).2)
              have hs30 : sp8 (Int32.ofNat b3) (Int32.ofNat d3) (Int32.ofNat b0) (Int32.ofNat d0) = 1 := (own_sm1 (own_inj (a := a) hd3 hd0 (by rw [eky3, eky0]; omega)).1 (own_inj (a := a) hd3 hd0 (by rw [eky3, eky0]; omega)).2)
              have hs31 : sp8 (Int32.ofNat b3) (Int32.ofNat d3) (Int32.ofNat b1) (Int32.ofNat d1) = 0 := (own_sm0 (by omega) (by omega) (by omega) (by omega) (fun z => absurd (show ky3 = ky1 by rw [← eky3, ← eky1, z.1, z.2]) (by omega)))
              have hs32 : sp8 (Int32.ofNat b3) (Int32.ofNat d3) (Int32.ofNat b2) (Int32.ofNat d2) = 0 := (own_sm0 (by omega) (by omega) (by omega) (by omega) (fun z => absurd (show ky3 = ky2 by rw [← eky3, ← eky2, z.1, z.2]) (by omega)))
              exact Jt T64 _ tf1 (0 : Int32) (1 : Int32) (1 : Int32) (0 : Int32) (Int32.ofNat a) (2 : Int32) (2 : Int32) (8 : Int64) (n0 + 4) (n0 + 5) (n0 + 7) _ c45 N44 X64 P64 F45 rfl (by rw [hs10]; decide) (by rw [hs10, hs20, hs21]; decide) (by rw [hs10, hs20, hs21, hs30, hs31, hs32]; decide) (by rw [hs10, hs20, hs21, hs30, hs31, hs32]; decide) (by rw [hs10, hs20, hs21, hs30, hs31, hs32]; decide)
            · by_cases hy31 : ky3 = ky1
              · refine own_callV (W := 0) X63 hx hZ rfl hown hml.symm (wd42 hw) (wd43 hw) (wd45 hw) (wd44 hw) (wd10 hw) (wd46 hw) (rm_htC1 l Z a0 hw [] n0 tk1 tk2 tk3 tk4 tk5 tk6 kA6 c44 ((tC.set ky0 (0 : Int32)).set ky1 (1 : Int32)) ((tS.set ky0 (2 : Int32)).set ky1 (2 : Int32)) M1 tz0 tz1 b3 a d3 ky3 (5 : Int64) (1 : Int32) (2 : Int32) (0 : Int32) (0 : Int32) (2 : Int32) _ P63 thk1 thk2 thk3 thk4 thk5 thk6 hkA6 (own_sl (own_sl htC)) (own_sl (own_sl htS)) F44 eky3 (by omega) (by omega) (by rw [own_gs, if_pos ⟨by omega, own_llt (own_sl htS) (by omega)⟩]) (by rw [own_gs, if_pos ⟨by omega, own_llt (own_sl htC) (by omega)⟩])) (a := (n0 + 0)) (P63.exa (i := 0) rfl F44.1) (by decide) (by decide) (by decide) (by decide) (by decide) (argsL := [.int (Int32.ofNat b3), .int (Int32.ofNat d3)]) (rest := []) pd7 rfl rfl rfl (Nat.le_of_eq rfl) (hb hby at_280) (pc' := 283) rfl ?_
                intro v65 T65 L45 X65 hq
                obtain ⟨rfl, N45, c46, F46, P65⟩ := hq
                replace N45 := Fr.app N43 N45
                replace P65 : HP n0 T65.heap [c46, AC tk1 [], AC tk2 [], AC tk3 [], AC tk4 (List.map Value.int ((tC.set ky0 (0 : Int32)).set ky1 (1 : Int32))), AC tk5 (List.map Value.int ((tS.set ky0 (2 : Int32)).set ky1 (2 : Int32))), AC tk6 [.int tz0, .int tz1], AC kA6 [.int (1 : Int32), .int ((2 : Int32) + (1 : Int32)), .int (0 : Int32), .int (0 : Int32)]] := P65
                rw [show ((5 : Int64) + (((2 : Int64) * (Int32.toInt64 (2 : Int32))) + (1 : Int64))) = (10 : Int64) from by decide] at F46
                rw [show ((2 : Int32) + (1 : Int32)) = (3 : Int32) from by decide] at P65
                replace P65 : HP n0 T65.heap [c46, AC tk1 [], AC tk2 [], AC tk3 [], AC tk4 (List.map Value.int ((tC.set ky0 (0 : Int32)).set ky1 (1 : Int32))), AC tk5 (List.map Value.int ((tS.set ky0 (2 : Int32)).set ky1 (2 : Int32))), AC tk6 [.int tz0, .int tz1], AC kA6 [.int (1 : Int32), .int (3 : Int32), .int (0 : Int32), .int (0 : Int32)]] := P65
                replace F46 : ObjF Z c46 "com/example/protomata/protomata/Partition" fl_C0 [.ref (n0 + 4), .ref (n0 + 5), .ref (n0 + 7), .int (Int32.ofNat a), .int (2 : Int32), .int (2 : Int32), .long (10 : Int64)] := F46
                refine w_istore (l' := #[.val (.int x0), .val (.int x1), .val (.int x2), .val (.int x3), .val (.int x4), .val (.int x5), .val (.int (Int32.ofNat g)), .val (.int (Int32.ofNat a)), .val (.int (Int32.ofNat g1)), .val (.int (Int32.ofNat a1)), .val (.int (Int32.ofNat fb0)), .val (.int (Int32.ofNat fd0)), .val (.int (Int32.ofNat fb1)), .val (.int (Int32.ofNat fd1)), .val (.int (Int32.ofNat b0)), .val (.int (Int32.ofNat d0)), .val (.int (Int32.ofNat b1)), .val (.int (Int32.ofNat d1)), .val (.int (Int32.ofNat b2)), .val (.int (Int32.ofNat d2)), .val (.int (Int32.ofNat b3)), .val (.int (Int32.ofNat d3)), .val (.ref (n0 + 0)), .val (.int (0 : Int32)), .val (.int tf1), .val (.int (1 : Int32)), .val (.int (0 : Int32)), .val (.int (1 : Int32)), .val (.int (1 : Int32)), .val (.int (1 : Int32)), .unset, .unset, .unset, .unset, .unset, .unset, .unset, .unset, .unset, .unset, .unset, .unset, .unset, .unset, .unset, .unset, .unset]) X65 hx (hb hby at_283) rfl (pc' := 285) rfl ?_
                have hs10 : sp8 (Int32.ofNat b1) (Int32.ofNat d1) (Int32.ofNat b0) (Int32.ofNat d0) = 0 := (own_sm0 (by omega) (by omega) (by omega) (by omega) (fun z => absurd (show ky1 = ky0 by rw [← eky1, ← eky0, z.1, z.2]) (by omega)))
                have hs20 : sp8 (Int32.ofNat b2) (Int32.ofNat d2) (Int32.ofNat b0) (Int32.ofNat d0) = 0 := (own_sm0 (by omega) (by omega) (by omega) (by omega) (fun z => absurd (show ky2 = ky0 by rw [← eky2, ← eky0, z.1, z.2]) (by omega)))
                have hs21 : sp8 (Int32.ofNat b2) (Int32.ofNat d2) (Int32.ofNat b1) (Int32.ofNat d1) = 1 := (own_sm1 (own_inj (a := a) hd2 hd1 (by rw [eky2, eky1]; omega)).1 (own_inj (a := a) hd2 hd1 (by rw [eky2, eky1]; omega)).2)
                have hs30 : sp8 (Int32.ofNat b3) (Int32.ofNat d3) (Int32.ofNat b0) (Int32.ofNat d0) = 0 := (own_sm0 (by omega) (by omega) (by omega) (by omega) (fun z => absurd (show ky3 = ky0 by rw [← eky3, ← eky0, z.1, z.2]) (by omega)))
                have hs31 : sp8 (Int32.ofNat b3) (Int32.ofNat d3) (Int32.ofNat b1) (Int32.ofNat d1) = 1 := (own_sm1 (own_inj (a := a) hd3 hd1 (by rw [eky3, eky1]; omega)).1 (own_inj (a := a) hd3 hd1 (by rw [eky3, eky1]; omega)).2)
                have hs32 : sp8 (Int32.ofNat b3) (Int32.ofNat d3) (Int32.ofNat b2) (Int32.ofNat d2) = 1 := (own_sm1 (own_inj (a := a) hd3 hd2 (by rw [eky3, eky2]; omega)).1 (own_inj (a := a) hd3 hd2 (by rw [eky3, eky2]; omega)).2)
                exact Jt T65 _ tf1 (0 : Int32) (1 : Int32) (1 : Int32) (1 : Int32) (Int32.ofNat a) (2 : Int32) (2 : Int32) (10 : Int64) (n0 + 4) (n0 + 5) (n0 + 7) _ c46 N45 X65 P65 F46 rfl (by rw [hs10]; decide) (by rw [hs10, hs20, hs21]; decide) (by rw [hs10, hs20, hs21, hs30, hs31, hs32]; decide) (by rw [hs10, hs20, hs21, hs30, hs31, hs32]; decide) (by rw [hs10, hs20, hs21, hs30, hs31, hs32]; decide)
              · refine own_callV (W := 0) X63 hx hZ rfl hown hml.symm (wd42 hw) (wd43 hw) (wd45 hw) (wd44 hw) (wd10 hw) (wd46 hw) (rm_msC2 l Z a0 hw [] n0 tk1 tk2 tk3 tk4 tk5 tk6 kA6 c44 ((tC.set ky0 (0 : Int32)).set ky1 (1 : Int32)) ((tS.set ky0 (2 : Int32)).set ky1 (2 : Int32)) M1 tz0 tz1 b3 a d3 ky3 (5 : Int64) (1 : Int32) (2 : Int32) (0 : Int32) (0 : Int32) _ P63 thk1 thk2 thk3 thk4 thk5 thk6 hkA6 (own_sl (own_sl htC)) (own_sl (own_sl htS)) F44 eky3 (by omega) (by omega) (by rw [own_gs, if_neg (by omega), own_gs, if_neg (by omega)]; exact hfr ky3)) (a := (n0 + 0)) (P63.exa (i := 0) rfl F44.1) (by decide) (by decide) (by decide) (by decide) (by decide) (argsL := [.int (Int32.ofNat b3), .int (Int32.ofNat d3)]) (rest := []) pd7 rfl rfl rfl (Nat.le_of_eq rfl) (hb hby at_280) (pc' := 283) rfl ?_
                intro v66 T66 L46 X66 hq
                obtain ⟨rfl, N46, c47, F47, P66⟩ := hq
                replace N46 := Fr.app N43 N46
                replace P66 : HP n0 T66.heap [c47, AC tk1 [], AC tk2 [], AC tk3 [], AC tk4 (List.map Value.int (((tC.set ky0 (0 : Int32)).set ky1 (1 : Int32)).set ky3 (2 : Int32))), AC tk5 (List.map Value.int (((tS.set ky0 (2 : Int32)).set ky1 (2 : Int32)).set ky3 (2 : Int32))), AC tk6 [.int tz0, .int tz1], AC kA6 [.int (1 : Int32), .int (2 : Int32), .int (1 : Int32), .int (0 : Int32)]] := P66
                rw [show ((5 : Int64) + (1 : Int64)) = (6 : Int64) from by decide] at F47
                replace P66 : HP n0 T66.heap [c47, AC tk1 [], AC tk2 [], AC tk3 [], AC tk4 (List.map Value.int (((tC.set ky0 (0 : Int32)).set ky1 (1 : Int32)).set ky3 (2 : Int32))), AC tk5 (List.map Value.int (((tS.set ky0 (2 : Int32)).set ky1 (2 : Int32)).set ky3 (2 : Int32))), AC tk6 [.int tz0, .int tz1], AC kA6 [.int (1 : Int32), .int (2 : Int32), .int (1 : Int32), .int (0 : Int32)]] := P66
                replace F47 : ObjF Z c47 "com/example/protomata/protomata/Partition" fl_C0 [.ref (n0 + 4), .ref (n0 + 5), .ref (n0 + 7), .int (Int32.ofNat a), .int (2 : Int32), .int (3 : Int32), .long (6 : Int64)] := F47
                refine w_istore (l' := #[.val (.int x0), .val (.int x1), .val (.int x2), .val (.int x3), .val (.int x4), .val (.int x5), .val (.int (Int32.ofNat g)), .val (.int (Int32.ofNat a)), .val (.int (Int32.ofNat g1)), .val (.int (Int32.ofNat a1)), .val (.int (Int32.ofNat fb0)), .val (.int (Int32.ofNat fd0)), .val (.int (Int32.ofNat fb1)), .val (.int (Int32.ofNat fd1)), .val (.int (Int32.ofNat b0)), .val (.int (Int32.ofNat d0)), .val (.int (Int32.ofNat b1)), .val (.int (Int32.ofNat d1)), .val (.int (Int32.ofNat b2)), .val (.int (Int32.ofNat d2)), .val (.int (Int32.ofNat b3)), .val (.int (Int32.ofNat d3)), .val (.ref (n0 + 0)), .val (.int (0 : Int32)), .val (.int tf1), .val (.int (1 : Int32)), .val (.int (0 : Int32)), .val (.int (1 : Int32)), .val (.int (1 : Int32)), .val (.int (2 : Int32)), .unset, .unset, .unset, .unset, .unset, .unset, .unset, .unset, .unset, .unset, .unset, .unset, .unset, .unset, .unset, .unset, .unset]) X66 hx (hb hby at_283) rfl (pc' := 285) rfl ?_
                have hs10 : sp8 (Int32.ofNat b1) (Int32.ofNat d1) (Int32.ofNat b0) (Int32.ofNat d0) = 0 := (own_sm0 (by omega) (by omega) (by omega) (by omega) (fun z => absurd (show ky1 = ky0 by rw [← eky1, ← eky0, z.1, z.2]) (by omega)))
                have hs20 : sp8 (Int32.ofNat b2) (Int32.ofNat d2) (Int32.ofNat b0) (Int32.ofNat d0) = 0 := (own_sm0 (by omega) (by omega) (by omega) (by omega) (fun z => absurd (show ky2 = ky0 by rw [← eky2, ← eky0, z.1, z.2]) (by omega)))
                have hs21 : sp8 (Int32.ofNat b2) (Int32.ofNat d2) (Int32.ofNat b1) (Int32.ofNat d1) = 1 := (own_sm1 (own_inj (a := a) hd2 hd1 (by rw [eky2, eky1]; omega)).1 (own_inj (a := a) hd2 hd1 (by rw [eky2, eky1]; omega)).2)
                have hs30 : sp8 (Int32.ofNat b3) (Int32.ofNat d3) (Int32.ofNat b0) (Int32.ofNat d0) = 0 := (own_sm0 (by omega) (by omega) (by omega) (by omega) (fun z => absurd (show ky3 = ky0 by rw [← eky3, ← eky0, z.1, z.2]) (by omega)))
                have hs31 : sp8 (Int32.ofNat b3) (Int32.ofNat d3) (Int32.ofNat b1) (Int32.ofNat d1) = 0 := (own_sm0 (by omega) (by omega) (by omega) (by omega) (fun z => absurd (show ky3 = ky1 by rw [← eky3, ← eky1, z.1, z.2]) (by omega)))
                have hs32 : sp8 (Int32.ofNat b3) (Int32.ofNat d3) (Int32.ofNat b2) (Int32.ofNat d2) = 0 := (own_sm0 (by omega) (by omega) (by omega) (by omega) (fun z => absurd (show ky3 = ky2 by rw [← eky3, ← eky2, z.1, z.2]) (by omega)))
                exact Jt T66 _ tf1 (0 : Int32) (1 : Int32) (1 : Int32) (2 : Int32) (Int32.ofNat a) (2 : Int32) (3 : Int32) (6 : Int64) (n0 + 4) (n0 + 5) (n0 + 7) _ c47 N46 X66 P66 F47 rfl (by rw [hs10]; decide) (by rw [hs10, hs20, hs21]; decide) (by rw [hs10, hs20, hs21, hs30, hs31, hs32]; decide) (by rw [hs10, hs20, hs21, hs30, hs31, hs32]; decide) (by rw [hs10, hs20, hs21, hs30, hs31, hs32]; decide)
          · refine own_callV (W := 0) X58 hx hZ rfl hown hml.symm (wd42 hw) (wd43 hw) (wd45 hw) (wd44 hw) (wd10 hw) (wd46 hw) (rm_msC2 l Z a0 hw [] n0 tk1 tk2 tk3 tk4 tk5 tk6 kA6 c39 ((tC.set ky0 (0 : Int32)).set ky1 (1 : Int32)) ((tS.set ky0 (2 : Int32)).set ky1 (2 : Int32)) M1 tz0 tz1 b2 a d2 ky2 (2 : Int64) (1 : Int32) (1 : Int32) (0 : Int32) (0 : Int32) _ P58 thk1 thk2 thk3 thk4 thk5 thk6 hkA6 (own_sl (own_sl htC)) (own_sl (own_sl htS)) F39 eky2 (by omega) (by omega) (by rw [own_gs, if_neg (by omega), own_gs, if_neg (by omega)]; exact hfr ky2)) (a := (n0 + 0)) (P58.exa (i := 0) rfl F39.1) (by decide) (by decide) (by decide) (by decide) (by decide) (argsL := [.int (Int32.ofNat b2), .int (Int32.ofNat d2)]) (rest := []) pd7 rfl rfl rfl (Nat.le_of_eq rfl) (hb hby at_269) (pc' := 272) rfl ?_
            intro v67 T67 L47 X67 hq
            obtain ⟨rfl, N47, c48, F48, P67⟩ := hq
            replace N47 := Fr.app N38 N47
            replace P67 : HP n0 T67.heap [c48, AC tk1 [], AC tk2 [], AC tk3 [], AC tk4 (List.map Value.int (((tC.set ky0 (0 : Int32)).set ky1 (1 : Int32)).set ky2 (2 : Int32))), AC tk5 (List.map Value.int (((tS.set ky0 (2 : Int32)).set ky1 (2 : Int32)).set ky2 (2 : Int32))), AC tk6 [.int tz0, .int tz1], AC kA6 [.int (1 : Int32), .int (1 : Int32), .int (1 : Int32), .int (0 : Int32)]] := P67
            rw [show ((2 : Int64) + (1 : Int64)) = (3 : Int64) from by decide] at F48
            replace P67 : HP n0 T67.heap [c48, AC tk1 [], AC tk2 [], AC tk3 [], AC tk4 (List.map Value.int (((tC.set ky0 (0 : Int32)).set ky1 (1 : Int32)).set ky2 (2 : Int32))), AC tk5 (List.map Value.int (((tS.set ky0 (2 : Int32)).set ky1 (2 : Int32)).set ky2 (2 : Int32))), AC tk6 [.int tz0, .int tz1], AC kA6 [.int (1 : Int32), .int (1 : Int32), .int (1 : Int32), .int (0 : Int32)]] := P67
            replace F48 : ObjF Z c48 "com/example/protomata/protomata/Partition" fl_C0 [.ref (n0 + 4), .ref (n0 + 5), .ref (n0 + 7), .int (Int32.ofNat a), .int (2 : Int32), .int (3 : Int32), .long (3 : Int64)] := F48
            refine w_istore (l' := #[.val (.int x0), .val (.int x1), .val (.int x2), .val (.int x3), .val (.int x4), .val (.int x5), .val (.int (Int32.ofNat g)), .val (.int (Int32.ofNat a)), .val (.int (Int32.ofNat g1)), .val (.int (Int32.ofNat a1)), .val (.int (Int32.ofNat fb0)), .val (.int (Int32.ofNat fd0)), .val (.int (Int32.ofNat fb1)), .val (.int (Int32.ofNat fd1)), .val (.int (Int32.ofNat b0)), .val (.int (Int32.ofNat d0)), .val (.int (Int32.ofNat b1)), .val (.int (Int32.ofNat d1)), .val (.int (Int32.ofNat b2)), .val (.int (Int32.ofNat d2)), .val (.int (Int32.ofNat b3)), .val (.int (Int32.ofNat d3)), .val (.ref (n0 + 0)), .val (.int (0 : Int32)), .val (.int tf1), .val (.int (1 : Int32)), .val (.int (0 : Int32)), .val (.int (1 : Int32)), .val (.int (2 : Int32)), .unset, .unset, .unset, .unset, .unset, .unset, .unset, .unset, .unset, .unset, .unset, .unset, .unset, .unset, .unset, .unset, .unset, .unset]) X67 hx (hb hby at_272) rfl (pc' := 274) rfl ?_
            refine w_aload X67 hx (hb hby at_274) rfl rfl (pc' := 276) rfl ?_
            refine w_iload X67 hx (hb hby at_276) rfl (pc' := 278) rfl ?_
            refine w_iload X67 hx (hb hby at_278) rfl (pc' := 280) rfl ?_
            by_cases hy30 : ky3 = ky0
            · refine own_callV (W := 0) X67 hx hZ rfl hown hml.symm (wd42 hw) (wd43 hw) (wd45 hw) (wd44 hw) (wd10 hw) (wd46 hw) (rm_htC0 l Z a0 hw [] n0 tk1 tk2 tk3 tk4 tk5 tk6 kA6 c48 (((tC.set ky0 (0 : Int32)).set ky1 (1 : Int32)).set ky2 (2 : Int32)) (((tS.set ky0 (2 : Int32)).set ky1 (2 : Int32)).set ky2 (2 : Int32)) M1 tz0 tz1 b3 a d3 ky3 (3 : Int64) (1 : Int32) (1 : Int32) (1 : Int32) (0 : Int32) (3 : Int32) _ P67 thk1 thk2 thk3 thk4 thk5 thk6 hkA6 (own_sl (own_sl (own_sl htC))) (own_sl (own_sl (own_sl htS))) F48 eky3 (by omega) (by omega) (by rw [own_gs, if_neg (by omega), own_gs, if_neg (by omega), own_gs, if_pos ⟨by omega, own_llt htS (by omega)⟩]) (by rw [own_gs, if_neg (by omega), own_gs, if_neg (by omega), own_gs, if_pos ⟨by omega, own_llt htC (by omega)⟩])) (a := (n0 + 0)) (P67.exa (i := 0) rfl F48.1) (by decide) (by decide) (by decide) (by decide) (by decide) (argsL := [.int (Int32.ofNat b3), .int (Int32.ofNat d3)]) (rest := []) pd7 rfl rfl rfl (Nat.le_of_eq rfl) (hb hby at_280) (pc' := 283) rfl ?_
              intro v68 T68 L48 X68 hq
              obtain ⟨rfl, N48, c49, F49, P68⟩ := hq
              replace N48 := Fr.app N47 N48
              replace P68 : HP n0 T68.heap [c49, AC tk1 [], AC tk2 [], AC tk3 [], AC tk4 (List.map Value.int (((tC.set ky0 (0 : Int32)).set ky1 (1 : Int32)).set ky2 (2 : Int32))), AC tk5 (List.map Value.int (((tS.set ky0 (2 : Int32)).set ky1 (2 : Int32)).set ky2 (2 : Int32))), AC tk6 [.int tz0, .int tz1], AC kA6 [.int ((1 : Int32) + (1 : Int32)), .int (1 : Int32), .int (1 : Int32), .int (0 : Int32)]] := P68
              rw [show ((3 : Int64) + (((2 : Int64) * (Int32.toInt64 (1 : Int32))) + (1 : Int64))) = (6 : Int64) from by decide] at F49
              rw [show ((1 : Int32) + (1 : Int32)) = (2 : Int32) from by decide] at P68
              replace P68 : HP n0 T68.heap [c49, AC tk1 [], AC tk2 [], AC tk3 [], AC tk4 (List.map Value.int (((tC.set ky0 (0 : Int32)).set ky1 (1 : Int32)).set ky2 (2 : Int32))), AC tk5 (List.map Value.int (((tS.set ky0 (2 : Int32)).set ky1 (2 : Int32)).set ky2 (2 : Int32))), AC tk6 [.int tz0, .int tz1], AC kA6 [.int (2 : Int32), .int (1 : Int32), .int (1 : Int32), .int (0 : Int32)]] := P68
              replace F49 : ObjF Z c49 "com/example/protomata/protomata/Partition" fl_C0 [.ref (n0 + 4), .ref (n0 + 5), .ref (n0 + 7), .int (Int32.ofNat a), .int (2 : Int32), .int (3 : Int32), .long (6 : Int64)] := F49
              refine w_istore (l' := #[.val (.int x0), .val (.int x1), .val (.int x2), .val (.int x3), .val (.int x4), .val (.int x5), .val (.int (Int32.ofNat g)), .val (.int (Int32.ofNat a)), .val (.int (Int32.ofNat g1)), .val (.int (Int32.ofNat a1)), .val (.int (Int32.ofNat fb0)), .val (.int (Int32.ofNat fd0)), .val (.int (Int32.ofNat fb1)), .val (.int (Int32.ofNat fd1)), .val (.int (Int32.ofNat b0)), .val (.int (Int32.ofNat d0)), .val (.int (Int32.ofNat b1)), .val (.int (Int32.ofNat d1)), .val (.int (Int32.ofNat b2)), .val (.int (Int32.ofNat d2)), .val (.int (Int32.ofNat b3)), .val (.int (Int32.ofNat d3)), .val (.ref (n0 + 0)), .val (.int (0 : Int32)), .val (.int tf1), .val (.int (1 : Int32)), .val (.int (0 : Int32)), .val (.int (1 : Int32)), .val (.int (2 : Int32)), .val (.int (0 : Int32)), .unset, .unset, .unset, .unset, .unset, .unset, .unset, .unset, .unset, .unset, .unset, .unset, .unset, .unset, .unset, .unset, .unset]) X68 hx (hb hby at_283) rfl (pc' := 285) rfl ?_
              have hs10 : sp8 (Int32.ofNat b1) (Int32.ofNat d1) (Int32.ofNat b0) (Int32.ofNat d0) = 0 := (own_sm0 (by omega) (by omega) (by omega) (by omega) (fun z => absurd (show ky1 = ky0 by rw [← eky1, ← eky0, z.1, z.2]) (by omega)))
              have hs20 : sp8 (Int32.ofNat b2) (Int32.ofNat d2) (Int32.ofNat b0) (Int32.ofNat d0) = 0 := (own_sm0 (by omega) (by omega) (by omega) (by omega) (fun z => absurd (show ky2 = ky0 by rw [← eky2, ← eky0, z.1, z.2]) (by omega)))
              have hs21 : sp8 (Int32.ofNat b2) (Int32.ofNat d2) (Int32.ofNat b1) (Int32.ofNat d1) = 0 := (own_sm0 (by omega) (by omega) (by omega) (by omega) (fun z => absurd (show ky2 = ky1 by rw [← eky2, ← eky1, z.1, z.2]) (by omega)))
              have hs30 : sp8 (Int32.ofNat b3) (Int32.ofNat d3) (Int32.ofNat b0) (Int32.ofNat d0) = 1 := (own_sm1 (own_inj (a := a) hd3 hd0 (by rw [eky3, eky0]; omega)).1 (own_inj (a := a) hd3 hd0 (by rw [eky3, eky0]; omega)).2)
              have hs31 : sp8 (Int32.ofNat b3) (Int32.ofNat d3) (Int32.ofNat b1) (Int32.ofNat d1) = 0 := (own_sm0 (by omega) (by omega) (by omega) (by omega) (fun z => absurd (show ky3 = ky1 by rw [← eky3, ← eky1, z.1, z.2]) (by omega)))
              have hs32 : sp8 (Int32.ofNat b3) (Int32.ofNat d3) (Int32.ofNat b2) (Int32.ofNat d2) = 0 := (own_sm0 (by omega) (by omega) (by omega) (by omega) (fun z => absurd (show ky3 = ky2 by rw [← eky3, ← eky2, z.1, z.2]) (by omega)))
              exact Jt T68 _ tf1 (0 : Int32) (1 : Int32) (2 : Int32) (0 : Int32) (Int32.ofNat a) (2 : Int32) (3 : Int32) (6 : Int64) (n0 + 4) (n0 + 5) (n0 + 7) _ c49 N48 X68 P68 F49 rfl (by rw [hs10]; decide) (by rw [hs10, hs20, hs21]; decide) (by rw [hs10, hs20, hs21, hs30, hs31, hs32]; decide) (by rw [hs10, hs20, hs21, hs30, hs31, hs32]; decide) (by rw [hs10, hs20, hs21, hs30, hs31, hs32]; decide)
            · by_cases hy31 : ky3 = ky1
              · refine own_callV (W := 0) X67 hx hZ rfl hown hml.symm (wd42 hw) (wd43 hw) (wd45 hw) (wd44 hw) (wd10 hw) (wd46 hw) (rm_htC1 l Z a0 hw [] n0 tk1 tk2 tk3 tk4 tk5 tk6 kA6 c48 (((tC.set ky0 (0 : Int32)).set ky1 (1 : Int32)).set ky2 (2 : Int32)) (((tS.set ky0 (2 : Int32)).set ky1 (2 : Int32)).set ky2 (2 : Int32)) M1 tz0 tz1 b3 a d3 ky3 (3 : Int64) (1 : Int32) (1 : Int32) (1 : Int32) (0 : Int32) (3 : Int32) _ P67 thk1 thk2 thk3 thk4 thk5 thk6 hkA6 (own_sl (own_sl (own_sl htC))) (own_sl (own_sl (own_sl htS))) F48 eky3 (by omega) (by omega) (by rw [own_gs, if_neg (by omega), own_gs, if_pos ⟨by omega, own_llt (own_sl htS) (by omega)⟩]) (by rw [own_gs, if_neg (by omega), own_gs, if_pos ⟨by omega, own_llt (own_sl htC) (by omega)⟩])) (a := (n0 + 0)) (P67.exa (i := 0) rfl F48.1) (by decide) (by decide) (by decide) (by decide) (by decide) (argsL := [.int (Int32.ofNat b3), .int (Int32.ofNat d3)]) (rest := []) pd7 rfl rfl rfl (Nat.le_of_eq rfl) (hb hby at_280) (pc' := 283) rfl ?_
                intro v69 T69 L49 X69 hq
                obtain ⟨rfl, N49, c50, F50, P69⟩ := hq
                replace N49 := Fr.app N47 N49
                replace P69 : HP n0 T69.heap [c50, AC tk1 [], AC tk2 [], AC tk3 [], AC tk4 (List.map Value.int (((tC.set ky0 (0 : Int32)).set ky1 (1 : Int32)).set ky2 (2 : Int32))), AC tk5 (List.map Value.int (((tS.set ky0 (2 : Int32)).set ky1 (2 : Int32)).set ky2 (2 : Int32))), AC tk6 [.int tz0, .int tz1], AC kA6 [.int (1 : Int32), .int ((1 : Int32) + (1 : Int32)), .int (1 : Int32), .int (0 : Int32)]] := P69
                rw [show ((3 : Int64) + (((2 : Int64) * (Int32.toInt64 (1 : Int32))) + (1 : Int64))) = (6 : Int64) from by decide] at F50
                rw [show ((1 : Int32) + (1 : Int32)) = (2 : Int32) from by decide] at P69
                replace P69 : HP n0 T69.heap [c50, AC tk1 [], AC tk2 [], AC tk3 [], AC tk4 (List.map Value.int (((tC.set ky0 (0 : Int32)).set ky1 (1 : Int32)).set ky2 (2 : Int32))), AC tk5 (List.map Value.int (((tS.set ky0 (2 : Int32)).set ky1 (2 : Int32)).set ky2 (2 : Int32))), AC tk6 [.int tz0, .int tz1], AC kA6 [.int (1 : Int32), .int (2 : Int32), .int (1 : Int32), .int (0 : Int32)]] := P69
                replace F50 : ObjF Z c50 "com/example/protomata/protomata/Partition" fl_C0 [.ref (n0 + 4), .ref (n0 + 5), .ref (n0 + 7), .int (Int32.ofNat a), .int (2 : Int32), .int (3 : Int32), .long (6 : Int64)] := F50
                refine w_istore (l' := #[.val (.int x0), .val (.int x1), .val (.int x2), .val (.int x3), .val (.int x4), .val (.int x5), .val (.int (Int32.ofNat g)), .val (.int (Int32.ofNat a)), .val (.int (Int32.ofNat g1)), .val (.int (Int32.ofNat a1)), .val (.int (Int32.ofNat fb0)), .val (.int (Int32.ofNat fd0)), .val (.int (Int32.ofNat fb1)), .val (.int (Int32.ofNat fd1)), .val (.int (Int32.ofNat b0)), .val (.int (Int32.ofNat d0)), .val (.int (Int32.ofNat b1)), .val (.int (Int32.ofNat d1)), .val (.int (Int32.ofNat b2)), .val (.int (Int32.ofNat d2)), .val (.int (Int32.ofNat b3)), .val (.int (Int32.ofNat d3)), .val (.ref (n0 + 0)), .val (.int (0 : Int32)), .val (.int tf1), .val (.int (1 : Int32)), .val (.int (0 : Int32)), .val (.int (1 : Int32)), .val (.int (2 : Int32)), .val (.int (1 : Int32)), .unset, .unset, .unset, .unset, .unset, .unset, .unset, .unset, .unset, .unset, .unset, .unset, .unset, .unset, .unset, .unset, .unset]) X69 hx (hb hby at_283) rfl (pc' := 285) rfl ?_
                have hs10 : sp8 (Int32.ofNat b1) (Int32.ofNat d1) (Int32.ofNat b0) (Int32.ofNat d0) = 0 := (own_sm0 (by omega) (by omega) (by omega) (by omega) (fun z => absurd (show ky1 = ky0 by rw [← eky1, ← eky0, z.1, z.2]) (by omega)))
                have hs20 : sp8 (Int32.ofNat b2) (Int32.ofNat d2) (Int32.ofNat b0) (Int32.ofNat d0) = 0 := (own_sm0 (by omega) (by omega) (by omega) (by omega) (fun z => absurd (show ky2 = ky0 by rw [← eky2, ← eky0, z.1, z.2]) (by omega)))
                have hs21 : sp8 (Int32.ofNat b2) (Int32.ofNat d2) (Int32.ofNat b1) (Int32.ofNat d1) = 0 := (own_sm0 (by omega) (by omega) (by omega) (by omega) (fun z => absurd (show ky2 = ky1 by rw [← eky2, ← eky1, z.1, z.2]) (by omega)))
                have hs30 : sp8 (Int32.ofNat b3) (Int32.ofNat d3) (Int32.ofNat b0) (Int32.ofNat d0) = 0 := (own_sm0 (by omega) (by omega) (by omega) (by omega) (fun z => absurd (show ky3 = ky0 by rw [← eky3, ← eky0, z.1, z.2]) (by omega)))
                have hs31 : sp8 (Int32.ofNat b3) (Int32.ofNat d3) (Int32.ofNat b1) (Int32.ofNat d1) = 1 := (own_sm1 (own_inj (a := a) hd3 hd1 (by rw [eky3, eky1]; omega)).1 (own_inj (a := a) hd3 hd1 (by rw [eky3, eky1]; omega)).2)
                have hs32 : sp8 (Int32.ofNat b3) (Int32.ofNat d3) (Int32.ofNat b2) (Int32.ofNat d2) = 0 := (own_sm0 (by omega) (by omega) (by omega) (by omega) (fun z => absurd (show ky3 = ky2 by rw [← eky3, ← eky2, z.1, z.2]) (by omega)))
                exact Jt T69 _ tf1 (0 : Int32) (1 : Int32) (2 : Int32) (1 : Int32) (Int32.ofNat a) (2 : Int32) (3 : Int32) (6 : Int64) (n0 + 4) (n0 + 5) (n0 + 7) _ c50 N49 X69 P69 F50 rfl (by rw [hs10]; decide) (by rw [hs10, hs20, hs21]; decide) (by rw [hs10, hs20, hs21, hs30, hs31, hs32]; decide) (by rw [hs10, hs20, hs21, hs30, hs31, hs32]; decide) (by rw [hs10, hs20, hs21, hs30, hs31, hs32]; decide)
              · by_cases hy32 : ky3 = ky2
                · refine own_callV (W := 0) X67 hx hZ rfl hown hml.symm (wd42 hw) (wd43 hw) (wd45 hw) (wd44 hw) (wd10 hw) (wd46 hw) (rm_htC2 l Z a0 hw [] n0 tk1 tk2 tk3 tk4 tk5 tk6 kA6 c48 (((tC.set ky0 (0 : Int32)).set ky1 (1 : Int32)).set ky2 (2 : Int32)) (((tS.set ky0 (2 : Int32)).set ky1 (2 : Int32)).set ky2 (2 : Int32)) M1 tz0 tz1 b3 a d3 ky3 (3 : Int64) (1 : Int32) (1 : Int32) (1 : Int32) (0 : Int32) (3 : Int32) _ P67 thk1 thk2 thk3 thk4 thk5 thk6 hkA6 (own_sl (own_sl (own_sl htC))) (own_sl (own_sl (own_sl htS))) F48 eky3 (by omega) (by omega) (by rw [own_gs, if_pos ⟨by omega, own_llt (own_sl (own_sl htS)) (by omega)⟩]) (by rw [own_gs, if_pos ⟨by omega, own_llt (own_sl (own_sl htC)) (by omega)⟩])) (a := (n0 + 0)) (P67.exa (i := 0) rfl F48.1) (by decide) (by decide) (by decide) (by decide) (by decide) (argsL := [.int (Int32.ofNat b3), .int (Int32.ofNat d3)]) (rest := []) pd7 rfl rfl rfl (Nat.le_of_eq rfl) (hb hby at_280) (pc' := 283) rfl ?_
                  intro v70 T70 L50 X70 hq
                  obtain ⟨rfl, N50, c51, F51, P70⟩ := hq
                  replace N50 := Fr.app N47 N50
                  replace P70 : HP n0 T70.heap [c51, AC tk1 [], AC tk2 [], AC tk3 [], AC tk4 (List.map Value.int (((tC.set ky0 (0 : Int32)).set ky1 (1 : Int32)).set ky2 (2 : Int32))), AC tk5 (List.map Value.int (((tS.set ky0 (2 : Int32)).set ky1 (2 : Int32)).set ky2 (2 : Int32))), AC tk6 [.int tz0, .int tz1], AC kA6 [.int (1 : Int32), .int (1 : Int32), .int ((1 : Int32) + (1 : Int32)), .int (0 : Int32)]] := P70
                  rw [show ((3 : Int64) + (((2 : Int64) * (Int32.toInt64 (1 : Int32))) + (1 : Int64))) = (6 : Int64) from by decide] at F51
                  rw [show ((1 : Int32) + (1 : Int32)) = (2 : Int32) from by decide] at P70
                  replace P70 : HP n0 T70.heap [c51, AC tk1 [], AC tk2 [], AC tk3 [], AC tk4 (List.map Value.int (((tC.set ky0 (0 : Int32)).set ky1 (1 : Int32)).set ky2 (2 : Int32))), AC tk5 (List.map Value.int (((tS.set ky0 (2 : Int32)).set ky1 (2 : Int32)).set ky2 (2 : Int32))), AC tk6 [.int tz0, .int tz1], AC kA6 [.int (1 : Int32), .int (1 : Int32), .int (2 : Int32), .int (0 : Int32)]] := P70
                  replace F51 : ObjF Z c51 "com/example/protomata/protomata/Partition" fl_C0 [.ref (n0 + 4), .ref (n0 + 5), .ref (n0 + 7), .int (Int32.ofNat a), .int (2 : Int32), .int (3 : Int32), .long (6 : Int64)] := F51
                  refine w_istore (l' := #[.val (.int x0), .val (.int x1), .val (.int x2), .val (.int x3), .val (.int x4), .val (.int x5), .val (.int (Int32.ofNat g)), .val (.int (Int32.ofNat a)), .val (.int (Int32.ofNat g1)), .val (.int (Int32.ofNat a1)), .val (.int (Int32.ofNat fb0)), .val (.int (Int32.ofNat fd0)), .val (.int (Int32.ofNat fb1)), .val (.int (Int32.ofNat fd1)), .val (.int (Int32.ofNat b0)), .val (.int (Int32.ofNat d0)), .val (.int (Int32.ofNat b1)), .val (.int (Int32.ofNat d1)), .val (.int (Int32.ofNat b2)), .val (.int (Int32.ofNat d2)), .val (.int (Int32.ofNat b3)), .val (.int (Int32.ofNat d3)), .val (.ref (n0 + 0)), .val (.int (0 : Int32)), .val (.int tf1), .val (.int (1 : Int32)), .val (.int (0 : Int32)), .val (.int (1 : Int32)), .val (.int (2 : Int32)), .val (.int (2 : Int32)), .unset, .unset, .unset, .unset, .unset, .unset, .unset, .unset, .unset, .unset, .unset, .unset, .unset, .unset, .unset, .unset, .unset]) X70 hx (hb hby at_283) rfl (pc' := 285) rfl ?_
                  have hs10 : sp8 (Int32.ofNat b1) (Int32.ofNat d1) (Int32.ofNat b0) (Int32.ofNat d0) = 0 := (own_sm0 (by omega) (by omega) (by omega) (by omega) (fun z => absurd (show ky1 = ky0 by rw [← eky1, ← eky0, z.1, z.2]) (by omega)))
                  have hs20 : sp8 (Int32.ofNat b2) (Int32.ofNat d2) (Int32.ofNat b0) (Int32.ofNat d0) = 0 := (own_sm0 (by omega) (by omega) (by omega) (by omega) (fun z => absurd (show ky2 = ky0 by rw [← eky2, ← eky0, z.1, z.2]) (by omega)))
                  have hs21 : sp8 (Int32.ofNat b2) (Int32.ofNat d2) (Int32.ofNat b1) (Int32.ofNat d1) = 0 := (own_sm0 (by omega) (by omega) (by omega) (by omega) (fun z => absurd (show ky2 = ky1 by rw [← eky2, ← eky1, z.1, z.2]) (by omega)))
                  have hs30 : sp8 (Int32.ofNat b3) (Int32.ofNat d3) (Int32.ofNat b0) (Int32.ofNat d0) = 0 := (own_sm0 (by omega) (by omega) (by omega) (by omega) (fun z => absurd (show ky3 = ky0 by rw [← eky3, ← eky0, z.1, z.2]) (by omega)))
                  have hs31 : sp8 (Int32.ofNat b3) (Int32.ofNat d3) (Int32.ofNat b1) (Int32.ofNat d1) = 0 := (own_sm0 (by omega) (by omega) (by omega) (by omega) (fun z => absurd (show ky3 = ky1 by rw [← eky3, ← eky1, z.1, z.2]) (by omega)))
                  have hs32 : sp8 (Int32.ofNat b3) (Int32.ofNat d3) (Int32.ofNat b2) (Int32.ofNat d2) = 1 := (own_sm1 (own_inj (a := a) hd3 hd2 (by rw [eky3, eky2]; omega)).1 (own_inj (a := a) hd3 hd2 (by rw [eky3, eky2]; omega)).2)
                  exact Jt T70 _ tf1 (0 : Int32) (1 : Int32) (2 : Int32) (2 : Int32) (Int32.ofNat a) (2 : Int32) (3 : Int32) (6 : Int64) (n0 + 4) (n0 + 5) (n0 + 7) _ c51 N50 X70 P70 F51 rfl (by rw [hs10]; decide) (by rw [hs10, hs20, hs21]; decide) (by rw [hs10, hs20, hs21, hs30, hs31, hs32]; decide) (by rw [hs10, hs20, hs21, hs30, hs31, hs32]; decide) (by rw [hs10, hs20, hs21, hs30, hs31, hs32]; decide)
                · refine own_callV (W := 0) X67 hx hZ rfl hown hml.symm (wd42 hw) (wd43 hw) (wd45 hw) (wd44 hw) (wd10 hw) (wd46 hw) (rm_msC3 l Z a0 hw [] n0 tk1 tk2 tk3 tk4 tk5 tk6 kA6 c48 (((tC.set ky0 (0 : Int32)).set ky1 (1 : Int32)).set ky2 (2 : Int32)) (((tS.set ky0 (2 : Int32)).set ky1 (2 : Int32)).set ky2 (2 : Int32)) M1 tz0 tz1 b3 a d3 ky3 (3 : Int64) (1 : Int32) (1 : Int32) (1 : Int32) (0 : Int32) _ P67 thk1 thk2 thk3 thk4 thk5 thk6 hkA6 (own_sl (own_sl (own_sl htC))) (own_sl (own_sl (own_sl htS))) F48 eky3 (by omega) (by omega) (by rw [own_gs, if_neg (by omega), own_gs, if_neg (by omega), own_gs, if_neg (by omega)]; exact hfr ky3)) (a := (n0 + 0)) (P67.exa (i := 0) rfl F48.1) (by decide) (by decide) (by decide) (by decide) (by decide) (argsL := [.int (Int32.ofNat b3), .int (Int32.ofNat d3)]) (rest := []) pd7 rfl rfl rfl (Nat.le_of_eq rfl) (hb hby at_280) (pc' := 283) rfl ?_
                  intro v71 T71 L51 X71 hq
                  obtain ⟨rfl, N51, c52, F52, P71⟩ := hq
                  replace N51 := Fr.app N47 N51
                  replace P71 : HP n0 T71.heap [c52, AC tk1 [], AC tk2 [], AC tk3 [], AC tk4 (List.map Value.int ((((tC.set ky0 (0 : Int32)).set ky1 (1 : Int32)).set ky2 (2 : Int32)).set ky3 (3 : Int32))), AC tk5 (List.map Value.int ((((tS.set ky0 (2 : Int32)).set ky1 (2 : Int32)).set ky2 (2 : Int32)).set ky3 (2 : Int32))), AC tk6 [.int tz0, .int tz1], AC kA6 [.int (1 : Int32), .int (1 : Int32), .int (1 : Int32), .int (1 : Int32)]] := P71
                  rw [show ((3 : Int64) + (1 : Int64)) = (4 : Int64) from by decide] at F52
                  replace P71 : HP n0 T71.heap [c52, AC tk1 [], AC tk2 [], AC tk3 [], AC tk4 (List.map Value.int ((((tC.set ky0 (0 : Int32)).set ky1 (1 : Int32)).set ky2 (2 : Int32)).set ky3 (3 : Int32))), AC tk5 (List.map Value.int ((((tS.set ky0 (2 : Int32)).set ky1 (2 : Int32)).set ky2 (2 : Int32)).set ky3 (2 : Int32))), AC tk6 [.int tz0, .int tz1], AC kA6 [.int (1 : Int32), .int (1 : Int32), .int (1 : Int32), .int (1 : Int32)]] := P71
                  replace F52 : ObjF Z c52 "com/example/protomata/protomata/Partition" fl_C0 [.ref (n0 + 4), .ref (n0 + 5), .ref (n0 + 7), .int (Int32.ofNat a), .int (2 : Int32), .int (4 : Int32), .long (4 : Int64)] := F52
                  refine w_istore (l' := #[.val (.int x0), .val (.int x1), .val (.int x2), .val (.int x3), .val (.int x4), .val (.int x5), .val (.int (Int32.ofNat g)), .val (.int (Int32.ofNat a)), .val (.int (Int32.ofNat g1)), .val (.int (Int32.ofNat a1)), .val (.int (Int32.ofNat fb0)), .val (.int (Int32.ofNat fd0)), .val (.int (Int32.ofNat fb1)), .val (.int (Int32.ofNat fd1)), .val (.int (Int32.ofNat b0)), .val (.int (Int32.ofNat d0)), .val (.int (Int32.ofNat b1)), .val (.int (Int32.ofNat d1)), .val (.int (Int32.ofNat b2)), .val (.int (Int32.ofNat d2)), .val (.int (Int32.ofNat b3)), .val (.int (Int32.ofNat d3)), .val (.ref (n0 + 0)), .val (.int (0 : Int32)), .val (.int tf1), .val (.int (1 : Int32)), .val (.int (0 : Int32)), .val (.int (1 : Int32)), .val (.int (2 : Int32)), .val (.int (3 : Int32)), .unset, .unset, .unset, .unset, .unset, .unset, .unset, .unset, .unset, .unset, .unset, .unset, .unset, .unset, .unset, .unset, .unset]) X71 hx (hb hby at_283) rfl (pc' := 285) rfl ?_
                  have hs10 : sp8 (Int32.ofNat b1) (Int32.ofNat d1) (Int32.ofNat b0) (Int32.ofNat d0) = 0 := (own_sm0 (by omega) (by omega) (by omega) (by omega) (fun z => absurd (show ky1 = ky0 by rw [← eky1, ← eky0, z.1, z.2]) (by omega)))
                  have hs20 : sp8 (Int32.ofNat b2) (Int32.ofNat d2) (Int32.ofNat b0) (Int32.ofNat d0) = 0 := (own_sm0 (by omega) (by omega) (by omega) (by omega) (fun z => absurd (show ky2 = ky0 by rw [← eky2, ← eky0, z.1, z.2]) (by omega)))
                  have hs21 : sp8 (Int32.ofNat b2) (Int32.ofNat d2) (Int32.ofNat b1) (Int32.ofNat d1) = 0 := (own_sm0 (by omega) (by omega) (by omega) (by omega) (fun z => absurd (show ky2 = ky1 by rw [← eky2, ← eky1, z.1, z.2]) (by omega)))
                  have hs30 : sp8 (Int32.ofNat b3) (Int32.ofNat d3) (Int32.ofNat b0) (Int32.ofNat d0) = 0 := (own_sm0 (by omega) (by omega) (by omega) (by omega) (fun z => absurd (show ky3 = ky0 by rw [← eky3, ← eky0, z.1, z.2]) (by omega)))
                  have hs31 : sp8 (Int32.ofNat b3) (Int32.ofNat d3) (Int32.ofNat b1) (Int32.ofNat d1) = 0 := (own_sm0 (by omega) (by omega) (by omega) (by omega) (fun z => absurd (show ky3 = ky1 by rw [← eky3, ← eky1, z.1, z.2]) (by omega)))
                  have hs32 : sp8 (Int32.ofNat b3) (Int32.ofNat d3) (Int32.ofNat b2) (Int32.ofNat d2) = 0 := (own_sm0 (by omega) (by omega) (by omega) (by omega) (fun z => absurd (show ky3 = ky2 by rw [← eky3, ← eky2, z.1, z.2]) (by omega)))
                  exact Jt T71 _ tf1 (0 : Int32) (1 : Int32) (2 : Int32) (3 : Int32) (Int32.ofNat a) (2 : Int32) (4 : Int32) (4 : Int64) (n0 + 4) (n0 + 5) (n0 + 7) _ c52 N51 X71 P71 F52 rfl (by rw [hs10]; decide) (by rw [hs10, hs20, hs21]; decide) (by rw [hs10, hs20, hs21, hs30, hs31, hs32]; decide) (by rw [hs10, hs20, hs21, hs30, hs31, hs32]; decide) (by rw [hs10, hs20, hs21, hs30, hs31, hs32]; decide)
  refine w_new (j := 0) X8 hx hZ hown (wd8 hw) (wd9 hw) (wd10 hw) P8 fl_C0 dv_C0 rfl (ly_C0 hw) (hb hby at_152) (by decide) (by decide) rfl (pc' := 155) rfl ?_
  intro T72 c53 X72 P72 F53
  replace P72 : HP n0 T72.heap [c53] := P72
  refine w_dup X72 hx (hb hby at_155) rfl (pc' := 156) rfl ?_
  refine own_callI (W := 1) X72 hx hZ rfl rfl hown hml.symm (wd11 hw) (wd12 hw) (wd10 hw) (wd13 hw) (rm3_2 l Z a0 hw [] n0 c53 F53 _ P72) (by decide) (by decide) (by decide) (by decide) (by decide) (a := (n0 + 0)) (argsL := []) (rest := [.ref (n0 + 0)]) pd3 rfl rfl rfl (Nat.le_of_eq rfl) (hb hby at_156) (pc' := 159) rfl ?_
  intro _ T73 L52 X73 hq
  obtain ⟨rfl, N52, c54, F54, kA55, hkA55, kA56, hkA56, kA57, hkA57, P73⟩ := hq
  replace N52 := Fr.app N0 N52
  replace P73 : HP n0 T73.heap [c54, AC kA55 [], AC kA56 [], AC kA57 []] := P73
  refine w_astore (l' := #[.val (.int x0), .val (.int x1), .val (.int x2), .val (.int x3), .val (.int x4), .val (.int x5), .val (.int (Int32.ofNat g)), .val (.int (Int32.ofNat a)), .val (.int (Int32.ofNat g1)), .val (.int (Int32.ofNat a1)), .val (.int (Int32.ofNat fb0)), .val (.int (Int32.ofNat fd0)), .val (.int (Int32.ofNat fb1)), .val (.int (Int32.ofNat fd1)), .val (.int (Int32.ofNat b0)), .val (.int (Int32.ofNat d0)), .val (.int (Int32.ofNat b1)), .val (.int (Int32.ofNat d1)), .val (.int (Int32.ofNat b2)), .val (.int (Int32.ofNat d2)), .val (.int (Int32.ofNat b3)), .val (.int (Int32.ofNat d3)), .val (.ref (n0 + 0)), .unset, .unset, .unset, .unset, .unset, .unset, .unset, .unset, .unset, .unset, .unset, .unset, .unset, .unset, .unset, .unset, .unset, .unset, .unset, .unset, .unset, .unset, .unset, .unset]) X73 hx (hb hby at_159) rfl rfl (pc' := 161) rfl ?_
  refine w_aload X73 hx (hb hby at_161) rfl rfl (pc' := 163) rfl ?_
  refine w_iconst (v := (2 : Int32)) X73 hx (hb hby at_163) rfl (pc' := 164) rfl ?_
  refine w_iload X73 hx (hb hby at_164) rfl (pc' := 166) rfl ?_
  refine w_iload X73 hx (hb hby at_166) rfl (pc' := 168) rfl ?_
  refine own_callV (W := 0) X73 hx hZ rfl hown hml.symm (wd24 hw) (wd25 hw) (wd27 hw) (wd26 hw) (wd10 hw) (wd28 hw) (rm_beg1 l Z a0 hw [] n0 kA55 kA56 kA57 c54 g1 a1 M1 _ P73 hkA55 hkA56 hkA57 F54 (by omega) (by omega) eM1 (by omega) (by omega)) (a := (n0 + 0)) (P73.exa (i := 0) rfl F54.1) (by decide) (by decide) (by decide) (by decide) (by decide) (argsL := [.int (2 : Int32), .int (Int32.ofNat g1), .int (Int32.ofNat a1)]) (rest := []) pd5 rfl rfl rfl (Nat.le_of_eq rfl) (hb hby at_168) (pc' := 171) rfl ?_
  intro v74 T74 L53 X74 hq
  obtain ⟨rfl, N53, c58, F58, kA59, hkA59, kA60, hkA60, kA61, hkA61, P74⟩ := hq
  replace N53 := Fr.app N52 N53
  replace P74 : HP n0 T74.heap [c58, AC kA55 [], AC kA56 [], AC kA57 [], AC kA59 (List.map Value.int (List.replicate M1 0)), AC kA60 (List.map Value.int (List.replicate M1 0)), AC kA61 [.int (0 : Int32), .int (0 : Int32)]] := P74
  refine w_pop X74 hx (hb hby at_171) rfl (pc' := 172) rfl ?_
  refine w_aload X74 hx (hb hby at_172) rfl rfl (pc' := 174) rfl ?_
  refine w_iload X74 hx (hb hby at_174) rfl (pc' := 176) rfl ?_
  refine w_iload X74 hx (hb hby at_176) rfl (pc' := 178) rfl ?_
  refine own_callV (W := 0) X74 hx hZ rfl hown hml.symm (wd42 hw) (wd43 hw) (wd45 hw) (wd44 hw) (wd10 hw) (wd46 hw) (rm_msA0 l Z a0 hw [] n0 kA55 kA56 kA57 kA59 kA60 kA61 c58 (List.replicate M1 0) (List.replicate M1 0) M1 fb0 a1 fd0 kf0 (0 : Int64) (0 : Int32) (0 : Int32) _ P74 hkA55 hkA56 hkA57 hkA59 hkA60 hkA61 (List.length_replicate (n := M1) (a := (0 : Int32))) (List.length_replicate (n := M1) (a := (0 : Int32))) F58 ekf0 (by omega) (by omega) (by exact (fun x => by rw [own_rep0]; decide) kf0)) (a := (n0 + 0)) (P74.exa (i := 0) rfl F58.1) (by decide) (by decide) (by decide) (by decide) (by decide) (argsL := [.int (Int32.ofNat fb0), .int (Int32.ofNat fd0)]) (rest := []) pd7 rfl rfl rfl (Nat.le_of_eq rfl) (hb hby at_178) (pc' := 181) rfl ?_
  intro v75 T75 L54 X75 hq
  obtain ⟨rfl, N54, c62, F62, P75⟩ := hq
  replace N54 := Fr.app N53 N54
  replace P75 : HP n0 T75.heap [c62, AC kA55 [], AC kA56 [], AC kA57 [], AC kA59 (List.map Value.int ((List.replicate M1 0).set kf0 (0 : Int32))), AC kA60 (List.map Value.int ((List.replicate M1 0).set kf0 (1 : Int32))), AC kA61 [.int (1 : Int32), .int (0 : Int32)]] := P75
  rw [show ((0 : Int64) + (1 : Int64)) = (1 : Int64) from by decide] at F62
  replace P75 : HP n0 T75.heap [c62, AC kA55 [], AC kA56 [], AC kA57 [], AC kA59 (List.map Value.int ((List.replicate M1 0).set kf0 (0 : Int32))), AC kA60 (List.map Value.int ((List.replicate M1 0).set kf0 (1 : Int32))), AC kA61 [.int (1 : Int32), .int (0 : Int32)]] := P75
  replace F62 : ObjF Z c62 "com/example/protomata/protomata/Partition" fl_C0 [.ref (n0 + 4), .ref (n0 + 5), .ref (n0 + 6), .int (Int32.ofNat a1), .int (1 : Int32), .int (1 : Int32), .long (1 : Int64)] := F62
  refine w_istore (l' := #[.val (.int x0), .val (.int x1), .val (.int x2), .val (.int x3), .val (.int x4), .val (.int x5), .val (.int (Int32.ofNat g)), .val (.int (Int32.ofNat a)), .val (.int (Int32.ofNat g1)), .val (.int (Int32.ofNat a1)), .val (.int (Int32.ofNat fb0)), .val (.int (Int32.ofNat fd0)), .val (.int (Int32.ofNat fb1)), .val (.int (Int32.ofNat fd1)), .val (.int (Int32.ofNat b0)), .val (.int (Int32.ofNat d0)), .val (.int (Int32.ofNat b1)), .val (.int (Int32.ofNat d1)), .val (.int (Int32.ofNat b2)), .val (.int (Int32.ofNat d2)), .val (.int (Int32.ofNat b3)), .val (.int (Int32.ofNat d3)), .val (.ref (n0 + 0)), .val (.int (0 : Int32)), .unset, .unset, .unset, .unset, .unset, .unset, .unset, .unset, .unset, .unset, .unset, .unset, .unset, .unset, .unset, .unset, .unset, .unset, .unset, .unset, .unset, .unset, .unset]) X75 hx (hb hby at_181) rfl (pc' := 183) rfl ?_
  refine w_aload X75 hx (hb hby at_183) rfl rfl (pc' := 185) rfl ?_
  refine w_iload X75 hx (hb hby at_185) rfl (pc' := 187) rfl ?_
  refine w_iload X75 hx (hb hby at_187) rfl (pc' := 189) rfl ?_
  by_cases hkf : kf1 = kf0
  · refine own_callV (W := 0) X75 hx hZ rfl hown hml.symm (wd42 hw) (wd43 hw) (wd45 hw) (wd44 hw) (wd10 hw) (wd46 hw) (rm_htA0 l Z a0 hw [] n0 kA55 kA56 kA57 kA59 kA60 kA61 c62 ((List.replicate M1 0).set kf0 (0 : Int32)) ((List.replicate M1 0).set kf0 (1 : Int32)) M1 fb1 a1 fd1 kf1 (1 : Int64) (1 : Int32) (0 : Int32) (1 : Int32) _ P75 hkA55 hkA56 hkA57 hkA59 hkA60 hkA61 (own_sl (List.length_replicate (n := M1) (a := (0 : Int32)))) (own_sl (List.length_replicate (n := M1) (a := (0 : Int32)))) F62 ekf1 (by omega) (by omega) (by rw [own_gs, if_pos ⟨by omega, own_llt (List.length_replicate (n := M1) (a := (0 : Int32))) (by omega)⟩]) (by rw [own_gs, if_pos ⟨by omega, own_llt (List.length_replicate (n := M1) (a := (0 : Int32))) (by omega)⟩])) (a := (n0 + 0)) (P75.exa (i := 0) rfl F62.1) (by decide) (by decide) (by decide) (by decide) (by decide) (argsL := [.int (Int32.ofNat fb1), .int (Int32.ofNat fd1)]) (rest := []) pd7 rfl rfl rfl (Nat.le_of_eq rfl) (hb hby at_189) (pc' := 192) rfl ?_
    intro v76 T76 L55 X76 hq
    obtain ⟨rfl, N55, c63, F63, P76⟩ := hq
    replace N55 := Fr.app N54 N55
    replace P76 : HP n0 T76.heap [c63, AC kA55 [], AC kA56 [], AC kA57 [], AC kA59 (List.map Value.int ((List.replicate M1 0).set kf0 (0 : Int32))), AC kA60 (List.map Value.int ((List.replicate M1 0).set kf0 (1 : Int32))), AC kA61 [.int ((1 : Int32) + (1 : Int32)), .int (0 : Int32)]] := P76
    rw [show ((1 : Int64) + (((2 : Int64) * (Int32.toInt64 (1 : Int32))) + (1 : Int64))) = (4 : Int64) from by decide] at F63
    rw [show ((1 : Int32) + (1 : Int32)) = (2 : Int32) from by decide] at P76
    replace P76 : HP n0 T76.heap [c63, AC kA55 [], AC kA56 [], AC kA57 [], AC kA59 (List.map Value.int ((List.replicate M1 0).set kf0 (0 : Int32))), AC kA60 (List.map Value.int ((List.replicate M1 0).set kf0 (1 : Int32))), AC kA61 [.int (2 : Int32), .int (0 : Int32)]] := P76
    replace F63 : ObjF Z c63 "com/example/protomata/protomata/Partition" fl_C0 [.ref (n0 + 4), .ref (n0 + 5), .ref (n0 + 6), .int (Int32.ofNat a1), .int (1 : Int32), .int (1 : Int32), .long (4 : Int64)] := F63
    have hsf : sp8 (Int32.ofNat fb0) (Int32.ofNat fd0) (Int32.ofNat fb1) (Int32.ofNat fd1) = 1 := (own_sm1 (own_inj (a := a1) hfd0 hfd1 (by rw [ekf0, ekf1]; omega)).1 (own_inj (a := a1) hfd0 hfd1 (by rw [ekf0, ekf1]; omega)).2)
    refine w_istore (l' := #[.val (.int x0), .val (.int x1), .val (.int x2), .val (.int x3), .val (.int x4), .val (.int x5), .val (.int (Int32.ofNat g)), .val (.int (Int32.ofNat a)), .val (.int (Int32.ofNat g1)), .val (.int (Int32.ofNat a1)), .val (.int (Int32.ofNat fb0)), .val (.int (Int32.ofNat fd0)), .val (.int (Int32.ofNat fb1)), .val (.int (Int32.ofNat fd1)), .val (.int (Int32.ofNat b0)), .val (.int (Int32.ofNat d0)), .val (.int (Int32.ofNat b1)), .val (.int (Int32.ofNat d1)), .val (.int (Int32.ofNat b2)), .val (.int (Int32.ofNat d2)), .val (.int (Int32.ofNat b3)), .val (.int (Int32.ofNat d3)), .val (.ref (n0 + 0)), .val (.int (0 : Int32)), .val (.int (0 : Int32)), .unset, .unset, .unset, .unset, .unset, .unset, .unset, .unset, .unset, .unset, .unset, .unset, .unset, .unset, .unset, .unset, .unset, .unset, .unset, .unset, .unset, .unset]) X76 hx (hb hby at_192) rfl (pc' := 194) rfl ?_
    refine w_iload X76 hx (hb hby at_194) rfl (pc' := 196) rfl ?_
    refine w_if_ne X76 hx (hb hby at_196) (by decide) (pcY := 227) (by decide) (pc' := 199) rfl (fun h31 => absurd h31 (by decide)) (fun h31 => ?_)
    refine w_iload X76 hx (hb hby at_199) rfl (pc' := 201) rfl ?_
    refine w_iload X76 hx (hb hby at_201) rfl (pc' := 203) rfl ?_
    refine w_iload X76 hx (hb hby at_203) rfl (pc' := 205) rfl ?_
    refine w_iload X76 hx (hb hby at_205) rfl (pc' := 207) rfl ?_
    refine w_iload X76 hx (hb hby at_207) rfl (pc' := 209) rfl ?_
    refine w_callP (W := 1) X76 hx hZ rfl hown hml.symm (wd48 hw) (wd49 hw) (wd2 hw) (wd50 hw) (rm8 l Z a0 hw [] (Int32.ofNat fb0) (Int32.ofNat fd0) (Int32.ofNat fb1) (Int32.ofNat fd1) _) (by decide) (by decide) (by decide) rfl rfl (by decide) (by decide) (argsL := [.int (Int32.ofNat fb0), .int (Int32.ofNat fd0), .int (Int32.ofNat fb1), .int (Int32.ofNat fd1)]) (rest := [.int (0 : Int32)]) pd8 rfl rfl rfl (Nat.le_of_eq rfl) (hb hby at_209) (pc' := 212) rfl ?_
    intro T77 X77 e77
    have P77 : HP n0 T77.heap [c63, AC kA55 [], AC kA56 [], AC kA57 [], AC kA59 (List.map Value.int ((List.replicate M1 0).set kf0 (0 : Int32))), AC kA60 (List.map Value.int ((List.replicate M1 0).set kf0 (1 : Int32))), AC kA61 [.int (2 : Int32), .int (0 : Int32)]] := by rw [e77]; exact P76
    refine w_if_eq X77 hx (hb hby at_212) (by decide) (pcY := 219) (by decide) (pc' := 215) rfl (fun h32 => absurd (hsf ▸ h32 : (1 : Int32) = 0) (by decide)) (fun h32 => ?_)
    refine w_iconst (v := (0 : Int32)) X77 hx (hb hby at_215) rfl (pc' := 216) rfl ?_
    refine w_goto X77 hx (hb hby at_216) (by decide) (pc' := 220) (by decide) ?_
    refine w_icmp_ne X77 hx (hb hby at_220) (by decide) (pcY := 227) (by decide) (pc' := 223) rfl (fun h33 => absurd h33 (by decide)) (fun h33 => ?_)
    refine w_iconst (v := (1 : Int32)) X77 hx (hb hby at_223) rfl (pc' := 224) rfl ?_
    refine w_goto X77 hx (hb hby at_224) (by decide) (pc' := 228) (by decide) ?_
    refine w_istore (l' := #[.val (.int x0), .val (.int x1), .val (.int x2), .val (.int x3), .val (.int x4), .val (.int x5), .val (.int (Int32.ofNat g)), .val (.int (Int32.ofNat a)), .val (.int (Int32.ofNat g1)), .val (.int (Int32.ofNat a1)), .val (.int (Int32.ofNat fb0)), .val (.int (Int32.ofNat fd0)), .val (.int (Int32.ofNat fb1)), .val (.int (Int32.ofNat fd1)), .val (.int (Int32.ofNat b0)), .val (.int (Int32.ofNat d0)), .val (.int (Int32.ofNat b1)), .val (.int (Int32.ofNat d1)), .val (.int (Int32.ofNat b2)), .val (.int (Int32.ofNat d2)), .val (.int (Int32.ofNat b3)), .val (.int (Int32.ofNat d3)), .val (.ref (n0 + 0)), .val (.int (0 : Int32)), .val (.int (0 : Int32)), .val (.int (1 : Int32)), .unset, .unset, .unset, .unset, .unset, .unset, .unset, .unset, .unset, .unset, .unset, .unset, .unset, .unset, .unset, .unset, .unset, .unset, .unset, .unset, .unset]) X77 hx (hb hby at_228) rfl (pc' := 230) rfl ?_
    exact Ja T77 _ (0 : Int32) (1 : Int32) (4 : Int64) (2 : Int32) (0 : Int32) kA55 kA56 kA57 kA59 kA60 kA61 ((List.replicate M1 0).set kf0 (0 : Int32)) ((List.replicate M1 0).set kf0 (1 : Int32)) c63 N55 X77 hkA55 hkA56 hkA57 hkA59 hkA60 hkA61 (own_sl (List.length_replicate (n := M1) (a := (0 : Int32)))) (own_sl (List.length_replicate (n := M1) (a := (0 : Int32)))) (own_01s (own_01r M1)) P77 F63
  · refine own_callV (W := 0) X75 hx hZ rfl hown hml.symm (wd42 hw) (wd43 hw) (wd45 hw) (wd44 hw) (wd10 hw) (wd46 hw) (rm_msA1 l Z a0 hw [] n0 kA55 kA56 kA57 kA59 kA60 kA61 c62 ((List.replicate M1 0).set kf0 (0 : Int32)) ((List.replicate M1 0).set kf0 (1 : Int32)) M1 fb1 a1 fd1 kf1 (1 : Int64) (1 : Int32) (0 : Int32) _ P75 hkA55 hkA56 hkA57 hkA59 hkA60 hkA61 (own_sl (List.length_replicate (n := M1) (a := (0 : Int32)))) (own_sl (List.length_replicate (n := M1) (a := (0 : Int32)))) F62 ekf1 (by omega) (by omega) (by rw [own_gs, if_neg (by omega)]; exact (fun x => by rw [own_rep0]; decide) kf1)) (a := (n0 + 0)) (P75.exa (i := 0) rfl F62.1) (by decide) (by decide) (by decide) (by decide) (by decide) (argsL := [.int (Int32.ofNat fb1), .int (Int32.ofNat fd1)]) (rest := []) pd7 rfl rfl rfl (Nat.le_of_eq rfl) (hb hby at_189) (pc' := 192) rfl ?_
    intro v78 T78 L56 X78 hq
    obtain ⟨rfl, N56, c64, F64, P78⟩ := hq
    replace N56 := Fr.app N54 N56
    replace P78 : HP n0 T78.heap [c64, AC kA55 [], AC kA56 [], AC kA57 [], AC kA59 (List.map Value.int (((List.replicate M1 0).set kf0 (0 : Int32)).set kf1 (1 : Int32))), AC kA60 (List.map Value.int (((List.replicate M1 0).set kf0 (1 : Int32)).set kf1 (1 : Int32))), AC kA61 [.int (1 : Int32), .int (1 : Int32)]] := P78
    rw [show ((1 : Int64) + (1 : Int64)) = (2 : Int64) from by decide] at F64
    replace P78 : HP n0 T78.heap [c64, AC kA55 [], AC kA56 [], AC kA57 [], AC kA59 (List.map Value.int (((List.replicate M1 0).set kf0 (0 : Int32)).set kf1 (1 : Int32))), AC kA60 (List.map Value.int (((List.replicate M1 0).set kf0 (1 : Int32)).set kf1 (1 : Int32))), AC kA61 [.int (1 : Int32), .int (1 : Int32)]] := P78
    replace F64 : ObjF Z c64 "com/example/protomata/protomata/Partition" fl_C0 [.ref (n0 + 4), .ref (n0 + 5), .ref (n0 + 6), .int (Int32.ofNat a1), .int (1 : Int32), .int (2 : Int32), .long (2 : Int64)] := F64
    have hsf : sp8 (Int32.ofNat fb0) (Int32.ofNat fd0) (Int32.ofNat fb1) (Int32.ofNat fd1) = 0 := (own_sm0 (by omega) (by omega) (by omega) (by omega) (fun z => absurd (show kf0 = kf1 by rw [← ekf0, ← ekf1, z.1, z.2]) (by omega)))
    refine w_istore (l' := #[.val (.int x0), .val (.int x1), .val (.int x2), .val (.int x3), .val (.int x4), .val (.int x5), .val (.int (Int32.ofNat g)), .val (.int (Int32.ofNat a)), .val (.int (Int32.ofNat g1)), .val (.int (Int32.ofNat a1)), .val (.int (Int32.ofNat fb0)), .val (.int (Int32.ofNat fd0)), .val (.int (Int32.ofNat fb1)), .val (.int (Int32.ofNat fd1)), .val (.int (Int32.ofNat b0)), .val (.int (Int32.ofNat d0)), .val (.int (Int32.ofNat b1)), .val (.int (Int32.ofNat d1)), .val (.int (Int32.ofNat b2)), .val (.int (Int32.ofNat d2)), .val (.int (Int32.ofNat b3)), .val (.int (Int32.ofNat d3)), .val (.ref (n0 + 0)), .val (.int (0 : Int32)), .val (.int (1 : Int32)), .unset, .unset, .unset, .unset, .unset, .unset, .unset, .unset, .unset, .unset, .unset, .unset, .unset, .unset, .unset, .unset, .unset, .unset, .unset, .unset, .unset, .unset]) X78 hx (hb hby at_192) rfl (pc' := 194) rfl ?_
    refine w_iload X78 hx (hb hby at_194) rfl (pc' := 196) rfl ?_
    refine w_if_ne X78 hx (hb hby at_196) (by decide) (pcY := 227) (by decide) (pc' := 199) rfl (fun h34 => absurd h34 (by decide)) (fun h34 => ?_)
    refine w_iload X78 hx (hb hby at_199) rfl (pc' := 201) rfl ?_
    refine w_iload X78 hx (hb hby at_201) rfl (pc' := 203) rfl ?_
    refine w_iload X78 hx (hb hby at_203) rfl (pc' := 205) rfl ?_
    refine w_iload X78 hx (hb hby at_205) rfl (pc' := 207) rfl ?_
    refine w_iload X78 hx (hb hby at_207) rfl (pc' := 209) rfl ?_
    refine w_callP (W := 1) X78 hx hZ rfl hown hml.symm (wd48 hw) (wd49 hw) (wd2 hw) (wd50 hw) (rm8 l Z a0 hw [] (Int32.ofNat fb0) (Int32.ofNat fd0) (Int32.ofNat fb1) (Int32.ofNat fd1) _) (by decide) (by decide) (by decide) rfl rfl (by decide) (by decide) (argsL := [.int (Int32.ofNat fb0), .int (Int32.ofNat fd0), .int (Int32.ofNat fb1), .int (Int32.ofNat fd1)]) (rest := [.int (1 : Int32)]) pd8 rfl rfl rfl (Nat.le_of_eq rfl) (hb hby at_209) (pc' := 212) rfl ?_
    intro T79 X79 e79
    have P79 : HP n0 T79.heap [c64, AC kA55 [], AC kA56 [], AC kA57 [], AC kA59 (List.map Value.int (((List.replicate M1 0).set kf0 (0 : Int32)).set kf1 (1 : Int32))), AC kA60 (List.map Value.int (((List.replicate M1 0).set kf0 (1 : Int32)).set kf1 (1 : Int32))), AC kA61 [.int (1 : Int32), .int (1 : Int32)]] := by rw [e79]; exact P78
    refine w_if_eq X79 hx (hb hby at_212) (by decide) (pcY := 219) (by decide) (pc' := 215) rfl (fun h35 => ?_) (fun h35 => absurd hsf h35)
    refine w_iconst (v := (1 : Int32)) X79 hx (hb hby at_219) rfl (pc' := 220) rfl ?_
    refine w_icmp_ne X79 hx (hb hby at_220) (by decide) (pcY := 227) (by decide) (pc' := 223) rfl (fun h36 => absurd h36 (by decide)) (fun h36 => ?_)
    refine w_iconst (v := (1 : Int32)) X79 hx (hb hby at_223) rfl (pc' := 224) rfl ?_
    refine w_goto X79 hx (hb hby at_224) (by decide) (pc' := 228) (by decide) ?_
    refine w_istore (l' := #[.val (.int x0), .val (.int x1), .val (.int x2), .val (.int x3), .val (.int x4), .val (.int x5), .val (.int (Int32.ofNat g)), .val (.int (Int32.ofNat a)), .val (.int (Int32.ofNat g1)), .val (.int (Int32.ofNat a1)), .val (.int (Int32.ofNat fb0)), .val (.int (Int32.ofNat fd0)), .val (.int (Int32.ofNat fb1)), .val (.int (Int32.ofNat fd1)), .val (.int (Int32.ofNat b0)), .val (.int (Int32.ofNat d0)), .val (.int (Int32.ofNat b1)), .val (.int (Int32.ofNat d1)), .val (.int (Int32.ofNat b2)), .val (.int (Int32.ofNat d2)), .val (.int (Int32.ofNat b3)), .val (.int (Int32.ofNat d3)), .val (.ref (n0 + 0)), .val (.int (0 : Int32)), .val (.int (1 : Int32)), .val (.int (1 : Int32)), .unset, .unset, .unset, .unset, .unset, .unset, .unset, .unset, .unset, .unset, .unset, .unset, .unset, .unset, .unset, .unset, .unset, .unset, .unset, .unset, .unset]) X79 hx (hb hby at_228) rfl (pc' := 230) rfl ?_
    exact Ja T79 _ (1 : Int32) (2 : Int32) (2 : Int64) (1 : Int32) (1 : Int32) kA55 kA56 kA57 kA59 kA60 kA61 (((List.replicate M1 0).set kf0 (0 : Int32)).set kf1 (1 : Int32)) (((List.replicate M1 0).set kf0 (1 : Int32)).set kf1 (1 : Int32)) c64 N56 X79 hkA55 hkA56 hkA57 hkA59 hkA60 hkA61 (own_sl (own_sl (List.length_replicate (n := M1) (a := (0 : Int32))))) (own_sl (own_sl (List.length_replicate (n := M1) (a := (0 : Int32))))) (own_01s (own_01s (own_01r M1))) P79 F64
set_option maxRecDepth 65536 in
set_option maxHeartbeats 40000000 in
theorem comes_1 {Post : Tables → Env → Array Value → State → Outcome → State → Prop} (hpost : ∀ tb e args s v u, (limb_1_1.after args s (.returned v) u = true ∧ limb_1_2.after args s (.returned v) u = true ∧ True) → FrameEnd s (.returned v) u (Jvm.fieldLocs frame_1_writes args s ++ Jvm.arrayLocs frame_1_arrays args s ++ Jvm.staticLocs frame_1_statics s) 32 256 → Post tb e args s (.returned v) u) :
    ArmFor flags0 classFile x code maxLocals ret World_1 tables_1 room_1 Calls_1 rest_1 Pre_1 Post := by
  intro l hfl _ _ p e ha hc hk s m args below hf hA hF happ hP
  obtain ⟨hcalls, hrest, hpre⟩ := hP
  obtain ⟨-, -, -, hnamed, -, -, -, hat⟩ := (Spec.applies_iff hf).mp happ
  obtain ⟨hg, hn⟩ := and_e (Cond.before_iff.mp (show (Jvm.Cond.and given_1 narrow_1).before args s = true from hpre))
  obtain ⟨g0, k0⟩ := and_e hg
  obtain ⟨q0, k1⟩ := and_e k0
  obtain ⟨q1, k2⟩ := and_e k1
  obtain ⟨q2, k3⟩ := and_e k2
  obtain ⟨q3, k4⟩ := and_e k3
  obtain ⟨q4, k5⟩ := and_e k4
  have q5 := k5
  obtain ⟨w0, w1, w2, w3, w4, w5, rfl⟩ : ∃ w0 w1 w2 w3 w4 w5 : Value, args = #[w0, w1, w2, w3, w4, w5] := by
    have hs : args.size = 6 := by simpa [Cond.value, given_1] using g0
    obtain ⟨L⟩ := args
    match L, hs with
    | [w0, w1, w2, w3, w4, w5], _ => exact ⟨w0, w1, w2, w3, w4, w5, rfl⟩
  have hw := fun d (hd : d ∈ tables_1) => atoms_spec (ws := Jvm.Cond.code x code maxLocals ret :: tables_1) hat d (List.mem_cons_of_mem _ hd)
  obtain ⟨i0, ei0⟩ := is_v q0
  obtain rfl : w0 = (.int i0) := Option.some.inj ei0
  obtain ⟨i1, ei1⟩ := is_v q1
  obtain rfl : w1 = (.int i1) := Option.some.inj ei1
  obtain ⟨i2, ei2⟩ := is_v q2
  obtain rfl : w2 = (.int i2) := Option.some.inj ei2
  obtain ⟨i3, ei3⟩ := is_v q3
  obtain rfl : w3 = (.int i3) := Option.some.inj ei3
  obtain ⟨i4, ei4⟩ := is_v q4
  obtain rfl : w4 = (.int i4) := Option.some.inj ei4
  obtain ⟨i5, ei5⟩ := is_v q5
  obtain rfl : w5 = (.int i5) := Option.some.inj ei5
  obtain ⟨n, o, h1, h2, h3, _, L, rfl, ⟨rfl, N⟩, hq⟩ := rm0 l s _ hw tables_1 i0 i1 i2 i3 i4 i5 s.heap s.heap.size rfl p e ha hc hk s m _ below hf ((Spec.applies_iff_loose hf).mp happ).1 ⟨rfl, State.Warmed39.refl s, rfl⟩ trivial
  refine ⟨n, _, h1, h2, h3, hpost _ _ _ _ _ _ ⟨Cond.after_iff.mpr rfl, Cond.after_iff.mpr (eq_i res_at (Term.int_eval (1)) rfl), trivial⟩ ⟨hq.1, hq.2.1, (hq.2.2.sift fun y hy => Or.inr (N y hy)).mono (by decide) (by decide)⟩⟩
theorem main_1_1 : Claimed_1_1 := comes_1 fun _ _ _ _ _ _ h hF => ⟨h.1, hF⟩
theorem main_1_2 : Claimed_1_2 := comes_1 fun _ _ _ _ _ _ h hF => ⟨h.2.1, hF⟩
end Jvm.Pilot.@@N@@
namespace Jvm.Pilot.@@N@@
open Jvm Jvm.ClassFile Sem Op Lib Jvm.Free Jvm.Stand Jvm.Pilot.@@N@@.Jvm.D
/-! MADE BY PROGRAM (witnessworld.py) out of the Statement's table words and the real class files: 10 classes; the members and pool entries that the words name. The judged class is class 1, her method 5. -/
namespace start1
open Jvm.ClassFile
def u (s : String) : CpInfo := .utf8 (stringToUtf16 s)
/-- a pool by its gaps: so many unusable entries, then the entry; so many at the end -/
def gap : Nat → List CpInfo → List CpInfo
  | 0, r => r
  | n + 1, r => .unusable :: gap n r
def poolList (es : List (Nat × CpInfo)) (last : Nat) : List CpInfo := es.foldr (fun e r => gap e.1 (e.2 :: r)) (gap last [])
def pool (es : List (Nat × CpInfo)) (last : Nat) : Array CpInfo := ⟨poolList es last⟩
def fileOf (pool : Array CpInfo) (this : Nat) (attrs : Array Attribute := #[]) (ms : Array MethodInfo := #[]) (fl : Nat := 33) (sup : Nat := 0) (ifs : Array Nat := #[]) (fds : Array FieldInfo := #[]) : ClassFile where
  minorVersion := 0
  majorVersion := 65
  constantPool := pool
  accessFlags := fl
  thisClass := this
  superClass := sup
  interfaces := ifs
  fields := fds
  methods := ms
  attributes := attrs
def plain (name : String) (sup : Option ClassId) : Class where
  name := name
  kind := .ordinary
  loader := none
  accessFlags := 33
  super := sup
  interfaces := #[]
  cf := none
  fields := #[]
  methods := #[]
  instanceTypes := #[]
  staticTypes := #[]
  resolved := #[]
  callSites := []
  init := .initialized
  statics := none
  mirror := none

def pool0 : Array CpInfo := pool [(5, u "<init>"), (0, u "()V"), (1, .class_ 10), (1, u "java/lang/Object")] 113

def k0c0 : Code := { maxStack := 0, maxLocals := 1, code := object_method_1_code, exceptionTable := #[], attributes := #[] }
def k0m0 : Method := { name := "<init>", desc := "()V", sig := { parameters := [], returnType := none }, accessFlags := 1, code := some k0c0 }
/-- java/lang/Object -/
def k0 : Class := { plain "java/lang/Object" none with
  accessFlags := 33
  interfaces := #[]
  cf := some (fileOf pool0 8 #[] #[{ accessFlags := 1, nameIndex := 5, descriptorIndex := 6, attributes := #[] }] 33 0 #[] #[])
  fields := #[]
  methods := #[k0m0]
  instanceTypes := #[]
  staticTypes := #[]
  resolved := Array.replicate 124 none
  statics := none }

def pool1 : Array CpInfo := pool [(2, .class_ 4), (0, .nameAndType 5 6), (0, u "java/lang/Object"), (0, u "<init>"), (0, u "()V"), (0, .integer 65535), (0, .methodref 9 10), (0, .class_ 11), (0, .nameAndType 12 13), (0, u "com/example/protomata/protomata/PartitionPutPinLaw"), (0, u "bef"), (0, u "(II)I"), (0, .methodref 9 15), (0, .nameAndType 16 13), (0, u "ans"), (0, .class_ 18), (0, u "com/example/protomata/protomata/Partition"), (0, .methodref 17 3), (0, .methodref 17 21), (0, .nameAndType 22 23), (0, u "begin"), (0, u "(III)Lcom/example/protomata/protomata/Partition;"), (0, .methodref 17 25), (0, .nameAndType 26 13), (0, u "put"), (0, .methodref 9 28), (0, .nameAndType 29 30), (0, u "same"), (0, u "(IIII)Z"), (0, .methodref 9 32), (0, .nameAndType 33 34), (0, u "one"), (0, u "(Z)I"), (0, .long 4), (1, .long 2), (1, .methodref 17 40), (0, .nameAndType 41 42), (0, u "groupCount"), (0, u "()I"), (0, .methodref 17 44), (0, .nameAndType 45 46), (0, u "squares"), (0, u "()J"), (3, u "law"), (0, u "(IIIIII)Z")] 2

def k1m0 : Method := { name := "<init>", desc := "()V", sig := { parameters := [], returnType := none }, accessFlags := 1, code := none }
def k1c1 : Code := { maxStack := 2, maxLocals := 2, code := method_2_code, exceptionTable := #[], attributes := #[] }
def k1m1 : Method := { name := "bef", desc := "(II)I", sig := { parameters := [.int, .int], returnType := some .int }, accessFlags := 10, code := some k1c1 }
def k1c2 : Code := { maxStack := 2, maxLocals := 2, code := method_3_code, exceptionTable := #[], attributes := #[] }
def k1m2 : Method := { name := "ans", desc := "(II)I", sig := { parameters := [.int, .int], returnType := some .int }, accessFlags := 10, code := some k1c2 }
def k1c3 : Code := { maxStack := 2, maxLocals := 4, code := method_4_code, exceptionTable := #[], attributes := #[] }
def k1m3 : Method := { name := "same", desc := "(IIII)Z", sig := { parameters := [.int, .int, .int, .int], returnType := some .boolean }, accessFlags := 10, code := some k1c3 }
def k1c4 : Code := { maxStack := 1, maxLocals := 1, code := method_5_code, exceptionTable := #[], attributes := #[] }
def k1m4 : Method := { name := "one", desc := "(Z)I", sig := { parameters := [.boolean], returnType := some .int }, accessFlags := 10, code := some k1c4 }
def k1c5 : Code := { maxStack := 6, maxLocals := 47, code := code, exceptionTable := #[], attributes := #[] }
def k1m5 : Method := { name := "law", desc := "(IIIIII)Z", sig := { parameters := [.int, .int, .int, .int, .int, .int], returnType := some .boolean }, accessFlags := 9, code := some k1c5 }
/-- com/example/protomata/protomata/PartitionPutPinLaw -/
def k1 : Class := { plain "com/example/protomata/protomata/PartitionPutPinLaw" (some 0) with
  accessFlags := 49
  interfaces := #[]
  cf := some (fileOf pool1 9 #[] #[{ accessFlags := 1, nameIndex := 5, descriptorIndex := 6, attributes := #[] }, { accessFlags := 10, nameIndex := 12, descriptorIndex := 13, attributes := #[] }, { accessFlags := 10, nameIndex := 16, descriptorIndex := 13, attributes := #[] }, { accessFlags := 10, nameIndex := 29, descriptorIndex := 30, attributes := #[] }, { accessFlags := 10, nameIndex := 33, descriptorIndex := 34, attributes := #[] }, { accessFlags := 9, nameIndex := 50, descriptorIndex := 51, attributes := #[] }] 49 2 #[] #[])
  fields := #[]
  methods := #[k1m0, k1m1, k1m2, k1m3, k1m4, k1m5]
  instanceTypes := #[]
  staticTypes := #[]
  resolved := Array.replicate 54 none
  statics := none }

def pool2 : Array CpInfo := pool [(1, .methodref 2 3), (0, .class_ 4), (0, .nameAndType 5 6), (0, u "java/lang/Object"), (0, u "<init>"), (0, u "()V"), (0, .fieldref 8 9), (0, .class_ 10), (0, .nameAndType 11 12), (0, u "com/example/protomata/protomata/Partition"), (0, u "cells"), (0, u "[I"), (0, .fieldref 8 14), (0, .nameAndType 15 12), (0, u "stamps"), (0, .fieldref 8 17), (0, .nameAndType 18 12), (0, u "sizes"), (0, .fieldref 8 20), (0, .nameAndType 21 22), (0, u "answerCount"), (0, u "I"), (0, .methodref 24 25), (0, .class_ 26), (0, .nameAndType 27 28), (0, u "java/lang/Math"), (0, u "multiplyExact"), (0, u "(II)I"), (0, .fieldref 8 30), (0, .nameAndType 31 22), (0, u "stamp"), (2, .integer 2147483647), (6, .fieldref 8 42), (0, .nameAndType 43 22), (0, u "groupCount"), (0, .fieldref 8 45), (0, .nameAndType 46 47), (0, u "squares"), (0, u "J"), (0, .long 2), (7, u "begin"), (0, u "(III)Lcom/example/protomata/protomata/Partition;"), (2, u "put"), (6, u "()I"), (2, u "()J")] 7

def k2c0 : Code := { maxStack := 2, maxLocals := 1, code := prog_101_method_1_code, exceptionTable := #[], attributes := #[] }
def k2m0 : Method := { name := "<init>", desc := "()V", sig := { parameters := [], returnType := none }, accessFlags := 0, code := some k2c0 }
def k2c1 : Code := { maxStack := 3, maxLocals := 5, code := prog_101_method_2_code, exceptionTable := #[], attributes := #[] }
def k2m1 : Method := { name := "begin", desc := "(III)Lcom/example/protomata/protomata/Partition;", sig := { parameters := [.int, .int, .int], returnType := some (.object "com/example/protomata/protomata/Partition") }, accessFlags := 0, code := some k2c1 }
def k2c2 : Code := { maxStack := 7, maxLocals := 5, code := prog_101_method_3_code, exceptionTable := #[], attributes := #[] }
def k2m2 : Method := { name := "put", desc := "(II)I", sig := { parameters := [.int, .int], returnType := some .int }, accessFlags := 0, code := some k2c2 }
def k2c3 : Code := { maxStack := 1, maxLocals := 1, code := prog_101_method_4_code, exceptionTable := #[], attributes := #[] }
def k2m3 : Method := { name := "groupCount", desc := "()I", sig := { parameters := [], returnType := some .int }, accessFlags := 0, code := some k2c3 }
def k2c4 : Code := { maxStack := 2, maxLocals := 1, code := prog_101_method_6_code, exceptionTable := #[], attributes := #[] }
def k2m4 : Method := { name := "squares", desc := "()J", sig := { parameters := [], returnType := some .long }, accessFlags := 0, code := some k2c4 }
/-- com/example/protomata/protomata/Partition -/
def k2 : Class := { plain "com/example/protomata/protomata/Partition" (some 0) with
  accessFlags := 48
  interfaces := #[]
  cf := some (fileOf pool2 8 #[] #[{ accessFlags := 0, nameIndex := 5, descriptorIndex := 6, attributes := #[] }, { accessFlags := 0, nameIndex := 56, descriptorIndex := 57, attributes := #[] }, { accessFlags := 0, nameIndex := 60, descriptorIndex := 28, attributes := #[] }, { accessFlags := 0, nameIndex := 43, descriptorIndex := 67, attributes := #[] }, { accessFlags := 0, nameIndex := 46, descriptorIndex := 70, attributes := #[] }] 48 2 #[] #[{ accessFlags := 2, nameIndex := 21, descriptorIndex := 22, attributes := #[] }, { accessFlags := 2, nameIndex := 11, descriptorIndex := 12, attributes := #[] }, { accessFlags := 2, nameIndex := 15, descriptorIndex := 12, attributes := #[] }, { accessFlags := 2, nameIndex := 31, descriptorIndex := 22, attributes := #[] }, { accessFlags := 2, nameIndex := 18, descriptorIndex := 12, attributes := #[] }, { accessFlags := 2, nameIndex := 43, descriptorIndex := 22, attributes := #[] }, { accessFlags := 2, nameIndex := 46, descriptorIndex := 47, attributes := #[] }])
  fields := #[{ name := "answerCount", type := .int, accessFlags := 2, slot := 0, constantValue := 0 }, { name := "cells", type := (.array .int), accessFlags := 2, slot := 1, constantValue := 0 }, { name := "stamps", type := (.array .int), accessFlags := 2, slot := 2, constantValue := 0 }, { name := "stamp", type := .int, accessFlags := 2, slot := 3, constantValue := 0 }, { name := "sizes", type := (.array .int), accessFlags := 2, slot := 4, constantValue := 0 }, { name := "groupCount", type := .int, accessFlags := 2, slot := 5, constantValue := 0 }, { name := "squares", type := .long, accessFlags := 2, slot := 6, constantValue := 0 }]
  methods := #[k2m0, k2m1, k2m2, k2m3, k2m4]
  instanceTypes := #[.int, (.array .int), (.array .int), .int, (.array .int), .int, .long]
  staticTypes := #[]
  resolved := Array.replicate 78 none
  statics := none }

def pool3 : Array CpInfo := pool [(1, .class_ 2), (0, u "java/lang/Math"), (1, .class_ 6), (1, u "java/lang/Object"), (0, u "<init>"), (0, u "()V"), (89, .class_ 100), (1, u "java/lang/Math$RandomNumberGeneratorHolder"), (19, u "multiplyExact"), (51, u "negativeZeroFloatBits"), (0, u "J"), (2, u "negativeZeroDoubleBits"), (68, u "$assertionsDisabled"), (0, u "Z"), (88, u "(II)I"), (2, u "twoToTheDoubleScaleDown"), (0, u "D"), (4, u "twoToTheDoubleScaleUp"), (9, u "E"), (3, u "PI"), (2, u "TAU"), (2, u "DEGREES_TO_RADIANS"), (0, u "RADIANS_TO_DEGREES")] 94

def k3m0 : Method := { name := "<init>", desc := "()V", sig := { parameters := [], returnType := none }, accessFlags := 2, code := none }
def k3c1 : Code := { maxStack := 4, maxLocals := 4, code := jdk_29_method_28_code, exceptionTable := #[], attributes := #[] }
def k3m1 : Method := { name := "multiplyExact", desc := "(II)I", sig := { parameters := [.int, .int], returnType := some .int }, accessFlags := 9, code := some k3c1 }
/-- java/lang/Math -/
def k3 : Class := { plain "java/lang/Math" (some 0) with
  accessFlags := 49
  interfaces := #[]
  cf := some (fileOf pool3 1 #[.nestMembers #[98]] #[{ accessFlags := 2, nameIndex := 7, descriptorIndex := 8, attributes := #[] }, { accessFlags := 9, nameIndex := 120, descriptorIndex := 335, attributes := #[] }] 49 4 #[] #[{ accessFlags := 25, nameIndex := 354, descriptorIndex := 339, attributes := #[] }, { accessFlags := 25, nameIndex := 358, descriptorIndex := 339, attributes := #[] }, { accessFlags := 25, nameIndex := 361, descriptorIndex := 339, attributes := #[] }, { accessFlags := 26, nameIndex := 364, descriptorIndex := 339, attributes := #[] }, { accessFlags := 26, nameIndex := 365, descriptorIndex := 339, attributes := #[] }, { accessFlags := 26, nameIndex := 172, descriptorIndex := 173, attributes := #[] }, { accessFlags := 26, nameIndex := 176, descriptorIndex := 173, attributes := #[] }, { accessFlags := 8, nameIndex := 344, descriptorIndex := 339, attributes := #[] }, { accessFlags := 8, nameIndex := 338, descriptorIndex := 339, attributes := #[] }, { accessFlags := 4120, nameIndex := 245, descriptorIndex := 246, attributes := #[] }])
  fields := #[{ name := "E", type := .double, accessFlags := 25, slot := 0, constantValue := 0 }, { name := "PI", type := .double, accessFlags := 25, slot := 1, constantValue := 0 }, { name := "TAU", type := .double, accessFlags := 25, slot := 2, constantValue := 0 }, { name := "DEGREES_TO_RADIANS", type := .double, accessFlags := 26, slot := 3, constantValue := 0 }, { name := "RADIANS_TO_DEGREES", type := .double, accessFlags := 26, slot := 4, constantValue := 0 }, { name := "negativeZeroFloatBits", type := .long, accessFlags := 26, slot := 5, constantValue := 0 }, { name := "negativeZeroDoubleBits", type := .long, accessFlags := 26, slot := 6, constantValue := 0 }, { name := "twoToTheDoubleScaleUp", type := .double, accessFlags := 8, slot := 7, constantValue := 0 }, { name := "twoToTheDoubleScaleDown", type := .double, accessFlags := 8, slot := 8, constantValue := 0 }, { name := "$assertionsDisabled", type := .boolean, accessFlags := 4120, slot := 9, constantValue := 0 }]
  methods := #[k3m0, k3m1]
  instanceTypes := #[]
  staticTypes := #[.double, .double, .double, .double, .double, .long, .long, .double, .double, .boolean]
  resolved := Array.replicate 460 none
  statics := none }

def pool4 : Array CpInfo := pool [(1, u "java/lang/Cloneable"), (0, .class_ 1), (0, u "java/lang/Object"), (0, .class_ 3)] 3

/-- java/lang/Cloneable -/
def k4 : Class := { plain "java/lang/Cloneable" (some 0) with
  accessFlags := 1537
  interfaces := #[]
  cf := some (fileOf pool4 2 #[] #[] 1537 4 #[] #[])
  fields := #[]
  methods := #[]
  instanceTypes := #[]
  staticTypes := #[]
  resolved := Array.replicate 8 none
  statics := none }

def pool5 : Array CpInfo := pool [(1, u "java/io/Serializable"), (0, .class_ 1), (0, u "java/lang/Object"), (0, .class_ 3)] 3

/-- java/io/Serializable -/
def k5 : Class := { plain "java/io/Serializable" (some 0) with
  accessFlags := 1537
  interfaces := #[]
  cf := some (fileOf pool5 2 #[] #[] 1537 4 #[] #[])
  fields := #[]
  methods := #[]
  instanceTypes := #[]
  staticTypes := #[]
  resolved := Array.replicate 8 none
  statics := none }

/-- the primitive byte -/
def k6 : Class := { plain "byte" none with kind := .primitive 'B', accessFlags := 0x411 }
/-- [B -/
def k7 : Class := { plain "[B" (some 0) with kind := .array 6 .byte, interfaces := #[4, 5], accessFlags := 1041 }

/-- the primitive int -/
def k8 : Class := { plain "int" none with kind := .primitive 'I', accessFlags := 0x411 }
/-- [I -/
def k9 : Class := { plain "[I" (some 0) with kind := .array 8 .int, interfaces := #[4, 5], accessFlags := 1041 }

def heap : Heap := #[]
def classes : Array Class := #[k0, k1, k2, k3, k4, k5, k6, k7, k8, k9]
def interned : List (Array UInt16 × Addr) := []
def slotsUsed : Nat := 0
def theMethod : MethodId := ⟨1, 5⟩
def args0 : Array Value := #[.int 5, .int 7, .int 3, .int 2, .int 6, .int 8]
def aboutOver (below : List Frame) : State where
  vm := { classes := classes, interned := interned.toArray }
  heap := heap
  slotsUsed := slotsUsed
  threads := #[{ frames := .invoking theMethod args0 :: below }]
def below0 : List Frame := [.native { method := ⟨0, 0⟩, args := #[] }]
def about1 : State := aboutOver below0
def p0 : Program := .bare "" "" ""
def e0 : Env := launch0.env 0 0 0
theorem w_frames : about1.frames = Frame.invoking theMethod args0 :: below0 := rfl
set_option maxRecDepth 65536 in
theorem w_args : argsFit about1.vm theMethod args0 = true := by decide +kernel
set_option maxRecDepth 65536 in
theorem w_heap : heapFits about1 = true := by decide +kernel
set_option maxRecDepth 65536 in
theorem w_runnable : about1.curStatus? = some .runnable := by decide +kernel
set_option maxRecDepth 65536 in
theorem w_alone : about1.alone = true := by decide +kernel
set_option maxRecDepth 65536 in
theorem w_named : about1.methodNamed? x = some theMethod := by decide +kernel
set_option maxRecDepth 65536 in
theorem w_hears : about1.hears theMethod below0 = true := by decide +kernel
set_option maxRecDepth 65536 in
theorem w_ripe : about1.ripe theMethod args0 below0 = true := by decide +kernel
theorem w_running : about1.status = .running := rfl
set_option maxRecDepth 65536 in
theorem w_room : about1.hasRoom e0.platform room_1 = true :=
  launch0.hasRoom_least _ room_1 (by decide +kernel) (by decide +kernel) (by decide +kernel) (by decide +kernel) (by decide +kernel) (by decide +kernel)
theorem allAtoms_all (ts : List Jvm.Cond) (a : Array Jvm.Value) (st : Jvm.State) : (allAtoms ts).before a st = ts.all (fun c => c.before a st) := by
  induction ts with
  | nil => rfl
  | cons c t ih =>
    show (Jvm.Cond.and c (allAtoms t)).before a st = _
    rw [Jvm.Cond.before_and, ih, List.all_cons]
def words1 : List Jvm.Cond := Jvm.Cond.code x code maxLocals ret :: tables_1
/-- a 'code' word, met by the world's own term for the bytes: nothing is compared byte by byte -/
theorem code_word {y : MethodName} {bytes : ByteArray} {mx : Nat} {rt : Option FieldType} {a : Array Value} {s : State} {m : MethodId} {meth : Method} {c : Code} (h1 : s.methodNamed? y = some m) (h2 : s.vm.method? m = some meth) (h3 : meth.code = some c) (h4 : c.code = bytes)
    (h5 : (c.maxLocals == mx && c.exceptionTable.isEmpty && decide (c.maxStack ≤ mostOperands) && decide (meth.sig.returnType = rt) && !meth.locks && decide (parseMethodDescriptor y.desc = some meth.sig)) = true) : (Jvm.Cond.code y bytes mx rt).before a s = true := by
  simp only [Bool.and_eq_true, beq_iff_eq, Bool.not_eq_true', decide_eq_true_eq] at h5
  obtain ⟨⟨⟨⟨⟨g1, g2⟩, g3⟩, g4⟩, g5⟩, g6⟩ := h5
  simp [Cond.before, Cond.holds, Cond.value, h1, h2, h3, h4, g1, g2, g3, g4, g5, g6]
def isCode : Jvm.Cond → Bool
  | .code _ _ _ _ => true
  | _ => false
theorem all_split {L : List Jvm.Cond} {P : Jvm.Cond → Bool} (h1 : L.all (fun c => isCode c || P c) = true) (h2 : ∀ c ∈ L.filter isCode, P c = true) : L.all P = true := by
  refine List.all_eq_true.mpr fun c hc => ?_
  have h := List.all_eq_true.mp h1 c hc
  rcases Bool.eq_false_or_eq_true (isCode c) with hi | hi
  · exact h2 c (List.mem_filter.mpr ⟨hc, hi⟩)
  · simpa [hi] using h
set_option maxRecDepth 65536 in
theorem w_c0 : (Jvm.Cond.code x code maxLocals ret).before args0 about1 = true := code_word (m := ⟨1, 5⟩) (meth := k1m5) (c := k1c5) (by decide +kernel) rfl rfl rfl (by decide +kernel)
set_option maxRecDepth 65536 in
theorem w_c1 : (Jvm.Cond.code ({ cls := "com/example/protomata/protomata/PartitionPutPinLaw", name := "bef", desc := "(II)I" } : Jvm.MethodName) method_2_code (2 : Nat) (Option.some Jvm.ClassFile.FieldType.int)).before args0 about1 = true := code_word (m := ⟨1, 1⟩) (meth := k1m1) (c := k1c1) (by decide +kernel) rfl rfl rfl (by decide +kernel)
set_option maxRecDepth 65536 in
theorem w_c2 : (Jvm.Cond.code ({ cls := "com/example/protomata/protomata/PartitionPutPinLaw", name := "ans", desc := "(II)I" } : Jvm.MethodName) method_3_code (2 : Nat) (Option.some Jvm.ClassFile.FieldType.int)).before args0 about1 = true := code_word (m := ⟨1, 2⟩) (meth := k1m2) (c := k1c2) (by decide +kernel) rfl rfl rfl (by decide +kernel)
set_option maxRecDepth 65536 in
theorem w_c3 : (Jvm.Cond.code ({ cls := "com/example/protomata/protomata/Partition", name := "<init>", desc := "()V" } : Jvm.MethodName) prog_101_method_1_code (1 : Nat) (Option.none : Option Jvm.ClassFile.FieldType)).before args0 about1 = true := code_word (m := ⟨2, 0⟩) (meth := k2m0) (c := k2c0) (by decide +kernel) rfl rfl rfl (by decide +kernel)
set_option maxRecDepth 65536 in
theorem w_c4 : (Jvm.Cond.code ({ cls := "java/lang/Object", name := "<init>", desc := "()V" } : Jvm.MethodName) object_method_1_code (1 : Nat) (Option.none : Option Jvm.ClassFile.FieldType)).before args0 about1 = true := code_word (m := ⟨0, 0⟩) (meth := k0m0) (c := k0c0) (by decide +kernel) rfl rfl rfl (by decide +kernel)
set_option maxRecDepth 65536 in
theorem w_c5 : (Jvm.Cond.code ({ cls := "com/example/protomata/protomata/Partition", name := "begin", desc := "(III)Lcom/example/protomata/protomata/Partition;" } : Jvm.MethodName) prog_101_method_2_code (5 : Nat) (Option.some (Jvm.ClassFile.FieldType.object "com/example/protomata/protomata/Partition"))).before args0 about1 = true := code_word (m := ⟨2, 1⟩) (meth := k2m1) (c := k2c1) (by decide +kernel) rfl rfl rfl (by decide +kernel)
set_option maxRecDepth 65536 in
theorem w_c6 : (Jvm.Cond.code ({ cls := "java/lang/Math", name := "multiplyExact", desc := "(II)I" } : Jvm.MethodName) jdk_29_method_28_code (4 : Nat) (Option.some Jvm.ClassFile.FieldType.int)).before args0 about1 = true := code_word (m := ⟨3, 1⟩) (meth := k3m1) (c := k3c1) (by decide +kernel) rfl rfl rfl (by decide +kernel)
set_option maxRecDepth 65536 in
theorem w_c7 : (Jvm.Cond.code ({ cls := "com/example/protomata/protomata/Partition", name := "put", desc := "(II)I" } : Jvm.MethodName) prog_101_method_3_code (5 : Nat) (Option.some Jvm.ClassFile.FieldType.int)).before args0 about1 = true := code_word (m := ⟨2, 2⟩) (meth := k2m2) (c := k2c2) (by decide +kernel) rfl rfl rfl (by decide +kernel)
set_option maxRecDepth 65536 in
theorem w_c8 : (Jvm.Cond.code ({ cls := "com/example/protomata/protomata/PartitionPutPinLaw", name := "same", desc := "(IIII)Z" } : Jvm.MethodName) method_4_code (4 : Nat) (Option.some Jvm.ClassFile.FieldType.boolean)).before args0 about1 = true := code_word (m := ⟨1, 3⟩) (meth := k1m3) (c := k1c3) (by decide +kernel) rfl rfl rfl (by decide +kernel)
set_option maxRecDepth 65536 in
theorem w_c9 : (Jvm.Cond.code ({ cls := "com/example/protomata/protomata/PartitionPutPinLaw", name := "one", desc := "(Z)I" } : Jvm.MethodName) method_5_code (1 : Nat) (Option.some Jvm.ClassFile.FieldType.int)).before args0 about1 = true := code_word (m := ⟨1, 4⟩) (meth := k1m4) (c := k1c4) (by decide +kernel) rfl rfl rfl (by decide +kernel)
set_option maxRecDepth 65536 in
theorem w_c10 : (Jvm.Cond.code ({ cls := "com/example/protomata/protomata/Partition", name := "groupCount", desc := "()I" } : Jvm.MethodName) prog_101_method_4_code (1 : Nat) (Option.some Jvm.ClassFile.FieldType.int)).before args0 about1 = true := code_word (m := ⟨2, 3⟩) (meth := k2m3) (c := k2c3) (by decide +kernel) rfl rfl rfl (by decide +kernel)
set_option maxRecDepth 65536 in
theorem w_c11 : (Jvm.Cond.code ({ cls := "com/example/protomata/protomata/Partition", name := "squares", desc := "()J" } : Jvm.MethodName) prog_101_method_6_code (1 : Nat) (Option.some Jvm.ClassFile.FieldType.long)).before args0 about1 = true := code_word (m := ⟨2, 4⟩) (meth := k2m4) (c := k2c4) (by decide +kernel) rfl rfl rfl (by decide +kernel)
def codes1 : List Jvm.Cond := [Jvm.Cond.code x code maxLocals ret, Jvm.Cond.code ({ cls := "com/example/protomata/protomata/PartitionPutPinLaw", name := "bef", desc := "(II)I" } : Jvm.MethodName) method_2_code (2 : Nat) (Option.some Jvm.ClassFile.FieldType.int), Jvm.Cond.code ({ cls := "com/example/protomata/protomata/PartitionPutPinLaw", name := "ans", desc := "(II)I" } : Jvm.MethodName) method_3_code (2 : Nat) (Option.some Jvm.ClassFile.FieldType.int), Jvm.Cond.code ({ cls := "com/example/protomata/protomata/Partition", name := "<init>", desc := "()V" } : Jvm.MethodName) prog_101_method_1_code (1 : Nat) (Option.none : Option Jvm.ClassFile.FieldType), Jvm.Cond.code ({ cls := "java/lang/Object", name := "<init>", desc := "()V" } : Jvm.MethodName) object_method_1_code (1 : Nat) (Option.none : Option Jvm.ClassFile.FieldType), Jvm.Cond.code ({ cls := "com/example/protomata/protomata/Partition", name := "begin", desc := "(III)Lcom/example/protomata/protomata/Partition;" } : Jvm.MethodName) prog_101_method_2_code (5 : Nat) (Option.some (Jvm.ClassFile.FieldType.object "com/example/protomata/protomata/Partition")), Jvm.Cond.code ({ cls := "java/lang/Math", name := "multiplyExact", desc := "(II)I" } : Jvm.MethodName) jdk_29_method_28_code (4 : Nat) (Option.some Jvm.ClassFile.FieldType.int), Jvm.Cond.code ({ cls := "com/example/protomata/protomata/Partition", name := "put", desc := "(II)I" } : Jvm.MethodName) prog_101_method_3_code (5 : Nat) (Option.some Jvm.ClassFile.FieldType.int), Jvm.Cond.code ({ cls := "com/example/protomata/protomata/PartitionPutPinLaw", name := "same", desc := "(IIII)Z" } : Jvm.MethodName) method_4_code (4 : Nat) (Option.some Jvm.ClassFile.FieldType.boolean), Jvm.Cond.code ({ cls := "com/example/protomata/protomata/PartitionPutPinLaw", name := "one", desc := "(Z)I" } : Jvm.MethodName) method_5_code (1 : Nat) (Option.some Jvm.ClassFile.FieldType.int), Jvm.Cond.code ({ cls := "com/example/protomata/protomata/Partition", name := "groupCount", desc := "()I" } : Jvm.MethodName) prog_101_method_4_code (1 : Nat) (Option.some Jvm.ClassFile.FieldType.int), Jvm.Cond.code ({ cls := "com/example/protomata/protomata/Partition", name := "squares", desc := "()J" } : Jvm.MethodName) prog_101_method_6_code (1 : Nat) (Option.some Jvm.ClassFile.FieldType.long)]
set_option maxRecDepth 65536 in
theorem codes_eq : words1.filter isCode = codes1 := rfl
theorem w_codes : ∀ c ∈ words1.filter isCode, c.before args0 about1 = true := by
  rw [codes_eq]
  intro c hc
  simp only [codes1, List.mem_cons, List.not_mem_nil, or_false] at hc
  rcases hc with rfl | rfl | rfl | rfl | rfl | rfl | rfl | rfl | rfl | rfl | rfl | rfl
  · exact w_c0
  · exact w_c1
  · exact w_c2
  · exact w_c3
  · exact w_c4
  · exact w_c5
  · exact w_c6
  · exact w_c7
  · exact w_c8
  · exact w_c9
  · exact w_c10
  · exact w_c11
set_option maxRecDepth 65536 in
theorem w_t1 : (words1.take 24).all (fun c => isCode c || c.before args0 about1) = true := by decide +kernel
set_option maxRecDepth 65536 in
theorem w_t2 : ((words1.drop 24).take 24).all (fun c => isCode c || c.before args0 about1) = true := by decide +kernel
set_option maxRecDepth 65536 in
theorem w_t3 : ((words1.drop 24).drop 24).all (fun c => isCode c || c.before args0 about1) = true := by decide +kernel
theorem w_tables : (allAtoms (Jvm.Cond.code x code maxLocals ret :: tables_1)).before args0 about1 = true := by
  rw [allAtoms_all]
  show words1.all (fun c => c.before args0 about1) = true
  refine all_split ?_ w_codes
  rw [← List.take_append_drop 24 words1, List.all_append, w_t1, ← List.take_append_drop 24 (words1.drop 24), List.all_append, w_t2, w_t3]
  rfl
set_option maxRecDepth 65536 in
theorem w_case : (Jvm.Cond.and given_1 narrow_1).before args0 about1 = true := by decide +kernel
theorem w_applies : (headSpec (Jvm.Cond.code x code maxLocals ret :: tables_1) room_1).applies x e0.platform about1 = true :=
  (Spec.applies_iff w_frames).mpr ⟨w_running, w_runnable, w_alone, w_named, w_hears, w_ripe, w_room, w_tables⟩
theorem atStart : AtStart classFile x code maxLocals ret World_1 tables_1 room_1 Calls_1 rest_1 Pre_1 launch0 p0 e0 about1 theMethod args0 below0 :=
  ⟨lists_1, trivial, launch0.admits_env _ _ _, launch0.least_env, fairChoices_fair.cas, fairChoices_fair.clock, w_frames, w_args, w_heap, w_applies, trivial, trivial, w_case⟩
end start1
theorem witness_1 : WitnessClaimed_1 := ⟨start1.p0, start1.e0, start1.about1, start1.theMethod, start1.args0, start1.below0, start1.atStart⟩
end Jvm.Pilot.@@N@@
