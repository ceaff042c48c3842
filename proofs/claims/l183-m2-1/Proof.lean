import JvmDerived
import JvmDerived.Pilot.@@N@@Statement
import JvmDerived.Pilot.@@N@@Code
set_option linter.unusedVariables false
set_option linter.unusedSimpArgs false
namespace Jvm.RoadKit
open Sem ClassFile Op Lib Jvm.Stand Jvm.Free Jvm.LawKit
section New
variable {p : Program} {l : Launch} {e : Env} {R : Room} {s : State} {m : MethodId} {args : Array Value} {below : List Frame} {meth : Method} {c : Code} {T : State} {locs : List Loc} {cells slots : Nat}
theorem retI (X : Stand p l e R s m args below meth c T locs cells slots) (hx : p.tables.exec = Jvm.exec) {pc : Nat} {Ls : Array Slot} {z : Int32} {rest : List Value} (hret : meth.sig.returnType = some .int) (hd : decode c.code pc = .ok (.ireturn, 1)) {fs : List Frame}
    (hl : ∀ (f : JFrame) (acts : List Action), f.method = m → f.locked = none → f.entered = [] → (doReturn e (T.setTop f) acts (some (.int z))).1 = T.setFrames fs) : Steps p.tables e below (T.setTop (mkF m pc Ls (.int z :: rest))) (T.setFrames fs) := by
  have hm' : T.vm.method? m = some meth := X.method'
  have hn : narrow .int (.int z) = .int z := rfl
  show Steps p.tables e below (T.setTop { method := m, pc := pc, locals := Ls, stack := _ :: rest, locked := none }) _
  jvm_step X.here [X.here.top, hx, hd, hm', hret, hn]
  first | (intro acts; rw [hl _ acts rfl rfl rfl]) | rw [hl _ _ rfl rfl rfl]
  exact Steps.refl _
end New
end Jvm.RoadKit
namespace Jvm.Pilot.@@N@@
open Jvm Jvm.ClassFile Sem Op Lib Jvm.Free Jvm.Stand Jvm.LawKit Jvm.RoadKit Bundle Jvm.Pilot.@@N@@.Jvm.D
def Wp (p : Program) (e : Env) (s : State) (below : List Frame) (C S : Nat) (Q : Option Value → Heap → List Loc → Prop) (T : State) (g : JFrame) : Prop :=
  ∃ s₂ o, Steps p.tables e below (T.setTop g) s₂ ∧ s₂.status = .running ∧ Ended s₂ below o ∧ ∃ v L, o = .returned v ∧ Q v s₂.heap L ∧ FrameEnd s o s₂ L C S
section OwnW
variable {p : Program} {l : Launch} {e : Env} {R : Room} {s : State} {m : MethodId} {args : Array Value} {below : List Frame} {meth : Method} {c : Code} {T : State} {locs : List Loc} {cells slots : Nat} {C S : Nat} {Q : Option Value → Heap → List Loc → Prop} {pc pc' : Nat} {Ls : Array Slot} {st : List Value}
theorem Wp.via {T' : State} {g g' : JFrame} (st : ∀ t, Steps p.tables e below (T'.setTop g') t → Steps p.tables e below (T.setTop g) t) (k : Wp p e s below C S Q T' g') : Wp p e s below C S Q T g := by
  obtain ⟨s₂, o, h1, h2⟩ := k
  exact ⟨s₂, o, st _ h1, h2⟩
theorem w_iload (X : Stand p l e R s m args below meth c T locs cells slots) (hx : p.tables.exec = Jvm.exec) {k : Nat} {v : Int32} (hd : decode c.code pc = .ok (.iload k, 2)) (hl : Ls[k]? = some (.val (.int v))) (hp : pc + 2 = pc') (k : Wp p e s below C S Q T (mkF m pc' Ls (Value.int v :: st))) : Wp p e s below C S Q T (mkF m pc Ls (st)) := by
  subst hp
  exact Wp.via (fun _ h => XS.iload X.here hx rfl hd hl h) k
theorem w_iloadN (X : Stand p l e R s m args below meth c T locs cells slots) (hx : p.tables.exec = Jvm.exec) {k : Fin 4} {v : Int32} (hd : decode c.code pc = .ok (.iload_n k, 1)) (hl : Ls[k.val]? = some (.val (.int v))) (hp : pc + 1 = pc') (k : Wp p e s below C S Q T (mkF m pc' Ls (Value.int v :: st))) : Wp p e s below C S Q T (mkF m pc Ls (st)) := by
  subst hp
  exact Wp.via (fun _ h => XS.iloadN X.here hx rfl hd hl h) k
theorem w_lload (X : Stand p l e R s m args below meth c T locs cells slots) (hx : p.tables.exec = Jvm.exec) {k : Nat} {v : Int64} (hd : decode c.code pc = .ok (.lload k, 2)) (hl : Ls[k]? = some (.val (.long v))) (hp : pc + 2 = pc') (k : Wp p e s below C S Q T (mkF m pc' Ls (Value.long v :: st))) : Wp p e s below C S Q T (mkF m pc Ls (st)) := by
  subst hp
  exact Wp.via (fun _ h => XT.lload X.here hx rfl hd hl h) k
theorem w_lloadN (X : Stand p l e R s m args below meth c T locs cells slots) (hx : p.tables.exec = Jvm.exec) {k : Fin 4} {v : Int64} (hd : decode c.code pc = .ok (.lload_n k, 1)) (hl : Ls[k.val]? = some (.val (.long v))) (hp : pc + 1 = pc') (k : Wp p e s below C S Q T (mkF m pc' Ls (Value.long v :: st))) : Wp p e s below C S Q T (mkF m pc Ls (st)) := by
  subst hp
  exact Wp.via (fun _ h => XT.lloadN X.here hx rfl hd hl h) k
theorem w_aload (X : Stand p l e R s m args below meth c T locs cells slots) (hx : p.tables.exec = Jvm.exec) {k : Nat} {v : Value} (hd : decode c.code pc = .ok (.aload k, 2)) (hl : Ls[k]? = some (.val v)) (hv : v.isRef = true) (hp : pc + 2 = pc') (k : Wp p e s below C S Q T (mkF m pc' Ls (v :: st))) : Wp p e s below C S Q T (mkF m pc Ls (st)) := by
  subst hp
  exact Wp.via (fun _ h => XS.aload X.here hx rfl hd hl hv h) k
theorem w_aloadN (X : Stand p l e R s m args below meth c T locs cells slots) (hx : p.tables.exec = Jvm.exec) {k : Fin 4} {v : Value} (hd : decode c.code pc = .ok (.aload_n k, 1)) (hl : Ls[k.val]? = some (.val v)) (hv : v.isRef = true) (hp : pc + 1 = pc') (k : Wp p e s below C S Q T (mkF m pc' Ls (v :: st))) : Wp p e s below C S Q T (mkF m pc Ls (st)) := by
  subst hp
  exact Wp.via (fun _ h => XS.aloadN X.here hx rfl hd hl hv h) k
theorem w_istore (X : Stand p l e R s m args below meth c T locs cells slots) (hx : p.tables.exec = Jvm.exec) {k : Nat} {v : Int32} {l' : Array Slot} (hd : decode c.code pc = .ok (.istore k, 2)) (hl : storeLocals Ls k (Value.int v) = some l') (hp : pc + 2 = pc') (k : Wp p e s below C S Q T (mkF m pc' l' (st))) : Wp p e s below C S Q T (mkF m pc Ls (Value.int v :: st)) := by
  subst hp
  exact Wp.via (fun _ h => XS.istore X.here hx rfl hd rfl hl h) k
theorem w_istoreN (X : Stand p l e R s m args below meth c T locs cells slots) (hx : p.tables.exec = Jvm.exec) {k : Fin 4} {v : Int32} {l' : Array Slot} (hd : decode c.code pc = .ok (.istore_n k, 1)) (hl : storeLocals Ls k.val (Value.int v) = some l') (hp : pc + 1 = pc') (k : Wp p e s below C S Q T (mkF m pc' l' (st))) : Wp p e s below C S Q T (mkF m pc Ls (Value.int v :: st)) := by
  subst hp
  exact Wp.via (fun _ h => XS.istoreN X.here hx rfl hd rfl hl h) k
theorem w_lstore (X : Stand p l e R s m args below meth c T locs cells slots) (hx : p.tables.exec = Jvm.exec) {k : Nat} {v : Int64} {l' : Array Slot} (hd : decode c.code pc = .ok (.lstore k, 2)) (hl : storeLocals Ls k (Value.long v) = some l') (hp : pc + 2 = pc') (k : Wp p e s below C S Q T (mkF m pc' l' (st))) : Wp p e s below C S Q T (mkF m pc Ls (Value.long v :: st)) := by
  subst hp
  exact Wp.via (fun _ h => XT.lstore X.here hx rfl hd rfl hl h) k
theorem w_lstoreN (X : Stand p l e R s m args below meth c T locs cells slots) (hx : p.tables.exec = Jvm.exec) {k : Fin 4} {v : Int64} {l' : Array Slot} (hd : decode c.code pc = .ok (.lstore_n k, 1)) (hl : storeLocals Ls k.val (Value.long v) = some l') (hp : pc + 1 = pc') (k : Wp p e s below C S Q T (mkF m pc' l' (st))) : Wp p e s below C S Q T (mkF m pc Ls (Value.long v :: st)) := by
  subst hp
  exact Wp.via (fun _ h => XT.lstoreN X.here hx rfl hd rfl hl h) k
theorem w_istoreS (X : Stand p l e R s m args below meth c T locs cells slots) (hx : p.tables.exec = Jvm.exec) {k : Nat} {v : Int32} {o : Slot} (hd : decode c.code pc = .ok (.istore k, 2)) (hold : Ls[k]? = some o) (ho : One o) (hp : pc + 2 = pc') (k : Wp p e s below C S Q T (mkF m pc' (Ls.setIfInBounds k (.val (.int v))) (st))) : Wp p e s below C S Q T (mkF m pc Ls (Value.int v :: st)) := by
  subst hp
  exact Wp.via (fun _ h => XS.istoreS X.here hx rfl hd rfl hold ho h) k
theorem w_astore (X : Stand p l e R s m args below meth c T locs cells slots) (hx : p.tables.exec = Jvm.exec) {k : Nat} {v : Value} {l' : Array Slot} (hd : decode c.code pc = .ok (.astore k, 2)) (hv : v.isRef = true) (hl : storeLocals Ls k v = some l') (hp : pc + 2 = pc') (k : Wp p e s below C S Q T (mkF m pc' l' (st))) : Wp p e s below C S Q T (mkF m pc Ls (v :: st)) := by
  subst hp
  exact Wp.via (fun _ h => XS.astore X.here hx rfl hd rfl hv hl h) k
theorem w_astoreN (X : Stand p l e R s m args below meth c T locs cells slots) (hx : p.tables.exec = Jvm.exec) {k : Fin 4} {v : Value} {l' : Array Slot} (hd : decode c.code pc = .ok (.astore_n k, 1)) (hv : v.isRef = true) (hl : storeLocals Ls k.val v = some l') (hp : pc + 1 = pc') (k : Wp p e s below C S Q T (mkF m pc' l' (st))) : Wp p e s below C S Q T (mkF m pc Ls (v :: st)) := by
  subst hp
  exact Wp.via (fun _ h => XS.astoreN X.here hx rfl hd rfl hv hl h) k
theorem w_iconst (X : Stand p l e R s m args below meth c T locs cells slots) (hx : p.tables.exec = Jvm.exec) {i : Int} {v : Int32} (hd : decode c.code pc = .ok (.iconst i, 1)) (hv : Int32.ofInt i = v) (hp : pc + 1 = pc') (k : Wp p e s below C S Q T (mkF m pc' Ls (Value.int v :: st))) : Wp p e s below C S Q T (mkF m pc Ls (st)) := by
  subst hp hv
  exact Wp.via (fun _ h => XS.iconst X.here hx rfl hd h) k
theorem w_bipush (X : Stand p l e R s m args below meth c T locs cells slots) (hx : p.tables.exec = Jvm.exec) {i : Int} {v : Int32} (hd : decode c.code pc = .ok (.bipush i, 2)) (hv : (Int8.ofInt i).toInt32 = v) (hp : pc + 2 = pc') (k : Wp p e s below C S Q T (mkF m pc' Ls (Value.int v :: st))) : Wp p e s below C S Q T (mkF m pc Ls (st)) := by
  subst hp hv
  exact Wp.via (fun _ h => XS.bipush X.here hx rfl hd h) k
theorem w_sipush (X : Stand p l e R s m args below meth c T locs cells slots) (hx : p.tables.exec = Jvm.exec) {i : Int} {v : Int32} (hd : decode c.code pc = .ok (.sipush i, 3)) (hv : (Int16.ofInt i).toInt32 = v) (hp : pc + 3 = pc') (k : Wp p e s below C S Q T (mkF m pc' Ls (Value.int v :: st))) : Wp p e s below C S Q T (mkF m pc Ls (st)) := by
  subst hp hv
  exact Wp.via (fun _ h => XS.sipush X.here hx rfl hd h) k
theorem w_lconst (X : Stand p l e R s m args below meth c T locs cells slots) (hx : p.tables.exec = Jvm.exec) {k : Fin 2} {v : Int64} (hd : decode c.code pc = .ok (.lconst k, 1)) (hv : Int64.ofNat k = v) (hp : pc + 1 = pc') (k : Wp p e s below C S Q T (mkF m pc' Ls (Value.long v :: st))) : Wp p e s below C S Q T (mkF m pc Ls (st)) := by
  subst hp hv
  exact Wp.via (fun _ h => XT.lconst X.here hx rfl hd h) k
theorem w_aconst (X : Stand p l e R s m args below meth c T locs cells slots) (hx : p.tables.exec = Jvm.exec)  (hd : decode c.code pc = .ok (.aconst_null, 1))  (hp : pc + 1 = pc') (k : Wp p e s below C S Q T (mkF m pc' Ls (Value.null :: st))) : Wp p e s below C S Q T (mkF m pc Ls (st)) := by
  subst hp
  exact Wp.via (fun _ h => XS.aconstNull X.here hx rfl hd h) k
theorem w_ldc (X : Stand p l e R s m args below meth c T locs cells slots) (hx : p.tables.exec = Jvm.exec) {i : Nat} {v : Int32} {own : String} (hd : decode c.code pc = .ok (.ldc i, 2)) (hown : s.vm.findClass own = some m.cls) (hc : (Jvm.Cond.constant own i v).before args s = true) (hp : pc + 2 = pc') (k : Wp p e s below C S Q T (mkF m pc' Ls (Value.int v :: st))) : Wp p e s below C S Q T (mkF m pc Ls (st)) := by
  subst hp
  exact Wp.via (fun _ h => X.ldcInt hx hown hc (g := mkF m pc Ls st) rfl hd _ h) k
theorem w_ldc2 (X : Stand p l e R s m args below meth c T locs cells slots) (hx : p.tables.exec = Jvm.exec) {i : Nat} {v : Int64} {own : String} (hd : decode c.code pc = .ok (.ldc2_w i, 3)) (hown : s.vm.findClass own = some m.cls) (hc : (Jvm.Cond.constantLong own i v).before args s = true) (hp : pc + 3 = pc') (k : Wp p e s below C S Q T (mkF m pc' Ls (Value.long v :: st))) : Wp p e s below C S Q T (mkF m pc Ls (st)) := by
  subst hp
  exact Wp.via (fun _ h => X.ldc2Long hx hown hc (g := mkF m pc Ls st) rfl hd _ h) k
theorem w_iadd (X : Stand p l e R s m args below meth c T locs cells slots) (hx : p.tables.exec = Jvm.exec) {x y : Int32} (hd : decode c.code pc = .ok (.iadd, 1))  (hp : pc + 1 = pc') (k : Wp p e s below C S Q T (mkF m pc' Ls (Value.int (x + y) :: st))) : Wp p e s below C S Q T (mkF m pc Ls (Value.int y :: Value.int x :: st)) := by
  subst hp
  exact Wp.via (fun _ h => XS.iadd X.here hx rfl hd rfl h) k
theorem w_isub (X : Stand p l e R s m args below meth c T locs cells slots) (hx : p.tables.exec = Jvm.exec) {x y : Int32} (hd : decode c.code pc = .ok (.isub, 1))  (hp : pc + 1 = pc') (k : Wp p e s below C S Q T (mkF m pc' Ls (Value.int (x - y) :: st))) : Wp p e s below C S Q T (mkF m pc Ls (Value.int y :: Value.int x :: st)) := by
  subst hp
  exact Wp.via (fun _ h => XS.isub X.here hx rfl hd rfl h) k
theorem w_iand (X : Stand p l e R s m args below meth c T locs cells slots) (hx : p.tables.exec = Jvm.exec) {x y : Int32} (hd : decode c.code pc = .ok (.iand, 1))  (hp : pc + 1 = pc') (k : Wp p e s below C S Q T (mkF m pc' Ls (Value.int (x &&& y) :: st))) : Wp p e s below C S Q T (mkF m pc Ls (Value.int y :: Value.int x :: st)) := by
  subst hp
  exact Wp.via (fun _ h => XS.iand X.here hx rfl hd rfl h) k
theorem w_imul (X : Stand p l e R s m args below meth c T locs cells slots) (hx : p.tables.exec = Jvm.exec) {x y : Int32} (hd : decode c.code pc = .ok (.imul, 1))  (hp : pc + 1 = pc') (k : Wp p e s below C S Q T (mkF m pc' Ls (Value.int (x * y) :: st))) : Wp p e s below C S Q T (mkF m pc Ls (Value.int y :: Value.int x :: st)) := by
  subst hp
  exact Wp.via (fun _ h => XS.imul X.here hx rfl hd rfl h) k
theorem w_ixor (X : Stand p l e R s m args below meth c T locs cells slots) (hx : p.tables.exec = Jvm.exec) {x y : Int32} (hd : decode c.code pc = .ok (.ixor, 1))  (hp : pc + 1 = pc') (k : Wp p e s below C S Q T (mkF m pc' Ls (Value.int (x ^^^ y) :: st))) : Wp p e s below C S Q T (mkF m pc Ls (Value.int y :: Value.int x :: st)) := by
  subst hp
  exact Wp.via (fun _ h => XT.ixor X.here hx rfl hd rfl h) k
theorem w_ior (X : Stand p l e R s m args below meth c T locs cells slots) (hx : p.tables.exec = Jvm.exec) {x y : Int32} (hd : decode c.code pc = .ok (.ior, 1))  (hp : pc + 1 = pc') (k : Wp p e s below C S Q T (mkF m pc' Ls (Value.int (x ||| y) :: st))) : Wp p e s below C S Q T (mkF m pc Ls (Value.int y :: Value.int x :: st)) := by
  subst hp
  exact Wp.via (fun _ h => XT.ior X.here hx rfl hd rfl h) k
theorem w_ishl (X : Stand p l e R s m args below meth c T locs cells slots) (hx : p.tables.exec = Jvm.exec) {x y : Int32} (hd : decode c.code pc = .ok (.ishl, 1))  (hp : pc + 1 = pc') (k : Wp p e s below C S Q T (mkF m pc' Ls (Value.int (x <<< (y &&& 31)) :: st))) : Wp p e s below C S Q T (mkF m pc Ls (Value.int y :: Value.int x :: st)) := by
  subst hp
  exact Wp.via (fun _ h => XT.ishl X.here hx rfl hd rfl h) k
theorem w_ishr (X : Stand p l e R s m args below meth c T locs cells slots) (hx : p.tables.exec = Jvm.exec) {x y : Int32} (hd : decode c.code pc = .ok (.ishr, 1))  (hp : pc + 1 = pc') (k : Wp p e s below C S Q T (mkF m pc' Ls (Value.int (x >>> (y &&& 31)) :: st))) : Wp p e s below C S Q T (mkF m pc Ls (Value.int y :: Value.int x :: st)) := by
  subst hp
  exact Wp.via (fun _ h => XT.ishr X.here hx rfl hd rfl h) k
theorem w_iushr (X : Stand p l e R s m args below meth c T locs cells slots) (hx : p.tables.exec = Jvm.exec) {x y : Int32} (hd : decode c.code pc = .ok (.iushr, 1))  (hp : pc + 1 = pc') (k : Wp p e s below C S Q T (mkF m pc' Ls (Value.int (XT.ushr x y) :: st))) : Wp p e s below C S Q T (mkF m pc Ls (Value.int y :: Value.int x :: st)) := by
  subst hp
  exact Wp.via (fun _ h => XT.iushr X.here hx rfl hd rfl h) k
theorem w_idiv (X : Stand p l e R s m args below meth c T locs cells slots) (hx : p.tables.exec = Jvm.exec) {x y : Int32} (hd : decode c.code pc = .ok (.idiv, 1)) (hy : y ≠ 0) (hp : pc + 1 = pc') (k : Wp p e s below C S Q T (mkF m pc' Ls (Value.int (x / y) :: st))) : Wp p e s below C S Q T (mkF m pc Ls (Value.int y :: Value.int x :: st)) := by
  subst hp
  exact Wp.via (fun _ h => XS.idiv X.here hx rfl hd rfl hy h) k
theorem w_irem (X : Stand p l e R s m args below meth c T locs cells slots) (hx : p.tables.exec = Jvm.exec) {x y : Int32} (hd : decode c.code pc = .ok (.irem, 1)) (hy : y ≠ 0) (hp : pc + 1 = pc') (k : Wp p e s below C S Q T (mkF m pc' Ls (Value.int (x % y) :: st))) : Wp p e s below C S Q T (mkF m pc Ls (Value.int y :: Value.int x :: st)) := by
  subst hp
  exact Wp.via (fun _ h => iremM X hx rfl hd rfl hy h) k
theorem w_ladd (X : Stand p l e R s m args below meth c T locs cells slots) (hx : p.tables.exec = Jvm.exec) {x y : Int64} (hd : decode c.code pc = .ok (.ladd, 1))  (hp : pc + 1 = pc') (k : Wp p e s below C S Q T (mkF m pc' Ls (Value.long (x + y) :: st))) : Wp p e s below C S Q T (mkF m pc Ls (Value.long y :: Value.long x :: st)) := by
  subst hp
  exact Wp.via (fun _ h => XT.ladd X.here hx rfl hd rfl h) k
theorem w_lsub (X : Stand p l e R s m args below meth c T locs cells slots) (hx : p.tables.exec = Jvm.exec) {x y : Int64} (hd : decode c.code pc = .ok (.lsub, 1))  (hp : pc + 1 = pc') (k : Wp p e s below C S Q T (mkF m pc' Ls (Value.long (x - y) :: st))) : Wp p e s below C S Q T (mkF m pc Ls (Value.long y :: Value.long x :: st)) := by
  subst hp
  exact Wp.via (fun _ h => XT.lsub X.here hx rfl hd rfl h) k
theorem w_lmul (X : Stand p l e R s m args below meth c T locs cells slots) (hx : p.tables.exec = Jvm.exec) {x y : Int64} (hd : decode c.code pc = .ok (.lmul, 1))  (hp : pc + 1 = pc') (k : Wp p e s below C S Q T (mkF m pc' Ls (Value.long (x * y) :: st))) : Wp p e s below C S Q T (mkF m pc Ls (Value.long y :: Value.long x :: st)) := by
  subst hp
  exact Wp.via (fun _ h => XT.lmul X.here hx rfl hd rfl h) k
theorem w_land (X : Stand p l e R s m args below meth c T locs cells slots) (hx : p.tables.exec = Jvm.exec) {x y : Int64} (hd : decode c.code pc = .ok (.land, 1))  (hp : pc + 1 = pc') (k : Wp p e s below C S Q T (mkF m pc' Ls (Value.long (x &&& y) :: st))) : Wp p e s below C S Q T (mkF m pc Ls (Value.long y :: Value.long x :: st)) := by
  subst hp
  exact Wp.via (fun _ h => XT.land X.here hx rfl hd rfl h) k
theorem w_lor (X : Stand p l e R s m args below meth c T locs cells slots) (hx : p.tables.exec = Jvm.exec) {x y : Int64} (hd : decode c.code pc = .ok (.lor, 1))  (hp : pc + 1 = pc') (k : Wp p e s below C S Q T (mkF m pc' Ls (Value.long (x ||| y) :: st))) : Wp p e s below C S Q T (mkF m pc Ls (Value.long y :: Value.long x :: st)) := by
  subst hp
  exact Wp.via (fun _ h => XT.lor X.here hx rfl hd rfl h) k
theorem w_lxor (X : Stand p l e R s m args below meth c T locs cells slots) (hx : p.tables.exec = Jvm.exec) {x y : Int64} (hd : decode c.code pc = .ok (.lxor, 1))  (hp : pc + 1 = pc') (k : Wp p e s below C S Q T (mkF m pc' Ls (Value.long (x ^^^ y) :: st))) : Wp p e s below C S Q T (mkF m pc Ls (Value.long y :: Value.long x :: st)) := by
  subst hp
  exact Wp.via (fun _ h => XT.lxor X.here hx rfl hd rfl h) k
theorem w_ldiv (X : Stand p l e R s m args below meth c T locs cells slots) (hx : p.tables.exec = Jvm.exec) {x y : Int64} (hd : decode c.code pc = .ok (.ldiv, 1)) (hy : y ≠ 0) (hp : pc + 1 = pc') (k : Wp p e s below C S Q T (mkF m pc' Ls (Value.long (x / y) :: st))) : Wp p e s below C S Q T (mkF m pc Ls (Value.long y :: Value.long x :: st)) := by
  subst hp
  exact Wp.via (fun _ h => XT.ldiv X.here hx rfl hd rfl hy h) k
theorem w_lrem (X : Stand p l e R s m args below meth c T locs cells slots) (hx : p.tables.exec = Jvm.exec) {x y : Int64} (hd : decode c.code pc = .ok (.lrem, 1)) (hy : y ≠ 0) (hp : pc + 1 = pc') (k : Wp p e s below C S Q T (mkF m pc' Ls (Value.long (x % y) :: st))) : Wp p e s below C S Q T (mkF m pc Ls (Value.long y :: Value.long x :: st)) := by
  subst hp
  exact Wp.via (fun _ h => XT.lrem X.here hx rfl hd rfl hy (by rw [lrem_mod]; exact h)) k
theorem w_lshl (X : Stand p l e R s m args below meth c T locs cells slots) (hx : p.tables.exec = Jvm.exec) {x : Int64} {y : Int32} (hd : decode c.code pc = .ok (.lshl, 1))  (hp : pc + 1 = pc') (k : Wp p e s below C S Q T (mkF m pc' Ls (Value.long (x <<< (y.toInt64 &&& 63)) :: st))) : Wp p e s below C S Q T (mkF m pc Ls (Value.int y :: Value.long x :: st)) := by
  subst hp
  exact Wp.via (fun _ h => XT.lshl X.here hx rfl hd rfl h) k
theorem w_lshr (X : Stand p l e R s m args below meth c T locs cells slots) (hx : p.tables.exec = Jvm.exec) {x : Int64} {y : Int32} (hd : decode c.code pc = .ok (.lshr, 1))  (hp : pc + 1 = pc') (k : Wp p e s below C S Q T (mkF m pc' Ls (Value.long (x >>> (y.toInt64 &&& 63)) :: st))) : Wp p e s below C S Q T (mkF m pc Ls (Value.int y :: Value.long x :: st)) := by
  subst hp
  exact Wp.via (fun _ h => XT.lshr X.here hx rfl hd rfl h) k
theorem w_lushr (X : Stand p l e R s m args below meth c T locs cells slots) (hx : p.tables.exec = Jvm.exec) {x : Int64} {y : Int32} (hd : decode c.code pc = .ok (.lushr, 1))  (hp : pc + 1 = pc') (k : Wp p e s below C S Q T (mkF m pc' Ls (Value.long (XT.ushrL x y) :: st))) : Wp p e s below C S Q T (mkF m pc Ls (Value.int y :: Value.long x :: st)) := by
  subst hp
  exact Wp.via (fun _ h => XT.lushr X.here hx rfl hd rfl h) k
theorem w_lcmp (X : Stand p l e R s m args below meth c T locs cells slots) (hx : p.tables.exec = Jvm.exec) {x y : Int64} (hd : decode c.code pc = .ok (.lcmp, 1))  (hp : pc + 1 = pc') (k : Wp p e s below C S Q T (mkF m pc' Ls (Value.int (XT.cmpL x y) :: st))) : Wp p e s below C S Q T (mkF m pc Ls (Value.long y :: Value.long x :: st)) := by
  subst hp
  exact Wp.via (fun _ h => XT.lcmp X.here hx rfl hd rfl h) k
theorem w_ineg (X : Stand p l e R s m args below meth c T locs cells slots) (hx : p.tables.exec = Jvm.exec) {x : Int32} (hd : decode c.code pc = .ok (.ineg, 1))  (hp : pc + 1 = pc') (k : Wp p e s below C S Q T (mkF m pc' Ls (Value.int (-x) :: st))) : Wp p e s below C S Q T (mkF m pc Ls (Value.int x :: st)) := by
  subst hp
  exact Wp.via (fun _ h => XS.ineg X.here hx rfl hd rfl h) k
theorem w_lneg (X : Stand p l e R s m args below meth c T locs cells slots) (hx : p.tables.exec = Jvm.exec) {x : Int64} (hd : decode c.code pc = .ok (.lneg, 1))  (hp : pc + 1 = pc') (k : Wp p e s below C S Q T (mkF m pc' Ls (Value.long (-x) :: st))) : Wp p e s below C S Q T (mkF m pc Ls (Value.long x :: st)) := by
  subst hp
  exact Wp.via (fun _ h => XT.lneg X.here hx rfl hd rfl h) k
theorem w_i2l (X : Stand p l e R s m args below meth c T locs cells slots) (hx : p.tables.exec = Jvm.exec) {x : Int32} (hd : decode c.code pc = .ok (.i2l, 1))  (hp : pc + 1 = pc') (k : Wp p e s below C S Q T (mkF m pc' Ls (Value.long x.toInt64 :: st))) : Wp p e s below C S Q T (mkF m pc Ls (Value.int x :: st)) := by
  subst hp
  exact Wp.via (fun _ h => XT.i2l X.here hx rfl hd rfl h) k
theorem w_l2i (X : Stand p l e R s m args below meth c T locs cells slots) (hx : p.tables.exec = Jvm.exec) {x : Int64} (hd : decode c.code pc = .ok (.l2i, 1))  (hp : pc + 1 = pc') (k : Wp p e s below C S Q T (mkF m pc' Ls (Value.int x.toInt32 :: st))) : Wp p e s below C S Q T (mkF m pc Ls (Value.long x :: st)) := by
  subst hp
  exact Wp.via (fun _ h => XT.l2i X.here hx rfl hd rfl h) k
theorem w_i2b (X : Stand p l e R s m args below meth c T locs cells slots) (hx : p.tables.exec = Jvm.exec) {x : Int32} (hd : decode c.code pc = .ok (.i2b, 1))  (hp : pc + 1 = pc') (k : Wp p e s below C S Q T (mkF m pc' Ls (Value.int x.toInt8.toInt32 :: st))) : Wp p e s below C S Q T (mkF m pc Ls (Value.int x :: st)) := by
  subst hp
  exact Wp.via (fun _ h => XT.i2b X.here hx rfl hd rfl h) k
theorem w_i2c (X : Stand p l e R s m args below meth c T locs cells slots) (hx : p.tables.exec = Jvm.exec) {x : Int32} (hd : decode c.code pc = .ok (.i2c, 1))  (hp : pc + 1 = pc') (k : Wp p e s below C S Q T (mkF m pc' Ls (Value.int x.toUInt32.toUInt16.toUInt32.toInt32 :: st))) : Wp p e s below C S Q T (mkF m pc Ls (Value.int x :: st)) := by
  subst hp
  exact Wp.via (fun _ h => XT.i2c X.here hx rfl hd rfl h) k
theorem w_iinc (X : Stand p l e R s m args below meth c T locs cells slots) (hx : p.tables.exec = Jvm.exec) {k : Nat} {cst : Int} {v : Int32} {l' : Array Slot} (hd : decode c.code pc = .ok (.iinc k cst, 3)) (hl : Ls[k]? = some (.val (.int v))) (hl' : storeLocals Ls k (.int (v + Int32.ofInt cst)) = some l') (hp : pc + 3 = pc') (k : Wp p e s below C S Q T (mkF m pc' l' (st))) : Wp p e s below C S Q T (mkF m pc Ls (st)) := by
  subst hp
  exact Wp.via (fun _ h => XS.iinc X.here hx rfl hd hl hl' h) k
theorem w_dup (X : Stand p l e R s m args below meth c T locs cells slots) (hx : p.tables.exec = Jvm.exec) {x : Value} (hd : decode c.code pc = .ok (.dup, 1)) (hc : x.category = 1) (hp : pc + 1 = pc') (k : Wp p e s below C S Q T (mkF m pc' Ls (x :: x :: st))) : Wp p e s below C S Q T (mkF m pc Ls (x :: st)) := by
  subst hp
  exact Wp.via (fun _ h => XS.dup X.here hx rfl hd rfl hc h) k
theorem w_dup2 (X : Stand p l e R s m args below meth c T locs cells slots) (hx : p.tables.exec = Jvm.exec) {x y : Value} (hd : decode c.code pc = .ok (.dup2, 1)) (hc : x.category = 1) (hc' : y.category = 1) (hp : pc + 1 = pc') (k : Wp p e s below C S Q T (mkF m pc' Ls (x :: y :: x :: y :: st))) : Wp p e s below C S Q T (mkF m pc Ls (x :: y :: st)) := by
  subst hp
  exact Wp.via (fun _ h => XT.dup2 X.here hx rfl hd rfl hc hc' h) k
theorem w_dup2L (X : Stand p l e R s m args below meth c T locs cells slots) (hx : p.tables.exec = Jvm.exec) {x : Int64} (hd : decode c.code pc = .ok (.dup2, 1))  (hp : pc + 1 = pc') (k : Wp p e s below C S Q T (mkF m pc' Ls (Value.long x :: Value.long x :: st))) : Wp p e s below C S Q T (mkF m pc Ls (Value.long x :: st)) := by
  subst hp
  exact Wp.via (fun _ h => XT.dup2L X.here hx rfl hd rfl h) k
theorem w_dupX1 (X : Stand p l e R s m args below meth c T locs cells slots) (hx : p.tables.exec = Jvm.exec) {x y : Value} (hd : decode c.code pc = .ok (.dup_x1, 1)) (hc : x.category = 1) (hc' : y.category = 1) (hp : pc + 1 = pc') (k : Wp p e s below C S Q T (mkF m pc' Ls (x :: y :: x :: st))) : Wp p e s below C S Q T (mkF m pc Ls (x :: y :: st)) := by
  subst hp
  exact Wp.via (fun _ h => XT.dupX1 X.here hx rfl hd rfl hc hc' h) k
theorem w_pop (X : Stand p l e R s m args below meth c T locs cells slots) (hx : p.tables.exec = Jvm.exec) {x : Value} (hd : decode c.code pc = .ok (.pop, 1)) (hc : x.category = 1) (hp : pc + 1 = pc') (k : Wp p e s below C S Q T (mkF m pc' Ls (st))) : Wp p e s below C S Q T (mkF m pc Ls (x :: st)) := by
  subst hp
  exact Wp.via (fun _ h => XT.pop X.here hx rfl hd rfl hc h) k
theorem w_goto (X : Stand p l e R s m args below meth c T locs cells slots) (hx : p.tables.exec = Jvm.exec) {o : Int} (hd : decode c.code pc = .ok (.goto o, 3)) (ho : 0 ≤ (pc : Int) + o) (hp : ((pc : Int) + o).toNat = pc') (k : Wp p e s below C S Q T (mkF m pc' Ls st)) : Wp p e s below C S Q T (mkF m pc Ls st) :=
  Wp.via (fun _ h => XS.goto X.here hx rfl (pc0 := pc) (pc' := pc') rfl hd ho hp h) k
theorem w_icmp_eq (X : Stand p l e R s m args below meth c T locs cells slots) (hx : p.tables.exec = Jvm.exec) {o : Int} {pcY : Nat} {x y : Int32} (hd : decode c.code pc = .ok (.if_icmp .eq o, 3)) (ho : 0 ≤ (pc : Int) + o) (hy : ((pc : Int) + o).toNat = pcY) (hp : pc + 3 = pc') (kY : x = y → Wp p e s below C S Q T (mkF m pcY Ls st)) (kN : ¬ x = y → Wp p e s below C S Q T (mkF m pc' Ls st)) : Wp p e s below C S Q T (mkF m pc Ls (Value.int y :: Value.int x :: st)) := by
  by_cases q : x = y
  · exact Wp.via (fun _ h => XS.icmpYes X.here hx rfl (pc0 := pc) (pc' := pcY) rfl hd rfl (teq q).1 ho hy h) (kY q)
  · exact Wp.via (fun _ h => XS.icmpNo X.here hx rfl hd rfl (feq (by simpa using q)).1 h) (by subst hp; exact kN (by simpa using q))
theorem w_if_eq (X : Stand p l e R s m args below meth c T locs cells slots) (hx : p.tables.exec = Jvm.exec) {o : Int} {pcY : Nat} {x : Int32} (hd : decode c.code pc = .ok (.ifCond .eq o, 3)) (ho : 0 ≤ (pc : Int) + o) (hy : ((pc : Int) + o).toNat = pcY) (hp : pc + 3 = pc') (kY : x = 0 → Wp p e s below C S Q T (mkF m pcY Ls st)) (kN : ¬ x = 0 → Wp p e s below C S Q T (mkF m pc' Ls st)) : Wp p e s below C S Q T (mkF m pc Ls (Value.int x :: st)) := by
  by_cases q : x = 0
  · exact Wp.via (fun _ h => XS.ifYes X.here hx rfl (pc0 := pc) (pc' := pcY) rfl hd rfl ((if0 _ _).trans (teq q).1) ho hy h) (kY q)
  · exact Wp.via (fun _ h => XS.ifNo X.here hx rfl hd rfl ((if0 _ _).trans (feq (by simpa using q)).1) h) (by subst hp; exact kN (by simpa using q))
theorem w_icmp_ne (X : Stand p l e R s m args below meth c T locs cells slots) (hx : p.tables.exec = Jvm.exec) {o : Int} {pcY : Nat} {x y : Int32} (hd : decode c.code pc = .ok (.if_icmp .ne o, 3)) (ho : 0 ≤ (pc : Int) + o) (hy : ((pc : Int) + o).toNat = pcY) (hp : pc + 3 = pc') (kY : ¬ x = y → Wp p e s below C S Q T (mkF m pcY Ls st)) (kN : x = y → Wp p e s below C S Q T (mkF m pc' Ls st)) : Wp p e s below C S Q T (mkF m pc Ls (Value.int y :: Value.int x :: st)) := by
  by_cases q : ¬ x = y
  · exact Wp.via (fun _ h => XS.icmpYes X.here hx rfl (pc0 := pc) (pc' := pcY) rfl hd rfl (feq q).2 ho hy h) (kY q)
  · exact Wp.via (fun _ h => XS.icmpNo X.here hx rfl hd rfl (teq (by simpa using q)).2 h) (by subst hp; exact kN (by simpa using q))
theorem w_if_ne (X : Stand p l e R s m args below meth c T locs cells slots) (hx : p.tables.exec = Jvm.exec) {o : Int} {pcY : Nat} {x : Int32} (hd : decode c.code pc = .ok (.ifCond .ne o, 3)) (ho : 0 ≤ (pc : Int) + o) (hy : ((pc : Int) + o).toNat = pcY) (hp : pc + 3 = pc') (kY : ¬ x = 0 → Wp p e s below C S Q T (mkF m pcY Ls st)) (kN : x = 0 → Wp p e s below C S Q T (mkF m pc' Ls st)) : Wp p e s below C S Q T (mkF m pc Ls (Value.int x :: st)) := by
  by_cases q : ¬ x = 0
  · exact Wp.via (fun _ h => XS.ifYes X.here hx rfl (pc0 := pc) (pc' := pcY) rfl hd rfl ((if0 _ _).trans (feq q).2) ho hy h) (kY q)
  · exact Wp.via (fun _ h => XS.ifNo X.here hx rfl hd rfl ((if0 _ _).trans (teq (by simpa using q)).2) h) (by subst hp; exact kN (by simpa using q))
theorem w_icmp_lt (X : Stand p l e R s m args below meth c T locs cells slots) (hx : p.tables.exec = Jvm.exec) {o : Int} {pcY : Nat} {x y : Int32} (hd : decode c.code pc = .ok (.if_icmp .lt o, 3)) (ho : 0 ≤ (pc : Int) + o) (hy : ((pc : Int) + o).toNat = pcY) (hp : pc + 3 = pc') (kY : x < y → Wp p e s below C S Q T (mkF m pcY Ls st)) (kN : ¬ x < y → Wp p e s below C S Q T (mkF m pc' Ls st)) : Wp p e s below C S Q T (mkF m pc Ls (Value.int y :: Value.int x :: st)) := by
  by_cases q : x < y
  · exact Wp.via (fun _ h => XS.icmpYes X.here hx rfl (pc0 := pc) (pc' := pcY) rfl hd rfl (tlt q).1 ho hy h) (kY q)
  · exact Wp.via (fun _ h => XS.icmpNo X.here hx rfl hd rfl (flt (by simpa using q)).1 h) (by subst hp; exact kN (by simpa using q))
theorem w_if_lt (X : Stand p l e R s m args below meth c T locs cells slots) (hx : p.tables.exec = Jvm.exec) {o : Int} {pcY : Nat} {x : Int32} (hd : decode c.code pc = .ok (.ifCond .lt o, 3)) (ho : 0 ≤ (pc : Int) + o) (hy : ((pc : Int) + o).toNat = pcY) (hp : pc + 3 = pc') (kY : x < 0 → Wp p e s below C S Q T (mkF m pcY Ls st)) (kN : ¬ x < 0 → Wp p e s below C S Q T (mkF m pc' Ls st)) : Wp p e s below C S Q T (mkF m pc Ls (Value.int x :: st)) := by
  by_cases q : x < 0
  · exact Wp.via (fun _ h => XS.ifYes X.here hx rfl (pc0 := pc) (pc' := pcY) rfl hd rfl ((if0 _ _).trans (tlt q).1) ho hy h) (kY q)
  · exact Wp.via (fun _ h => XS.ifNo X.here hx rfl hd rfl ((if0 _ _).trans (flt (by simpa using q)).1) h) (by subst hp; exact kN (by simpa using q))
theorem w_icmp_ge (X : Stand p l e R s m args below meth c T locs cells slots) (hx : p.tables.exec = Jvm.exec) {o : Int} {pcY : Nat} {x y : Int32} (hd : decode c.code pc = .ok (.if_icmp .ge o, 3)) (ho : 0 ≤ (pc : Int) + o) (hy : ((pc : Int) + o).toNat = pcY) (hp : pc + 3 = pc') (kY : ¬ x < y → Wp p e s below C S Q T (mkF m pcY Ls st)) (kN : x < y → Wp p e s below C S Q T (mkF m pc' Ls st)) : Wp p e s below C S Q T (mkF m pc Ls (Value.int y :: Value.int x :: st)) := by
  by_cases q : ¬ x < y
  · exact Wp.via (fun _ h => XS.icmpYes X.here hx rfl (pc0 := pc) (pc' := pcY) rfl hd rfl (flt q).2.1 ho hy h) (kY q)
  · exact Wp.via (fun _ h => XS.icmpNo X.here hx rfl hd rfl (tlt (by simpa using q)).2.1 h) (by subst hp; exact kN (by simpa using q))
theorem w_if_ge (X : Stand p l e R s m args below meth c T locs cells slots) (hx : p.tables.exec = Jvm.exec) {o : Int} {pcY : Nat} {x : Int32} (hd : decode c.code pc = .ok (.ifCond .ge o, 3)) (ho : 0 ≤ (pc : Int) + o) (hy : ((pc : Int) + o).toNat = pcY) (hp : pc + 3 = pc') (kY : ¬ x < 0 → Wp p e s below C S Q T (mkF m pcY Ls st)) (kN : x < 0 → Wp p e s below C S Q T (mkF m pc' Ls st)) : Wp p e s below C S Q T (mkF m pc Ls (Value.int x :: st)) := by
  by_cases q : ¬ x < 0
  · exact Wp.via (fun _ h => XS.ifYes X.here hx rfl (pc0 := pc) (pc' := pcY) rfl hd rfl ((if0 _ _).trans (flt q).2.1) ho hy h) (kY q)
  · exact Wp.via (fun _ h => XS.ifNo X.here hx rfl hd rfl ((if0 _ _).trans (tlt (by simpa using q)).2.1) h) (by subst hp; exact kN (by simpa using q))
theorem w_icmp_gt (X : Stand p l e R s m args below meth c T locs cells slots) (hx : p.tables.exec = Jvm.exec) {o : Int} {pcY : Nat} {x y : Int32} (hd : decode c.code pc = .ok (.if_icmp .gt o, 3)) (ho : 0 ≤ (pc : Int) + o) (hy : ((pc : Int) + o).toNat = pcY) (hp : pc + 3 = pc') (kY : y < x → Wp p e s below C S Q T (mkF m pcY Ls st)) (kN : ¬ y < x → Wp p e s below C S Q T (mkF m pc' Ls st)) : Wp p e s below C S Q T (mkF m pc Ls (Value.int y :: Value.int x :: st)) := by
  by_cases q : y < x
  · exact Wp.via (fun _ h => XS.icmpYes X.here hx rfl (pc0 := pc) (pc' := pcY) rfl hd rfl (tlt q).2.2.1 ho hy h) (kY q)
  · exact Wp.via (fun _ h => XS.icmpNo X.here hx rfl hd rfl (flt (by simpa using q)).2.2.1 h) (by subst hp; exact kN (by simpa using q))
theorem w_if_gt (X : Stand p l e R s m args below meth c T locs cells slots) (hx : p.tables.exec = Jvm.exec) {o : Int} {pcY : Nat} {x : Int32} (hd : decode c.code pc = .ok (.ifCond .gt o, 3)) (ho : 0 ≤ (pc : Int) + o) (hy : ((pc : Int) + o).toNat = pcY) (hp : pc + 3 = pc') (kY : 0 < x → Wp p e s below C S Q T (mkF m pcY Ls st)) (kN : ¬ 0 < x → Wp p e s below C S Q T (mkF m pc' Ls st)) : Wp p e s below C S Q T (mkF m pc Ls (Value.int x :: st)) := by
  by_cases q : 0 < x
  · exact Wp.via (fun _ h => XS.ifYes X.here hx rfl (pc0 := pc) (pc' := pcY) rfl hd rfl ((if0 _ _).trans (tlt q).2.2.1) ho hy h) (kY q)
  · exact Wp.via (fun _ h => XS.ifNo X.here hx rfl hd rfl ((if0 _ _).trans (flt (by simpa using q)).2.2.1) h) (by subst hp; exact kN (by simpa using q))
theorem w_icmp_le (X : Stand p l e R s m args below meth c T locs cells slots) (hx : p.tables.exec = Jvm.exec) {o : Int} {pcY : Nat} {x y : Int32} (hd : decode c.code pc = .ok (.if_icmp .le o, 3)) (ho : 0 ≤ (pc : Int) + o) (hy : ((pc : Int) + o).toNat = pcY) (hp : pc + 3 = pc') (kY : ¬ y < x → Wp p e s below C S Q T (mkF m pcY Ls st)) (kN : y < x → Wp p e s below C S Q T (mkF m pc' Ls st)) : Wp p e s below C S Q T (mkF m pc Ls (Value.int y :: Value.int x :: st)) := by
  by_cases q : ¬ y < x
  · exact Wp.via (fun _ h => XS.icmpYes X.here hx rfl (pc0 := pc) (pc' := pcY) rfl hd rfl (flt q).2.2.2 ho hy h) (kY q)
  · exact Wp.via (fun _ h => XS.icmpNo X.here hx rfl hd rfl (tlt (by simpa using q)).2.2.2 h) (by subst hp; exact kN (by simpa using q))
theorem w_if_le (X : Stand p l e R s m args below meth c T locs cells slots) (hx : p.tables.exec = Jvm.exec) {o : Int} {pcY : Nat} {x : Int32} (hd : decode c.code pc = .ok (.ifCond .le o, 3)) (ho : 0 ≤ (pc : Int) + o) (hy : ((pc : Int) + o).toNat = pcY) (hp : pc + 3 = pc') (kY : ¬ 0 < x → Wp p e s below C S Q T (mkF m pcY Ls st)) (kN : 0 < x → Wp p e s below C S Q T (mkF m pc' Ls st)) : Wp p e s below C S Q T (mkF m pc Ls (Value.int x :: st)) := by
  by_cases q : ¬ 0 < x
  · exact Wp.via (fun _ h => XS.ifYes X.here hx rfl (pc0 := pc) (pc' := pcY) rfl hd rfl ((if0 _ _).trans (flt q).2.2.2) ho hy h) (kY q)
  · exact Wp.via (fun _ h => XS.ifNo X.here hx rfl hd rfl ((if0 _ _).trans (tlt (by simpa using q)).2.2.2) h) (by subst hp; exact kN (by simpa using q))
theorem own_cl_lt (x y : Int64) : XT.cmpL x y < 0 ↔ x < y := by
  unfold XT.cmpL
  by_cases h1 : y < x
  · rw [if_pos h1]
    refine ⟨fun h => absurd h (by decide), fun h => absurd (Int64.lt_trans h1 h) Int64.lt_irrefl⟩
  · rw [if_neg h1]
    by_cases h2 : x = y
    · rw [if_pos h2]
      refine ⟨fun h => absurd h (by decide), fun h => absurd (h2 ▸ h) Int64.lt_irrefl⟩
    · rw [if_neg h2]
      refine ⟨fun _ => ?_, fun _ => by decide⟩
      rw [Int64.lt_iff_toInt_lt] at *
      have : x.toInt ≠ y.toInt := fun q => h2 (Int64.toInt_inj.mp q)
      omega
theorem own_cl_gt (x y : Int64) : 0 < XT.cmpL x y ↔ y < x := by
  unfold XT.cmpL
  by_cases h1 : y < x
  · rw [if_pos h1]
    exact ⟨fun _ => h1, fun _ => by decide⟩
  · rw [if_neg h1]
    by_cases h2 : x = y
    · rw [if_pos h2]
      exact ⟨fun h => absurd h (by decide), fun h => absurd h h1⟩
    · rw [if_neg h2]
      exact ⟨fun h => absurd h (by decide), fun h => absurd h h1⟩
theorem own_cl_eq (x y : Int64) : XT.cmpL x y = 0 ↔ x = y := by
  unfold XT.cmpL
  by_cases h1 : y < x
  · rw [if_pos h1]
    exact ⟨fun h => absurd h (by decide), fun h => absurd (h ▸ h1) Int64.lt_irrefl⟩
  · rw [if_neg h1]
    by_cases h2 : x = y
    · rw [if_pos h2]
      exact ⟨fun _ => h2, fun _ => rfl⟩
    · rw [if_neg h2]
      exact ⟨fun h => absurd h (by decide), fun h => absurd h h2⟩
theorem w_lcmp_eq (X : Stand p l e R s m args below meth c T locs cells slots) (hx : p.tables.exec = Jvm.exec) {o : Int} {pcY pc1 : Nat} {x y : Int64} (hd : decode c.code pc = .ok (.lcmp, 1)) (hp1 : pc + 1 = pc1) (hd1 : decode c.code pc1 = .ok (.ifCond .eq o, 3)) (ho : 0 ≤ (pc1 : Int) + o) (hy : ((pc1 : Int) + o).toNat = pcY) (hp : pc1 + 3 = pc') (kY : x = y → Wp p e s below C S Q T (mkF m pcY Ls st)) (kN : ¬ x = y → Wp p e s below C S Q T (mkF m pc' Ls st)) : Wp p e s below C S Q T (mkF m pc Ls (Value.long y :: Value.long x :: st)) :=
  w_lcmp X hx hd hp1 (w_if_eq X hx hd1 ho hy hp (fun q => kY ((own_cl_eq x y).mp q)) (fun q => kN fun r => q ((own_cl_eq x y).mpr r)))
theorem w_lcmp_ne (X : Stand p l e R s m args below meth c T locs cells slots) (hx : p.tables.exec = Jvm.exec) {o : Int} {pcY pc1 : Nat} {x y : Int64} (hd : decode c.code pc = .ok (.lcmp, 1)) (hp1 : pc + 1 = pc1) (hd1 : decode c.code pc1 = .ok (.ifCond .ne o, 3)) (ho : 0 ≤ (pc1 : Int) + o) (hy : ((pc1 : Int) + o).toNat = pcY) (hp : pc1 + 3 = pc') (kY : ¬ x = y → Wp p e s below C S Q T (mkF m pcY Ls st)) (kN : x = y → Wp p e s below C S Q T (mkF m pc' Ls st)) : Wp p e s below C S Q T (mkF m pc Ls (Value.long y :: Value.long x :: st)) :=
  w_lcmp X hx hd hp1 (w_if_ne X hx hd1 ho hy hp (fun q => kY fun r => q ((own_cl_eq x y).mpr r)) (fun q => kN ((own_cl_eq x y).mp q)))
theorem w_lcmp_lt (X : Stand p l e R s m args below meth c T locs cells slots) (hx : p.tables.exec = Jvm.exec) {o : Int} {pcY pc1 : Nat} {x y : Int64} (hd : decode c.code pc = .ok (.lcmp, 1)) (hp1 : pc + 1 = pc1) (hd1 : decode c.code pc1 = .ok (.ifCond .lt o, 3)) (ho : 0 ≤ (pc1 : Int) + o) (hy : ((pc1 : Int) + o).toNat = pcY) (hp : pc1 + 3 = pc') (kY : x < y → Wp p e s below C S Q T (mkF m pcY Ls st)) (kN : ¬ x < y → Wp p e s below C S Q T (mkF m pc' Ls st)) : Wp p e s below C S Q T (mkF m pc Ls (Value.long y :: Value.long x :: st)) :=
  w_lcmp X hx hd hp1 (w_if_lt X hx hd1 ho hy hp (fun q => kY ((own_cl_lt x y).mp q)) (fun q => kN fun r => q ((own_cl_lt x y).mpr r)))
theorem w_lcmp_ge (X : Stand p l e R s m args below meth c T locs cells slots) (hx : p.tables.exec = Jvm.exec) {o : Int} {pcY pc1 : Nat} {x y : Int64} (hd : decode c.code pc = .ok (.lcmp, 1)) (hp1 : pc + 1 = pc1) (hd1 : decode c.code pc1 = .ok (.ifCond .ge o, 3)) (ho : 0 ≤ (pc1 : Int) + o) (hy : ((pc1 : Int) + o).toNat = pcY) (hp : pc1 + 3 = pc') (kY : ¬ x < y → Wp p e s below C S Q T (mkF m pcY Ls st)) (kN : x < y → Wp p e s below C S Q T (mkF m pc' Ls st)) : Wp p e s below C S Q T (mkF m pc Ls (Value.long y :: Value.long x :: st)) :=
  w_lcmp X hx hd hp1 (w_if_ge X hx hd1 ho hy hp (fun q => kY fun r => q ((own_cl_lt x y).mpr r)) (fun q => kN ((own_cl_lt x y).mp q)))
theorem w_lcmp_gt (X : Stand p l e R s m args below meth c T locs cells slots) (hx : p.tables.exec = Jvm.exec) {o : Int} {pcY pc1 : Nat} {x y : Int64} (hd : decode c.code pc = .ok (.lcmp, 1)) (hp1 : pc + 1 = pc1) (hd1 : decode c.code pc1 = .ok (.ifCond .gt o, 3)) (ho : 0 ≤ (pc1 : Int) + o) (hy : ((pc1 : Int) + o).toNat = pcY) (hp : pc1 + 3 = pc') (kY : y < x → Wp p e s below C S Q T (mkF m pcY Ls st)) (kN : ¬ y < x → Wp p e s below C S Q T (mkF m pc' Ls st)) : Wp p e s below C S Q T (mkF m pc Ls (Value.long y :: Value.long x :: st)) :=
  w_lcmp X hx hd hp1 (w_if_gt X hx hd1 ho hy hp (fun q => kY ((own_cl_gt x y).mp q)) (fun q => kN fun r => q ((own_cl_gt x y).mpr r)))
theorem w_lcmp_le (X : Stand p l e R s m args below meth c T locs cells slots) (hx : p.tables.exec = Jvm.exec) {o : Int} {pcY pc1 : Nat} {x y : Int64} (hd : decode c.code pc = .ok (.lcmp, 1)) (hp1 : pc + 1 = pc1) (hd1 : decode c.code pc1 = .ok (.ifCond .le o, 3)) (ho : 0 ≤ (pc1 : Int) + o) (hy : ((pc1 : Int) + o).toNat = pcY) (hp : pc1 + 3 = pc') (kY : ¬ y < x → Wp p e s below C S Q T (mkF m pcY Ls st)) (kN : y < x → Wp p e s below C S Q T (mkF m pc' Ls st)) : Wp p e s below C S Q T (mkF m pc Ls (Value.long y :: Value.long x :: st)) :=
  w_lcmp X hx hd hp1 (w_if_le X hx hd1 ho hy hp (fun q => kY fun r => q ((own_cl_gt x y).mpr r)) (fun q => kN ((own_cl_gt x y).mp q)))
theorem w_eqI {x z : Int32} (h : x = z) (k : Wp p e s below C S Q T (mkF m pc Ls (Value.int z :: st))) : Wp p e s below C S Q T (mkF m pc Ls (Value.int x :: st)) := h ▸ k
theorem w_genI {x : Int32} (k : ∀ z, z = x → Wp p e s below C S Q T (mkF m pc Ls (Value.int z :: st))) : Wp p e s below C S Q T (mkF m pc Ls (Value.int x :: st)) := k x rfl
theorem w_eqJ {x z : Int64} (h : x = z) (k : Wp p e s below C S Q T (mkF m pc Ls (Value.long z :: st))) : Wp p e s below C S Q T (mkF m pc Ls (Value.long x :: st)) := h ▸ k
theorem w_genJ {x : Int64} (k : ∀ z, z = x → Wp p e s below C S Q T (mkF m pc Ls (Value.long z :: st))) : Wp p e s below C S Q T (mkF m pc Ls (Value.long x :: st)) := k x rfl
theorem w_iincE (X : Stand p l e R s m args below meth c T locs cells slots) (hx : p.tables.exec = Jvm.exec) {k : Nat} {cst : Int} {v z : Int32} {l' : Array Slot} (hd : decode c.code pc = .ok (.iinc k cst, 3)) (hl : Ls[k]? = some (.val (.int v))) (hz : v + Int32.ofInt cst = z) (hl' : storeLocals Ls k (.int z) = some l') (hp : pc + 3 = pc') (k : Wp p e s below C S Q T (mkF m pc' l' (st))) : Wp p e s below C S Q T (mkF m pc Ls (st)) := by
  subst hp
  exact Wp.via (fun _ h => XS.iinc X.here hx rfl hd hl (hz ▸ hl') h) k
theorem w_ifnullY (X : Stand p l e R s m args below meth c T locs cells slots) (hx : p.tables.exec = Jvm.exec) {o : Int}  (hd : decode c.code pc = .ok (.ifnull o, 3)) (ho : 0 ≤ (pc : Int) + o) (hp : ((pc : Int) + o).toNat = pc') (k : Wp p e s below C S Q T (mkF m pc' Ls st)) : Wp p e s below C S Q T (mkF m pc Ls (Value.null :: st)) :=
  Wp.via (fun _ h => XS.ifnullYes X.here hx rfl (pc0 := pc) (pc' := pc') rfl hd rfl ho hp h) k
theorem w_ifnonnullY (X : Stand p l e R s m args below meth c T locs cells slots) (hx : p.tables.exec = Jvm.exec) {o : Int} {b : Addr} (hd : decode c.code pc = .ok (.ifnonnull o, 3)) (ho : 0 ≤ (pc : Int) + o) (hp : ((pc : Int) + o).toNat = pc') (k : Wp p e s below C S Q T (mkF m pc' Ls st)) : Wp p e s below C S Q T (mkF m pc Ls (Value.ref b :: st)) :=
  Wp.via (fun _ h => XT.ifnonnullYes X.here hx rfl (pc0 := pc) (pc' := pc') rfl hd rfl ho hp h) k
theorem w_ifnullN (X : Stand p l e R s m args below meth c T locs cells slots) (hx : p.tables.exec = Jvm.exec) {o : Int} {b : Addr} (hd : decode c.code pc = .ok (.ifnull o, 3))  (hp : pc + 3 = pc') (k : Wp p e s below C S Q T (mkF m pc' Ls (st))) : Wp p e s below C S Q T (mkF m pc Ls (Value.ref b :: st)) := by
  subst hp
  exact Wp.via (fun _ h => XS.ifnullNo X.here hx rfl hd rfl h) k
theorem w_ifnonnullN (X : Stand p l e R s m args below meth c T locs cells slots) (hx : p.tables.exec = Jvm.exec) {o : Int} (hd : decode c.code pc = .ok (.ifnonnull o, 3))  (hp : pc + 3 = pc') (k : Wp p e s below C S Q T (mkF m pc' Ls (st))) : Wp p e s below C S Q T (mkF m pc Ls (Value.null :: st)) := by
  subst hp
  exact Wp.via (fun _ h => XT.ifnonnullNo X.here hx rfl hd rfl h) k
theorem own_out {fs : List Frame} {v : Option Value} {g : JFrame} (hs : Steps p.tables e below (T.setTop g) (T.setFrames fs)) (h1 : (T.setFrames fs).status = .running) (h2 : Ended (T.setFrames fs) below (.returned v)) (h3 : s.WarmedH (T.setFrames fs).vm) (h4 : s.sameButNew ({ T.setFrames fs with vm := s.vm } : State) locs cells slots)
    (hc : cells ≤ C) (hl : slots ≤ S) (hq : Q v T.heap locs) : Wp p e s below C S Q T g :=
  ⟨_, _, hs, h1, h2, _, _, rfl, hq, ⟨_, rfl⟩, h3, h4.mono hc hl⟩
theorem w_ret_i (X : Stand p l e R s m args below meth c T locs cells slots) (hx : p.tables.exec = Jvm.exec) {z : Int32} (hret : meth.sig.returnType = some .int) (hlk : meth.locks = false) (hd : decode c.code pc = .ok (.ireturn, 1)) (hc : cells ≤ C) (hl : slots ≤ S) (hq : Q (some (.int z)) T.heap locs) : Wp p e s below C S Q T (mkF m pc Ls (Value.int z :: st)) := by
  obtain ⟨fs, hr, h1, h2, h3, h4⟩ := X.leave (v := some (.int z)) (fun h => by rw [hret] at h; cases h) hlk
  exact own_out (retI X hx hret hd hr) h1 h2 h3 h4 hc hl hq
theorem w_ret_n (X : Stand p l e R s m args below meth c T locs cells slots) (hx : p.tables.exec = Jvm.exec) {z z' : Int32} {t : FieldType} (hret : meth.sig.returnType = some t) (hlk : meth.locks = false) (ht : t = .boolean ∨ t = .byte ∨ t = .char ∨ t = .short) (hd : decode c.code pc = .ok (.ireturn, 1)) (hz : nar t z = z') (hc : cells ≤ C) (hl : slots ≤ S) (hq : Q (some (.int z')) T.heap locs) : Wp p e s below C S Q T (mkF m pc Ls (Value.int z :: st)) := by
  subst hz
  obtain ⟨fs, hr, h1, h2, h3, h4⟩ := X.leave (v := some (.int (nar t z))) (fun h => by rw [hret] at h; cases h) hlk
  exact own_out (retN X hx hret ht hd hr) h1 h2 h3 h4 hc hl hq
theorem w_ret_l (X : Stand p l e R s m args below meth c T locs cells slots) (hx : p.tables.exec = Jvm.exec) {z : Int64} (hret : meth.sig.returnType = some .long) (hlk : meth.locks = false) (hd : decode c.code pc = .ok (.lreturn, 1)) (hc : cells ≤ C) (hl : slots ≤ S) (hq : Q (some (.long z)) T.heap locs) : Wp p e s below C S Q T (mkF m pc Ls [Value.long z]) := by
  obtain ⟨fs, hr, h1, h2, h3, h4⟩ := X.leave (v := some (.long z)) (fun h => by rw [hret] at h; cases h) hlk
  exact own_out (X.lreturnOut hx hret hd hr) h1 h2 h3 h4 hc hl hq
theorem w_ret_a (X : Stand p l e R s m args below meth c T locs cells slots) (hx : p.tables.exec = Jvm.exec) {w : Value} {t : FieldType} (hw : w.isRef = true) (hret : meth.sig.returnType = some t) (ht : t.isReference = true) (hlk : meth.locks = false) (hd : decode c.code pc = .ok (.areturn, 1)) (hc : cells ≤ C) (hl : slots ≤ S) (hq : Q (some w) T.heap locs) : Wp p e s below C S Q T (mkF m pc Ls [w]) := by
  obtain ⟨fs, hr, h1, h2, h3, h4⟩ := X.leave (v := some w) (fun h => by rw [hret] at h; cases h) hlk
  exact own_out (X.areturnOut hx hw hret ht hd hr) h1 h2 h3 h4 hc hl hq
theorem w_ret_v (X : Stand p l e R s m args below meth c T locs cells slots) (hx : p.tables.exec = Jvm.exec) (hret : meth.sig.returnType = none) (hlk : meth.locks = false) (hd : decode c.code pc = .ok (.return_, 1)) (hc : cells ≤ C) (hl : slots ≤ S) (hq : Q none T.heap locs) : Wp p e s below C S Q T (mkF m pc Ls []) := by
  obtain ⟨fs, hr, h1, h2, h3, h4⟩ := X.leave (v := none) (fun h => rfl) hlk
  exact own_out (X.returnOut hx hret hd hr) h1 h2 h3 h4 hc hl hq
theorem own_call (X : Stand p l e R s m args below meth c T locs cells slots) (hx : p.tables.exec = Jvm.exec) {Z : State} {a0 : Array Value} {h : Heap} (hZ : Z.Warmed39 s.vm) (eT : T.heap = h) {own : String} {i : Nat} {y : MethodName} {bytes : ByteArray} {maxL : Nat} {ret : Option FieldType} {rm : Room} {W : Nat} {as' : Array Value} {Qc : Option Value → Heap → List Loc → Prop}
    (hown : s.vm.findClass own = some m.cls) (hml : Ls.size = c.maxLocals) (w1 : (Jvm.Cond.methodLink own i y).before a0 Z = true) (w2 : (Jvm.Cond.static y).before a0 Z = true) (w3 : (Jvm.Cond.initialized y.cls).before a0 Z = true) (w4 : (Jvm.Cond.code y bytes maxL ret).before a0 Z = true)
    (hM : MetFree l y (head1 [Jvm.Cond.code y bytes maxL ret] rm) (fun a U => a = as' ∧ Z.Warmed39 U.vm ∧ U.heap = h) (fun _ _ _ _ _ => True) (fun _ U o U' => ∃ v L, o = .returned v ∧ Qc v U'.heap L ∧ FrameEnd U o U' L rm.cells rm.slots))
    (hy : y.cls ≠ "java/lang/invoke/MethodHandle" ∧ y.cls ≠ "java/lang/invoke/VarHandle") (hf : rm.frames + 1 ≤ R.frames) (hl : W + (maxL + 11) + rm.locals ≤ R.locals) (hc : cells + rm.cells ≤ R.cells) (hsl : slots + rm.slots ≤ R.slots)
    {argsL rest : List Value} {ps : List FieldType} {r : Option FieldType} (hpd : parseMethodDescriptor y.desc = some ⟨ps, r⟩) (hlen : argsL.length = ps.length) (has : argsL.toArray = as') (hst : st = argsL.reverse ++ rest) (hW : (rest.map fun v => v.category).sum ≤ W) (hd : decode c.code pc = .ok (.invokestatic i, 3)) (hp : pc + 3 = pc')
    (k : ∀ (v : Option Value) (T' : State) (L : List Loc), Stand p l e R s m args below meth c T' (locs ++ L) (cells + rm.cells) (slots + rm.slots) → Qc v T'.heap L → Wp p e s below C S Q T' (mkF m pc' Ls (v.toList ++ rest))) : Wp p e s below C S Q T (mkF m pc Ls st) := by
  obtain ⟨v, _, ⟨T1, L1, k1, n1⟩, -, X1, ⟨Lc1, hQ1, l1, y1, z1⟩, st1⟩ := Jvm.LawKit.callS X hx (y := y) hown (mvT hZ w1) (mvT hZ w2) (mvT hZ w3) (mvT hZ w4) hy (backOf (W := W) hM hZ w4 w3 hf hl) (g := mkF m pc Ls st) rfl hml (argsL := argsL) (rest := rest) (lenOf hpd hlen) hst (by show 2 * 0 + _ ≤ _; omega) hd (fun _ _ => ⟨has, eT, hc, hsl⟩)
  dsimp only [Pt.U, Pt.locs, Pt.cells, Pt.slots] at X1 l1 y1 z1 st1 hQ1
  subst l1 y1 z1
  subst hp
  exact Wp.via st1 (k v T1 Lc1 X1 hQ1)
theorem own_cast {g g' : JFrame} (q : g = g') (k : Wp p e s below C S Q T g') : Wp p e s below C S Q T g := q ▸ k
def PureQ (r : Value) (h0 : Heap) (v : Option Value) (h : Heap) (L : List Loc) : Prop := v = some r ∧ L = [] ∧ h = h0
theorem w_callP (X : Stand p l e R s m args below meth c T locs cells slots) (hx : p.tables.exec = Jvm.exec) {Z : State} {a0 : Array Value} {h : Heap} (hZ : Z.Warmed39 s.vm) (eT : T.heap = h) {own : String} {i : Nat} {y : MethodName} {bytes : ByteArray} {maxL : Nat} {ret : Option FieldType} {rm : Room} {W : Nat} {as' : Array Value} {r0 : Value}
    (hown : s.vm.findClass own = some m.cls) (hml : Ls.size = c.maxLocals) (w1 : (Jvm.Cond.methodLink own i y).before a0 Z = true) (w2 : (Jvm.Cond.static y).before a0 Z = true) (w3 : (Jvm.Cond.initialized y.cls).before a0 Z = true) (w4 : (Jvm.Cond.code y bytes maxL ret).before a0 Z = true)
    (hM : MetFree l y (head1 [Jvm.Cond.code y bytes maxL ret] rm) (fun a U => a = as' ∧ Z.Warmed39 U.vm ∧ U.heap = h) (fun _ _ _ _ _ => True) (fun _ U o U' => ∃ v L, o = .returned v ∧ PureQ r0 h v U'.heap L ∧ FrameEnd U o U' L rm.cells rm.slots))
    (hy : y.cls ≠ "java/lang/invoke/MethodHandle" ∧ y.cls ≠ "java/lang/invoke/VarHandle") (hf : rm.frames + 1 ≤ R.frames) (hl : W + (maxL + 11) + rm.locals ≤ R.locals) (hc : rm.cells = 0) (hsl : rm.slots = 0) (hc' : cells ≤ R.cells) (hsl' : slots ≤ R.slots)
    {argsL rest : List Value} {ps : List FieldType} {r : Option FieldType} (hpd : parseMethodDescriptor y.desc = some ⟨ps, r⟩) (hlen : argsL.length = ps.length) (has : argsL.toArray = as') (hst : st = argsL.reverse ++ rest) (hW : (rest.map fun v => v.category).sum ≤ W) (hd : decode c.code pc = .ok (.invokestatic i, 3)) (hp : pc + 3 = pc')
    (k : ∀ (T' : State), Stand p l e R s m args below meth c T' locs cells slots → T'.heap = h → Wp p e s below C S Q T' (mkF m pc' Ls (r0 :: rest))) : Wp p e s below C S Q T (mkF m pc Ls st) := by
  refine own_call X hx hZ eT hown hml w1 w2 w3 w4 hM hy hf hl (by omega) (by omega) hpd hlen has hst hW hd hp ?_
  intro v T' L X' hq
  obtain ⟨rfl, rfl, e1⟩ := hq
  rw [List.append_nil, hc, hsl] at X'
  exact k T' X' e1
def PureQV (h0 : Heap) (v : Option Value) (h : Heap) (L : List Loc) : Prop := v = none ∧ L = [] ∧ h = h0
theorem w_callPV (X : Stand p l e R s m args below meth c T locs cells slots) (hx : p.tables.exec = Jvm.exec) {Z : State} {a0 : Array Value} {h : Heap} (hZ : Z.Warmed39 s.vm) (eT : T.heap = h) {own : String} {i : Nat} {y : MethodName} {bytes : ByteArray} {maxL : Nat} {ret : Option FieldType} {rm : Room} {W : Nat} {as' : Array Value}
    (hown : s.vm.findClass own = some m.cls) (hml : Ls.size = c.maxLocals) (w1 : (Jvm.Cond.methodLink own i y).before a0 Z = true) (w2 : (Jvm.Cond.static y).before a0 Z = true) (w3 : (Jvm.Cond.initialized y.cls).before a0 Z = true) (w4 : (Jvm.Cond.code y bytes maxL ret).before a0 Z = true)
    (hM : MetFree l y (head1 [Jvm.Cond.code y bytes maxL ret] rm) (fun a U => a = as' ∧ Z.Warmed39 U.vm ∧ U.heap = h) (fun _ _ _ _ _ => True) (fun _ U o U' => ∃ v L, o = .returned v ∧ PureQV h v U'.heap L ∧ FrameEnd U o U' L rm.cells rm.slots))
    (hy : y.cls ≠ "java/lang/invoke/MethodHandle" ∧ y.cls ≠ "java/lang/invoke/VarHandle") (hf : rm.frames + 1 ≤ R.frames) (hl : W + (maxL + 11) + rm.locals ≤ R.locals) (hc : rm.cells = 0) (hsl : rm.slots = 0) (hc' : cells ≤ R.cells) (hsl' : slots ≤ R.slots)
    {argsL rest : List Value} {ps : List FieldType} {r : Option FieldType} (hpd : parseMethodDescriptor y.desc = some ⟨ps, r⟩) (hlen : argsL.length = ps.length) (has : argsL.toArray = as') (hst : st = argsL.reverse ++ rest) (hW : (rest.map fun v => v.category).sum ≤ W) (hd : decode c.code pc = .ok (.invokestatic i, 3)) (hp : pc + 3 = pc')
    (k : ∀ (T' : State), Stand p l e R s m args below meth c T' locs cells slots → T'.heap = h → Wp p e s below C S Q T' (mkF m pc' Ls rest)) : Wp p e s below C S Q T (mkF m pc Ls st) := by
  refine own_call X hx hZ eT hown hml w1 w2 w3 w4 hM hy hf hl (by omega) (by omega) hpd hlen has hst hW hd hp ?_
  intro v T' L X' hq
  obtain ⟨rfl, rfl, e1⟩ := hq
  rw [List.append_nil, hc, hsl] at X'
  exact k T' X' e1
theorem own_body {x : MethodName} {code : ByteArray} {maxL : Nat} {ret : Option FieldType} {ws : List Jvm.Cond} {rm : Room} {Z : State} {as : Array Value} {h0 : Heap} (hx : plainFor x = true)
    (body : ∀ (p : Program) (e : Env) (s : State) (m : MethodId) (below : List Frame) (meth : Method) (c : Code) (T : State), p.tables.exec = Jvm.exec → c.code = code → c.maxLocals = maxL → meth.sig.returnType = ret → meth.locks = false → s.vm.findClass x.cls = some m.cls → meth.name = x.name → Z.Warmed39 s.vm → Stand p l e rm s m as below meth c T [] 0 0 → T.heap = h0 → Wp p e s below rm.cells rm.slots Q T (entryFrame m as maxL)) :
    MetFree l x (head1 (Jvm.Cond.code x code maxL ret :: ws) rm) (fun a U => a = as ∧ Z.Warmed39 U.vm ∧ U.heap = h0) (fun _ _ _ _ _ => True) (fun _ U o U' => ∃ v L, o = .returned v ∧ Q v U'.heap L ∧ FrameEnd U o U' L rm.cells rm.slots) := by
  refine MetFree.of_bodySF hx hisR ?_
  intro p e s m args below meth c s₁ Bd hml0 hP hK
  obtain ⟨rfl, hZ, hh⟩ := hP
  exact body p e s m below meth c s₁ Bd.exec Bd.bytes hml0 Bd.returns Bd.notSynchronized (findClass_of_methodNamed Bd.named) (name_of_methodNamed Bd.named Bd.method).1 hZ (Stand.of_body Bd) (by rw [← hh, Bd.state]; rfl)
end OwnW
/-! cells made since the start: explicit -/
def HP (n0 : Nat) (h : Heap) (cs : List Cell) : Prop := h.size = n0 + cs.length ∧ ∀ (i : Nat) (c : Cell), cs[i]? = some c → h[n0 + i]? = some c
def IsA (Z : State) (k : ClassId) (ty : FieldType) : Prop := (∃ kc, Z.vm.classes[k]? = some kc ∧ ∃ comp, kc.kind = .array comp ty) ∧ Z.vm.findClass ("[" ++ ty.toString) = some k
def AC (k : ClassId) (vs : List Value) : Cell := { cls := k, slots := vs.toArray, vm := .none }
def FldC (Z : State) (cell : Cell) (C n d : String) (v : Value) : Prop := ∃ (cf : ClassId) (k : Class) (i : Nat) (f : Field), Z.fieldFound? C n d = some (cf, k, i, f) ∧ f.isStatic = false ∧ cell.vm ≠ .unknown ∧ cell.vm.isStatics = false ∧ Z.vm.assignable cell.cls cf = true ∧ cell.slots[f.slot]? = some v
def ExaC (Z : State) (cell : Cell) (C : String) : Prop := ∃ (k : Class), Z.vm.findClass C = some cell.cls ∧ Z.vm.classes[cell.cls]? = some k ∧ cell.vm.isStatics = false ∧ (k.kind = .ordinary → cell.slots.size = k.instanceTypes.size)
def ObjF (Z : State) (cell : Cell) (C : String) (fl : List (String × String)) (vs : List Value) : Prop := ExaC Z cell C ∧ vs.length = fl.length ∧ ∀ (j : Nat) (n d : String) (v : Value), fl[j]? = some (n, d) → vs[j]? = some v → FldC Z cell C n d v
def Dis (Z : State) (C : String) (fl : List (String × String)) : Prop := ∀ (i j : Nat) (a b : String × String), fl[i]? = some a → fl[j]? = some b → i ≠ j → Jvm.RoadKit.slotOf Z C a.1 a.2 ≠ Jvm.RoadKit.slotOf Z C b.1 b.2
section OwnHP
variable {Z : State} {h h' : Heap} {n0 : Nat} {cs : List Cell} {i sl : Nat} {cell : Cell} {v : Value} {k : ClassId} {vs : List Value} {ty : FieldType} {C : String} {fl : List (String × String)}
theorem HP.nil (h : Heap) : HP h.size h [] := ⟨by simp, fun i c q => by simp at q⟩
theorem HP.push (P : HP n0 h cs) (c : Cell) : HP n0 (h.push c) (cs ++ [c]) := by
  refine ⟨by simp [P.1]; omega, fun i c' q => ?_⟩
  by_cases hi : i < cs.length
  · rw [List.getElem?_append_left hi] at q
    have := P.2 i c' q
    rw [Array.getElem?_push_lt (by rw [P.1]; omega)]
    rw [Array.getElem?_eq_getElem (by rw [P.1]; omega)] at this
    exact this
  · have hl : i < (cs ++ [c]).length := (List.getElem?_eq_some_iff.mp q).1
    have e : i = cs.length := by simp at hl; omega
    subst e
    rw [List.getElem?_append_right (Nat.le_refl _)] at q
    simp at q
    subst q
    rw [← P.1]; simp
theorem HP.wr (P : HP n0 h cs) (W : Wr h h' (n0 + i) sl v) (q : cs[i]? = some cell) : HP n0 h' (cs.set i (cell.setSlot sl v)) := by
  obtain ⟨c0, h1, h2, h3, rfl⟩ := W
  cases h1.symm.trans (P.2 i cell q)
  refine ⟨by simp [P.1], fun j c' r => ?_⟩
  by_cases e : i = j
  · subst e
    have hl : i < cs.length := (List.getElem?_eq_some_iff.mp q).1
    rw [List.getElem?_set_self hl] at r
    cases r
    rw [Array.getElem?_setIfInBounds_self_of_lt (by rw [P.1]; omega)]
  · rw [List.getElem?_set_ne e] at r
    rw [Array.getElem?_setIfInBounds_ne (by omega)]
    exact P.2 j c' r
theorem HP.arr (P : HP n0 h cs) (q : cs[i]? = some (AC k vs)) (a : IsA Z k ty) : Arr Z h (n0 + i) (AC k vs) ty := ⟨P.2 _ _ q, ⟨fun _ => by simp [AC], a.1⟩, by simp [AC]⟩
theorem HP.exaA (P : HP n0 h cs) (q : cs[i]? = some (AC k vs)) (a : IsA Z k ty) {ad : String} (had : "[" ++ ty.toString = ad) : Exa Z h (n0 + i) ad := by
  obtain ⟨⟨kc, h1, comp, h2⟩, h3⟩ := a
  exact ⟨AC k vs, kc, P.2 _ _ q, by rw [← had]; exact h3, h1, rfl, fun z => by rw [h2] at z; cases z⟩
theorem HP.fld (P : HP n0 h cs) (q : cs[i]? = some cell) {n d : String} (F : FldC Z cell C n d v) : Fld Z h (n0 + i) C n d v := by
  obtain ⟨cf, k, j, f, r⟩ := F
  exact ⟨cell, cf, k, j, f, P.2 _ _ q, r⟩
theorem HP.exa (P : HP n0 h cs) (q : cs[i]? = some cell) (F : ExaC Z cell C) : Exa Z h (n0 + i) C := by
  obtain ⟨k, r⟩ := F
  exact ⟨cell, k, P.2 _ _ q, r⟩
theorem AC.set (k : ClassId) (vs : List Value) (j : Nat) (v : Value) : (AC k vs).setSlot j v = AC k (vs.set j v) := by simp [AC, Cell.setSlot]
theorem ExaC.set (F : ExaC Z cell C) (sl : Nat) (v : Value) : ExaC Z (cell.setSlot sl v) C := by
  obtain ⟨k, h1, h2, h3, h4⟩ := F
  exact ⟨k, h1, h2, h3, fun q => by rw [← h4 q]; simp [Cell.setSlot]⟩
theorem ObjF.set (F : ObjF Z cell C fl vs) (D : Dis Z C fl) {j : Nat} {n d : String} (hj : fl[j]? = some (n, d)) (v : Value) : ObjF Z (cell.setSlot (Jvm.RoadKit.slotOf Z C n d) v) C fl (vs.set j v) := by
  obtain ⟨E, hl, F⟩ := F
  refine ⟨E.set _ _, by simp [hl], fun i n' d' v' h1 h2 => ?_⟩
  have hjl : j < fl.length := (List.getElem?_eq_some_iff.mp hj).1
  by_cases e : j = i
  · subst e
    cases hj.symm.trans h1
    rw [List.getElem?_set_self (by omega)] at h2
    cases h2
    obtain ⟨cf, k, x, f, g1, g2, g3, g4, g5, g6⟩ := F j n d _ hj (List.getElem?_eq_getElem (by omega))
    have es : Jvm.RoadKit.slotOf Z C n d = f.slot := by simp [Jvm.RoadKit.slotOf, g1]
    refine ⟨cf, k, x, f, g1, g2, g3, g4, g5, ?_⟩
    rw [es]
    have := (Array.getElem?_eq_some_iff.mp g6).1
    simp [Cell.setSlot, this]
  · rw [List.getElem?_set_ne e] at h2
    obtain ⟨cf, k, x, f, g1, g2, g3, g4, g5, g6⟩ := F i n' d' v' h1 h2
    have es : Jvm.RoadKit.slotOf Z C n' d' = f.slot := by simp [Jvm.RoadKit.slotOf, g1]
    have ne := D j i _ _ hj h1 e
    refine ⟨cf, k, x, f, g1, g2, g3, g4, g5, ?_⟩
    show ((cell.slots.setIfInBounds _ _)[_]?) = _
    rw [Array.getElem?_setIfInBounds_ne (by rw [← es]; exact ne)]
    exact g6
theorem own_dis {a0 : Array Value} (hL : ∀ (j : Nat) (n d : String), fl[j]? = some (n, d) → Laid Z a0 C C n d ∧ ∃ t, parseFieldDescriptor d = some t) (hN : (fl.map Prod.fst).Nodup) : Dis Z C fl := by
  intro i j a b h1 h2 hne
  obtain ⟨L1, t1, p1⟩ := hL i a.1 a.2 h1
  obtain ⟨L2, t2, p2⟩ := hL j b.1 b.2 h2
  refine slot_ne L1 L2 (fun q => hne ?_) p1 p2
  have i1 := (List.getElem?_eq_some_iff.mp h1).1
  have i2 := (List.getElem?_eq_some_iff.mp h2).1
  have e1 : (fl.map Prod.fst)[i]? = some a.1 := by simp [h1]
  have e2 : (fl.map Prod.fst)[j]? = some b.1 := by simp [h2]
  exact (List.getElem?_inj (by simpa using i1) hN).mp (by rw [e1, e2, q])
theorem own_one {n0 : Nat} {L : List Loc} (N : Fr n0 L) (i sl : Nat) : Fr n0 (L ++ [⟨n0 + i, sl⟩]) := N.app fun y hy => by cases List.mem_singleton.mp hy; exact Nat.le_add_right _ _
theorem own_idx {j : Int32} {jn N : Nat} (hj : j.toInt = (jn : Int)) (hn : jn < N) : j.toNatClampNeg = jn ∧ ¬ (j < 0 ∨ N ≤ j.toNatClampNeg) := by
  have e : j.toNatClampNeg = jn := by simp [Int32.toNatClampNeg, hj]
  refine ⟨e, ?_⟩
  rw [e, Int32.lt_iff_toInt_lt, hj]
  simp
  omega
end OwnHP
theorem own_get {α : Type} {f : α → Value} {l : List α} {j : Nat} {d : α} (h : j < l.length) : (List.map f l)[j]? = some (f (l.getD j d)) := by
  simp [List.getD_eq_getElem?_getD, h]
theorem own_sl {α : Type} {l : List α} {i N : Nat} {x : α} (h : l.length = N) : (l.set i x).length = N := by simp [h]
theorem own_llt {α : Type} {l : List α} {j N : Nat} (h : l.length = N) (q : j < N) : j < l.length := by omega
theorem own_oN {n : Nat} (h : n < 2147483648) : (Int32.ofNat n).toInt = (n : Int) := Int32.toInt_ofNat_of_lt h
theorem own_oadd (a b : Nat) : Int32.ofNat a + Int32.ofNat b = Int32.ofNat (a + b) := (Int32.ofNat_add a b).symm
theorem own_osub {a b : Nat} (h : b ≤ a) : Int32.ofNat a - Int32.ofNat b = Int32.ofNat (a - b) := by
  have := own_oadd (a - b) b
  rw [Nat.sub_add_cancel h] at this
  rw [← this, Int32.add_sub_cancel]
theorem own_omul (a b : Nat) : Int32.ofNat a * Int32.ofNat b = Int32.ofNat (a * b) := (Int32.ofNat_mul a b).symm
theorem own_olt {a b : Nat} (ha : a < 2147483648) (hb : b < 2147483648) : Int32.ofNat a < Int32.ofNat b ↔ a < b := by
  rw [Int32.lt_iff_toInt_lt, own_oN ha, own_oN hb]; omega
theorem own_oeq {a b : Nat} (ha : a < 2147483648) (hb : b < 2147483648) : Int32.ofNat a = Int32.ofNat b ↔ a = b := by
  rw [← Int32.toInt_inj, own_oN ha, own_oN hb]; omega
theorem own_len {α : Type} {f : α → Value} {l : List α} {N : Nat} (h : l.length = N) : (List.map f l).length.toInt32 = Int32.ofNat N := by
  rw [List.length_map, h]
section OwnH
variable {p : Program} {l : Launch} {e : Env} {R : Room} {s : State} {m : MethodId} {args : Array Value} {below : List Frame} {meth : Method} {c : Code} {T : State} {locs : List Loc} {cells slots : Nat} {C S : Nat} {Q : Option Value → Heap → List Loc → Prop} {pc pc' : Nat} {Ls : Array Slot} {st : List Value}
  {Z : State} {a0 : Array Value} {n0 : Nat} {cs : List Cell}
theorem w_newarr (X : Stand p l e R s m args below meth c T locs cells slots) (hx : p.tables.exec = Jvm.exec) (hZ : Z.Warmed39 s.vm) (P : HP n0 T.heap cs) {aty : ArrayType} {ty : FieldType} (hty : newarray.typeOf aty = ty) (w : (Jvm.Cond.arrayClass ty).before a0 Z = true) (hd : decode c.code pc = .ok (.newarray aty, 2))
    {n : Int32} {N j : Nat} (hn : n.toInt = (N : Int)) (hN : N ≤ 1000) (hc : cells + 1 ≤ R.cells) (hl : slots + N ≤ R.slots) (hj : cs.length = j) (hp : pc + 2 = pc')
    (k : ∀ (T' : State) (kA : ClassId), Stand p l e R s m args below meth c T' locs (cells + 1) (slots + N) → IsA Z kA ty → HP n0 T'.heap (cs ++ [AC kA (List.replicate N (defaultValue ty))]) → Wp p e s below C S Q T' (mkF m pc' Ls (.ref (n0 + j) :: st))) :
    Wp p e s below C S Q T (mkF m pc Ls (.int n :: st)) := by
  subst hp hty hj
  have en : n.toNatClampNeg = N := by simp [Int32.toNatClampNeg, hn]
  have hcb : componentBytes (newarray.typeOf aty) ≤ 8 := by cases aty <;> decide
  obtain ⟨cA, kA, comp, h1, h2, h3, X', st1⟩ := X.newarrayPrim hx (mvA hZ w) (g := mkF m pc Ls (.int n :: st)) rfl hd rfl (by rw [Int32.lt_iff_toInt_lt, hn]; simp) (by rw [en]; exact Nat.le_trans (Nat.mul_le_mul hN hcb) (by decide)) hc (by rw [en]; exact hl)
  rw [en] at X' st1
  rw [hZ.alike.findClass] at h1
  obtain ⟨kZ, z1, -⟩ := Vm.findClass_spec h1
  obtain ⟨k', z2, z3⟩ := hZ.alike.2.2 _ _ z1
  cases h2.symm.trans z2
  rw [P.1] at st1
  have ec : ({ cls := cA, slots := Array.replicate N (defaultValue (newarray.typeOf aty)), vm := .none } : Cell) = AC cA (List.replicate N (defaultValue (newarray.typeOf aty))) := by simp [AC]
  rw [ec] at X' st1
  exact Wp.via st1 (k _ cA X' ⟨⟨kZ, z1, comp, by rw [← h3, z3]⟩, h1⟩ (P.push _))
theorem w_newarrC (X : Stand p l e R s m args below meth c T locs cells slots) (hx : p.tables.exec = Jvm.exec) (hZ : Z.Warmed39 s.vm) (P : HP n0 T.heap cs) {aty : ArrayType} {ty : FieldType} (hty : newarray.typeOf aty = ty) (w : (Jvm.Cond.arrayClass ty).before a0 Z = true) (hd : decode c.code pc = .ok (.newarray aty, 2))
    {n : Int32} {N j cap : Nat} (hcap : N ≤ cap) (hn : n.toInt = (N : Int)) (hN : N ≤ 1000) (hc : cells + 1 ≤ R.cells) (hl : slots + cap ≤ R.slots) (hj : cs.length = j) (hp : pc + 2 = pc')
    (k : ∀ (T' : State) (kA : ClassId), Stand p l e R s m args below meth c T' locs (cells + 1) (slots + cap) → IsA Z kA ty → HP n0 T'.heap (cs ++ [AC kA (List.replicate N (defaultValue ty))]) → Wp p e s below C S Q T' (mkF m pc' Ls (.ref (n0 + j) :: st))) :
    Wp p e s below C S Q T (mkF m pc Ls (.int n :: st)) := by
  subst hp hty hj
  have en : n.toNatClampNeg = N := by simp [Int32.toNatClampNeg, hn]
  have hcb : componentBytes (newarray.typeOf aty) ≤ 8 := by cases aty <;> decide
  obtain ⟨cA, kA, comp, h1, h2, h3, X', st1⟩ := X.newarrayPrim hx (mvA hZ w) (g := mkF m pc Ls (.int n :: st)) rfl hd rfl (by rw [Int32.lt_iff_toInt_lt, hn]; simp) (by rw [en]; exact Nat.le_trans (Nat.mul_le_mul hN hcb) (by decide)) hc (by rw [en]; omega)
  rw [en] at X' st1
  rw [hZ.alike.findClass] at h1
  obtain ⟨kZ, z1, -⟩ := Vm.findClass_spec h1
  obtain ⟨k', z2, z3⟩ := hZ.alike.2.2 _ _ z1
  cases h2.symm.trans z2
  rw [P.1] at st1
  have ec : ({ cls := cA, slots := Array.replicate N (defaultValue (newarray.typeOf aty)), vm := .none } : Cell) = AC cA (List.replicate N (defaultValue (newarray.typeOf aty))) := by simp [AC]
  rw [ec] at X' st1
  exact Wp.via st1 (k _ cA (X'.more (Nat.le_refl _) (by omega)) ⟨⟨kZ, z1, comp, by rw [← h3, z3]⟩, h1⟩ (P.push _))
theorem own_mr {n0 : Nat} {h : Heap} {cs : List Cell} {k : ClassId} {N : Nat} (P : HP n0 h (cs ++ [AC k (List.replicate N (Value.int 0))])) : HP n0 h (cs ++ [AC k (List.map Value.int (List.replicate N 0))]) := by rw [List.map_replicate]; exact P
theorem w_arrlen (X : Stand p l e R s m args below meth c T locs cells slots) (hx : p.tables.exec = Jvm.exec) (hZ : Z.Warmed39 s.vm) (P : HP n0 T.heap cs) {i : Nat} {kA : ClassId} {vs : List Value} {ty : FieldType} (q : cs[i]? = some (AC kA vs)) (hk : IsA Z kA ty) (hd : decode c.code pc = .ok (.arraylength, 1)) {z : Int32} (hz : vs.length.toInt32 = z) (hp : pc + 1 = pc')
    (k : Wp p e s below C S Q T (mkF m pc' Ls (.int z :: st))) : Wp p e s below C S Q T (mkF m pc Ls (.ref (n0 + i) :: st)) := by
  subst hp hz
  have A := P.arr q hk
  refine Wp.via (fun t ht => X.arraylength hx (cell := AC kA vs) A.1 (State.isArrayOf_alike hZ.alike A.2.1) (g := mkF m pc Ls (.ref (n0 + i) :: st)) rfl (rest := st) rfl hd _ ?_) k
  simpa [AC] using ht
theorem w_iaload (X : Stand p l e R s m args below meth c T locs cells slots) (hx : p.tables.exec = Jvm.exec) (hZ : Z.Warmed39 s.vm) (P : HP n0 T.heap cs) {i : Nat} {kA : ClassId} {vs : List Value} (q : cs[i]? = some (AC kA vs)) (hk : IsA Z kA .int) (hd : decode c.code pc = .ok (.iaload, 1)) {j : Int32} {jn : Nat} (hj : j.toInt = (jn : Int)) {v : Value} (hv : vs[jn]? = some v) (hp : pc + 1 = pc')
    (k : Wp p e s below C S Q T (mkF m pc' Ls (v :: st))) : Wp p e s below C S Q T (mkF m pc Ls (.int j :: .ref (n0 + i) :: st)) := by
  subst hp
  have A := P.arr q hk
  have hl : jn < (AC kA vs).slots.size := by simp [AC]; exact (List.getElem?_eq_some_iff.mp hv).1
  obtain ⟨e1, e2⟩ := own_idx hj hl
  exact Wp.via (fun t ht => X.iaload hx (j := j) (v := v) A.1 (State.isArrayOf_alike hZ.alike A.2.1) A.2.2 e2 (by rw [e1]; simpa [AC] using hv) (g := mkF m pc Ls (.int j :: .ref (n0 + i) :: st)) rfl rfl hd _ ht) k
theorem w_laload (X : Stand p l e R s m args below meth c T locs cells slots) (hx : p.tables.exec = Jvm.exec) (hZ : Z.Warmed39 s.vm) (P : HP n0 T.heap cs) {i : Nat} {kA : ClassId} {vs : List Value} (q : cs[i]? = some (AC kA vs)) (hk : IsA Z kA .long) (hd : decode c.code pc = .ok (.laload, 1)) {j : Int32} {jn : Nat} (hj : j.toInt = (jn : Int)) {v : Value} (hv : vs[jn]? = some v) (hp : pc + 1 = pc')
    (k : Wp p e s below C S Q T (mkF m pc' Ls (v :: st))) : Wp p e s below C S Q T (mkF m pc Ls (.int j :: .ref (n0 + i) :: st)) := by
  subst hp
  have A := P.arr q hk
  have hl : jn < (AC kA vs).slots.size := by simp [AC]; exact (List.getElem?_eq_some_iff.mp hv).1
  obtain ⟨e1, e2⟩ := own_idx hj hl
  exact Wp.via (fun t ht => X.laload hx (j := j) (v := v) A.1 (State.isArrayOf_alike hZ.alike A.2.1) A.2.2 e2 (by rw [e1]; simpa [AC] using hv) (g := mkF m pc Ls (.int j :: .ref (n0 + i) :: st)) rfl rfl hd _ ht) k
theorem w_baload (X : Stand p l e R s m args below meth c T locs cells slots) (hx : p.tables.exec = Jvm.exec) (hZ : Z.Warmed39 s.vm) (P : HP n0 T.heap cs) {i : Nat} {kA : ClassId} {vs : List Value} (q : cs[i]? = some (AC kA vs)) (hk : IsA Z kA .byte) (hd : decode c.code pc = .ok (.baload, 1)) {j : Int32} {jn : Nat} (hj : j.toInt = (jn : Int)) {v : Value} (hv : vs[jn]? = some v) (hp : pc + 1 = pc')
    (k : Wp p e s below C S Q T (mkF m pc' Ls (v :: st))) : Wp p e s below C S Q T (mkF m pc Ls (.int j :: .ref (n0 + i) :: st)) := by
  subst hp
  have A := P.arr q hk
  have hl : jn < (AC kA vs).slots.size := by simp [AC]; exact (List.getElem?_eq_some_iff.mp hv).1
  obtain ⟨e1, e2⟩ := own_idx hj hl
  exact Wp.via (fun t ht => X.baloadBytes hx (j := j) (v := v) A.1 (State.isArrayOf_alike hZ.alike A.2.1) A.2.2 e2 (by rw [e1]; simpa [AC] using hv) (g := mkF m pc Ls (.int j :: .ref (n0 + i) :: st)) rfl rfl hd _ ht) k
theorem w_caload (X : Stand p l e R s m args below meth c T locs cells slots) (hx : p.tables.exec = Jvm.exec) (hZ : Z.Warmed39 s.vm) (P : HP n0 T.heap cs) {i : Nat} {kA : ClassId} {vs : List Value} (q : cs[i]? = some (AC kA vs)) (hk : IsA Z kA .char) (hd : decode c.code pc = .ok (.caload, 1)) {j : Int32} {jn : Nat} (hj : j.toInt = (jn : Int)) {v : Value} (hv : vs[jn]? = some v) (hp : pc + 1 = pc')
    (k : Wp p e s below C S Q T (mkF m pc' Ls (v :: st))) : Wp p e s below C S Q T (mkF m pc Ls (.int j :: .ref (n0 + i) :: st)) := by
  subst hp
  have A := P.arr q hk
  have hl : jn < (AC kA vs).slots.size := by simp [AC]; exact (List.getElem?_eq_some_iff.mp hv).1
  obtain ⟨e1, e2⟩ := own_idx hj hl
  exact Wp.via (fun t ht => X.caload hx (j := j) (v := v) A.1 (State.isArrayOf_alike hZ.alike A.2.1) A.2.2 e2 (by rw [e1]; simpa [AC] using hv) (g := mkF m pc Ls (.int j :: .ref (n0 + i) :: st)) rfl rfl hd _ ht) k
theorem w_iastore (X : Stand p l e R s m args below meth c T locs cells slots) (hx : p.tables.exec = Jvm.exec) (hZ : Z.Warmed39 s.vm) (N : Fr n0 locs) (P : HP n0 T.heap cs) {i : Nat} {kA : ClassId} {vs : List Value} (q : cs[i]? = some (AC kA vs)) (hk : IsA Z kA .int) (hd : decode c.code pc = .ok (.iastore, 1)) {j : Int32} {x : Int32} {jn : Nat} (hj : j.toInt = (jn : Int)) (hl : jn < vs.length) (hp : pc + 1 = pc')
    (k : ∀ (T' : State) (L' : List Loc), Fr n0 L' → Stand p l e R s m args below meth c T' L' cells slots → HP n0 T'.heap (cs.set i (AC kA (vs.set jn (.int x)))) → Wp p e s below C S Q T' (mkF m pc' Ls st)) : Wp p e s below C S Q T (mkF m pc Ls (.int x :: .int j :: .ref (n0 + i) :: st)) := by
  subst hp
  have A := P.arr q hk
  obtain ⟨e1, e2⟩ := own_idx hj (N := (AC kA vs).slots.size) (by simpa [AC] using hl)
  obtain ⟨T', h', X', eh, W, st1⟩ := stI X hx hZ rfl A e2 (g := mkF m pc Ls (.int x :: .int j :: .ref (n0 + i) :: st)) rfl rfl hd
  rw [e1] at X' W
  subst eh
  have P' := P.wr W q
  rw [AC.set] at P'
  exact Wp.via st1 (k T' _ (own_one N _ _) X' P')
theorem w_lastore (X : Stand p l e R s m args below meth c T locs cells slots) (hx : p.tables.exec = Jvm.exec) (hZ : Z.Warmed39 s.vm) (N : Fr n0 locs) (P : HP n0 T.heap cs) {i : Nat} {kA : ClassId} {vs : List Value} (q : cs[i]? = some (AC kA vs)) (hk : IsA Z kA .long) (hd : decode c.code pc = .ok (.lastore, 1)) {j : Int32} {x : Int64} {jn : Nat} (hj : j.toInt = (jn : Int)) (hl : jn < vs.length) (hp : pc + 1 = pc')
    (k : ∀ (T' : State) (L' : List Loc), Fr n0 L' → Stand p l e R s m args below meth c T' L' cells slots → HP n0 T'.heap (cs.set i (AC kA (vs.set jn (.long x)))) → Wp p e s below C S Q T' (mkF m pc' Ls st)) : Wp p e s below C S Q T (mkF m pc Ls (.long x :: .int j :: .ref (n0 + i) :: st)) := by
  subst hp
  have A := P.arr q hk
  obtain ⟨e1, e2⟩ := own_idx hj (N := (AC kA vs).slots.size) (by simpa [AC] using hl)
  obtain ⟨T', h', X', eh, W, st1⟩ := stJ X hx hZ rfl A e2 (g := mkF m pc Ls (.long x :: .int j :: .ref (n0 + i) :: st)) rfl rfl hd
  rw [e1] at X' W
  subst eh
  have P' := P.wr W q
  rw [AC.set] at P'
  exact Wp.via st1 (k T' _ (own_one N _ _) X' P')
theorem w_bastore (X : Stand p l e R s m args below meth c T locs cells slots) (hx : p.tables.exec = Jvm.exec) (hZ : Z.Warmed39 s.vm) (N : Fr n0 locs) (P : HP n0 T.heap cs) {i : Nat} {kA : ClassId} {vs : List Value} (q : cs[i]? = some (AC kA vs)) (hk : IsA Z kA .byte) (hd : decode c.code pc = .ok (.bastore, 1)) {j : Int32} {x : Int32} {jn : Nat} (hj : j.toInt = (jn : Int)) (hl : jn < vs.length) (hp : pc + 1 = pc')
    (k : ∀ (T' : State) (L' : List Loc), Fr n0 L' → Stand p l e R s m args below meth c T' L' cells slots → HP n0 T'.heap (cs.set i (AC kA (vs.set jn (.int (nar .byte x))))) → Wp p e s below C S Q T' (mkF m pc' Ls st)) : Wp p e s below C S Q T (mkF m pc Ls (.int x :: .int j :: .ref (n0 + i) :: st)) := by
  subst hp
  have A := P.arr q hk
  obtain ⟨e1, e2⟩ := own_idx hj (N := (AC kA vs).slots.size) (by simpa [AC] using hl)
  obtain ⟨T', h', X', eh, W, st1⟩ := stB X hx hZ rfl A e2 (g := mkF m pc Ls (.int x :: .int j :: .ref (n0 + i) :: st)) rfl rfl hd
  rw [e1] at X' W
  subst eh
  have P' := P.wr W q
  rw [AC.set] at P'
  exact Wp.via st1 (k T' _ (own_one N _ _) X' P')
theorem w_bastoreE (X : Stand p l e R s m args below meth c T locs cells slots) (hx : p.tables.exec = Jvm.exec) (hZ : Z.Warmed39 s.vm) (N : Fr n0 locs) (P : HP n0 T.heap cs) {i : Nat} {kA : ClassId} {vs : List Value} (q : cs[i]? = some (AC kA vs)) (hk : IsA Z kA .byte) (hd : decode c.code pc = .ok (.bastore, 1)) {j : Int32} {x z : Int32} {jn : Nat} (hz : nar .byte x = z) (hj : j.toInt = (jn : Int)) (hl : jn < vs.length) (hp : pc + 1 = pc')
    (k : ∀ (T' : State) (L' : List Loc), Fr n0 L' → Stand p l e R s m args below meth c T' L' cells slots → HP n0 T'.heap (cs.set i (AC kA (vs.set jn (.int z)))) → Wp p e s below C S Q T' (mkF m pc' Ls st)) : Wp p e s below C S Q T (mkF m pc Ls (.int x :: .int j :: .ref (n0 + i) :: st)) := by
  subst hp hz
  have A := P.arr q hk
  obtain ⟨e1, e2⟩ := own_idx hj (N := (AC kA vs).slots.size) (by simpa [AC] using hl)
  obtain ⟨T', h', X', eh, W, st1⟩ := stB X hx hZ rfl A e2 (g := mkF m pc Ls (.int x :: .int j :: .ref (n0 + i) :: st)) rfl rfl hd
  rw [e1] at X' W
  subst eh
  have P' := P.wr W q
  rw [AC.set] at P'
  exact Wp.via st1 (k T' _ (own_one N _ _) X' P')
theorem w_getf (X : Stand p l e R s m args below meth c T locs cells slots) (hx : p.tables.exec = Jvm.exec) (hZ : Z.Warmed39 s.vm) {own O n d : String} {idx : Nat} (hown : s.vm.findClass own = some m.cls) (w : (Jvm.Cond.fieldLink own idx O n d).before a0 Z = true) (P : HP n0 T.heap cs) {i : Nat} {cell : Cell} (q : cs[i]? = some cell) {fl : List (String × String)} {vs : List Value} (F : ObjF Z cell O fl vs) (j : Nat) (hf : fl[j]? = some (n, d)) {v : Value} (hv : vs[j]? = some v) (hd : decode c.code pc = .ok (.getfield idx, 3)) (hp : pc + 3 = pc')
    (k : ∀ (T' : State), Stand p l e R s m args below meth c T' locs cells slots → HP n0 T'.heap cs → Wp p e s below C S Q T' (mkF m pc' Ls (v :: st))) : Wp p e s below C S Q T (mkF m pc Ls (.ref (n0 + i) :: st)) := by
  subst hp
  obtain ⟨T', X', eh, st1⟩ := getF X hx hZ hown (host := "") (Or.inl w) Via.refl rfl (P.fld q (F.2.2 j n d v hf hv)) (g := mkF m pc Ls (.ref (n0 + i) :: st)) rfl rfl hd
  exact Wp.via st1 (k T' X' (by rw [eh]; exact P))
theorem w_putf (X : Stand p l e R s m args below meth c T locs cells slots) (hx : p.tables.exec = Jvm.exec) (hZ : Z.Warmed39 s.vm) {own O n d : String} {idx kk : Nat} {ty : FieldType} (hown : s.vm.findClass own = some m.cls) (w : (Jvm.Cond.fieldLink own idx O n d).before a0 Z = true) (N : Fr n0 locs) (P : HP n0 T.heap cs) {i : Nat} {cell : Cell} (q : cs[i]? = some cell) {fl : List (String × String)} {vs : List Value} (F : ObjF Z cell O fl vs) (D : Dis Z O fl) (j : Nat) (hf : fl[j]? = some (n, d))
    (L : (Jvm.Cond.lays O O n d).before a0 Z = true ∨ ((Jvm.Cond.laysFinal O O n d).before a0 Z = true ∧ own = O ∧ meth.name = "<init>")) (wi : (Jvm.Cond.instantiable O kk).before a0 Z = true) (hty : parseFieldDescriptor d = some ty) {v : Value} (hn : narrow ty v = v) (hfit : fits ty v = true) (hd : decode c.code pc = .ok (.putfield idx, 3)) (hp : pc + 3 = pc')
    (k : ∀ (T' : State) (L' : List Loc) (cell' : Cell), Fr n0 L' → Stand p l e R s m args below meth c T' L' cells slots → HP n0 T'.heap (cs.set i cell') → ObjF Z cell' O fl (vs.set j v) → Wp p e s below C S Q T' (mkF m pc' Ls st)) : Wp p e s below C S Q T (mkF m pc Ls (v :: .ref (n0 + i) :: st)) := by
  subst hp
  have hjl : j < vs.length := by rw [F.2.1]; exact (List.getElem?_eq_some_iff.mp hf).1
  obtain ⟨T', h', X', eh, W, st1⟩ := putF X hx hZ hown (host := "") (Or.inl w) Via.refl rfl (P.fld q (F.2.2 j n d _ hf (List.getElem?_eq_getElem hjl))) (P.exa q F.1) L wi hty hn hfit (g := mkF m pc Ls (v :: .ref (n0 + i) :: st)) rfl rfl hd
  subst eh
  exact Wp.via st1 (k T' _ _ (own_one N _ _) X' (P.wr W q) (F.set D hf v))
theorem w_new (X : Stand p l e R s m args below meth c T locs cells slots) (hx : p.tables.exec = Jvm.exec) (hZ : Z.Warmed39 s.vm) {own K : String} {idx n j : Nat} (hown : s.vm.findClass own = some m.cls) (w : (Jvm.Cond.classLink own idx K).before a0 Z = true) (wi : (Jvm.Cond.instantiable K n).before a0 Z = true) (wz : (Jvm.Cond.initialized K).before a0 Z = true) (P : HP n0 T.heap cs)
    (fl : List (String × String)) (vs : List Value) (hfl : vs.length = fl.length) (hlay : ∀ (j : Nat) (n d : String) (v : Value), fl[j]? = some (n, d) → vs[j]? = some v → Laid Z a0 K K n d ∧ ∃ ty, parseFieldDescriptor d = some ty ∧ defaultValue ty = v) (hd : decode c.code pc = .ok (.new idx, 3)) (hc : cells + 1 ≤ R.cells) (hl : slots + n ≤ R.slots) (hj : cs.length = j) (hp : pc + 3 = pc')
    (k : ∀ (T' : State) (cell' : Cell), Stand p l e R s m args below meth c T' locs (cells + 1) (slots + n) → HP n0 T'.heap (cs ++ [cell']) → ObjF Z cell' K fl vs → Wp p e s below C S Q T' (mkF m pc' Ls (.ref (n0 + j) :: st))) : Wp p e s below C S Q T (mkF m pc Ls st) := by
  subst hp hj
  obtain ⟨vm', cC, kC, h1, h2, h3, h4, X', st1⟩ := X.newCold hx hown (mv hZ w) (mv hZ wi) (mv hZ wz) (g := mkF m pc Ls st) rfl hd hc hl
  rw [hZ.alike.findClass] at h1
  obtain ⟨kZ, z1, -⟩ := Vm.findClass_spec h1
  obtain ⟨k', z2, z3⟩ := hZ.alike.2.2 _ _ z1
  cases h2.symm.trans z2
  have ei : kC.instanceTypes = kZ.instanceTypes := by rw [z3]
  rw [P.1] at st1
  refine Wp.via st1 (k _ _ X' (P.push _) ⟨⟨kZ, h1, z1, rfl, fun _ => by simp [ei]⟩, hfl, fun j n d v a b => ?_⟩)
  obtain ⟨L, ty, ht, hv⟩ := hlay j n d v a b
  obtain ⟨c1, k1, cf, kf, i, f, a1, a2, a3, a4, a5, a6, -⟩ := L.spec
  cases h1.symm.trans a1
  cases z1.symm.trans a2
  exact ⟨cf, kf, i, f, a3, a4, by simp, rfl, a5, by simp [ei, a6, (State.fieldFound?_type a3 ht).2, hv]⟩
theorem w_initO (X : Stand p l e R s m args below meth c T locs cells slots) (hx : p.tables.exec = Jvm.exec) (hZ : Z.Warmed39 s.vm) {own : String} {idx : Nat} (hown : s.vm.findClass own = some m.cls) (hml : Ls.size = c.maxLocals) (w1 : (Jvm.Cond.methodLink own idx Lib.objectInit).before a0 Z = true) (w2 : (Jvm.Cond.instanceMethod Lib.objectInit).before a0 Z = true)
    (w3 : (Jvm.Cond.code Lib.objectInit ⟨#[0xb1]⟩ 1 none).before a0 Z = true) (P : HP n0 T.heap cs) {a : Addr} (hd : decode c.code pc = .ok (.invokespecial idx, 3)) (hf : 1 ≤ R.frames) {W : Nat} (hW : (st.map fun v => v.category).sum ≤ W) (hl : W + 12 ≤ R.locals) (hp : pc + 3 = pc')
    (k : ∀ (T' : State), Stand p l e R s m args below meth c T' locs cells slots → HP n0 T'.heap cs → Wp p e s below C S Q T' (mkF m pc' Ls st)) : Wp p e s below C S Q T (mkF m pc Ls (.ref a :: st)) := by
  subst hp
  obtain ⟨T', X', eh, st1⟩ := initO X hx hZ hown w1 w2 w3 rfl (g := mkF m pc Ls (.ref a :: st)) rfl hml (rest := st) rfl hd hf (W := W) (by show 2 * 0 + _ ≤ _; omega) hl
  exact Wp.via st1 (k T' X' (by rw [eh]; exact P))
theorem own_callI (X : Stand p l e R s m args below meth c T locs cells slots) (hx : p.tables.exec = Jvm.exec) {h : Heap} (hZ : Z.Warmed39 s.vm) (eT : T.heap = h) {own : String} {i : Nat} {y : MethodName} {bytes : ByteArray} {maxL : Nat} {rm : Room} {W : Nat} {as' : Array Value} {Qc : Option Value → Heap → List Loc → Prop} (hy1 : y.name = "<init>")
    (hown : s.vm.findClass own = some m.cls) (hml : Ls.size = c.maxLocals) (w1 : (Jvm.Cond.methodLink own i y).before a0 Z = true) (w2 : (Jvm.Cond.instanceMethod y).before a0 Z = true) (w3 : (Jvm.Cond.initialized y.cls).before a0 Z = true) (w4 : (Jvm.Cond.code y bytes maxL none).before a0 Z = true)
    (hM : MetFree l y (head1 [Jvm.Cond.code y bytes maxL none] rm) (fun a U => a = as' ∧ Z.Warmed39 U.vm ∧ U.heap = h) (fun _ _ _ _ _ => True) (fun _ U o U' => ∃ v L, o = .returned v ∧ Qc v U'.heap L ∧ FrameEnd U o U' L rm.cells rm.slots))
    (hy : y.cls ≠ "java/lang/invoke/MethodHandle" ∧ y.cls ≠ "java/lang/invoke/VarHandle") (hf : rm.frames + 1 ≤ R.frames) (hl : W + (maxL + 11) + rm.locals ≤ R.locals) (hc : cells + rm.cells ≤ R.cells) (hsl : slots + rm.slots ≤ R.slots)
    {a : Addr} {argsL rest : List Value} {ps : List FieldType} {r : Option FieldType} (hpd : parseMethodDescriptor y.desc = some ⟨ps, r⟩) (hlen : argsL.length = ps.length) (has : (.ref a :: argsL).toArray = as') (hst : st = argsL.reverse ++ .ref a :: rest) (hW : (rest.map fun v => v.category).sum ≤ W) (hd : decode c.code pc = .ok (.invokespecial i, 3)) (hp : pc + 3 = pc')
    (k : ∀ (v : Option Value) (T' : State) (L : List Loc), Stand p l e R s m args below meth c T' (locs ++ L) (cells + rm.cells) (slots + rm.slots) → Qc v T'.heap L → Wp p e s below C S Q T' (mkF m pc' Ls (v.toList ++ rest))) : Wp p e s below C S Q T (mkF m pc Ls st) := by
  obtain ⟨v, _, ⟨T1, L1, k1, n1⟩, -, X1, ⟨Lc1, hQ1, l1, y1, z1⟩, st1⟩ := X.specialBack hx (y := y) hy1 hown (mvT hZ w1) (mvT hZ w2) (mvT hZ w4) hy (backOf (W := W) hM hZ w4 w3 hf hl) (g := mkF m pc Ls st) rfl hml (Steps.refl _) (a := a) (argsL := argsL) (rest := rest) (lenOf hpd hlen) hst (by show 2 * 0 + _ ≤ _; omega) hd (fun _ _ => ⟨has, eT, hc, hsl⟩)
  dsimp only [Pt.U, Pt.locs, Pt.cells, Pt.slots] at X1 l1 y1 z1 st1 hQ1
  subst l1 y1 z1
  subst hp
  exact Wp.via (fun _ h => st1.trans h) (k v T1 Lc1 X1 hQ1)
theorem own_callV (X : Stand p l e R s m args below meth c T locs cells slots) (hx : p.tables.exec = Jvm.exec) {h : Heap} (hZ : Z.Warmed39 s.vm) (eT : T.heap = h) {own K : String} {i : Nat} {y : MethodName} {bytes : ByteArray} {maxL : Nat} {ret : Option FieldType} {rm : Room} {W : Nat} {as' : Array Value} {Qc : Option Value → Heap → List Loc → Prop}
    (hown : s.vm.findClass own = some m.cls) (hml : Ls.size = c.maxLocals) (w1 : (Jvm.Cond.methodLink own i y).before a0 Z = true) (w2 : (Jvm.Cond.declares y).before a0 Z = true) (w5 : (Jvm.Cond.selects K y y).before a0 Z = true) (w6 : (Jvm.Cond.instanceMethod y).before a0 Z = true) (w3 : (Jvm.Cond.initialized y.cls).before a0 Z = true) (w4 : (Jvm.Cond.code y bytes maxL ret).before a0 Z = true)
    (hM : MetFree l y (head1 [Jvm.Cond.code y bytes maxL ret] rm) (fun a U => a = as' ∧ Z.Warmed39 U.vm ∧ U.heap = h) (fun _ _ _ _ _ => True) (fun _ U o U' => ∃ v L, o = .returned v ∧ Qc v U'.heap L ∧ FrameEnd U o U' L rm.cells rm.slots))
    {a : Addr} (E : Exa Z h a K) (hy : y.cls ≠ "java/lang/invoke/MethodHandle" ∧ y.cls ≠ "java/lang/invoke/VarHandle") (hf : rm.frames + 1 ≤ R.frames) (hl : W + (maxL + 11) + rm.locals ≤ R.locals) (hc : cells + rm.cells ≤ R.cells) (hsl : slots + rm.slots ≤ R.slots)
    {argsL rest : List Value} {ps : List FieldType} {r : Option FieldType} (hpd : parseMethodDescriptor y.desc = some ⟨ps, r⟩) (hlen : argsL.length = ps.length) (has : (.ref a :: argsL).toArray = as') (hst : st = argsL.reverse ++ .ref a :: rest) (hW : (rest.map fun v => v.category).sum ≤ W) (hd : decode c.code pc = .ok (.invokevirtual i, 3)) (hp : pc + 3 = pc')
    (k : ∀ (v : Option Value) (T' : State) (L : List Loc), Stand p l e R s m args below meth c T' (locs ++ L) (cells + rm.cells) (slots + rm.slots) → Qc v T'.heap L → Wp p e s below C S Q T' (mkF m pc' Ls (v.toList ++ rest))) : Wp p e s below C S Q T (mkF m pc Ls st) := by
  obtain ⟨cq, kq, qa, qb, qc⟩ := isOf hZ eT E
  obtain ⟨v, _, ⟨T1, L1, k1, n1⟩, -, X1, ⟨Lc1, hQ1, l1, y1, z1⟩, st1⟩ := X.virtualBack hx (y := y) (z := y) hown (mvT hZ w1) (mvT hZ w2) (notFace_of_selects (args := #[]) (mvT hZ w5)) (mvT hZ w5) (mvT hZ w6) hy (backOf (W := W) hM hZ w4 w3 hf hl) qa qc (g := mkF m pc Ls st) rfl hml (Steps.refl _) (argsL := argsL) (rest := rest) (lenOf hpd hlen) hst (by show 2 * 0 + _ ≤ _; omega) hd (fun _ _ => ⟨has, eT, hc, hsl⟩)
  dsimp only [Pt.U, Pt.locs, Pt.cells, Pt.slots] at X1 l1 y1 z1 st1 hQ1
  subst l1 y1 z1
  subst hp
  exact Wp.via (fun _ h => st1.trans h) (k v T1 Lc1 X1 hQ1)
theorem w_clone (X : Stand p l e R s m args below meth c T locs cells slots) (hx : p.tables.exec = Jvm.exec) (hZ : Z.Warmed39 s.vm) {own ad : String} {idx : Nat} (hown : s.vm.findClass own = some m.cls) (hml : Ls.size = c.maxLocals)
    (w1 : (Jvm.Cond.methodLink own idx ⟨ad, "clone", "()Ljava/lang/Object;"⟩).before a0 Z = true) (w2 : (Jvm.Cond.sameMethod ad "java/lang/Object" "clone" "()Ljava/lang/Object;").before a0 Z = true) (w3 : (Jvm.Cond.native ⟨"java/lang/Object", "clone", "()Ljava/lang/Object;"⟩).before a0 Z = true)
    (w4 : (Jvm.Cond.instanceMethod ⟨"java/lang/Object", "clone", "()Ljava/lang/Object;"⟩).before a0 Z = true) (w5 : (Jvm.Cond.selects ad ⟨ad, "clone", "()Ljava/lang/Object;"⟩ ⟨"java/lang/Object", "clone", "()Ljava/lang/Object;"⟩).before a0 Z = true) (w6 : (Jvm.Cond.castable ad "java/lang/Cloneable").before a0 Z = true)
    (P : HP n0 T.heap cs) {i : Nat} {kA : ClassId} {vs : List Value} {ty : FieldType} (q : cs[i]? = some (AC kA vs)) (hk : IsA Z kA ty) (had : "[" ++ ty.toString = ad) (hfit : ∀ v ∈ vs, fits ty v = true) (hd : decode c.code pc = .ok (.invokevirtual idx, 3)) (hf : 1 ≤ R.frames) {W N j : Nat} (hW : (st.map fun v => v.category).sum ≤ W) (hl : W + 14 ≤ R.locals) (hN : vs.length = N) (hc : cells + 1 ≤ R.cells) (hsl : slots + N ≤ R.slots) (hj : cs.length = j) (hp : pc + 3 = pc')
    (k : ∀ (T' : State), Stand p l e R s m args below meth c T' locs (cells + 1) (slots + N) → HP n0 T'.heap (cs ++ [AC kA vs]) → Wp p e s below C S Q T' (mkF m pc' Ls (.ref (n0 + j) :: st))) : Wp p e s below C S Q T (mkF m pc Ls (.ref (n0 + i) :: st)) := by
  subst hp hj hN
  have A := P.arr q hk
  have E := P.exaA q hk had
  have F : FitC Z (AC kA vs) := fitC_of A fun i hi v hv => hfit v (by simp [AC] at hv; exact List.mem_of_getElem? hv)
  obtain ⟨c1, cC, g1, g2, g3⟩ := Cond.castable_spec w6
  have e2 : Z.vm.findClass ad = some (AC kA vs).cls := by rw [← had]; exact hk.2
  cases e2.symm.trans g1
  have hal : Z.vm.Alike T.vm := hZ.alike.trans X.warmed.alike
  obtain ⟨vm', X', st1⟩ := X.cloneArray hx hown (mv hZ w1) (mv hZ w2) (mv hZ w3) (mv hZ w4) (mv hZ w5) (a := n0 + i) A.1 A.2.1.1 A.2.2 (by rw [hZ.alike.findClass]; exact e2) (by rw [hZ.alike.findClass]; exact g2) (by rw [hZ.alike.assignable]; exact g3)
    (fun i v hv => by have q := F i v hv; rw [← State.fitsSlot_setVm hal] at q; exact q) (g := mkF m pc Ls (.ref (n0 + i) :: st)) rfl hml rfl hd hf (by show 2 * 0 + _ + 14 ≤ _; omega) hc (by simpa [AC] using hsl)
    (by obtain ⟨-, k2, hk2, comp, hkind⟩ := A.2.1; rw [hZ.alike.clonesLoader]; exact Vm.clonesLoader_of_array hk2 hkind)
  rw [P.1] at st1
  have es : (AC kA vs).slots.size = vs.length := by simp [AC]
  rw [es] at X'
  exact Wp.via st1 (k _ X' (P.push _))
theorem w_ccastA (X : Stand p l e R s m args below meth c T locs cells slots) (hx : p.tables.exec = Jvm.exec) (hZ : Z.Warmed39 s.vm) {own ad : String} {idx : Nat} (hown : s.vm.findClass own = some m.cls) (w : (Jvm.Cond.classLink own idx ad).before a0 Z = true) (P : HP n0 T.heap cs) {i : Nat} {kA : ClassId} {vs : List Value} {ty : FieldType} (q : cs[i]? = some (AC kA vs)) (hk : IsA Z kA ty) (had : "[" ++ ty.toString = ad) (hd : decode c.code pc = .ok (.checkcast idx, 3)) (hp : pc + 3 = pc')
    (k : ∀ (T' : State), Stand p l e R s m args below meth c T' locs cells slots → HP n0 T'.heap cs → Wp p e s below C S Q T' (mkF m pc' Ls (.ref (n0 + i) :: st))) : Wp p e s below C S Q T (mkF m pc Ls (.ref (n0 + i) :: st)) := by
  subst hp
  obtain ⟨T', X', eh, st1⟩ := castY X hx hZ hown w rfl (Ins.self (P.exaA q hk had)) (g := mkF m pc Ls (.ref (n0 + i) :: st)) rfl rfl hd
  exact Wp.via st1 (k T' X' (by rw [eh]; exact P))
theorem w_ialoadL (X : Stand p l e R s m args below meth c T locs cells slots) (hx : p.tables.exec = Jvm.exec) (hZ : Z.Warmed39 s.vm) (P : HP n0 T.heap cs) {i : Nat} {kA : ClassId} {ll : List Int32} (q : cs[i]? = some (AC kA (List.map Value.int ll))) (hk : IsA Z kA .int) (hd : decode c.code pc = .ok (.iaload, 1)) {j : Int32} {jn : Nat} (hj : j.toInt = (jn : Int)) (hl : jn < ll.length) (hp : pc + 1 = pc')
    (k : Wp p e s below C S Q T (mkF m pc' Ls (.int (ll.getD jn 0) :: st))) : Wp p e s below C S Q T (mkF m pc Ls (.int j :: .ref (n0 + i) :: st)) :=
  w_iaload X hx hZ P q hk hd hj (own_get hl) hp k
theorem w_laloadL (X : Stand p l e R s m args below meth c T locs cells slots) (hx : p.tables.exec = Jvm.exec) (hZ : Z.Warmed39 s.vm) (P : HP n0 T.heap cs) {i : Nat} {kA : ClassId} {ll : List Int64} (q : cs[i]? = some (AC kA (List.map Value.long ll))) (hk : IsA Z kA .long) (hd : decode c.code pc = .ok (.laload, 1)) {j : Int32} {jn : Nat} (hj : j.toInt = (jn : Int)) (hl : jn < ll.length) (hp : pc + 1 = pc')
    (k : Wp p e s below C S Q T (mkF m pc' Ls (.long (ll.getD jn 0) :: st))) : Wp p e s below C S Q T (mkF m pc Ls (.int j :: .ref (n0 + i) :: st)) :=
  w_laload X hx hZ P q hk hd hj (own_get hl) hp k
theorem w_baloadL (X : Stand p l e R s m args below meth c T locs cells slots) (hx : p.tables.exec = Jvm.exec) (hZ : Z.Warmed39 s.vm) (P : HP n0 T.heap cs) {i : Nat} {kA : ClassId} {ll : List Int32} (q : cs[i]? = some (AC kA (List.map Value.int ll))) (hk : IsA Z kA .byte) (hd : decode c.code pc = .ok (.baload, 1)) {j : Int32} {jn : Nat} (hj : j.toInt = (jn : Int)) (hl : jn < ll.length) (hp : pc + 1 = pc')
    (k : Wp p e s below C S Q T (mkF m pc' Ls (.int (ll.getD jn 0) :: st))) : Wp p e s below C S Q T (mkF m pc Ls (.int j :: .ref (n0 + i) :: st)) :=
  w_baload X hx hZ P q hk hd hj (own_get hl) hp k
theorem w_iastoreL (X : Stand p l e R s m args below meth c T locs cells slots) (hx : p.tables.exec = Jvm.exec) (hZ : Z.Warmed39 s.vm) (N : Fr n0 locs) (P : HP n0 T.heap cs) {i : Nat} {kA : ClassId} {ll : List Int32} (q : cs[i]? = some (AC kA (List.map Value.int ll))) (hk : IsA Z kA .int) (hd : decode c.code pc = .ok (.iastore, 1)) {j : Int32} {x : Int32} {jn : Nat} (hj : j.toInt = (jn : Int)) (hl : jn < ll.length) (hp : pc + 1 = pc')
    (k : ∀ (T' : State) (L' : List Loc), Fr n0 L' → Stand p l e R s m args below meth c T' L' cells slots → HP n0 T'.heap (cs.set i (AC kA (List.map Value.int (ll.set jn x)))) → Wp p e s below C S Q T' (mkF m pc' Ls st)) : Wp p e s below C S Q T (mkF m pc Ls (.int x :: .int j :: .ref (n0 + i) :: st)) :=
  w_iastore X hx hZ N P q hk hd hj (by simpa using hl) hp (fun T' L' N' X' P' => k T' L' N' X' (by rw [List.map_set]; exact P'))
theorem w_lastoreL (X : Stand p l e R s m args below meth c T locs cells slots) (hx : p.tables.exec = Jvm.exec) (hZ : Z.Warmed39 s.vm) (N : Fr n0 locs) (P : HP n0 T.heap cs) {i : Nat} {kA : ClassId} {ll : List Int64} (q : cs[i]? = some (AC kA (List.map Value.long ll))) (hk : IsA Z kA .long) (hd : decode c.code pc = .ok (.lastore, 1)) {j : Int32} {x : Int64} {jn : Nat} (hj : j.toInt = (jn : Int)) (hl : jn < ll.length) (hp : pc + 1 = pc')
    (k : ∀ (T' : State) (L' : List Loc), Fr n0 L' → Stand p l e R s m args below meth c T' L' cells slots → HP n0 T'.heap (cs.set i (AC kA (List.map Value.long (ll.set jn x)))) → Wp p e s below C S Q T' (mkF m pc' Ls st)) : Wp p e s below C S Q T (mkF m pc Ls (.long x :: .int j :: .ref (n0 + i) :: st)) :=
  w_lastore X hx hZ N P q hk hd hj (by simpa using hl) hp (fun T' L' N' X' P' => k T' L' N' X' (by rw [List.map_set]; exact P'))
theorem w_bastoreEL (X : Stand p l e R s m args below meth c T locs cells slots) (hx : p.tables.exec = Jvm.exec) (hZ : Z.Warmed39 s.vm) (N : Fr n0 locs) (P : HP n0 T.heap cs) {i : Nat} {kA : ClassId} {ll : List Int32} (q : cs[i]? = some (AC kA (List.map Value.int ll))) (hk : IsA Z kA .byte) (hd : decode c.code pc = .ok (.bastore, 1)) {j : Int32} {x : Int32} {z : Int32} (hz : nar .byte x = z) {jn : Nat} (hj : j.toInt = (jn : Int)) (hl : jn < ll.length) (hp : pc + 1 = pc')
    (k : ∀ (T' : State) (L' : List Loc), Fr n0 L' → Stand p l e R s m args below meth c T' L' cells slots → HP n0 T'.heap (cs.set i (AC kA (List.map Value.int (ll.set jn z)))) → Wp p e s below C S Q T' (mkF m pc' Ls st)) : Wp p e s below C S Q T (mkF m pc Ls (.int x :: .int j :: .ref (n0 + i) :: st)) :=
  w_bastoreE X hx hZ N P q hk hd hz hj (by simpa using hl) hp (fun T' L' N' X' P' => k T' L' N' X' (by rw [List.map_set]; exact P'))
end OwnH
/-! small numbers -/
theorem own_small {x : Int32} {n : Nat} (h0 : 0 ≤ x.toInt) (h1 : x.toInt < n) (hn : n ≤ 2147483648) : ∃ k : Nat, k < n ∧ x = Int32.ofNat k := by
  refine ⟨x.toInt.toNat, by omega, Int32.toInt_inj.mp ?_⟩
  rw [Int32.toInt_ofNat_of_lt (by omega)]
  omega
theorem own_mask (a : Int32) : 0 ≤ (a &&& 2147483647).toInt ∧ (a &&& 2147483647).toInt < 2147483648 := by
  have h := c_mask a 2147483647 31 (by decide) (by decide)
  omega
theorem own_rem (a d : Int32) (D : Nat) (hd : d.toInt = (D : Int)) (h0 : 0 < D) : ∃ k : Nat, k < D ∧ (a &&& 2147483647) % d = Int32.ofNat k := by
  have h := own_mask a
  have h2 := (c_irem (a &&& 2147483647) d D hd).1 h.1
  have h3 := Int.emod_nonneg (a &&& 2147483647).toInt (b := (D : Int)) (by omega)
  have h4 := Int.emod_lt_of_pos (a &&& 2147483647).toInt (b := (D : Int)) (by omega)
  have h5 := d.toInt_lt
  exact own_small (by omega) (by omega) (by omega)
theorem own_remP (y d : Int32) (D : Nat) (h0 : 0 ≤ y.toInt) (hd : d.toInt = (D : Int)) (h1 : 0 < D) : ∃ k : Nat, k < D ∧ y % d = Int32.ofNat k := by
  have h2 := (c_irem y d D hd).1 h0
  have h3 := Int.emod_nonneg y.toInt (b := (D : Int)) (by omega)
  have h4 := Int.emod_lt_of_pos y.toInt (b := (D : Int)) (by omega)
  have h5 := d.toInt_lt
  exact own_small (by omega) (by omega) (by omega)
theorem own_andk (a m : Int32) (M : Nat) (hm : m.toInt = (M : Int)) : ∃ k : Nat, k < M + 1 ∧ a &&& m = Int32.ofNat k := by
  have h := c_and a m (by omega)
  have h5 := m.toInt_lt
  exact own_small h.1 (by omega) (by omega)
theorem own_c1 {x : Int32} (h : ∃ k : Nat, k < 1 ∧ x = Int32.ofNat k) : x = 0 := by
  obtain ⟨k, hk, e⟩ := h
  obtain rfl : k = 0 := by omega
  exact e
theorem own_c2 {x : Int32} (h : ∃ k : Nat, k < 2 ∧ x = Int32.ofNat k) : x = 0 ∨ x = 1 := by
  obtain ⟨k, hk, e⟩ := h
  have q : k = 0 ∨ k = 1 := by omega
  rcases q with rfl | rfl
  · exact Or.inl e
  · exact Or.inr (e)
theorem own_c3 {x : Int32} (h : ∃ k : Nat, k < 3 ∧ x = Int32.ofNat k) : x = 0 ∨ x = 1 ∨ x = 2 := by
  obtain ⟨k, hk, e⟩ := h
  have q : k = 0 ∨ k = 1 ∨ k = 2 := by omega
  rcases q with rfl | rfl | rfl
  · exact Or.inl e
  · exact Or.inr (Or.inl e)
  · exact Or.inr (Or.inr (e))
theorem own_c4 {x : Int32} (h : ∃ k : Nat, k < 4 ∧ x = Int32.ofNat k) : x = 0 ∨ x = 1 ∨ x = 2 ∨ x = 3 := by
  obtain ⟨k, hk, e⟩ := h
  have q : k = 0 ∨ k = 1 ∨ k = 2 ∨ k = 3 := by omega
  rcases q with rfl | rfl | rfl | rfl
  · exact Or.inl e
  · exact Or.inr (Or.inl e)
  · exact Or.inr (Or.inr (Or.inl e))
  · exact Or.inr (Or.inr (Or.inr (e)))
theorem own_c5 {x : Int32} (h : ∃ k : Nat, k < 5 ∧ x = Int32.ofNat k) : x = 0 ∨ x = 1 ∨ x = 2 ∨ x = 3 ∨ x = 4 := by
  obtain ⟨k, hk, e⟩ := h
  have q : k = 0 ∨ k = 1 ∨ k = 2 ∨ k = 3 ∨ k = 4 := by omega
  rcases q with rfl | rfl | rfl | rfl | rfl
  · exact Or.inl e
  · exact Or.inr (Or.inl e)
  · exact Or.inr (Or.inr (Or.inl e))
  · exact Or.inr (Or.inr (Or.inr (Or.inl e)))
  · exact Or.inr (Or.inr (Or.inr (Or.inr (e))))
theorem own_c6 {x : Int32} (h : ∃ k : Nat, k < 6 ∧ x = Int32.ofNat k) : x = 0 ∨ x = 1 ∨ x = 2 ∨ x = 3 ∨ x = 4 ∨ x = 5 := by
  obtain ⟨k, hk, e⟩ := h
  have q : k = 0 ∨ k = 1 ∨ k = 2 ∨ k = 3 ∨ k = 4 ∨ k = 5 := by omega
  rcases q with rfl | rfl | rfl | rfl | rfl | rfl
  · exact Or.inl e
  · exact Or.inr (Or.inl e)
  · exact Or.inr (Or.inr (Or.inl e))
  · exact Or.inr (Or.inr (Or.inr (Or.inl e)))
  · exact Or.inr (Or.inr (Or.inr (Or.inr (Or.inl e))))
  · exact Or.inr (Or.inr (Or.inr (Or.inr (Or.inr (e)))))
theorem own_c7 {x : Int32} (h : ∃ k : Nat, k < 7 ∧ x = Int32.ofNat k) : x = 0 ∨ x = 1 ∨ x = 2 ∨ x = 3 ∨ x = 4 ∨ x = 5 ∨ x = 6 := by
  obtain ⟨k, hk, e⟩ := h
  have q : k = 0 ∨ k = 1 ∨ k = 2 ∨ k = 3 ∨ k = 4 ∨ k = 5 ∨ k = 6 := by omega
  rcases q with rfl | rfl | rfl | rfl | rfl | rfl | rfl
  · exact Or.inl e
  · exact Or.inr (Or.inl e)
  · exact Or.inr (Or.inr (Or.inl e))
  · exact Or.inr (Or.inr (Or.inr (Or.inl e)))
  · exact Or.inr (Or.inr (Or.inr (Or.inr (Or.inl e))))
  · exact Or.inr (Or.inr (Or.inr (Or.inr (Or.inr (Or.inl e)))))
  · exact Or.inr (Or.inr (Or.inr (Or.inr (Or.inr (Or.inr (e))))))
theorem own_c8 {x : Int32} (h : ∃ k : Nat, k < 8 ∧ x = Int32.ofNat k) : x = 0 ∨ x = 1 ∨ x = 2 ∨ x = 3 ∨ x = 4 ∨ x = 5 ∨ x = 6 ∨ x = 7 := by
  obtain ⟨k, hk, e⟩ := h
  have q : k = 0 ∨ k = 1 ∨ k = 2 ∨ k = 3 ∨ k = 4 ∨ k = 5 ∨ k = 6 ∨ k = 7 := by omega
  rcases q with rfl | rfl | rfl | rfl | rfl | rfl | rfl | rfl
  · exact Or.inl e
  · exact Or.inr (Or.inl e)
  · exact Or.inr (Or.inr (Or.inl e))
  · exact Or.inr (Or.inr (Or.inr (Or.inl e)))
  · exact Or.inr (Or.inr (Or.inr (Or.inr (Or.inl e))))
  · exact Or.inr (Or.inr (Or.inr (Or.inr (Or.inr (Or.inl e)))))
  · exact Or.inr (Or.inr (Or.inr (Or.inr (Or.inr (Or.inr (Or.inl e))))))
  · exact Or.inr (Or.inr (Or.inr (Or.inr (Or.inr (Or.inr (Or.inr (e)))))))
theorem own_c9 {x : Int32} (h : ∃ k : Nat, k < 9 ∧ x = Int32.ofNat k) : x = 0 ∨ x = 1 ∨ x = 2 ∨ x = 3 ∨ x = 4 ∨ x = 5 ∨ x = 6 ∨ x = 7 ∨ x = 8 := by
  obtain ⟨k, hk, e⟩ := h
  have q : k = 0 ∨ k = 1 ∨ k = 2 ∨ k = 3 ∨ k = 4 ∨ k = 5 ∨ k = 6 ∨ k = 7 ∨ k = 8 := by omega
  rcases q with rfl | rfl | rfl | rfl | rfl | rfl | rfl | rfl | rfl
  · exact Or.inl e
  · exact Or.inr (Or.inl e)
  · exact Or.inr (Or.inr (Or.inl e))
  · exact Or.inr (Or.inr (Or.inr (Or.inl e)))
  · exact Or.inr (Or.inr (Or.inr (Or.inr (Or.inl e))))
  · exact Or.inr (Or.inr (Or.inr (Or.inr (Or.inr (Or.inl e)))))
  · exact Or.inr (Or.inr (Or.inr (Or.inr (Or.inr (Or.inr (Or.inl e))))))
  · exact Or.inr (Or.inr (Or.inr (Or.inr (Or.inr (Or.inr (Or.inr (Or.inl e)))))))
  · exact Or.inr (Or.inr (Or.inr (Or.inr (Or.inr (Or.inr (Or.inr (Or.inr (e))))))))
theorem own_c10 {x : Int32} (h : ∃ k : Nat, k < 10 ∧ x = Int32.ofNat k) : x = 0 ∨ x = 1 ∨ x = 2 ∨ x = 3 ∨ x = 4 ∨ x = 5 ∨ x = 6 ∨ x = 7 ∨ x = 8 ∨ x = 9 := by
  obtain ⟨k, hk, e⟩ := h
  have q : k = 0 ∨ k = 1 ∨ k = 2 ∨ k = 3 ∨ k = 4 ∨ k = 5 ∨ k = 6 ∨ k = 7 ∨ k = 8 ∨ k = 9 := by omega
  rcases q with rfl | rfl | rfl | rfl | rfl | rfl | rfl | rfl | rfl | rfl
  · exact Or.inl e
  · exact Or.inr (Or.inl e)
  · exact Or.inr (Or.inr (Or.inl e))
  · exact Or.inr (Or.inr (Or.inr (Or.inl e)))
  · exact Or.inr (Or.inr (Or.inr (Or.inr (Or.inl e))))
  · exact Or.inr (Or.inr (Or.inr (Or.inr (Or.inr (Or.inl e)))))
  · exact Or.inr (Or.inr (Or.inr (Or.inr (Or.inr (Or.inr (Or.inl e))))))
  · exact Or.inr (Or.inr (Or.inr (Or.inr (Or.inr (Or.inr (Or.inr (Or.inl e)))))))
  · exact Or.inr (Or.inr (Or.inr (Or.inr (Or.inr (Or.inr (Or.inr (Or.inr (Or.inl e))))))))
  · exact Or.inr (Or.inr (Or.inr (Or.inr (Or.inr (Or.inr (Or.inr (Or.inr (Or.inr (e)))))))))
theorem own_c11 {x : Int32} (h : ∃ k : Nat, k < 11 ∧ x = Int32.ofNat k) : x = 0 ∨ x = 1 ∨ x = 2 ∨ x = 3 ∨ x = 4 ∨ x = 5 ∨ x = 6 ∨ x = 7 ∨ x = 8 ∨ x = 9 ∨ x = 10 := by
  obtain ⟨k, hk, e⟩ := h
  have q : k = 0 ∨ k = 1 ∨ k = 2 ∨ k = 3 ∨ k = 4 ∨ k = 5 ∨ k = 6 ∨ k = 7 ∨ k = 8 ∨ k = 9 ∨ k = 10 := by omega
  rcases q with rfl | rfl | rfl | rfl | rfl | rfl | rfl | rfl | rfl | rfl | rfl
  · exact Or.inl e
  · exact Or.inr (Or.inl e)
  · exact Or.inr (Or.inr (Or.inl e))
  · exact Or.inr (Or.inr (Or.inr (Or.inl e)))
  · exact Or.inr (Or.inr (Or.inr (Or.inr (Or.inl e))))
  · exact Or.inr (Or.inr (Or.inr (Or.inr (Or.inr (Or.inl e)))))
  · exact Or.inr (Or.inr (Or.inr (Or.inr (Or.inr (Or.inr (Or.inl e))))))
  · exact Or.inr (Or.inr (Or.inr (Or.inr (Or.inr (Or.inr (Or.inr (Or.inl e)))))))
  · exact Or.inr (Or.inr (Or.inr (Or.inr (Or.inr (Or.inr (Or.inr (Or.inr (Or.inl e))))))))
  · exact Or.inr (Or.inr (Or.inr (Or.inr (Or.inr (Or.inr (Or.inr (Or.inr (Or.inr (Or.inl e)))))))))
  · exact Or.inr (Or.inr (Or.inr (Or.inr (Or.inr (Or.inr (Or.inr (Or.inr (Or.inr (Or.inr (e))))))))))
theorem own_c12 {x : Int32} (h : ∃ k : Nat, k < 12 ∧ x = Int32.ofNat k) : x = 0 ∨ x = 1 ∨ x = 2 ∨ x = 3 ∨ x = 4 ∨ x = 5 ∨ x = 6 ∨ x = 7 ∨ x = 8 ∨ x = 9 ∨ x = 10 ∨ x = 11 := by
  obtain ⟨k, hk, e⟩ := h
  have q : k = 0 ∨ k = 1 ∨ k = 2 ∨ k = 3 ∨ k = 4 ∨ k = 5 ∨ k = 6 ∨ k = 7 ∨ k = 8 ∨ k = 9 ∨ k = 10 ∨ k = 11 := by omega
  rcases q with rfl | rfl | rfl | rfl | rfl | rfl | rfl | rfl | rfl | rfl | rfl | rfl
  · exact Or.inl e
  · exact Or.inr (Or.inl e)
  · exact Or.inr (Or.inr (Or.inl e))
  · exact Or.inr (Or.inr (Or.inr (Or.inl e)))
  · exact Or.inr (Or.inr (Or.inr (Or.inr (Or.inl e))))
  · exact Or.inr (Or.inr (Or.inr (Or.inr (Or.inr (Or.inl e)))))
  · exact Or.inr (Or.inr (Or.inr (Or.inr (Or.inr (Or.inr (Or.inl e))))))
  · exact Or.inr (Or.inr (Or.inr (Or.inr (Or.inr (Or.inr (Or.inr (Or.inl e)))))))
  · exact Or.inr (Or.inr (Or.inr (Or.inr (Or.inr (Or.inr (Or.inr (Or.inr (Or.inl e))))))))
  · exact Or.inr (Or.inr (Or.inr (Or.inr (Or.inr (Or.inr (Or.inr (Or.inr (Or.inr (Or.inl e)))))))))
  · exact Or.inr (Or.inr (Or.inr (Or.inr (Or.inr (Or.inr (Or.inr (Or.inr (Or.inr (Or.inr (Or.inl e))))))))))
  · exact Or.inr (Or.inr (Or.inr (Or.inr (Or.inr (Or.inr (Or.inr (Or.inr (Or.inr (Or.inr (Or.inr (e)))))))))))
theorem own_c13 {x : Int32} (h : ∃ k : Nat, k < 13 ∧ x = Int32.ofNat k) : x = 0 ∨ x = 1 ∨ x = 2 ∨ x = 3 ∨ x = 4 ∨ x = 5 ∨ x = 6 ∨ x = 7 ∨ x = 8 ∨ x = 9 ∨ x = 10 ∨ x = 11 ∨ x = 12 := by
  obtain ⟨k, hk, e⟩ := h
  have q : k = 0 ∨ k = 1 ∨ k = 2 ∨ k = 3 ∨ k = 4 ∨ k = 5 ∨ k = 6 ∨ k = 7 ∨ k = 8 ∨ k = 9 ∨ k = 10 ∨ k = 11 ∨ k = 12 := by omega
  rcases q with rfl | rfl | rfl | rfl | rfl | rfl | rfl | rfl | rfl | rfl | rfl | rfl | rfl
  · exact Or.inl e
  · exact Or.inr (Or.inl e)
  · exact Or.inr (Or.inr (Or.inl e))
  · exact Or.inr (Or.inr (Or.inr (Or.inl e)))
  · exact Or.inr (Or.inr (Or.inr (Or.inr (Or.inl e))))
  · exact Or.inr (Or.inr (Or.inr (Or.inr (Or.inr (Or.inl e)))))
  · exact Or.inr (Or.inr (Or.inr (Or.inr (Or.inr (Or.inr (Or.inl e))))))
  · exact Or.inr (Or.inr (Or.inr (Or.inr (Or.inr (Or.inr (Or.inr (Or.inl e)))))))
  · exact Or.inr (Or.inr (Or.inr (Or.inr (Or.inr (Or.inr (Or.inr (Or.inr (Or.inl e))))))))
  · exact Or.inr (Or.inr (Or.inr (Or.inr (Or.inr (Or.inr (Or.inr (Or.inr (Or.inr (Or.inl e)))))))))
  · exact Or.inr (Or.inr (Or.inr (Or.inr (Or.inr (Or.inr (Or.inr (Or.inr (Or.inr (Or.inr (Or.inl e))))))))))
  · exact Or.inr (Or.inr (Or.inr (Or.inr (Or.inr (Or.inr (Or.inr (Or.inr (Or.inr (Or.inr (Or.inr (Or.inl e)))))))))))
  · exact Or.inr (Or.inr (Or.inr (Or.inr (Or.inr (Or.inr (Or.inr (Or.inr (Or.inr (Or.inr (Or.inr (Or.inr (e))))))))))))
theorem own_c14 {x : Int32} (h : ∃ k : Nat, k < 14 ∧ x = Int32.ofNat k) : x = 0 ∨ x = 1 ∨ x = 2 ∨ x = 3 ∨ x = 4 ∨ x = 5 ∨ x = 6 ∨ x = 7 ∨ x = 8 ∨ x = 9 ∨ x = 10 ∨ x = 11 ∨ x = 12 ∨ x = 13 := by
  obtain ⟨k, hk, e⟩ := h
  have q : k = 0 ∨ k = 1 ∨ k = 2 ∨ k = 3 ∨ k = 4 ∨ k = 5 ∨ k = 6 ∨ k = 7 ∨ k = 8 ∨ k = 9 ∨ k = 10 ∨ k = 11 ∨ k = 12 ∨ k = 13 := by omega
  rcases q with rfl | rfl | rfl | rfl | rfl | rfl | rfl | rfl | rfl | rfl | rfl | rfl | rfl | rfl
  · exact Or.inl e
  · exact Or.inr (Or.inl e)
  · exact Or.inr (Or.inr (Or.inl e))
  · exact Or.inr (Or.inr (Or.inr (Or.inl e)))
  · exact Or.inr (Or.inr (Or.inr (Or.inr (Or.inl e))))
  · exact Or.inr (Or.inr (Or.inr (Or.inr (Or.inr (Or.inl e)))))
  · exact Or.inr (Or.inr (Or.inr (Or.inr (Or.inr (Or.inr (Or.inl e))))))
  · exact Or.inr (Or.inr (Or.inr (Or.inr (Or.inr (Or.inr (Or.inr (Or.inl e)))))))
  · exact Or.inr (Or.inr (Or.inr (Or.inr (Or.inr (Or.inr (Or.inr (Or.inr (Or.inl e))))))))
  · exact Or.inr (Or.inr (Or.inr (Or.inr (Or.inr (Or.inr (Or.inr (Or.inr (Or.inr (Or.inl e)))))))))
  · exact Or.inr (Or.inr (Or.inr (Or.inr (Or.inr (Or.inr (Or.inr (Or.inr (Or.inr (Or.inr (Or.inl e))))))))))
  · exact Or.inr (Or.inr (Or.inr (Or.inr (Or.inr (Or.inr (Or.inr (Or.inr (Or.inr (Or.inr (Or.inr (Or.inl e)))))))))))
  · exact Or.inr (Or.inr (Or.inr (Or.inr (Or.inr (Or.inr (Or.inr (Or.inr (Or.inr (Or.inr (Or.inr (Or.inr (Or.inl e))))))))))))
  · exact Or.inr (Or.inr (Or.inr (Or.inr (Or.inr (Or.inr (Or.inr (Or.inr (Or.inr (Or.inr (Or.inr (Or.inr (Or.inr (e)))))))))))))
theorem own_c15 {x : Int32} (h : ∃ k : Nat, k < 15 ∧ x = Int32.ofNat k) : x = 0 ∨ x = 1 ∨ x = 2 ∨ x = 3 ∨ x = 4 ∨ x = 5 ∨ x = 6 ∨ x = 7 ∨ x = 8 ∨ x = 9 ∨ x = 10 ∨ x = 11 ∨ x = 12 ∨ x = 13 ∨ x = 14 := by
  obtain ⟨k, hk, e⟩ := h
  have q : k = 0 ∨ k = 1 ∨ k = 2 ∨ k = 3 ∨ k = 4 ∨ k = 5 ∨ k = 6 ∨ k = 7 ∨ k = 8 ∨ k = 9 ∨ k = 10 ∨ k = 11 ∨ k = 12 ∨ k = 13 ∨ k = 14 := by omega
  rcases q with rfl | rfl | rfl | rfl | rfl | rfl | rfl | rfl | rfl | rfl | rfl | rfl | rfl | rfl | rfl
  · exact Or.inl e
  · exact Or.inr (Or.inl e)
  · exact Or.inr (Or.inr (Or.inl e))
  · exact Or.inr (Or.inr (Or.inr (Or.inl e)))
  · exact Or.inr (Or.inr (Or.inr (Or.inr (Or.inl e))))
  · exact Or.inr (Or.inr (Or.inr (Or.inr (Or.inr (Or.inl e)))))
  · exact Or.inr (Or.inr (Or.inr (Or.inr (Or.inr (Or.inr (Or.inl e))))))
  · exact Or.inr (Or.inr (Or.inr (Or.inr (Or.inr (Or.inr (Or.inr (Or.inl e)))))))
  · exact Or.inr (Or.inr (Or.inr (Or.inr (Or.inr (Or.inr (Or.inr (Or.inr (Or.inl e))))))))
  · exact Or.inr (Or.inr (Or.inr (Or.inr (Or.inr (Or.inr (Or.inr (Or.inr (Or.inr (Or.inl e)))))))))
  · exact Or.inr (Or.inr (Or.inr (Or.inr (Or.inr (Or.inr (Or.inr (Or.inr (Or.inr (Or.inr (Or.inl e))))))))))
  · exact Or.inr (Or.inr (Or.inr (Or.inr (Or.inr (Or.inr (Or.inr (Or.inr (Or.inr (Or.inr (Or.inr (Or.inl e)))))))))))
  · exact Or.inr (Or.inr (Or.inr (Or.inr (Or.inr (Or.inr (Or.inr (Or.inr (Or.inr (Or.inr (Or.inr (Or.inr (Or.inl e))))))))))))
  · exact Or.inr (Or.inr (Or.inr (Or.inr (Or.inr (Or.inr (Or.inr (Or.inr (Or.inr (Or.inr (Or.inr (Or.inr (Or.inr (Or.inl e)))))))))))))
  · exact Or.inr (Or.inr (Or.inr (Or.inr (Or.inr (Or.inr (Or.inr (Or.inr (Or.inr (Or.inr (Or.inr (Or.inr (Or.inr (Or.inr (e))))))))))))))
theorem own_c16 {x : Int32} (h : ∃ k : Nat, k < 16 ∧ x = Int32.ofNat k) : x = 0 ∨ x = 1 ∨ x = 2 ∨ x = 3 ∨ x = 4 ∨ x = 5 ∨ x = 6 ∨ x = 7 ∨ x = 8 ∨ x = 9 ∨ x = 10 ∨ x = 11 ∨ x = 12 ∨ x = 13 ∨ x = 14 ∨ x = 15 := by
  obtain ⟨k, hk, e⟩ := h
  have q : k = 0 ∨ k = 1 ∨ k = 2 ∨ k = 3 ∨ k = 4 ∨ k = 5 ∨ k = 6 ∨ k = 7 ∨ k = 8 ∨ k = 9 ∨ k = 10 ∨ k = 11 ∨ k = 12 ∨ k = 13 ∨ k = 14 ∨ k = 15 := by omega
  rcases q with rfl | rfl | rfl | rfl | rfl | rfl | rfl | rfl | rfl | rfl | rfl | rfl | rfl | rfl | rfl | rfl
  · exact Or.inl e
  · exact Or.inr (Or.inl e)
  · exact Or.inr (Or.inr (Or.inl e))
  · exact Or.inr (Or.inr (Or.inr (Or.inl e)))
  · exact Or.inr (Or.inr (Or.inr (Or.inr (Or.inl e))))
  · exact Or.inr (Or.inr (Or.inr (Or.inr (Or.inr (Or.inl e)))))
  · exact Or.inr (Or.inr (Or.inr (Or.inr (Or.inr (Or.inr (Or.inl e))))))
  · exact Or.inr (Or.inr (Or.inr (Or.inr (Or.inr (Or.inr (Or.inr (Or.inl e)))))))
  · exact Or.inr (Or.inr (Or.inr (Or.inr (Or.inr (Or.inr (Or.inr (Or.inr (Or.inl e))))))))
  · exact Or.inr (Or.inr (Or.inr (Or.inr (Or.inr (Or.inr (Or.inr (Or.inr (Or.inr (Or.inl e)))))))))
  · exact Or.inr (Or.inr (Or.inr (Or.inr (Or.inr (Or.inr (Or.inr (Or.inr (Or.inr (Or.inr (Or.inl e))))))))))
  · exact Or.inr (Or.inr (Or.inr (Or.inr (Or.inr (Or.inr (Or.inr (Or.inr (Or.inr (Or.inr (Or.inr (Or.inl e)))))))))))
  · exact Or.inr (Or.inr (Or.inr (Or.inr (Or.inr (Or.inr (Or.inr (Or.inr (Or.inr (Or.inr (Or.inr (Or.inr (Or.inl e))))))))))))
  · exact Or.inr (Or.inr (Or.inr (Or.inr (Or.inr (Or.inr (Or.inr (Or.inr (Or.inr (Or.inr (Or.inr (Or.inr (Or.inr (Or.inl e)))))))))))))
  · exact Or.inr (Or.inr (Or.inr (Or.inr (Or.inr (Or.inr (Or.inr (Or.inr (Or.inr (Or.inr (Or.inr (Or.inr (Or.inr (Or.inr (Or.inl e))))))))))))))
  · exact Or.inr (Or.inr (Or.inr (Or.inr (Or.inr (Or.inr (Or.inr (Or.inr (Or.inr (Or.inr (Or.inr (Or.inr (Or.inr (Or.inr (Or.inr (e)))))))))))))))
theorem own_c17 {x : Int32} (h : ∃ k : Nat, k < 17 ∧ x = Int32.ofNat k) : x = 0 ∨ x = 1 ∨ x = 2 ∨ x = 3 ∨ x = 4 ∨ x = 5 ∨ x = 6 ∨ x = 7 ∨ x = 8 ∨ x = 9 ∨ x = 10 ∨ x = 11 ∨ x = 12 ∨ x = 13 ∨ x = 14 ∨ x = 15 ∨ x = 16 := by
  obtain ⟨k, hk, e⟩ := h
  have q : k = 0 ∨ k = 1 ∨ k = 2 ∨ k = 3 ∨ k = 4 ∨ k = 5 ∨ k = 6 ∨ k = 7 ∨ k = 8 ∨ k = 9 ∨ k = 10 ∨ k = 11 ∨ k = 12 ∨ k = 13 ∨ k = 14 ∨ k = 15 ∨ k = 16 := by omega
  rcases q with rfl | rfl | rfl | rfl | rfl | rfl | rfl | rfl | rfl | rfl | rfl | rfl | rfl | rfl | rfl | rfl | rfl
  · exact Or.inl e
  · exact Or.inr (Or.inl e)
  · exact Or.inr (Or.inr (Or.inl e))
  · exact Or.inr (Or.inr (Or.inr (Or.inl e)))
  · exact Or.inr (Or.inr (Or.inr (Or.inr (Or.inl e))))
  · exact Or.inr (Or.inr (Or.inr (Or.inr (Or.inr (Or.inl e)))))
  · exact Or.inr (Or.inr (Or.inr (Or.inr (Or.inr (Or.inr (Or.inl e))))))
  · exact Or.inr (Or.inr (Or.inr (Or.inr (Or.inr (Or.inr (Or.inr (Or.inl e)))))))
  · exact Or.inr (Or.inr (Or.inr (Or.inr (Or.inr (Or.inr (Or.inr (Or.inr (Or.inl e))))))))
  · exact Or.inr (Or.inr (Or.inr (Or.inr (Or.inr (Or.inr (Or.inr (Or.inr (Or.inr (Or.inl e)))))))))
  · exact Or.inr (Or.inr (Or.inr (Or.inr (Or.inr (Or.inr (Or.inr (Or.inr (Or.inr (Or.inr (Or.inl e))))))))))
  · exact Or.inr (Or.inr (Or.inr (Or.inr (Or.inr (Or.inr (Or.inr (Or.inr (Or.inr (Or.inr (Or.inr (Or.inl e)))))))))))
  · exact Or.inr (Or.inr (Or.inr (Or.inr (Or.inr (Or.inr (Or.inr (Or.inr (Or.inr (Or.inr (Or.inr (Or.inr (Or.inl e))))))))))))
  · exact Or.inr (Or.inr (Or.inr (Or.inr (Or.inr (Or.inr (Or.inr (Or.inr (Or.inr (Or.inr (Or.inr (Or.inr (Or.inr (Or.inl e)))))))))))))
  · exact Or.inr (Or.inr (Or.inr (Or.inr (Or.inr (Or.inr (Or.inr (Or.inr (Or.inr (Or.inr (Or.inr (Or.inr (Or.inr (Or.inr (Or.inl e))))))))))))))
  · exact Or.inr (Or.inr (Or.inr (Or.inr (Or.inr (Or.inr (Or.inr (Or.inr (Or.inr (Or.inr (Or.inr (Or.inr (Or.inr (Or.inr (Or.inr (Or.inl e)))))))))))))))
  · exact Or.inr (Or.inr (Or.inr (Or.inr (Or.inr (Or.inr (Or.inr (Or.inr (Or.inr (Or.inr (Or.inr (Or.inr (Or.inr (Or.inr (Or.inr (Or.inr (e))))))))))))))))
theorem own_selP {s : State} {args : Array Value} {y y' : MethodName} (hyc : y'.cls = y.cls) (ws : (Jvm.Cond.selects y.cls y' y').before args s = true) (hpriv : s.PrivateAt y) (hinst : (Jvm.Cond.instanceMethod y).before args s = true) (hy : y.cls ≠ "java/lang/invoke/MethodHandle" ∧ y.cls ≠ "java/lang/invoke/VarHandle") : (Jvm.Cond.selects y.cls y y).before args s = true := by
  obtain ⟨c2, r2, m2, q1, q2, q3, q4, kP, hkP, hkPi⟩ := Cond.selects_spec ws
  have h1 := findClass_of_methodNamed q3
  rw [hyc] at h1
  exact Jvm.Stand.selects_self_of_private h1 hkP hkPi hpriv hinst hy
section OwnPr
variable {p : Program} {l : Launch} {e : Env} {R : Room} {s : State} {m : MethodId} {args : Array Value} {below : List Frame} {meth : Method} {c : Code} {T : State} {locs : List Loc} {cells slots : Nat} {C S : Nat} {Q : Option Value → Heap → List Loc → Prop} {pc pc' : Nat} {Ls : Array Slot} {st : List Value}
  {Z : State} {a0 : Array Value} {n0 : Nat} {cs : List Cell}
theorem own_callPr (X : Stand p l e R s m args below meth c T locs cells slots) (hx : p.tables.exec = Jvm.exec) {h : Heap} (hZ : Z.Warmed39 s.vm) (eT : T.heap = h) {own : String} {i : Nat} {y y' : MethodName} {bytes : ByteArray} {maxL : Nat} {ret : Option FieldType} {rm : Room} {W : Nat} {as' : Array Value} {Qc : Option Value → Heap → List Loc → Prop}
    (hown : s.vm.findClass own = some m.cls) (hml : Ls.size = c.maxLocals) (w1 : (Jvm.Cond.methodLink own i y).before a0 Z = true) (w5 : (Jvm.Cond.selects y.cls y' y').before a0 Z = true) (hyc : y'.cls = y.cls) (wp : (Jvm.Cond.privateMethod y).before a0 Z = true) (w6 : (Jvm.Cond.instanceMethod y).before a0 Z = true) (w3 : (Jvm.Cond.initialized y.cls).before a0 Z = true) (w4 : (Jvm.Cond.code y bytes maxL ret).before a0 Z = true)
    (hM : MetFree l y (head1 [Jvm.Cond.code y bytes maxL ret] rm) (fun a U => a = as' ∧ Z.Warmed39 U.vm ∧ U.heap = h) (fun _ _ _ _ _ => True) (fun _ U o U' => ∃ v L, o = .returned v ∧ Qc v U'.heap L ∧ FrameEnd U o U' L rm.cells rm.slots))
    {a : Addr} {K : String} (E : Exa Z h a K) (hy : y.cls ≠ "java/lang/invoke/MethodHandle" ∧ y.cls ≠ "java/lang/invoke/VarHandle") (hf : rm.frames + 1 ≤ R.frames) (hl : W + (maxL + 11) + rm.locals ≤ R.locals) (hc : cells + rm.cells ≤ R.cells) (hsl : slots + rm.slots ≤ R.slots)
    {argsL rest : List Value} {ps : List FieldType} {r : Option FieldType} (hpd : parseMethodDescriptor y.desc = some ⟨ps, r⟩) (hlen : argsL.length = ps.length) (has : (.ref a :: argsL).toArray = as') (hst : st = argsL.reverse ++ .ref a :: rest) (hW : (rest.map fun v => v.category).sum ≤ W) (hd : decode c.code pc = .ok (.invokevirtual i, 3)) (hp : pc + 3 = pc')
    (k : ∀ (v : Option Value) (T' : State) (L : List Loc), Stand p l e R s m args below meth c T' (locs ++ L) (cells + rm.cells) (slots + rm.slots) → Qc v T'.heap L → Wp p e s below C S Q T' (mkF m pc' Ls (v.toList ++ rest))) : Wp p e s below C S Q T (mkF m pc Ls st) := by
  obtain ⟨cc, qa, qb⟩ := Exa.cell E
  have hpr := Cond.privateMethod_at (mvP (args := args) hZ wp)
  obtain ⟨v, _, ⟨T1, L1, k1, n1⟩, -, X1, ⟨Lc1, hQ1, l1, y1, z1⟩, st1⟩ := X.privateBack hx (y := y) hown (mvT hZ w1) (mvT hZ w6) (own_selP hyc (mvT hZ w5) hpr (mvT hZ w6) hy) hpr (mvT hZ w4) hy (backOf (W := W) hM hZ w4 w3 hf hl) (g := mkF m pc Ls st) rfl hml (Steps.refl _) (a := a) (by rw [eT]; exact qa) qb (argsL := argsL) (rest := rest) (lenOf hpd hlen) hst (by show 2 * 0 + _ ≤ _; omega) hd (fun _ _ => ⟨has, eT, hc, hsl⟩)
  dsimp only [Pt.U, Pt.locs, Pt.cells, Pt.slots] at X1 l1 y1 z1 st1 hQ1
  subst l1 y1 z1
  subst hp
  exact Wp.via (fun _ h => st1.trans h) (k v T1 Lc1 X1 hQ1)
end OwnPr
theorem wd0 {Z : State} {a0 : Array Value} (hw : ∀ d ∈ tables_1, d.before a0 Z = true) : (Jvm.Cond.arrayClass Jvm.ClassFile.FieldType.long).before a0 Z = true := hw _ (List.mem_of_getElem? (i := 0) rfl)
theorem wd1 {Z : State} {a0 : Array Value} (hw : ∀ d ∈ tables_1, d.before a0 Z = true) : (Jvm.Cond.classLink "com/example/bidcrier/bidcrier/CheapestColumnsSecondCheapestPinLaw" (11 : Nat) "com/example/bidcrier/bidcrier/CheapestColumns").before a0 Z = true := hw _ (List.mem_of_getElem? (i := 1) rfl)
theorem wd2 {Z : State} {a0 : Array Value} (hw : ∀ d ∈ tables_1, d.before a0 Z = true) : (Jvm.Cond.instantiable "com/example/bidcrier/bidcrier/CheapestColumns" (4 : Nat)).before a0 Z = true := hw _ (List.mem_of_getElem? (i := 2) rfl)
theorem wd3 {Z : State} {a0 : Array Value} (hw : ∀ d ∈ tables_1, d.before a0 Z = true) : (Jvm.Cond.initialized "com/example/bidcrier/bidcrier/CheapestColumns").before a0 Z = true := hw _ (List.mem_of_getElem? (i := 3) rfl)
theorem wd4 {Z : State} {a0 : Array Value} (hw : ∀ d ∈ tables_1, d.before a0 Z = true) : (Jvm.Cond.methodLink "com/example/bidcrier/bidcrier/CheapestColumnsSecondCheapestPinLaw" (13 : Nat) ({ cls := "com/example/bidcrier/bidcrier/CheapestColumns", name := "<init>", desc := "([JI)V" } : Jvm.MethodName)).before a0 Z = true := hw _ (List.mem_of_getElem? (i := 4) rfl)
theorem wd5 {Z : State} {a0 : Array Value} (hw : ∀ d ∈ tables_1, d.before a0 Z = true) : (Jvm.Cond.instanceMethod ({ cls := "com/example/bidcrier/bidcrier/CheapestColumns", name := "<init>", desc := "([JI)V" } : Jvm.MethodName)).before a0 Z = true := hw _ (List.mem_of_getElem? (i := 5) rfl)
theorem wd6 {Z : State} {a0 : Array Value} (hw : ∀ d ∈ tables_1, d.before a0 Z = true) : (Jvm.Cond.code ({ cls := "com/example/bidcrier/bidcrier/CheapestColumns", name := "<init>", desc := "([JI)V" } : Jvm.MethodName) prog_7_method_1_code (4 : Nat) (Option.none : Option Jvm.ClassFile.FieldType)).before a0 Z = true := hw _ (List.mem_of_getElem? (i := 6) rfl)
theorem wd7 {Z : State} {a0 : Array Value} (hw : ∀ d ∈ tables_1, d.before a0 Z = true) : (Jvm.Cond.methodLink "com/example/bidcrier/bidcrier/CheapestColumns" (1 : Nat) ({ cls := "java/lang/Object", name := "<init>", desc := "()V" } : Jvm.MethodName)).before a0 Z = true := hw _ (List.mem_of_getElem? (i := 7) rfl)
theorem wd8 {Z : State} {a0 : Array Value} (hw : ∀ d ∈ tables_1, d.before a0 Z = true) : (Jvm.Cond.instanceMethod ({ cls := "java/lang/Object", name := "<init>", desc := "()V" } : Jvm.MethodName)).before a0 Z = true := hw _ (List.mem_of_getElem? (i := 8) rfl)
theorem wd9 {Z : State} {a0 : Array Value} (hw : ∀ d ∈ tables_1, d.before a0 Z = true) : (Jvm.Cond.code ({ cls := "java/lang/Object", name := "<init>", desc := "()V" } : Jvm.MethodName) object_method_1_code (1 : Nat) (Option.none : Option Jvm.ClassFile.FieldType)).before a0 Z = true := hw _ (List.mem_of_getElem? (i := 9) rfl)
theorem wd10 {Z : State} {a0 : Array Value} (hw : ∀ d ∈ tables_1, d.before a0 Z = true) : (Jvm.Cond.fieldLink "com/example/bidcrier/bidcrier/CheapestColumns" (7 : Nat) "com/example/bidcrier/bidcrier/CheapestColumns" "prices" "[J").before a0 Z = true := hw _ (List.mem_of_getElem? (i := 10) rfl)
theorem wd11 {Z : State} {a0 : Array Value} (hw : ∀ d ∈ tables_1, d.before a0 Z = true) : (Jvm.Cond.laysFinal "com/example/bidcrier/bidcrier/CheapestColumns" "com/example/bidcrier/bidcrier/CheapestColumns" "prices" "[J").before a0 Z = true := hw _ (List.mem_of_getElem? (i := 11) rfl)
theorem wd12 {Z : State} {a0 : Array Value} (hw : ∀ d ∈ tables_1, d.before a0 Z = true) : (Jvm.Cond.fieldLink "com/example/bidcrier/bidcrier/CheapestColumns" (13 : Nat) "com/example/bidcrier/bidcrier/CheapestColumns" "from" "I").before a0 Z = true := hw _ (List.mem_of_getElem? (i := 12) rfl)
theorem wd13 {Z : State} {a0 : Array Value} (hw : ∀ d ∈ tables_1, d.before a0 Z = true) : (Jvm.Cond.laysFinal "com/example/bidcrier/bidcrier/CheapestColumns" "com/example/bidcrier/bidcrier/CheapestColumns" "from" "I").before a0 Z = true := hw _ (List.mem_of_getElem? (i := 13) rfl)
theorem wd14 {Z : State} {a0 : Array Value} (hw : ∀ d ∈ tables_1, d.before a0 Z = true) : (Jvm.Cond.arrayClass Jvm.ClassFile.FieldType.int).before a0 Z = true := hw _ (List.mem_of_getElem? (i := 14) rfl)
theorem wd15 {Z : State} {a0 : Array Value} (hw : ∀ d ∈ tables_1, d.before a0 Z = true) : (Jvm.Cond.fieldLink "com/example/bidcrier/bidcrier/CheapestColumns" (17 : Nat) "com/example/bidcrier/bidcrier/CheapestColumns" "heap" "[I").before a0 Z = true := hw _ (List.mem_of_getElem? (i := 15) rfl)
theorem wd16 {Z : State} {a0 : Array Value} (hw : ∀ d ∈ tables_1, d.before a0 Z = true) : (Jvm.Cond.laysFinal "com/example/bidcrier/bidcrier/CheapestColumns" "com/example/bidcrier/bidcrier/CheapestColumns" "heap" "[I").before a0 Z = true := hw _ (List.mem_of_getElem? (i := 16) rfl)
theorem wd17 {Z : State} {a0 : Array Value} (hw : ∀ d ∈ tables_1, d.before a0 Z = true) : (Jvm.Cond.fieldLink "com/example/bidcrier/bidcrier/CheapestColumns" (21 : Nat) "com/example/bidcrier/bidcrier/CheapestColumns" "places" "[I").before a0 Z = true := hw _ (List.mem_of_getElem? (i := 17) rfl)
theorem wd18 {Z : State} {a0 : Array Value} (hw : ∀ d ∈ tables_1, d.before a0 Z = true) : (Jvm.Cond.laysFinal "com/example/bidcrier/bidcrier/CheapestColumns" "com/example/bidcrier/bidcrier/CheapestColumns" "places" "[I").before a0 Z = true := hw _ (List.mem_of_getElem? (i := 18) rfl)
theorem wd19 {Z : State} {a0 : Array Value} (hw : ∀ d ∈ tables_1, d.before a0 Z = true) : (Jvm.Cond.methodLink "com/example/bidcrier/bidcrier/CheapestColumnsSecondCheapestPinLaw" (26 : Nat) ({ cls := "com/example/bidcrier/bidcrier/CheapestColumns", name := "cheapest", desc := "()I" } : Jvm.MethodName)).before a0 Z = true := hw _ (List.mem_of_getElem? (i := 19) rfl)
theorem wd20 {Z : State} {a0 : Array Value} (hw : ∀ d ∈ tables_1, d.before a0 Z = true) : (Jvm.Cond.declares ({ cls := "com/example/bidcrier/bidcrier/CheapestColumns", name := "cheapest", desc := "()I" } : Jvm.MethodName)).before a0 Z = true := hw _ (List.mem_of_getElem? (i := 20) rfl)
theorem wd21 {Z : State} {a0 : Array Value} (hw : ∀ d ∈ tables_1, d.before a0 Z = true) : (Jvm.Cond.instanceMethod ({ cls := "com/example/bidcrier/bidcrier/CheapestColumns", name := "cheapest", desc := "()I" } : Jvm.MethodName)).before a0 Z = true := hw _ (List.mem_of_getElem? (i := 21) rfl)
theorem wd22 {Z : State} {a0 : Array Value} (hw : ∀ d ∈ tables_1, d.before a0 Z = true) : (Jvm.Cond.selects "com/example/bidcrier/bidcrier/CheapestColumns" ({ cls := "com/example/bidcrier/bidcrier/CheapestColumns", name := "cheapest", desc := "()I" } : Jvm.MethodName) ({ cls := "com/example/bidcrier/bidcrier/CheapestColumns", name := "cheapest", desc := "()I" } : Jvm.MethodName)).before a0 Z = true := hw _ (List.mem_of_getElem? (i := 22) rfl)
theorem wd23 {Z : State} {a0 : Array Value} (hw : ∀ d ∈ tables_1, d.before a0 Z = true) : (Jvm.Cond.code ({ cls := "com/example/bidcrier/bidcrier/CheapestColumns", name := "cheapest", desc := "()I" } : Jvm.MethodName) prog_7_method_3_code (1 : Nat) (Option.some Jvm.ClassFile.FieldType.int)).before a0 Z = true := hw _ (List.mem_of_getElem? (i := 23) rfl)
theorem wd24 {Z : State} {a0 : Array Value} (hw : ∀ d ∈ tables_1, d.before a0 Z = true) : (Jvm.Cond.methodLink "com/example/bidcrier/bidcrier/CheapestColumnsSecondCheapestPinLaw" (30 : Nat) ({ cls := "com/example/bidcrier/bidcrier/CheapestColumns", name := "secondCheapest", desc := "()I" } : Jvm.MethodName)).before a0 Z = true := hw _ (List.mem_of_getElem? (i := 24) rfl)
theorem wd25 {Z : State} {a0 : Array Value} (hw : ∀ d ∈ tables_1, d.before a0 Z = true) : (Jvm.Cond.declares ({ cls := "com/example/bidcrier/bidcrier/CheapestColumns", name := "secondCheapest", desc := "()I" } : Jvm.MethodName)).before a0 Z = true := hw _ (List.mem_of_getElem? (i := 25) rfl)
theorem wd26 {Z : State} {a0 : Array Value} (hw : ∀ d ∈ tables_1, d.before a0 Z = true) : (Jvm.Cond.instanceMethod ({ cls := "com/example/bidcrier/bidcrier/CheapestColumns", name := "secondCheapest", desc := "()I" } : Jvm.MethodName)).before a0 Z = true := hw _ (List.mem_of_getElem? (i := 26) rfl)
theorem wd27 {Z : State} {a0 : Array Value} (hw : ∀ d ∈ tables_1, d.before a0 Z = true) : (Jvm.Cond.selects "com/example/bidcrier/bidcrier/CheapestColumns" ({ cls := "com/example/bidcrier/bidcrier/CheapestColumns", name := "secondCheapest", desc := "()I" } : Jvm.MethodName) ({ cls := "com/example/bidcrier/bidcrier/CheapestColumns", name := "secondCheapest", desc := "()I" } : Jvm.MethodName)).before a0 Z = true := hw _ (List.mem_of_getElem? (i := 27) rfl)
theorem wd28 {Z : State} {a0 : Array Value} (hw : ∀ d ∈ tables_1, d.before a0 Z = true) : (Jvm.Cond.code ({ cls := "com/example/bidcrier/bidcrier/CheapestColumns", name := "secondCheapest", desc := "()I" } : Jvm.MethodName) prog_7_method_4_code (1 : Nat) (Option.some Jvm.ClassFile.FieldType.int)).before a0 Z = true := hw _ (List.mem_of_getElem? (i := 28) rfl)
theorem wd29 {Z : State} {a0 : Array Value} (hw : ∀ d ∈ tables_1, d.before a0 Z = true) : (Jvm.Cond.methodLink "com/example/bidcrier/bidcrier/CheapestColumns" (24 : Nat) ({ cls := "com/example/bidcrier/bidcrier/CheapestColumns", name := "siftDown", desc := "(I)V" } : Jvm.MethodName)).before a0 Z = true := hw _ (List.mem_of_getElem? (i := 29) rfl)
theorem wd30 {Z : State} {a0 : Array Value} (hw : ∀ d ∈ tables_1, d.before a0 Z = true) : (Jvm.Cond.instanceMethod ({ cls := "com/example/bidcrier/bidcrier/CheapestColumns", name := "siftDown", desc := "(I)V" } : Jvm.MethodName)).before a0 Z = true := hw _ (List.mem_of_getElem? (i := 30) rfl)
theorem wd31 {Z : State} {a0 : Array Value} (hw : ∀ d ∈ tables_1, d.before a0 Z = true) : (Jvm.Cond.privateMethod ({ cls := "com/example/bidcrier/bidcrier/CheapestColumns", name := "siftDown", desc := "(I)V" } : Jvm.MethodName)).before a0 Z = true := hw _ (List.mem_of_getElem? (i := 31) rfl)
theorem wd32 {Z : State} {a0 : Array Value} (hw : ∀ d ∈ tables_1, d.before a0 Z = true) : (Jvm.Cond.code ({ cls := "com/example/bidcrier/bidcrier/CheapestColumns", name := "siftDown", desc := "(I)V" } : Jvm.MethodName) prog_7_method_6_code (7 : Nat) (Option.none : Option Jvm.ClassFile.FieldType)).before a0 Z = true := hw _ (List.mem_of_getElem? (i := 32) rfl)
theorem wd33 {Z : State} {a0 : Array Value} (hw : ∀ d ∈ tables_1, d.before a0 Z = true) : (Jvm.Cond.methodLink "com/example/bidcrier/bidcrier/CheapestColumnsSecondCheapestPinLaw" (16 : Nat) ({ cls := "java/lang/Math", name := "max", desc := "(JJ)J" } : Jvm.MethodName)).before a0 Z = true := hw _ (List.mem_of_getElem? (i := 33) rfl)
theorem wd34 {Z : State} {a0 : Array Value} (hw : ∀ d ∈ tables_1, d.before a0 Z = true) : (Jvm.Cond.static ({ cls := "java/lang/Math", name := "max", desc := "(JJ)J" } : Jvm.MethodName)).before a0 Z = true := hw _ (List.mem_of_getElem? (i := 34) rfl)
theorem wd35 {Z : State} {a0 : Array Value} (hw : ∀ d ∈ tables_1, d.before a0 Z = true) : (Jvm.Cond.initialized "java/lang/Math").before a0 Z = true := hw _ (List.mem_of_getElem? (i := 35) rfl)
theorem wd36 {Z : State} {a0 : Array Value} (hw : ∀ d ∈ tables_1, d.before a0 Z = true) : (Jvm.Cond.code ({ cls := "java/lang/Math", name := "max", desc := "(JJ)J" } : Jvm.MethodName) jdk_29_method_66_code (4 : Nat) (Option.some Jvm.ClassFile.FieldType.long)).before a0 Z = true := hw _ (List.mem_of_getElem? (i := 36) rfl)
theorem wd37 {Z : State} {a0 : Array Value} (hw : ∀ d ∈ tables_1, d.before a0 Z = true) : (Jvm.Cond.methodLink "com/example/bidcrier/bidcrier/CheapestColumnsSecondCheapestPinLaw" (22 : Nat) ({ cls := "com/example/bidcrier/bidcrier/CheapestColumns", name := "raised", desc := "(I)V" } : Jvm.MethodName)).before a0 Z = true := hw _ (List.mem_of_getElem? (i := 37) rfl)
theorem wd38 {Z : State} {a0 : Array Value} (hw : ∀ d ∈ tables_1, d.before a0 Z = true) : (Jvm.Cond.declares ({ cls := "com/example/bidcrier/bidcrier/CheapestColumns", name := "raised", desc := "(I)V" } : Jvm.MethodName)).before a0 Z = true := hw _ (List.mem_of_getElem? (i := 38) rfl)
theorem wd39 {Z : State} {a0 : Array Value} (hw : ∀ d ∈ tables_1, d.before a0 Z = true) : (Jvm.Cond.instanceMethod ({ cls := "com/example/bidcrier/bidcrier/CheapestColumns", name := "raised", desc := "(I)V" } : Jvm.MethodName)).before a0 Z = true := hw _ (List.mem_of_getElem? (i := 39) rfl)
theorem wd40 {Z : State} {a0 : Array Value} (hw : ∀ d ∈ tables_1, d.before a0 Z = true) : (Jvm.Cond.selects "com/example/bidcrier/bidcrier/CheapestColumns" ({ cls := "com/example/bidcrier/bidcrier/CheapestColumns", name := "raised", desc := "(I)V" } : Jvm.MethodName) ({ cls := "com/example/bidcrier/bidcrier/CheapestColumns", name := "raised", desc := "(I)V" } : Jvm.MethodName)).before a0 Z = true := hw _ (List.mem_of_getElem? (i := 40) rfl)
theorem wd41 {Z : State} {a0 : Array Value} (hw : ∀ d ∈ tables_1, d.before a0 Z = true) : (Jvm.Cond.code ({ cls := "com/example/bidcrier/bidcrier/CheapestColumns", name := "raised", desc := "(I)V" } : Jvm.MethodName) prog_7_method_5_code (2 : Nat) (Option.none : Option Jvm.ClassFile.FieldType)).before a0 Z = true := hw _ (List.mem_of_getElem? (i := 41) rfl)
theorem wd42 {Z : State} {a0 : Array Value} (hw : ∀ d ∈ tables_1, d.before a0 Z = true) : (Jvm.Cond.methodLink "com/example/bidcrier/bidcrier/CheapestColumnsSecondCheapestPinLaw" (33 : Nat) ({ cls := "com/example/bidcrier/bidcrier/CheapestColumnsSecondCheapestPinLaw", name := "noCheaper", desc := "([JIIIII)Z" } : Jvm.MethodName)).before a0 Z = true := hw _ (List.mem_of_getElem? (i := 42) rfl)
theorem wd43 {Z : State} {a0 : Array Value} (hw : ∀ d ∈ tables_1, d.before a0 Z = true) : (Jvm.Cond.static ({ cls := "com/example/bidcrier/bidcrier/CheapestColumnsSecondCheapestPinLaw", name := "noCheaper", desc := "([JIIIII)Z" } : Jvm.MethodName)).before a0 Z = true := hw _ (List.mem_of_getElem? (i := 43) rfl)
theorem wd44 {Z : State} {a0 : Array Value} (hw : ∀ d ∈ tables_1, d.before a0 Z = true) : (Jvm.Cond.initialized "com/example/bidcrier/bidcrier/CheapestColumnsSecondCheapestPinLaw").before a0 Z = true := hw _ (List.mem_of_getElem? (i := 44) rfl)
theorem wd45 {Z : State} {a0 : Array Value} (hw : ∀ d ∈ tables_1, d.before a0 Z = true) : (Jvm.Cond.code ({ cls := "com/example/bidcrier/bidcrier/CheapestColumnsSecondCheapestPinLaw", name := "noCheaper", desc := "([JIIIII)Z" } : Jvm.MethodName) method_3_code (7 : Nat) (Option.some Jvm.ClassFile.FieldType.boolean)).before a0 Z = true := hw _ (List.mem_of_getElem? (i := 45) rfl)
theorem wd46 {Z : State} {a0 : Array Value} (hw : ∀ d ∈ tables_1, d.before a0 Z = true) : (Jvm.Cond.constantLong "com/example/bidcrier/bidcrier/CheapestColumnsSecondCheapestPinLaw" (9 : Nat) (-9223372036854775808 : Int64)).before a0 Z = true := hw _ (List.mem_of_getElem? (i := 46) rfl)
def fl_C0 : List (String × String) := [("prices", "[J"), ("from", "I"), ("heap", "[I"), ("places", "[I")]
def dv_C0 : List Value := [Value.null, Value.int 0, Value.null, Value.null]
theorem la_C0 {Z : State} {a0 : Array Value} (hw : ∀ d ∈ tables_1, d.before a0 Z = true) : ∀ (j : Nat) (n d : String), fl_C0[j]? = some (n, d) → Laid Z a0 "com/example/bidcrier/bidcrier/CheapestColumns" "com/example/bidcrier/bidcrier/CheapestColumns" n d ∧ ∃ t, parseFieldDescriptor d = some t
  | 0, n, d, h => by have h : some ("prices", "[J") = some (n, d) := h; cases h; exact ⟨Or.inr (wd11 hw), (.array .long), by decide⟩
  | 1, n, d, h => by have h : some ("from", "I") = some (n, d) := h; cases h; exact ⟨Or.inr (wd13 hw), .int, by decide⟩
  | 2, n, d, h => by have h : some ("heap", "[I") = some (n, d) := h; cases h; exact ⟨Or.inr (wd16 hw), (.array .int), by decide⟩
  | 3, n, d, h => by have h : some ("places", "[I") = some (n, d) := h; cases h; exact ⟨Or.inr (wd18 hw), (.array .int), by decide⟩
  | j + 4, n, d, h => by have h : none = some (n, d) := h; cases h
theorem ly_C0 {Z : State} {a0 : Array Value} (hw : ∀ d ∈ tables_1, d.before a0 Z = true) : ∀ (j : Nat) (n d : String) (v : Value), fl_C0[j]? = some (n, d) → dv_C0[j]? = some v → Laid Z a0 "com/example/bidcrier/bidcrier/CheapestColumns" "com/example/bidcrier/bidcrier/CheapestColumns" n d ∧ ∃ ty, parseFieldDescriptor d = some ty ∧ defaultValue ty = v
  | 0, n, d, v, h, h' => by have h : some ("prices", "[J") = some (n, d) := h; have h' : some _ = some v := h'; cases h; cases h'; exact ⟨Or.inr (wd11 hw), (.array .long), by decide, rfl⟩
  | 1, n, d, v, h, h' => by have h : some ("from", "I") = some (n, d) := h; have h' : some _ = some v := h'; cases h; cases h'; exact ⟨Or.inr (wd13 hw), .int, by decide, rfl⟩
  | 2, n, d, v, h, h' => by have h : some ("heap", "[I") = some (n, d) := h; have h' : some _ = some v := h'; cases h; cases h'; exact ⟨Or.inr (wd16 hw), (.array .int), by decide, rfl⟩
  | 3, n, d, v, h, h' => by have h : some ("places", "[I") = some (n, d) := h; have h' : some _ = some v := h'; cases h; cases h'; exact ⟨Or.inr (wd18 hw), (.array .int), by decide, rfl⟩
  | j + 4, n, d, v, h, h' => by have h : none = some (n, d) := h; cases h
theorem di_C0 {Z : State} {a0 : Array Value} (hw : ∀ d ∈ tables_1, d.before a0 Z = true) : Dis Z "com/example/bidcrier/bidcrier/CheapestColumns" fl_C0 := own_dis (la_C0 hw) (by decide +kernel)
theorem d6_0 : decode jdk_29_method_66_code 0 = .ok (.lload_n 0, 1) := by decide +kernel
theorem d6_1 : decode jdk_29_method_66_code 1 = .ok (.lload_n 2, 1) := by decide +kernel
theorem d6_2 : decode jdk_29_method_66_code 2 = .ok (.lcmp, 1) := by decide +kernel
theorem d6_3 : decode jdk_29_method_66_code 3 = .ok (.ifCond .lt 7, 3) := by decide +kernel
theorem d6_6 : decode jdk_29_method_66_code 6 = .ok (.lload_n 0, 1) := by decide +kernel
theorem d6_7 : decode jdk_29_method_66_code 7 = .ok (.goto 4, 3) := by decide +kernel
theorem d6_10 : decode jdk_29_method_66_code 10 = .ok (.lload_n 2, 1) := by decide +kernel
theorem d6_11 : decode jdk_29_method_66_code 11 = .ok (.lreturn, 1) := by decide +kernel
theorem pn6 : plainFor (⟨"java/lang/Math", "max", "(JJ)J"⟩ : MethodName) = true := Jvm.Free.JP.mathPlain rfl (by decide +kernel)
theorem pd6 : parseMethodDescriptor (⟨"java/lang/Math", "max", "(JJ)J"⟩ : MethodName).desc = some ⟨[.long, .long], some .long⟩ := by decide +kernel
theorem ef6 (m : MethodId) (x0 : Int64) (x1 : Int64) : entryFrame m #[Value.long x0, Value.long x1] 4 = mkF m 0 #[.val (.long x0), .second, .val (.long x1), .second] [] := by first | (simp [entryFrame, mkF, argsToLocals, Value.category]; done) | rfl
def sp6 (x0 : Int64) (x1 : Int64) : Int64 := (if x0 < x1 then x1 else x0)
set_option maxRecDepth 65536 in
set_option maxHeartbeats 40000000 in
theorem rm6 (l : Launch) (Z : State) (a0 : Array Value) (hw : ∀ d ∈ tables_1, d.before a0 Z = true) (ws : List Jvm.Cond) (x0 : Int64) (x1 : Int64) (hh : Heap) :
    MetFree l (⟨"java/lang/Math", "max", "(JJ)J"⟩ : MethodName) (head1 (Jvm.Cond.code (⟨"java/lang/Math", "max", "(JJ)J"⟩ : MethodName) jdk_29_method_66_code 4 (some .long) :: ws) ({ frames := 0, cells := 0, slots := 0, locals := 0 } : Room)) (fun aa U => aa = #[Value.long x0, Value.long x1] ∧ Z.Warmed39 U.vm ∧ U.heap = hh) (fun _ _ _ _ _ => True) (fun _ U o U' => ∃ v L, o = .returned v ∧ PureQ (Value.long (sp6 x0 x1)) hh v U'.heap L ∧ FrameEnd U o U' L ({ frames := 0, cells := 0, slots := 0, locals := 0 } : Room).cells ({ frames := 0, cells := 0, slots := 0, locals := 0 } : Room).slots) := by
  refine own_body pn6 ?_
  intro p e s m below meth c T0 hx hby hml hret hlk hown hnm hZ X0 e0
  refine own_cast (ef6 m x0 x1) ?_
  refine w_lloadN X0 hx (hb hby d6_0) rfl (pc' := 1) rfl ?_
  refine w_lloadN X0 hx (hb hby d6_1) rfl (pc' := 2) rfl ?_
  refine w_lcmp_lt X0 hx (hb hby d6_2) rfl (hb hby d6_3) (by decide) (pcY := 10) (by decide) (pc' := 6) rfl (fun h0 => ?_) (fun h0 => ?_)
  · refine w_lloadN X0 hx (hb hby d6_10) rfl (pc' := 11) rfl ?_
    exact w_ret_l X0 hx hret hlk (hb hby d6_11) (by decide) (by decide) ⟨(congrArg (fun q => some (Value.long q)) (show x1 = sp6 x0 x1 from by rw [sp6, if_pos h0])), rfl, e0⟩
  · refine w_lloadN X0 hx (hb hby d6_6) rfl (pc' := 7) rfl ?_
    refine w_goto X0 hx (hb hby d6_7) (by decide) (pc' := 11) (by decide) ?_
    exact w_ret_l X0 hx hret hlk (hb hby d6_11) (by decide) (by decide) ⟨(congrArg (fun q => some (Value.long q)) (show x0 = sp6 x0 x1 from by rw [sp6, if_neg h0])), rfl, e0⟩
theorem own_mrJ {n0 : Nat} {h : Heap} {cs : List Cell} {k : ClassId} {N : Nat} (P : HP n0 h (cs ++ [AC k (List.replicate N (Value.long 0))])) : HP n0 h (cs ++ [AC k (List.map Value.long (List.replicate N 0))]) := by rw [List.map_replicate]; exact P
theorem own_gp {α : Type} {l : List α} {i N : Nat} {x d : α} (hl : l.length = N) (h : i < N) : (l.set i x).getD i d = x := by
  have h2 : i < l.length := by omega
  simp [List.getD_eq_getElem?_getD, h2]
theorem own_gn {α : Type} {l : List α} {i j : Nat} {x d : α} (h : i ≠ j) : (l.set i x).getD j d = l.getD j d := by
  simp [List.getD_eq_getElem?_getD, List.getElem?_set, h]
def own_ne (a b : Nat) : Prop := a ≠ b
theorem own_nes {a b : Nat} (h : own_ne a b) : own_ne b a := fun q => h q.symm
theorem own_neI {a b : Nat} (h : a ≠ b) : own_ne a b := h
theorem own_neq {a b c : Nat} (e : c = a) (h : own_ne b a) : own_ne b c := fun q => h (q.trans e)
theorem own_sne {f a b : Nat} (ha : f ≤ a) (hb : f ≤ b) (h : own_ne a b) : a - f ≠ b - f := fun q => h (by omega)
def own_p (P : List Int64) (c : Nat) : Int := (P.getD c 0).toInt
theorem own_plt {P : List Int64} {a b : Nat} (h : P.getD a 0 < P.getD b 0) : own_p P a < own_p P b := Int64.lt_iff_toInt_lt.mp h
theorem own_pnl {P : List Int64} {a b : Nat} (h : ¬ P.getD a 0 < P.getD b 0) : own_p P b ≤ own_p P a := by
  have q : ¬ own_p P a < own_p P b := fun z => h (Int64.lt_iff_toInt_lt.mpr z)
  omega
theorem own_nlt {P : List Int64} {a b : Nat} (h : own_p P b ≤ own_p P a) : ¬ P.getD a 0 < P.getD b 0 := fun z => by
  have q := own_plt z
  omega
theorem own_subf (f n : Nat) : Int32.ofNat ((f + n) - f) = Int32.ofNat n := by rw [Nat.add_sub_cancel_left]
theorem own_R1 {P : List Int64} {c d : Nat} {v : Int64} (h : own_ne d c) : own_p (P.set c v) d = own_p P d := by
  unfold own_p
  rw [own_gn (own_nes h)]
theorem own_R2 {P : List Int64} {c N : Nat} {r : Int64} (hl : P.length = N) (h : c < N) : own_p P c ≤ own_p (P.set c (sp6 (P.getD c 0) r)) c := by
  unfold own_p
  rw [own_gp hl h]
  generalize P.getD c 0 = u
  unfold sp6
  by_cases q : u < r
  · rw [if_pos q]; exact Int.le_of_lt (Int64.lt_iff_toInt_lt.mp q)
  · rw [if_neg q]; exact Int.le_refl _
def own_I1 (f a0 : Nat) (Q : List Int32) : Prop := Q.length = 1 ∧ f ≤ a0 ∧ a0 < f + 1 ∧ (∀ c, f ≤ c → c < f + 1 → c = a0) ∧ Q.getD (a0 - f) 0 = (0 : Int32)
def own_O1 (P : List Int64) (a0 : Nat) : Prop := P = P ∧ a0 = a0
def own_I2 (f a0 a1 : Nat) (Q : List Int32) : Prop := Q.length = 2 ∧ f ≤ a0 ∧ f ≤ a1 ∧ a0 < f + 2 ∧ a1 < f + 2 ∧ own_ne a0 a1 ∧ (∀ c, f ≤ c → c < f + 2 → c = a0 ∨ c = a1) ∧ Q.getD (a0 - f) 0 = (0 : Int32) ∧ Q.getD (a1 - f) 0 = (1 : Int32)
def own_O2 (P : List Int64) (a0 a1 : Nat) : Prop := own_p P a0 ≤ own_p P a1
def own_I3 (f a0 a1 a2 : Nat) (Q : List Int32) : Prop := Q.length = 3 ∧ f ≤ a0 ∧ f ≤ a1 ∧ f ≤ a2 ∧ a0 < f + 3 ∧ a1 < f + 3 ∧ a2 < f + 3 ∧ own_ne a0 a1 ∧ own_ne a0 a2 ∧ own_ne a1 a2 ∧ (∀ c, f ≤ c → c < f + 3 → c = a0 ∨ c = a1 ∨ c = a2) ∧ Q.getD (a0 - f) 0 = (0 : Int32) ∧ Q.getD (a1 - f) 0 = (1 : Int32) ∧ Q.getD (a2 - f) 0 = (2 : Int32)
def own_O3 (P : List Int64) (a0 a1 a2 : Nat) : Prop := own_p P a0 ≤ own_p P a1 ∧ own_p P a0 ≤ own_p P a2
def own_I4 (f a0 a1 a2 a3 : Nat) (Q : List Int32) : Prop := Q.length = 4 ∧ f ≤ a0 ∧ f ≤ a1 ∧ f ≤ a2 ∧ f ≤ a3 ∧ a0 < f + 4 ∧ a1 < f + 4 ∧ a2 < f + 4 ∧ a3 < f + 4 ∧ own_ne a0 a1 ∧ own_ne a0 a2 ∧ own_ne a0 a3 ∧ own_ne a1 a2 ∧ own_ne a1 a3 ∧ own_ne a2 a3 ∧ (∀ c, f ≤ c → c < f + 4 → c = a0 ∨ c = a1 ∨ c = a2 ∨ c = a3) ∧ Q.getD (a0 - f) 0 = (0 : Int32) ∧ Q.getD (a1 - f) 0 = (1 : Int32) ∧ Q.getD (a2 - f) 0 = (2 : Int32) ∧ Q.getD (a3 - f) 0 = (3 : Int32)
def own_O4 (P : List Int64) (a0 a1 a2 a3 : Nat) : Prop := own_p P a0 ≤ own_p P a1 ∧ own_p P a0 ≤ own_p P a2 ∧ own_p P a1 ≤ own_p P a3
theorem d5_0 : decode prog_7_method_6_code 0 = .ok (.aload_n 0, 1) := by decide +kernel
theorem d5_1 : decode prog_7_method_6_code 1 = .ok (.getfield 17, 3) := by decide +kernel
theorem d5_4 : decode prog_7_method_6_code 4 = .ok (.iload_n 1, 1) := by decide +kernel
theorem d5_5 : decode prog_7_method_6_code 5 = .ok (.iaload, 1) := by decide +kernel
theorem d5_6 : decode prog_7_method_6_code 6 = .ok (.istore_n 2, 1) := by decide +kernel
theorem d5_7 : decode prog_7_method_6_code 7 = .ok (.aload_n 0, 1) := by decide +kernel
theorem d5_8 : decode prog_7_method_6_code 8 = .ok (.getfield 7, 3) := by decide +kernel
theorem d5_11 : decode prog_7_method_6_code 11 = .ok (.iload_n 2, 1) := by decide +kernel
theorem d5_12 : decode prog_7_method_6_code 12 = .ok (.laload, 1) := by decide +kernel
theorem d5_13 : decode prog_7_method_6_code 13 = .ok (.lstore_n 3, 1) := by decide +kernel
theorem d5_14 : decode prog_7_method_6_code 14 = .ok (.iload_n 1, 1) := by decide +kernel
theorem d5_15 : decode prog_7_method_6_code 15 = .ok (.istore 5, 2) := by decide +kernel
theorem d5_17 : decode prog_7_method_6_code 17 = .ok (.iconst 2, 1) := by decide +kernel
theorem d5_18 : decode prog_7_method_6_code 18 = .ok (.iload 5, 2) := by decide +kernel
theorem d5_20 : decode prog_7_method_6_code 20 = .ok (.imul, 1) := by decide +kernel
theorem d5_21 : decode prog_7_method_6_code 21 = .ok (.iconst 1, 1) := by decide +kernel
theorem d5_22 : decode prog_7_method_6_code 22 = .ok (.iadd, 1) := by decide +kernel
theorem d5_23 : decode prog_7_method_6_code 23 = .ok (.aload_n 0, 1) := by decide +kernel
theorem d5_24 : decode prog_7_method_6_code 24 = .ok (.getfield 17, 3) := by decide +kernel
theorem d5_27 : decode prog_7_method_6_code 27 = .ok (.arraylength, 1) := by decide +kernel
theorem d5_28 : decode prog_7_method_6_code 28 = .ok (.if_icmp .ge 116, 3) := by decide +kernel
theorem d5_31 : decode prog_7_method_6_code 31 = .ok (.iconst 2, 1) := by decide +kernel
theorem d5_32 : decode prog_7_method_6_code 32 = .ok (.iload 5, 2) := by decide +kernel
theorem d5_34 : decode prog_7_method_6_code 34 = .ok (.imul, 1) := by decide +kernel
theorem d5_35 : decode prog_7_method_6_code 35 = .ok (.iconst 1, 1) := by decide +kernel
theorem d5_36 : decode prog_7_method_6_code 36 = .ok (.iadd, 1) := by decide +kernel
theorem d5_37 : decode prog_7_method_6_code 37 = .ok (.istore 6, 2) := by decide +kernel
theorem d5_39 : decode prog_7_method_6_code 39 = .ok (.iload 6, 2) := by decide +kernel
theorem d5_41 : decode prog_7_method_6_code 41 = .ok (.iconst 1, 1) := by decide +kernel
theorem d5_42 : decode prog_7_method_6_code 42 = .ok (.iadd, 1) := by decide +kernel
theorem d5_43 : decode prog_7_method_6_code 43 = .ok (.aload_n 0, 1) := by decide +kernel
theorem d5_44 : decode prog_7_method_6_code 44 = .ok (.getfield 17, 3) := by decide +kernel
theorem d5_47 : decode prog_7_method_6_code 47 = .ok (.arraylength, 1) := by decide +kernel
theorem d5_48 : decode prog_7_method_6_code 48 = .ok (.if_icmp .ge 36, 3) := by decide +kernel
theorem d5_51 : decode prog_7_method_6_code 51 = .ok (.aload_n 0, 1) := by decide +kernel
theorem d5_52 : decode prog_7_method_6_code 52 = .ok (.getfield 7, 3) := by decide +kernel
theorem d5_55 : decode prog_7_method_6_code 55 = .ok (.aload_n 0, 1) := by decide +kernel
theorem d5_56 : decode prog_7_method_6_code 56 = .ok (.getfield 17, 3) := by decide +kernel
theorem d5_59 : decode prog_7_method_6_code 59 = .ok (.iload 6, 2) := by decide +kernel
theorem d5_61 : decode prog_7_method_6_code 61 = .ok (.iconst 1, 1) := by decide +kernel
theorem d5_62 : decode prog_7_method_6_code 62 = .ok (.iadd, 1) := by decide +kernel
theorem d5_63 : decode prog_7_method_6_code 63 = .ok (.iaload, 1) := by decide +kernel
theorem d5_64 : decode prog_7_method_6_code 64 = .ok (.laload, 1) := by decide +kernel
theorem d5_65 : decode prog_7_method_6_code 65 = .ok (.aload_n 0, 1) := by decide +kernel
theorem d5_66 : decode prog_7_method_6_code 66 = .ok (.getfield 7, 3) := by decide +kernel
theorem d5_69 : decode prog_7_method_6_code 69 = .ok (.aload_n 0, 1) := by decide +kernel
theorem d5_70 : decode prog_7_method_6_code 70 = .ok (.getfield 17, 3) := by decide +kernel
theorem d5_73 : decode prog_7_method_6_code 73 = .ok (.iload 6, 2) := by decide +kernel
theorem d5_75 : decode prog_7_method_6_code 75 = .ok (.iaload, 1) := by decide +kernel
theorem d5_76 : decode prog_7_method_6_code 76 = .ok (.laload, 1) := by decide +kernel
theorem d5_77 : decode prog_7_method_6_code 77 = .ok (.lcmp, 1) := by decide +kernel
theorem d5_78 : decode prog_7_method_6_code 78 = .ok (.ifCond .ge 6, 3) := by decide +kernel
theorem d5_81 : decode prog_7_method_6_code 81 = .ok (.iinc 6 1, 3) := by decide +kernel
theorem d5_84 : decode prog_7_method_6_code 84 = .ok (.aload_n 0, 1) := by decide +kernel
theorem d5_85 : decode prog_7_method_6_code 85 = .ok (.getfield 7, 3) := by decide +kernel
theorem d5_88 : decode prog_7_method_6_code 88 = .ok (.aload_n 0, 1) := by decide +kernel
theorem d5_89 : decode prog_7_method_6_code 89 = .ok (.getfield 17, 3) := by decide +kernel
theorem d5_92 : decode prog_7_method_6_code 92 = .ok (.iload 6, 2) := by decide +kernel
theorem d5_94 : decode prog_7_method_6_code 94 = .ok (.iaload, 1) := by decide +kernel
theorem d5_95 : decode prog_7_method_6_code 95 = .ok (.laload, 1) := by decide +kernel
theorem d5_96 : decode prog_7_method_6_code 96 = .ok (.lload_n 3, 1) := by decide +kernel
theorem d5_97 : decode prog_7_method_6_code 97 = .ok (.lcmp, 1) := by decide +kernel
theorem d5_98 : decode prog_7_method_6_code 98 = .ok (.ifCond .lt 6, 3) := by decide +kernel
theorem d5_101 : decode prog_7_method_6_code 101 = .ok (.goto 43, 3) := by decide +kernel
theorem d5_104 : decode prog_7_method_6_code 104 = .ok (.aload_n 0, 1) := by decide +kernel
theorem d5_105 : decode prog_7_method_6_code 105 = .ok (.getfield 17, 3) := by decide +kernel
theorem d5_108 : decode prog_7_method_6_code 108 = .ok (.iload 5, 2) := by decide +kernel
theorem d5_110 : decode prog_7_method_6_code 110 = .ok (.aload_n 0, 1) := by decide +kernel
theorem d5_111 : decode prog_7_method_6_code 111 = .ok (.getfield 17, 3) := by decide +kernel
theorem d5_114 : decode prog_7_method_6_code 114 = .ok (.iload 6, 2) := by decide +kernel
theorem d5_116 : decode prog_7_method_6_code 116 = .ok (.iaload, 1) := by decide +kernel
theorem d5_117 : decode prog_7_method_6_code 117 = .ok (.iastore, 1) := by decide +kernel
theorem d5_118 : decode prog_7_method_6_code 118 = .ok (.aload_n 0, 1) := by decide +kernel
theorem d5_119 : decode prog_7_method_6_code 119 = .ok (.getfield 21, 3) := by decide +kernel
theorem d5_122 : decode prog_7_method_6_code 122 = .ok (.aload_n 0, 1) := by decide +kernel
theorem d5_123 : decode prog_7_method_6_code 123 = .ok (.getfield 17, 3) := by decide +kernel
theorem d5_126 : decode prog_7_method_6_code 126 = .ok (.iload 5, 2) := by decide +kernel
theorem d5_128 : decode prog_7_method_6_code 128 = .ok (.iaload, 1) := by decide +kernel
theorem d5_129 : decode prog_7_method_6_code 129 = .ok (.aload_n 0, 1) := by decide +kernel
theorem d5_130 : decode prog_7_method_6_code 130 = .ok (.getfield 13, 3) := by decide +kernel
theorem d5_133 : decode prog_7_method_6_code 133 = .ok (.isub, 1) := by decide +kernel
theorem d5_134 : decode prog_7_method_6_code 134 = .ok (.iload 5, 2) := by decide +kernel
theorem d5_136 : decode prog_7_method_6_code 136 = .ok (.iastore, 1) := by decide +kernel
theorem d5_137 : decode prog_7_method_6_code 137 = .ok (.iload 6, 2) := by decide +kernel
theorem d5_139 : decode prog_7_method_6_code 139 = .ok (.istore 5, 2) := by decide +kernel
theorem d5_141 : decode prog_7_method_6_code 141 = .ok (.goto (-124), 3) := by decide +kernel
theorem d5_144 : decode prog_7_method_6_code 144 = .ok (.aload_n 0, 1) := by decide +kernel
theorem d5_145 : decode prog_7_method_6_code 145 = .ok (.getfield 17, 3) := by decide +kernel
theorem d5_148 : decode prog_7_method_6_code 148 = .ok (.iload 5, 2) := by decide +kernel
theorem d5_150 : decode prog_7_method_6_code 150 = .ok (.iload_n 2, 1) := by decide +kernel
theorem d5_151 : decode prog_7_method_6_code 151 = .ok (.iastore, 1) := by decide +kernel
theorem d5_152 : decode prog_7_method_6_code 152 = .ok (.aload_n 0, 1) := by decide +kernel
theorem d5_153 : decode prog_7_method_6_code 153 = .ok (.getfield 21, 3) := by decide +kernel
theorem d5_156 : decode prog_7_method_6_code 156 = .ok (.iload_n 2, 1) := by decide +kernel
theorem d5_157 : decode prog_7_method_6_code 157 = .ok (.aload_n 0, 1) := by decide +kernel
theorem d5_158 : decode prog_7_method_6_code 158 = .ok (.getfield 13, 3) := by decide +kernel
theorem d5_161 : decode prog_7_method_6_code 161 = .ok (.isub, 1) := by decide +kernel
theorem d5_162 : decode prog_7_method_6_code 162 = .ok (.iload 5, 2) := by decide +kernel
theorem d5_164 : decode prog_7_method_6_code 164 = .ok (.iastore, 1) := by decide +kernel
theorem d5_165 : decode prog_7_method_6_code 165 = .ok (.return_, 1) := by decide +kernel
theorem pn5 : plainFor (⟨"com/example/bidcrier/bidcrier/CheapestColumns", "siftDown", "(I)V"⟩ : MethodName) = true := plainFor_of_name (by first | (simp [plainName, overriddenIn]; done) | decide +kernel)
theorem pd5 : parseMethodDescriptor (⟨"com/example/bidcrier/bidcrier/CheapestColumns", "siftDown", "(I)V"⟩ : MethodName).desc = some ⟨[.int], none⟩ := by decide +kernel
theorem ef_sd10 (m : MethodId) (n0 : Nat) (pf : Nat) (pa0 : Nat) : entryFrame m #[.ref (n0 + 1), .int (0 : Int32)] 7 = mkF m 0 #[.val (.ref (n0 + 1)), .val (.int (0 : Int32)), .unset, .unset, .unset, .unset, .unset] [] := by first | (simp [entryFrame, mkF, argsToLocals, Value.category]; done) | rfl
def Q_sd10 (Z : State) (n0 : Nat) (k0 : ClassId) (o1 : Jvm.Cell) (k2 : ClassId) (k3 : ClassId) (pP : List Int64) (pf : Nat) (pa0 : Nat) (pQ : List Int32) (v : Option Value) (h : Heap) (L : List Loc) : Prop := v = none ∧ Fr n0 L ∧ ∃ (b0 : Nat) (Q1 : List Int32), own_I1 pf b0 Q1 ∧ own_O1 pP b0 ∧ HP n0 h [AC k0 (List.map Value.long pP), o1, AC k2 [Value.int (Int32.ofNat b0)], AC k3 (List.map Value.int Q1)]
set_option maxRecDepth 65536 in
set_option maxHeartbeats 40000000 in
theorem rm_sd10 (l : Launch) (Z : State) (a0 : Array Value) (hw : ∀ d ∈ tables_1, d.before a0 Z = true) (ws : List Jvm.Cond) (n0 : Nat) (k0 : ClassId) (o1 : Jvm.Cell) (k2 : ClassId) (k3 : ClassId) (pP : List Int64) (pf : Nat) (pa0 : Nat) (pQ : List Int32) (h0 : Heap) (P0 : HP n0 h0 [AC k0 (List.map Value.long pP), o1, AC k2 [.int (Int32.ofNat pa0)], AC k3 (List.map Value.int pQ)]) (hk0 : IsA Z k0 .long) (hk2 : IsA Z k2 .int) (hk3 : IsA Z k3 .int) (Fo1 : ObjF Z o1 "com/example/bidcrier/bidcrier/CheapestColumns" fl_C0 [.ref (n0 + 0), .int (Int32.ofNat pf), .ref (n0 + 2), .ref (n0 + 3)]) (hpP : pP.length = pf + 1) (hpf : pf < 2) (hI : own_I1 pf pa0 pQ) :
    MetFree l (⟨"com/example/bidcrier/bidcrier/CheapestColumns", "siftDown", "(I)V"⟩ : MethodName) (head1 (Jvm.Cond.code (⟨"com/example/bidcrier/bidcrier/CheapestColumns", "siftDown", "(I)V"⟩ : MethodName) prog_7_method_6_code 7 none :: ws) ({ frames := 0, cells := 0, slots := 0, locals := 0 } : Room)) (fun aa U => aa = #[.ref (n0 + 1), .int (0 : Int32)] ∧ Z.Warmed39 U.vm ∧ U.heap = h0) (fun _ _ _ _ _ => True) (fun _ U o U' => ∃ v L, o = .returned v ∧ Q_sd10 Z n0 k0 o1 k2 k3 pP pf pa0 pQ v U'.heap L ∧ FrameEnd U o U' L ({ frames := 0, cells := 0, slots := 0, locals := 0 } : Room).cells ({ frames := 0, cells := 0, slots := 0, locals := 0 } : Room).slots) := by
  refine own_body pn5 ?_
  intro p e s m below meth c T0 hx hby hml hret hlk hown hnm hZ X0 e0
  subst e0
  have N0 : Fr n0 [] := Fr.nil n0
  obtain ⟨ilen, il0, iu0, icov, iq0⟩ := hI
  refine own_cast (ef_sd10 m n0 pf pa0) ?_
  refine w_aloadN X0 hx (hb hby d5_0) rfl rfl (pc' := 1) rfl ?_
  refine w_getf (i := 1) (v := .ref (n0 + 2)) X0 hx hZ hown (wd15 hw) P0 rfl Fo1 2 rfl rfl (hb hby d5_1) (pc' := 4) rfl ?_
  intro T1 X1 P1
  refine w_iloadN X1 hx (hb hby d5_4) rfl (pc' := 5) rfl ?_
  refine w_iaload (i := 2) (jn := 0) (v := .int (Int32.ofNat pa0)) X1 hx hZ P1 rfl hk2 (hb hby d5_5) (by decide) rfl (pc' := 6) rfl ?_
  refine w_istoreN (l' := #[.val (.ref (n0 + 1)), .val (.int (0 : Int32)), .val (.int (Int32.ofNat pa0)), .unset, .unset, .unset, .unset]) X1 hx (hb hby d5_6) rfl (pc' := 7) rfl ?_
  refine w_aloadN X1 hx (hb hby d5_7) rfl rfl (pc' := 8) rfl ?_
  refine w_getf (i := 1) (v := .ref (n0 + 0)) X1 hx hZ hown (wd10 hw) P1 rfl Fo1 0 rfl rfl (hb hby d5_8) (pc' := 11) rfl ?_
  intro T2 X2 P2
  refine w_iloadN X2 hx (hb hby d5_11) rfl (pc' := 12) rfl ?_
  refine w_laloadL (i := 0) (jn := pa0) X2 hx hZ P2 rfl hk0 (hb hby d5_12) (own_oN (by omega)) (own_llt hpP (by omega)) (pc' := 13) rfl ?_
  refine w_lstoreN (l' := #[.val (.ref (n0 + 1)), .val (.int (0 : Int32)), .val (.int (Int32.ofNat pa0)), .val (.long (pP.getD pa0 0)), .second, .unset, .unset]) X2 hx (hb hby d5_13) rfl (pc' := 14) rfl ?_
  refine w_iloadN X2 hx (hb hby d5_14) rfl (pc' := 15) rfl ?_
  refine w_istore (l' := #[.val (.ref (n0 + 1)), .val (.int (0 : Int32)), .val (.int (Int32.ofNat pa0)), .val (.long (pP.getD pa0 0)), .second, .val (.int (0 : Int32)), .unset]) X2 hx (hb hby d5_15) rfl (pc' := 17) rfl ?_
  refine w_iconst (v := (2 : Int32)) X2 hx (hb hby d5_17) rfl (pc' := 18) rfl ?_
  refine w_iload X2 hx (hb hby d5_18) rfl (pc' := 20) rfl ?_
  refine w_imul X2 hx (hb hby d5_20) (pc' := 21) rfl ?_
  refine w_eqI (z := (0 : Int32)) (by decide) ?_
  refine w_iconst (v := (1 : Int32)) X2 hx (hb hby d5_21) rfl (pc' := 22) rfl ?_
  refine w_iadd X2 hx (hb hby d5_22) (pc' := 23) rfl ?_
  refine w_eqI (z := (1 : Int32)) (by decide) ?_
  refine w_aloadN X2 hx (hb hby d5_23) rfl rfl (pc' := 24) rfl ?_
  refine w_getf (i := 1) (v := .ref (n0 + 2)) X2 hx hZ hown (wd15 hw) P2 rfl Fo1 2 rfl rfl (hb hby d5_24) (pc' := 27) rfl ?_
  intro T3 X3 P3
  refine w_arrlen (i := 2) X3 hx hZ P3 rfl hk2 (hb hby d5_27) (z := (1 : Int32)) rfl (pc' := 28) rfl ?_
  refine w_icmp_ge X3 hx (hb hby d5_28) (by decide) (pcY := 144) (by decide) (pc' := 31) rfl (fun h0 => ?_) (fun h0 => absurd h0 (by decide))
  refine w_aloadN X3 hx (hb hby d5_144) rfl rfl (pc' := 145) rfl ?_
  refine w_getf (i := 1) (v := .ref (n0 + 2)) X3 hx hZ hown (wd15 hw) P3 rfl Fo1 2 rfl rfl (hb hby d5_145) (pc' := 148) rfl ?_
  intro T4 X4 P4
  refine w_iload X4 hx (hb hby d5_148) rfl (pc' := 150) rfl ?_
  refine w_iloadN X4 hx (hb hby d5_150) rfl (pc' := 151) rfl ?_
  refine w_iastore (i := 2) (jn := 0) X4 hx hZ N0 P4 rfl hk2 (hb hby d5_151) (by decide) (Nat.le_of_ble_eq_true rfl) (pc' := 152) rfl ?_
  intro T5 L1 N1 X5 P5
  replace P5 : HP n0 T5.heap [AC k0 (List.map Value.long pP), o1, AC k2 [.int (Int32.ofNat pa0)], AC k3 (List.map Value.int pQ)] := P5
  refine w_aloadN X5 hx (hb hby d5_152) rfl rfl (pc' := 153) rfl ?_
  refine w_getf (i := 1) (v := .ref (n0 + 3)) X5 hx hZ hown (wd17 hw) P5 rfl Fo1 3 rfl rfl (hb hby d5_153) (pc' := 156) rfl ?_
  intro T6 X6 P6
  refine w_iloadN X6 hx (hb hby d5_156) rfl (pc' := 157) rfl ?_
  refine w_aloadN X6 hx (hb hby d5_157) rfl rfl (pc' := 158) rfl ?_
  refine w_getf (i := 1) (v := .int (Int32.ofNat pf)) X6 hx hZ hown (wd12 hw) P6 rfl Fo1 1 rfl rfl (hb hby d5_158) (pc' := 161) rfl ?_
  intro T7 X7 P7
  refine w_isub X7 hx (hb hby d5_161) (pc' := 162) rfl ?_
  refine w_eqI (z := (Int32.ofNat (pa0 - pf))) (own_osub (a := pa0) (b := pf) (by omega)) ?_
  refine w_iload X7 hx (hb hby d5_162) rfl (pc' := 164) rfl ?_
  refine w_iastoreL (i := 3) (jn := (pa0 - pf)) X7 hx hZ N1 P7 rfl hk3 (hb hby d5_164) (own_oN (by omega)) (own_llt ilen (by omega)) (pc' := 165) rfl ?_
  intro T8 L2 N2 X8 P8
  replace P8 : HP n0 T8.heap [AC k0 (List.map Value.long pP), o1, AC k2 [.int (Int32.ofNat pa0)], AC k3 (List.map Value.int (pQ.set (pa0 - pf) (0 : Int32)))] := P8
  exact w_ret_v X8 hx hret hlk (hb hby d5_165) (by decide) (by decide) ⟨rfl, N2, pa0, (pQ.set (pa0 - pf) (0 : Int32)), ⟨(own_sl ilen), il0, iu0, (fun c h1 h2 => by have q := icov c h1 h2; omega), (by rw [own_gp (i := pa0 - pf) ilen (by omega)])⟩, ⟨rfl, rfl⟩, P8⟩
theorem ef_sd20 (m : MethodId) (n0 : Nat) (pf : Nat) (pa0 : Nat) (pa1 : Nat) : entryFrame m #[.ref (n0 + 1), .int (0 : Int32)] 7 = mkF m 0 #[.val (.ref (n0 + 1)), .val (.int (0 : Int32)), .unset, .unset, .unset, .unset, .unset] [] := by first | (simp [entryFrame, mkF, argsToLocals, Value.category]; done) | rfl
def Q_sd20 (Z : State) (n0 : Nat) (k0 : ClassId) (o1 : Jvm.Cell) (k2 : ClassId) (k3 : ClassId) (pP : List Int64) (pf : Nat) (pa0 : Nat) (pa1 : Nat) (pQ : List Int32) (v : Option Value) (h : Heap) (L : List Loc) : Prop := v = none ∧ Fr n0 L ∧ ∃ (b0 b1 : Nat) (Q1 : List Int32), own_I2 pf b0 b1 Q1 ∧ own_O2 pP b0 b1 ∧ HP n0 h [AC k0 (List.map Value.long pP), o1, AC k2 [Value.int (Int32.ofNat b0), Value.int (Int32.ofNat b1)], AC k3 (List.map Value.int Q1)]
set_option maxRecDepth 65536 in
set_option maxHeartbeats 40000000 in
theorem rm_sd20 (l : Launch) (Z : State) (a0 : Array Value) (hw : ∀ d ∈ tables_1, d.before a0 Z = true) (ws : List Jvm.Cond) (n0 : Nat) (k0 : ClassId) (o1 : Jvm.Cell) (k2 : ClassId) (k3 : ClassId) (pP : List Int64) (pf : Nat) (pa0 : Nat) (pa1 : Nat) (pQ : List Int32) (h0 : Heap) (P0 : HP n0 h0 [AC k0 (List.map Value.long pP), o1, AC k2 [.int (Int32.ofNat pa0), .int (Int32.ofNat pa1)], AC k3 (List.map Value.int pQ)]) (hk0 : IsA Z k0 .long) (hk2 : IsA Z k2 .int) (hk3 : IsA Z k3 .int) (Fo1 : ObjF Z o1 "com/example/bidcrier/bidcrier/CheapestColumns" fl_C0 [.ref (n0 + 0), .int (Int32.ofNat pf), .ref (n0 + 2), .ref (n0 + 3)]) (hpP : pP.length = pf + 2) (hpf : pf < 2) (hI : own_I2 pf pa0 pa1 pQ) :
    MetFree l (⟨"com/example/bidcrier/bidcrier/CheapestColumns", "siftDown", "(I)V"⟩ : MethodName) (head1 (Jvm.Cond.code (⟨"com/example/bidcrier/bidcrier/CheapestColumns", "siftDown", "(I)V"⟩ : MethodName) prog_7_method_6_code 7 none :: ws) ({ frames := 0, cells := 0, slots := 0, locals := 0 } : Room)) (fun aa U => aa = #[.ref (n0 + 1), .int (0 : Int32)] ∧ Z.Warmed39 U.vm ∧ U.heap = h0) (fun _ _ _ _ _ => True) (fun _ U o U' => ∃ v L, o = .returned v ∧ Q_sd20 Z n0 k0 o1 k2 k3 pP pf pa0 pa1 pQ v U'.heap L ∧ FrameEnd U o U' L ({ frames := 0, cells := 0, slots := 0, locals := 0 } : Room).cells ({ frames := 0, cells := 0, slots := 0, locals := 0 } : Room).slots) := by
  refine own_body pn5 ?_
  intro p e s m below meth c T0 hx hby hml hret hlk hown hnm hZ X0 e0
  subst e0
  have N0 : Fr n0 [] := Fr.nil n0
  obtain ⟨ilen, il0, il1, iu0, iu1, in01, icov, iq0, iq1⟩ := hI
  refine own_cast (ef_sd20 m n0 pf pa0 pa1) ?_
  refine w_aloadN X0 hx (hb hby d5_0) rfl rfl (pc' := 1) rfl ?_
  refine w_getf (i := 1) (v := .ref (n0 + 2)) X0 hx hZ hown (wd15 hw) P0 rfl Fo1 2 rfl rfl (hb hby d5_1) (pc' := 4) rfl ?_
  intro T1 X1 P1
  refine w_iloadN X1 hx (hb hby d5_4) rfl (pc' := 5) rfl ?_
  refine w_iaload (i := 2) (jn := 0) (v := .int (Int32.ofNat pa0)) X1 hx hZ P1 rfl hk2 (hb hby d5_5) (by decide) rfl (pc' := 6) rfl ?_
  refine w_istoreN (l' := #[.val (.ref (n0 + 1)), .val (.int (0 : Int32)), .val (.int (Int32.ofNat pa0)), .unset, .unset, .unset, .unset]) X1 hx (hb hby d5_6) rfl (pc' := 7) rfl ?_
  refine w_aloadN X1 hx (hb hby d5_7) rfl rfl (pc' := 8) rfl ?_
  refine w_getf (i := 1) (v := .ref (n0 + 0)) X1 hx hZ hown (wd10 hw) P1 rfl Fo1 0 rfl rfl (hb hby d5_8) (pc' := 11) rfl ?_
  intro T2 X2 P2
  refine w_iloadN X2 hx (hb hby d5_11) rfl (pc' := 12) rfl ?_
  refine w_laloadL (i := 0) (jn := pa0) X2 hx hZ P2 rfl hk0 (hb hby d5_12) (own_oN (by omega)) (own_llt hpP (by omega)) (pc' := 13) rfl ?_
  refine w_lstoreN (l' := #[.val (.ref (n0 + 1)), .val (.int (0 : Int32)), .val (.int (Int32.ofNat pa0)), .val (.long (pP.getD pa0 0)), .second, .unset, .unset]) X2 hx (hb hby d5_13) rfl (pc' := 14) rfl ?_
  refine w_iloadN X2 hx (hb hby d5_14) rfl (pc' := 15) rfl ?_
  refine w_istore (l' := #[.val (.ref (n0 + 1)), .val (.int (0 : Int32)), .val (.int (Int32.ofNat pa0)), .val (.long (pP.getD pa0 0)), .second, .val (.int (0 : Int32)), .unset]) X2 hx (hb hby d5_15) rfl (pc' := 17) rfl ?_
  refine w_iconst (v := (2 : Int32)) X2 hx (hb hby d5_17) rfl (pc' := 18) rfl ?_
  refine w_iload X2 hx (hb hby d5_18) rfl (pc' := 20) rfl ?_
  refine w_imul X2 hx (hb hby d5_20) (pc' := 21) rfl ?_
  refine w_eqI (z := (0 : Int32)) (by decide) ?_
  refine w_iconst (v := (1 : Int32)) X2 hx (hb hby d5_21) rfl (pc' := 22) rfl ?_
  refine w_iadd X2 hx (hb hby d5_22) (pc' := 23) rfl ?_
  refine w_eqI (z := (1 : Int32)) (by decide) ?_
  refine w_aloadN X2 hx (hb hby d5_23) rfl rfl (pc' := 24) rfl ?_
  refine w_getf (i := 1) (v := .ref (n0 + 2)) X2 hx hZ hown (wd15 hw) P2 rfl Fo1 2 rfl rfl (hb hby d5_24) (pc' := 27) rfl ?_
  intro T3 X3 P3
  refine w_arrlen (i := 2) X3 hx hZ P3 rfl hk2 (hb hby d5_27) (z := (2 : Int32)) rfl (pc' := 28) rfl ?_
  refine w_icmp_ge X3 hx (hb hby d5_28) (by decide) (pcY := 144) (by decide) (pc' := 31) rfl (fun h0 => absurd h0 (by decide)) (fun h0 => ?_)
  refine w_iconst (v := (2 : Int32)) X3 hx (hb hby d5_31) rfl (pc' := 32) rfl ?_
  refine w_iload X3 hx (hb hby d5_32) rfl (pc' := 34) rfl ?_
  refine w_imul X3 hx (hb hby d5_34) (pc' := 35) rfl ?_
  refine w_eqI (z := (0 : Int32)) (by decide) ?_
  refine w_iconst (v := (1 : Int32)) X3 hx (hb hby d5_35) rfl (pc' := 36) rfl ?_
  refine w_iadd X3 hx (hb hby d5_36) (pc' := 37) rfl ?_
  refine w_eqI (z := (1 : Int32)) (by decide) ?_
  refine w_istore (l' := #[.val (.ref (n0 + 1)), .val (.int (0 : Int32)), .val (.int (Int32.ofNat pa0)), .val (.long (pP.getD pa0 0)), .second, .val (.int (0 : Int32)), .val (.int (1 : Int32))]) X3 hx (hb hby d5_37) rfl (pc' := 39) rfl ?_
  refine w_iload X3 hx (hb hby d5_39) rfl (pc' := 41) rfl ?_
  refine w_iconst (v := (1 : Int32)) X3 hx (hb hby d5_41) rfl (pc' := 42) rfl ?_
  refine w_iadd X3 hx (hb hby d5_42) (pc' := 43) rfl ?_
  refine w_eqI (z := (2 : Int32)) (by decide) ?_
  refine w_aloadN X3 hx (hb hby d5_43) rfl rfl (pc' := 44) rfl ?_
  refine w_getf (i := 1) (v := .ref (n0 + 2)) X3 hx hZ hown (wd15 hw) P3 rfl Fo1 2 rfl rfl (hb hby d5_44) (pc' := 47) rfl ?_
  intro T4 X4 P4
  refine w_arrlen (i := 2) X4 hx hZ P4 rfl hk2 (hb hby d5_47) (z := (2 : Int32)) rfl (pc' := 48) rfl ?_
  refine w_icmp_ge X4 hx (hb hby d5_48) (by decide) (pcY := 84) (by decide) (pc' := 51) rfl (fun h1 => ?_) (fun h1 => absurd h1 (by decide))
  refine w_aloadN X4 hx (hb hby d5_84) rfl rfl (pc' := 85) rfl ?_
  refine w_getf (i := 1) (v := .ref (n0 + 0)) X4 hx hZ hown (wd10 hw) P4 rfl Fo1 0 rfl rfl (hb hby d5_85) (pc' := 88) rfl ?_
  intro T5 X5 P5
  refine w_aloadN X5 hx (hb hby d5_88) rfl rfl (pc' := 89) rfl ?_
  refine w_getf (i := 1) (v := .ref (n0 + 2)) X5 hx hZ hown (wd15 hw) P5 rfl Fo1 2 rfl rfl (hb hby d5_89) (pc' := 92) rfl ?_
  intro T6 X6 P6
  refine w_iload X6 hx (hb hby d5_92) rfl (pc' := 94) rfl ?_
  refine w_iaload (i := 2) (jn := 1) (v := .int (Int32.ofNat pa1)) X6 hx hZ P6 rfl hk2 (hb hby d5_94) (by decide) rfl (pc' := 95) rfl ?_
  refine w_laloadL (i := 0) (jn := pa1) X6 hx hZ P6 rfl hk0 (hb hby d5_95) (own_oN (by omega)) (own_llt hpP (by omega)) (pc' := 96) rfl ?_
  refine w_lloadN X6 hx (hb hby d5_96) rfl (pc' := 97) rfl ?_
  refine w_lcmp_lt X6 hx (hb hby d5_97) rfl (hb hby d5_98) (by decide) (pcY := 104) (by decide) (pc' := 101) rfl (fun h2 => ?_) (fun h2 => ?_)
  · refine w_aloadN X6 hx (hb hby d5_104) rfl rfl (pc' := 105) rfl ?_
    refine w_getf (i := 1) (v := .ref (n0 + 2)) X6 hx hZ hown (wd15 hw) P6 rfl Fo1 2 rfl rfl (hb hby d5_105) (pc' := 108) rfl ?_
    intro T7 X7 P7
    refine w_iload X7 hx (hb hby d5_108) rfl (pc' := 110) rfl ?_
    refine w_aloadN X7 hx (hb hby d5_110) rfl rfl (pc' := 111) rfl ?_
    refine w_getf (i := 1) (v := .ref (n0 + 2)) X7 hx hZ hown (wd15 hw) P7 rfl Fo1 2 rfl rfl (hb hby d5_111) (pc' := 114) rfl ?_
    intro T8 X8 P8
    refine w_iload X8 hx (hb hby d5_114) rfl (pc' := 116) rfl ?_
    refine w_iaload (i := 2) (jn := 1) (v := .int (Int32.ofNat pa1)) X8 hx hZ P8 rfl hk2 (hb hby d5_116) (by decide) rfl (pc' := 117) rfl ?_
    refine w_iastore (i := 2) (jn := 0) X8 hx hZ N0 P8 rfl hk2 (hb hby d5_117) (by decide) (Nat.le_of_ble_eq_true rfl) (pc' := 118) rfl ?_
    intro T9 L1 N1 X9 P9
    replace P9 : HP n0 T9.heap [AC k0 (List.map Value.long pP), o1, AC k2 [.int (Int32.ofNat pa1), .int (Int32.ofNat pa1)], AC k3 (List.map Value.int pQ)] := P9
    refine w_aloadN X9 hx (hb hby d5_118) rfl rfl (pc' := 119) rfl ?_
    refine w_getf (i := 1) (v := .ref (n0 + 3)) X9 hx hZ hown (wd17 hw) P9 rfl Fo1 3 rfl rfl (hb hby d5_119) (pc' := 122) rfl ?_
    intro T10 X10 P10
    refine w_aloadN X10 hx (hb hby d5_122) rfl rfl (pc' := 123) rfl ?_
    refine w_getf (i := 1) (v := .ref (n0 + 2)) X10 hx hZ hown (wd15 hw) P10 rfl Fo1 2 rfl rfl (hb hby d5_123) (pc' := 126) rfl ?_
    intro T11 X11 P11
    refine w_iload X11 hx (hb hby d5_126) rfl (pc' := 128) rfl ?_
    refine w_iaload (i := 2) (jn := 0) (v := .int (Int32.ofNat pa1)) X11 hx hZ P11 rfl hk2 (hb hby d5_128) (by decide) rfl (pc' := 129) rfl ?_
    refine w_aloadN X11 hx (hb hby d5_129) rfl rfl (pc' := 130) rfl ?_
    refine w_getf (i := 1) (v := .int (Int32.ofNat pf)) X11 hx hZ hown (wd12 hw) P11 rfl Fo1 1 rfl rfl (hb hby d5_130) (pc' := 133) rfl ?_
    intro T12 X12 P12
    refine w_isub X12 hx (hb hby d5_133) (pc' := 134) rfl ?_
    refine w_eqI (z := (Int32.ofNat (pa1 - pf))) (own_osub (a := pa1) (b := pf) (by omega)) ?_
    refine w_iload X12 hx (hb hby d5_134) rfl (pc' := 136) rfl ?_
    refine w_iastoreL (i := 3) (jn := (pa1 - pf)) X12 hx hZ N1 P12 rfl hk3 (hb hby d5_136) (own_oN (by omega)) (own_llt ilen (by omega)) (pc' := 137) rfl ?_
    intro T13 L2 N2 X13 P13
    replace P13 : HP n0 T13.heap [AC k0 (List.map Value.long pP), o1, AC k2 [.int (Int32.ofNat pa1), .int (Int32.ofNat pa1)], AC k3 (List.map Value.int (pQ.set (pa1 - pf) (0 : Int32)))] := P13
    refine w_iload X13 hx (hb hby d5_137) rfl (pc' := 139) rfl ?_
    refine w_istore (l' := #[.val (.ref (n0 + 1)), .val (.int (0 : Int32)), .val (.int (Int32.ofNat pa0)), .val (.long (pP.getD pa0 0)), .second, .val (.int (1 : Int32)), .val (.int (1 : Int32))]) X13 hx (hb hby d5_139) rfl (pc' := 141) rfl ?_
    refine w_goto X13 hx (hb hby d5_141) (by decide) (pc' := 17) (by decide) ?_
    refine w_iconst (v := (2 : Int32)) X13 hx (hb hby d5_17) rfl (pc' := 18) rfl ?_
    refine w_iload X13 hx (hb hby d5_18) rfl (pc' := 20) rfl ?_
    refine w_imul X13 hx (hb hby d5_20) (pc' := 21) rfl ?_
    refine w_eqI (z := (2 : Int32)) (by decide) ?_
    refine w_iconst (v := (1 : Int32)) X13 hx (hb hby d5_21) rfl (pc' := 22) rfl ?_
    refine w_iadd X13 hx (hb hby d5_22) (pc' := 23) rfl ?_
    refine w_eqI (z := (3 : Int32)) (by decide) ?_
    refine w_aloadN X13 hx (hb hby d5_23) rfl rfl (pc' := 24) rfl ?_
    refine w_getf (i := 1) (v := .ref (n0 + 2)) X13 hx hZ hown (wd15 hw) P13 rfl Fo1 2 rfl rfl (hb hby d5_24) (pc' := 27) rfl ?_
    intro T14 X14 P14
    refine w_arrlen (i := 2) X14 hx hZ P14 rfl hk2 (hb hby d5_27) (z := (2 : Int32)) rfl (pc' := 28) rfl ?_
    refine w_icmp_ge X14 hx (hb hby d5_28) (by decide) (pcY := 144) (by decide) (pc' := 31) rfl (fun h3 => ?_) (fun h3 => absurd h3 (by decide))
    refine w_aloadN X14 hx (hb hby d5_144) rfl rfl (pc' := 145) rfl ?_
    refine w_getf (i := 1) (v := .ref (n0 + 2)) X14 hx hZ hown (wd15 hw) P14 rfl Fo1 2 rfl rfl (hb hby d5_145) (pc' := 148) rfl ?_
    intro T15 X15 P15
    refine w_iload X15 hx (hb hby d5_148) rfl (pc' := 150) rfl ?_
    refine w_iloadN X15 hx (hb hby d5_150) rfl (pc' := 151) rfl ?_
    refine w_iastore (i := 2) (jn := 1) X15 hx hZ N2 P15 rfl hk2 (hb hby d5_151) (by decide) (Nat.le_of_ble_eq_true rfl) (pc' := 152) rfl ?_
    intro T16 L3 N3 X16 P16
    replace P16 : HP n0 T16.heap [AC k0 (List.map Value.long pP), o1, AC k2 [.int (Int32.ofNat pa1), .int (Int32.ofNat pa0)], AC k3 (List.map Value.int (pQ.set (pa1 - pf) (0 : Int32)))] := P16
    refine w_aloadN X16 hx (hb hby d5_152) rfl rfl (pc' := 153) rfl ?_
    refine w_getf (i := 1) (v := .ref (n0 + 3)) X16 hx hZ hown (wd17 hw) P16 rfl Fo1 3 rfl rfl (hb hby d5_153) (pc' := 156) rfl ?_
    intro T17 X17 P17
    refine w_iloadN X17 hx (hb hby d5_156) rfl (pc' := 157) rfl ?_
    refine w_aloadN X17 hx (hb hby d5_157) rfl rfl (pc' := 158) rfl ?_
    refine w_getf (i := 1) (v := .int (Int32.ofNat pf)) X17 hx hZ hown (wd12 hw) P17 rfl Fo1 1 rfl rfl (hb hby d5_158) (pc' := 161) rfl ?_
    intro T18 X18 P18
    refine w_isub X18 hx (hb hby d5_161) (pc' := 162) rfl ?_
    refine w_eqI (z := (Int32.ofNat (pa0 - pf))) (own_osub (a := pa0) (b := pf) (by omega)) ?_
    refine w_iload X18 hx (hb hby d5_162) rfl (pc' := 164) rfl ?_
    refine w_iastoreL (i := 3) (jn := (pa0 - pf)) X18 hx hZ N3 P18 rfl hk3 (hb hby d5_164) (own_oN (by omega)) (own_llt (own_sl ilen) (by omega)) (pc' := 165) rfl ?_
    intro T19 L4 N4 X19 P19
    replace P19 : HP n0 T19.heap [AC k0 (List.map Value.long pP), o1, AC k2 [.int (Int32.ofNat pa1), .int (Int32.ofNat pa0)], AC k3 (List.map Value.int ((pQ.set (pa1 - pf) (0 : Int32)).set (pa0 - pf) (1 : Int32)))] := P19
    have h2p := own_plt h2
    exact w_ret_v X19 hx hret hlk (hb hby d5_165) (by decide) (by decide) ⟨rfl, N4, pa1, pa0, ((pQ.set (pa1 - pf) (0 : Int32)).set (pa0 - pf) (1 : Int32)), ⟨(own_sl (own_sl ilen)), il1, il0, iu1, iu0, (own_nes in01), (fun c h1 h2 => by have q := icov c h1 h2; omega), (by rw [own_gn (own_sne il0 il1 in01), own_gp (i := pa1 - pf) ilen (by omega)]), (by rw [own_gp (i := pa0 - pf) (own_sl ilen) (by omega)])⟩, (by show own_p _ _ ≤ own_p _ _; omega), P19⟩
  · refine w_goto X6 hx (hb hby d5_101) (by decide) (pc' := 144) (by decide) ?_
    refine w_aloadN X6 hx (hb hby d5_144) rfl rfl (pc' := 145) rfl ?_
    refine w_getf (i := 1) (v := .ref (n0 + 2)) X6 hx hZ hown (wd15 hw) P6 rfl Fo1 2 rfl rfl (hb hby d5_145) (pc' := 148) rfl ?_
    intro T20 X20 P20
    refine w_iload X20 hx (hb hby d5_148) rfl (pc' := 150) rfl ?_
    refine w_iloadN X20 hx (hb hby d5_150) rfl (pc' := 151) rfl ?_
    refine w_iastore (i := 2) (jn := 0) X20 hx hZ N0 P20 rfl hk2 (hb hby d5_151) (by decide) (Nat.le_of_ble_eq_true rfl) (pc' := 152) rfl ?_
    intro T21 L5 N5 X21 P21
    replace P21 : HP n0 T21.heap [AC k0 (List.map Value.long pP), o1, AC k2 [.int (Int32.ofNat pa0), .int (Int32.ofNat pa1)], AC k3 (List.map Value.int pQ)] := P21
    refine w_aloadN X21 hx (hb hby d5_152) rfl rfl (pc' := 153) rfl ?_
    refine w_getf (i := 1) (v := .ref (n0 + 3)) X21 hx hZ hown (wd17 hw) P21 rfl Fo1 3 rfl rfl (hb hby d5_153) (pc' := 156) rfl ?_
    intro T22 X22 P22
    refine w_iloadN X22 hx (hb hby d5_156) rfl (pc' := 157) rfl ?_
    refine w_aloadN X22 hx (hb hby d5_157) rfl rfl (pc' := 158) rfl ?_
    refine w_getf (i := 1) (v := .int (Int32.ofNat pf)) X22 hx hZ hown (wd12 hw) P22 rfl Fo1 1 rfl rfl (hb hby d5_158) (pc' := 161) rfl ?_
    intro T23 X23 P23
    refine w_isub X23 hx (hb hby d5_161) (pc' := 162) rfl ?_
    refine w_eqI (z := (Int32.ofNat (pa0 - pf))) (own_osub (a := pa0) (b := pf) (by omega)) ?_
    refine w_iload X23 hx (hb hby d5_162) rfl (pc' := 164) rfl ?_
    refine w_iastoreL (i := 3) (jn := (pa0 - pf)) X23 hx hZ N5 P23 rfl hk3 (hb hby d5_164) (own_oN (by omega)) (own_llt ilen (by omega)) (pc' := 165) rfl ?_
    intro T24 L6 N6 X24 P24
    replace P24 : HP n0 T24.heap [AC k0 (List.map Value.long pP), o1, AC k2 [.int (Int32.ofNat pa0), .int (Int32.ofNat pa1)], AC k3 (List.map Value.int (pQ.set (pa0 - pf) (0 : Int32)))] := P24
    have h2p := own_pnl h2
    exact w_ret_v X24 hx hret hlk (hb hby d5_165) (by decide) (by decide) ⟨rfl, N6, pa0, pa1, (pQ.set (pa0 - pf) (0 : Int32)), ⟨(own_sl ilen), il0, il1, iu0, iu1, in01, (fun c h1 h2 => by have q := icov c h1 h2; omega), (by rw [own_gp (i := pa0 - pf) ilen (by omega)]), (by rw [own_gn (own_sne il0 il1 in01)]; exact iq1)⟩, (by show own_p _ _ ≤ own_p _ _; omega), P24⟩
theorem ef_sd21 (m : MethodId) (n0 : Nat) (pf : Nat) (pa0 : Nat) (pa1 : Nat) : entryFrame m #[.ref (n0 + 1), .int (1 : Int32)] 7 = mkF m 0 #[.val (.ref (n0 + 1)), .val (.int (1 : Int32)), .unset, .unset, .unset, .unset, .unset] [] := by first | (simp [entryFrame, mkF, argsToLocals, Value.category]; done) | rfl
def Q_sd21 (Z : State) (n0 : Nat) (k0 : ClassId) (o1 : Jvm.Cell) (k2 : ClassId) (k3 : ClassId) (pP : List Int64) (pf : Nat) (pa0 : Nat) (pa1 : Nat) (pQ : List Int32) (v : Option Value) (h : Heap) (L : List Loc) : Prop := v = none ∧ Fr n0 L ∧ ∃ (b0 b1 : Nat) (Q1 : List Int32), own_I2 pf b0 b1 Q1 ∧ own_O2 pP b0 b1 ∧ HP n0 h [AC k0 (List.map Value.long pP), o1, AC k2 [Value.int (Int32.ofNat b0), Value.int (Int32.ofNat b1)], AC k3 (List.map Value.int Q1)]
set_option maxRecDepth 65536 in
set_option maxHeartbeats 40000000 in
theorem rm_sd21 (l : Launch) (Z : State) (a0 : Array Value) (hw : ∀ d ∈ tables_1, d.before a0 Z = true) (ws : List Jvm.Cond) (n0 : Nat) (k0 : ClassId) (o1 : Jvm.Cell) (k2 : ClassId) (k3 : ClassId) (pP : List Int64) (pf : Nat) (pa0 : Nat) (pa1 : Nat) (pQ : List Int32) (h0 : Heap) (P0 : HP n0 h0 [AC k0 (List.map Value.long pP), o1, AC k2 [.int (Int32.ofNat pa0), .int (Int32.ofNat pa1)], AC k3 (List.map Value.int pQ)]) (hk0 : IsA Z k0 .long) (hk2 : IsA Z k2 .int) (hk3 : IsA Z k3 .int) (Fo1 : ObjF Z o1 "com/example/bidcrier/bidcrier/CheapestColumns" fl_C0 [.ref (n0 + 0), .int (Int32.ofNat pf), .ref (n0 + 2), .ref (n0 + 3)]) (hpP : pP.length = pf + 2) (hpf : pf < 2) (hI : own_I2 pf pa0 pa1 pQ) (ho01 : own_p pP pa0 ≤ own_p pP pa1) :
    MetFree l (⟨"com/example/bidcrier/bidcrier/CheapestColumns", "siftDown", "(I)V"⟩ : MethodName) (head1 (Jvm.Cond.code (⟨"com/example/bidcrier/bidcrier/CheapestColumns", "siftDown", "(I)V"⟩ : MethodName) prog_7_method_6_code 7 none :: ws) ({ frames := 0, cells := 0, slots := 0, locals := 0 } : Room)) (fun aa U => aa = #[.ref (n0 + 1), .int (1 : Int32)] ∧ Z.Warmed39 U.vm ∧ U.heap = h0) (fun _ _ _ _ _ => True) (fun _ U o U' => ∃ v L, o = .returned v ∧ Q_sd21 Z n0 k0 o1 k2 k3 pP pf pa0 pa1 pQ v U'.heap L ∧ FrameEnd U o U' L ({ frames := 0, cells := 0, slots := 0, locals := 0 } : Room).cells ({ frames := 0, cells := 0, slots := 0, locals := 0 } : Room).slots) := by
  refine own_body pn5 ?_
  intro p e s m below meth c T0 hx hby hml hret hlk hown hnm hZ X0 e0
  subst e0
  have N0 : Fr n0 [] := Fr.nil n0
  obtain ⟨ilen, il0, il1, iu0, iu1, in01, icov, iq0, iq1⟩ := hI
  refine own_cast (ef_sd21 m n0 pf pa0 pa1) ?_
  refine w_aloadN X0 hx (hb hby d5_0) rfl rfl (pc' := 1) rfl ?_
  refine w_getf (i := 1) (v := .ref (n0 + 2)) X0 hx hZ hown (wd15 hw) P0 rfl Fo1 2 rfl rfl (hb hby d5_1) (pc' := 4) rfl ?_
  intro T1 X1 P1
  refine w_iloadN X1 hx (hb hby d5_4) rfl (pc' := 5) rfl ?_
  refine w_iaload (i := 2) (jn := 1) (v := .int (Int32.ofNat pa1)) X1 hx hZ P1 rfl hk2 (hb hby d5_5) (by decide) rfl (pc' := 6) rfl ?_
  refine w_istoreN (l' := #[.val (.ref (n0 + 1)), .val (.int (1 : Int32)), .val (.int (Int32.ofNat pa1)), .unset, .unset, .unset, .unset]) X1 hx (hb hby d5_6) rfl (pc' := 7) rfl ?_
  refine w_aloadN X1 hx (hb hby d5_7) rfl rfl (pc' := 8) rfl ?_
  refine w_getf (i := 1) (v := .ref (n0 + 0)) X1 hx hZ hown (wd10 hw) P1 rfl Fo1 0 rfl rfl (hb hby d5_8) (pc' := 11) rfl ?_
  intro T2 X2 P2
  refine w_iloadN X2 hx (hb hby d5_11) rfl (pc' := 12) rfl ?_
  refine w_laloadL (i := 0) (jn := pa1) X2 hx hZ P2 rfl hk0 (hb hby d5_12) (own_oN (by omega)) (own_llt hpP (by omega)) (pc' := 13) rfl ?_
  refine w_lstoreN (l' := #[.val (.ref (n0 + 1)), .val (.int (1 : Int32)), .val (.int (Int32.ofNat pa1)), .val (.long (pP.getD pa1 0)), .second, .unset, .unset]) X2 hx (hb hby d5_13) rfl (pc' := 14) rfl ?_
  refine w_iloadN X2 hx (hb hby d5_14) rfl (pc' := 15) rfl ?_
  refine w_istore (l' := #[.val (.ref (n0 + 1)), .val (.int (1 : Int32)), .val (.int (Int32.ofNat pa1)), .val (.long (pP.getD pa1 0)), .second, .val (.int (1 : Int32)), .unset]) X2 hx (hb hby d5_15) rfl (pc' := 17) rfl ?_
  refine w_iconst (v := (2 : Int32)) X2 hx (hb hby d5_17) rfl (pc' := 18) rfl ?_
  refine w_iload X2 hx (hb hby d5_18) rfl (pc' := 20) rfl ?_
  refine w_imul X2 hx (hb hby d5_20) (pc' := 21) rfl ?_
  refine w_eqI (z := (2 : Int32)) (by decide) ?_
  refine w_iconst (v := (1 : Int32)) X2 hx (hb hby d5_21) rfl (pc' := 22) rfl ?_
  refine w_iadd X2 hx (hb hby d5_22) (pc' := 23) rfl ?_
  refine w_eqI (z := (3 : Int32)) (by decide) ?_
  refine w_aloadN X2 hx (hb hby d5_23) rfl rfl (pc' := 24) rfl ?_
  refine w_getf (i := 1) (v := .ref (n0 + 2)) X2 hx hZ hown (wd15 hw) P2 rfl Fo1 2 rfl rfl (hb hby d5_24) (pc' := 27) rfl ?_
  intro T3 X3 P3
  refine w_arrlen (i := 2) X3 hx hZ P3 rfl hk2 (hb hby d5_27) (z := (2 : Int32)) rfl (pc' := 28) rfl ?_
  refine w_icmp_ge X3 hx (hb hby d5_28) (by decide) (pcY := 144) (by decide) (pc' := 31) rfl (fun h0 => ?_) (fun h0 => absurd h0 (by decide))
  refine w_aloadN X3 hx (hb hby d5_144) rfl rfl (pc' := 145) rfl ?_
  refine w_getf (i := 1) (v := .ref (n0 + 2)) X3 hx hZ hown (wd15 hw) P3 rfl Fo1 2 rfl rfl (hb hby d5_145) (pc' := 148) rfl ?_
  intro T4 X4 P4
  refine w_iload X4 hx (hb hby d5_148) rfl (pc' := 150) rfl ?_
  refine w_iloadN X4 hx (hb hby d5_150) rfl (pc' := 151) rfl ?_
  refine w_iastore (i := 2) (jn := 1) X4 hx hZ N0 P4 rfl hk2 (hb hby d5_151) (by decide) (Nat.le_of_ble_eq_true rfl) (pc' := 152) rfl ?_
  intro T5 L1 N1 X5 P5
  replace P5 : HP n0 T5.heap [AC k0 (List.map Value.long pP), o1, AC k2 [.int (Int32.ofNat pa0), .int (Int32.ofNat pa1)], AC k3 (List.map Value.int pQ)] := P5
  refine w_aloadN X5 hx (hb hby d5_152) rfl rfl (pc' := 153) rfl ?_
  refine w_getf (i := 1) (v := .ref (n0 + 3)) X5 hx hZ hown (wd17 hw) P5 rfl Fo1 3 rfl rfl (hb hby d5_153) (pc' := 156) rfl ?_
  intro T6 X6 P6
  refine w_iloadN X6 hx (hb hby d5_156) rfl (pc' := 157) rfl ?_
  refine w_aloadN X6 hx (hb hby d5_157) rfl rfl (pc' := 158) rfl ?_
  refine w_getf (i := 1) (v := .int (Int32.ofNat pf)) X6 hx hZ hown (wd12 hw) P6 rfl Fo1 1 rfl rfl (hb hby d5_158) (pc' := 161) rfl ?_
  intro T7 X7 P7
  refine w_isub X7 hx (hb hby d5_161) (pc' := 162) rfl ?_
  refine w_eqI (z := (Int32.ofNat (pa1 - pf))) (own_osub (a := pa1) (b := pf) (by omega)) ?_
  refine w_iload X7 hx (hb hby d5_162) rfl (pc' := 164) rfl ?_
  refine w_iastoreL (i := 3) (jn := (pa1 - pf)) X7 hx hZ N1 P7 rfl hk3 (hb hby d5_164) (own_oN (by omega)) (own_llt ilen (by omega)) (pc' := 165) rfl ?_
  intro T8 L2 N2 X8 P8
  replace P8 : HP n0 T8.heap [AC k0 (List.map Value.long pP), o1, AC k2 [.int (Int32.ofNat pa0), .int (Int32.ofNat pa1)], AC k3 (List.map Value.int (pQ.set (pa1 - pf) (1 : Int32)))] := P8
  exact w_ret_v X8 hx hret hlk (hb hby d5_165) (by decide) (by decide) ⟨rfl, N2, pa0, pa1, (pQ.set (pa1 - pf) (1 : Int32)), ⟨(own_sl ilen), il0, il1, iu0, iu1, in01, (fun c h1 h2 => by have q := icov c h1 h2; omega), (by rw [own_gn (own_sne il1 il0 (own_nes in01))]; exact iq0), (by rw [own_gp (i := pa1 - pf) ilen (by omega)])⟩, (by show own_p _ _ ≤ own_p _ _; omega), P8⟩
theorem ef_sd30 (m : MethodId) (n0 : Nat) (pf : Nat) (pa0 : Nat) (pa1 : Nat) (pa2 : Nat) : entryFrame m #[.ref (n0 + 1), .int (0 : Int32)] 7 = mkF m 0 #[.val (.ref (n0 + 1)), .val (.int (0 : Int32)), .unset, .unset, .unset, .unset, .unset] [] := by first | (simp [entryFrame, mkF, argsToLocals, Value.category]; done) | rfl
def Q_sd30 (Z : State) (n0 : Nat) (k0 : ClassId) (o1 : Jvm.Cell) (k2 : ClassId) (k3 : ClassId) (pP : List Int64) (pf : Nat) (pa0 : Nat) (pa1 : Nat) (pa2 : Nat) (pQ : List Int32) (v : Option Value) (h : Heap) (L : List Loc) : Prop := v = none ∧ Fr n0 L ∧ ∃ (b0 b1 b2 : Nat) (Q1 : List Int32), own_I3 pf b0 b1 b2 Q1 ∧ own_O3 pP b0 b1 b2 ∧ HP n0 h [AC k0 (List.map Value.long pP), o1, AC k2 [Value.int (Int32.ofNat b0), Value.int (Int32.ofNat b1), Value.int (Int32.ofNat b2)], AC k3 (List.map Value.int Q1)]
set_option maxRecDepth 65536 in
set_option maxHeartbeats 40000000 in
theorem rm_sd30 (l : Launch) (Z : State) (a0 : Array Value) (hw : ∀ d ∈ tables_1, d.before a0 Z = true) (ws : List Jvm.Cond) (n0 : Nat) (k0 : ClassId) (o1 : Jvm.Cell) (k2 : ClassId) (k3 : ClassId) (pP : List Int64) (pf : Nat) (pa0 : Nat) (pa1 : Nat) (pa2 : Nat) (pQ : List Int32) (h0 : Heap) (P0 : HP n0 h0 [AC k0 (List.map Value.long pP), o1, AC k2 [.int (Int32.ofNat pa0), .int (Int32.ofNat pa1), .int (Int32.ofNat pa2)], AC k3 (List.map Value.int pQ)]) (hk0 : IsA Z k0 .long) (hk2 : IsA Z k2 .int) (hk3 : IsA Z k3 .int) (Fo1 : ObjF Z o1 "com/example/bidcrier/bidcrier/CheapestColumns" fl_C0 [.ref (n0 + 0), .int (Int32.ofNat pf), .ref (n0 + 2), .ref (n0 + 3)]) (hpP : pP.length = pf + 3) (hpf : pf < 2) (hI : own_I3 pf pa0 pa1 pa2 pQ) :
    MetFree l (⟨"com/example/bidcrier/bidcrier/CheapestColumns", "siftDown", "(I)V"⟩ : MethodName) (head1 (Jvm.Cond.code (⟨"com/example/bidcrier/bidcrier/CheapestColumns", "siftDown", "(I)V"⟩ : MethodName) prog_7_method_6_code 7 none :: ws) ({ frames := 0, cells := 0, slots := 0, locals := 0 } : Room)) (fun aa U => aa = #[.ref (n0 + 1), .int (0 : Int32)] ∧ Z.Warmed39 U.vm ∧ U.heap = h0) (fun _ _ _ _ _ => True) (fun _ U o U' => ∃ v L, o = .returned v ∧ Q_sd30 Z n0 k0 o1 k2 k3 pP pf pa0 pa1 pa2 pQ v U'.heap L ∧ FrameEnd U o U' L ({ frames := 0, cells := 0, slots := 0, locals := 0 } : Room).cells ({ frames := 0, cells := 0, slots := 0, locals := 0 } : Room).slots) := by
  refine own_body pn5 ?_
  intro p e s m below meth c T0 hx hby hml hret hlk hown hnm hZ X0 e0
  subst e0
  have N0 : Fr n0 [] := Fr.nil n0
  obtain ⟨ilen, il0, il1, il2, iu0, iu1, iu2, in01, in02, in12, icov, iq0, iq1, iq2⟩ := hI
  refine own_cast (ef_sd30 m n0 pf pa0 pa1 pa2) ?_
  refine w_aloadN X0 hx (hb hby d5_0) rfl rfl (pc' := 1) rfl ?_
  refine w_getf (i := 1) (v := .ref (n0 + 2)) X0 hx hZ hown (wd15 hw) P0 rfl Fo1 2 rfl rfl (hb hby d5_1) (pc' := 4) rfl ?_
  intro T1 X1 P1
  refine w_iloadN X1 hx (hb hby d5_4) rfl (pc' := 5) rfl ?_
  refine w_iaload (i := 2) (jn := 0) (v := .int (Int32.ofNat pa0)) X1 hx hZ P1 rfl hk2 (hb hby d5_5) (by decide) rfl (pc' := 6) rfl ?_
  refine w_istoreN (l' := #[.val (.ref (n0 + 1)), .val (.int (0 : Int32)), .val (.int (Int32.ofNat pa0)), .unset, .unset, .unset, .unset]) X1 hx (hb hby d5_6) rfl (pc' := 7) rfl ?_
  refine w_aloadN X1 hx (hb hby d5_7) rfl rfl (pc' := 8) rfl ?_
  refine w_getf (i := 1) (v := .ref (n0 + 0)) X1 hx hZ hown (wd10 hw) P1 rfl Fo1 0 rfl rfl (hb hby d5_8) (pc' := 11) rfl ?_
  intro T2 X2 P2
  refine w_iloadN X2 hx (hb hby d5_11) rfl (pc' := 12) rfl ?_
  refine w_laloadL (i := 0) (jn := pa0) X2 hx hZ P2 rfl hk0 (hb hby d5_12) (own_oN (by omega)) (own_llt hpP (by omega)) (pc' := 13) rfl ?_
  refine w_lstoreN (l' := #[.val (.ref (n0 + 1)), .val (.int (0 : Int32)), .val (.int (Int32.ofNat pa0)), .val (.long (pP.getD pa0 0)), .second, .unset, .unset]) X2 hx (hb hby d5_13) rfl (pc' := 14) rfl ?_
  refine w_iloadN X2 hx (hb hby d5_14) rfl (pc' := 15) rfl ?_
  refine w_istore (l' := #[.val (.ref (n0 + 1)), .val (.int (0 : Int32)), .val (.int (Int32.ofNat pa0)), .val (.long (pP.getD pa0 0)), .second, .val (.int (0 : Int32)), .unset]) X2 hx (hb hby d5_15) rfl (pc' := 17) rfl ?_
  refine w_iconst (v := (2 : Int32)) X2 hx (hb hby d5_17) rfl (pc' := 18) rfl ?_
  refine w_iload X2 hx (hb hby d5_18) rfl (pc' := 20) rfl ?_
  refine w_imul X2 hx (hb hby d5_20) (pc' := 21) rfl ?_
  refine w_eqI (z := (0 : Int32)) (by decide) ?_
  refine w_iconst (v := (1 : Int32)) X2 hx (hb hby d5_21) rfl (pc' := 22) rfl ?_
  refine w_iadd X2 hx (hb hby d5_22) (pc' := 23) rfl ?_
  refine w_eqI (z := (1 : Int32)) (by decide) ?_
  refine w_aloadN X2 hx (hb hby d5_23) rfl rfl (pc' := 24) rfl ?_
  refine w_getf (i := 1) (v := .ref (n0 + 2)) X2 hx hZ hown (wd15 hw) P2 rfl Fo1 2 rfl rfl (hb hby d5_24) (pc' := 27) rfl ?_
  intro T3 X3 P3
  refine w_arrlen (i := 2) X3 hx hZ P3 rfl hk2 (hb hby d5_27) (z := (3 : Int32)) rfl (pc' := 28) rfl ?_
  refine w_icmp_ge X3 hx (hb hby d5_28) (by decide) (pcY := 144) (by decide) (pc' := 31) rfl (fun h0 => absurd h0 (by decide)) (fun h0 => ?_)
  refine w_iconst (v := (2 : Int32)) X3 hx (hb hby d5_31) rfl (pc' := 32) rfl ?_
  refine w_iload X3 hx (hb hby d5_32) rfl (pc' := 34) rfl ?_
  refine w_imul X3 hx (hb hby d5_34) (pc' := 35) rfl ?_
  refine w_eqI (z := (0 : Int32)) (by decide) ?_
  refine w_iconst (v := (1 : Int32)) X3 hx (hb hby d5_35) rfl (pc' := 36) rfl ?_
  refine w_iadd X3 hx (hb hby d5_36) (pc' := 37) rfl ?_
  refine w_eqI (z := (1 : Int32)) (by decide) ?_
  refine w_istore (l' := #[.val (.ref (n0 + 1)), .val (.int (0 : Int32)), .val (.int (Int32.ofNat pa0)), .val (.long (pP.getD pa0 0)), .second, .val (.int (0 : Int32)), .val (.int (1 : Int32))]) X3 hx (hb hby d5_37) rfl (pc' := 39) rfl ?_
  refine w_iload X3 hx (hb hby d5_39) rfl (pc' := 41) rfl ?_
  refine w_iconst (v := (1 : Int32)) X3 hx (hb hby d5_41) rfl (pc' := 42) rfl ?_
  refine w_iadd X3 hx (hb hby d5_42) (pc' := 43) rfl ?_
  refine w_eqI (z := (2 : Int32)) (by decide) ?_
  refine w_aloadN X3 hx (hb hby d5_43) rfl rfl (pc' := 44) rfl ?_
  refine w_getf (i := 1) (v := .ref (n0 + 2)) X3 hx hZ hown (wd15 hw) P3 rfl Fo1 2 rfl rfl (hb hby d5_44) (pc' := 47) rfl ?_
  intro T4 X4 P4
  refine w_arrlen (i := 2) X4 hx hZ P4 rfl hk2 (hb hby d5_47) (z := (3 : Int32)) rfl (pc' := 48) rfl ?_
  refine w_icmp_ge X4 hx (hb hby d5_48) (by decide) (pcY := 84) (by decide) (pc' := 51) rfl (fun h1 => absurd h1 (by decide)) (fun h1 => ?_)
  refine w_aloadN X4 hx (hb hby d5_51) rfl rfl (pc' := 52) rfl ?_
  refine w_getf (i := 1) (v := .ref (n0 + 0)) X4 hx hZ hown (wd10 hw) P4 rfl Fo1 0 rfl rfl (hb hby d5_52) (pc' := 55) rfl ?_
  intro T5 X5 P5
  refine w_aloadN X5 hx (hb hby d5_55) rfl rfl (pc' := 56) rfl ?_
  refine w_getf (i := 1) (v := .ref (n0 + 2)) X5 hx hZ hown (wd15 hw) P5 rfl Fo1 2 rfl rfl (hb hby d5_56) (pc' := 59) rfl ?_
  intro T6 X6 P6
  refine w_iload X6 hx (hb hby d5_59) rfl (pc' := 61) rfl ?_
  refine w_iconst (v := (1 : Int32)) X6 hx (hb hby d5_61) rfl (pc' := 62) rfl ?_
  refine w_iadd X6 hx (hb hby d5_62) (pc' := 63) rfl ?_
  refine w_eqI (z := (2 : Int32)) (by decide) ?_
  refine w_iaload (i := 2) (jn := 2) (v := .int (Int32.ofNat pa2)) X6 hx hZ P6 rfl hk2 (hb hby d5_63) (by decide) rfl (pc' := 64) rfl ?_
  refine w_laloadL (i := 0) (jn := pa2) X6 hx hZ P6 rfl hk0 (hb hby d5_64) (own_oN (by omega)) (own_llt hpP (by omega)) (pc' := 65) rfl ?_
  refine w_aloadN X6 hx (hb hby d5_65) rfl rfl (pc' := 66) rfl ?_
  refine w_getf (i := 1) (v := .ref (n0 + 0)) X6 hx hZ hown (wd10 hw) P6 rfl Fo1 0 rfl rfl (hb hby d5_66) (pc' := 69) rfl ?_
  intro T7 X7 P7
  refine w_aloadN X7 hx (hb hby d5_69) rfl rfl (pc' := 70) rfl ?_
  refine w_getf (i := 1) (v := .ref (n0 + 2)) X7 hx hZ hown (wd15 hw) P7 rfl Fo1 2 rfl rfl (hb hby d5_70) (pc' := 73) rfl ?_
  intro T8 X8 P8
  refine w_iload X8 hx (hb hby d5_73) rfl (pc' := 75) rfl ?_
  refine w_iaload (i := 2) (jn := 1) (v := .int (Int32.ofNat pa1)) X8 hx hZ P8 rfl hk2 (hb hby d5_75) (by decide) rfl (pc' := 76) rfl ?_
  refine w_laloadL (i := 0) (jn := pa1) X8 hx hZ P8 rfl hk0 (hb hby d5_76) (own_oN (by omega)) (own_llt hpP (by omega)) (pc' := 77) rfl ?_
  refine w_lcmp_ge X8 hx (hb hby d5_77) rfl (hb hby d5_78) (by decide) (pcY := 84) (by decide) (pc' := 81) rfl (fun h2 => ?_) (fun h2 => ?_)
  · refine w_aloadN X8 hx (hb hby d5_84) rfl rfl (pc' := 85) rfl ?_
    refine w_getf (i := 1) (v := .ref (n0 + 0)) X8 hx hZ hown (wd10 hw) P8 rfl Fo1 0 rfl rfl (hb hby d5_85) (pc' := 88) rfl ?_
    intro T9 X9 P9
    refine w_aloadN X9 hx (hb hby d5_88) rfl rfl (pc' := 89) rfl ?_
    refine w_getf (i := 1) (v := .ref (n0 + 2)) X9 hx hZ hown (wd15 hw) P9 rfl Fo1 2 rfl rfl (hb hby d5_89) (pc' := 92) rfl ?_
    intro T10 X10 P10
    refine w_iload X10 hx (hb hby d5_92) rfl (pc' := 94) rfl ?_
    refine w_iaload (i := 2) (jn := 1) (v := .int (Int32.ofNat pa1)) X10 hx hZ P10 rfl hk2 (hb hby d5_94) (by decide) rfl (pc' := 95) rfl ?_
    refine w_laloadL (i := 0) (jn := pa1) X10 hx hZ P10 rfl hk0 (hb hby d5_95) (own_oN (by omega)) (own_llt hpP (by omega)) (pc' := 96) rfl ?_
    refine w_lloadN X10 hx (hb hby d5_96) rfl (pc' := 97) rfl ?_
    refine w_lcmp_lt X10 hx (hb hby d5_97) rfl (hb hby d5_98) (by decide) (pcY := 104) (by decide) (pc' := 101) rfl (fun h3 => ?_) (fun h3 => ?_)
    · refine w_aloadN X10 hx (hb hby d5_104) rfl rfl (pc' := 105) rfl ?_
      refine w_getf (i := 1) (v := .ref (n0 + 2)) X10 hx hZ hown (wd15 hw) P10 rfl Fo1 2 rfl rfl (hb hby d5_105) (pc' := 108) rfl ?_
      intro T11 X11 P11
      refine w_iload X11 hx (hb hby d5_108) rfl (pc' := 110) rfl ?_
      refine w_aloadN X11 hx (hb hby d5_110) rfl rfl (pc' := 111) rfl ?_
      refine w_getf (i := 1) (v := .ref (n0 + 2)) X11 hx hZ hown (wd15 hw) P11 rfl Fo1 2 rfl rfl (hb hby d5_111) (pc' := 114) rfl ?_
      intro T12 X12 P12
      refine w_iload X12 hx (hb hby d5_114) rfl (pc' := 116) rfl ?_
      refine w_iaload (i := 2) (jn := 1) (v := .int (Int32.ofNat pa1)) X12 hx hZ P12 rfl hk2 (hb hby d5_116) (by decide) rfl (pc' := 117) rfl ?_
      refine w_iastore (i := 2) (jn := 0) X12 hx hZ N0 P12 rfl hk2 (hb hby d5_117) (by decide) (Nat.le_of_ble_eq_true rfl) (pc' := 118) rfl ?_
      intro T13 L1 N1 X13 P13
      replace P13 : HP n0 T13.heap [AC k0 (List.map Value.long pP), o1, AC k2 [.int (Int32.ofNat pa1), .int (Int32.ofNat pa1), .int (Int32.ofNat pa2)], AC k3 (List.map Value.int pQ)] := P13
      refine w_aloadN X13 hx (hb hby d5_118) rfl rfl (pc' := 119) rfl ?_
      refine w_getf (i := 1) (v := .ref (n0 + 3)) X13 hx hZ hown (wd17 hw) P13 rfl Fo1 3 rfl rfl (hb hby d5_119) (pc' := 122) rfl ?_
      intro T14 X14 P14
      refine w_aloadN X14 hx (hb hby d5_122) rfl rfl (pc' := 123) rfl ?_
      refine w_getf (i := 1) (v := .ref (n0 + 2)) X14 hx hZ hown (wd15 hw) P14 rfl Fo1 2 rfl rfl (hb hby d5_123) (pc' := 126) rfl ?_
      intro T15 X15 P15
      refine w_iload X15 hx (hb hby d5_126) rfl (pc' := 128) rfl ?_
      refine w_iaload (i := 2) (jn := 0) (v := .int (Int32.ofNat pa1)) X15 hx hZ P15 rfl hk2 (hb hby d5_128) (by decide) rfl (pc' := 129) rfl ?_
      refine w_aloadN X15 hx (hb hby d5_129) rfl rfl (pc' := 130) rfl ?_
      refine w_getf (i := 1) (v := .int (Int32.ofNat pf)) X15 hx hZ hown (wd12 hw) P15 rfl Fo1 1 rfl rfl (hb hby d5_130) (pc' := 133) rfl ?_
      intro T16 X16 P16
      refine w_isub X16 hx (hb hby d5_133) (pc' := 134) rfl ?_
      refine w_eqI (z := (Int32.ofNat (pa1 - pf))) (own_osub (a := pa1) (b := pf) (by omega)) ?_
      refine w_iload X16 hx (hb hby d5_134) rfl (pc' := 136) rfl ?_
      refine w_iastoreL (i := 3) (jn := (pa1 - pf)) X16 hx hZ N1 P16 rfl hk3 (hb hby d5_136) (own_oN (by omega)) (own_llt ilen (by omega)) (pc' := 137) rfl ?_
      intro T17 L2 N2 X17 P17
      replace P17 : HP n0 T17.heap [AC k0 (List.map Value.long pP), o1, AC k2 [.int (Int32.ofNat pa1), .int (Int32.ofNat pa1), .int (Int32.ofNat pa2)], AC k3 (List.map Value.int (pQ.set (pa1 - pf) (0 : Int32)))] := P17
      refine w_iload X17 hx (hb hby d5_137) rfl (pc' := 139) rfl ?_
      refine w_istore (l' := #[.val (.ref (n0 + 1)), .val (.int (0 : Int32)), .val (.int (Int32.ofNat pa0)), .val (.long (pP.getD pa0 0)), .second, .val (.int (1 : Int32)), .val (.int (1 : Int32))]) X17 hx (hb hby d5_139) rfl (pc' := 141) rfl ?_
      refine w_goto X17 hx (hb hby d5_141) (by decide) (pc' := 17) (by decide) ?_
      refine w_iconst (v := (2 : Int32)) X17 hx (hb hby d5_17) rfl (pc' := 18) rfl ?_
      refine w_iload X17 hx (hb hby d5_18) rfl (pc' := 20) rfl ?_
      refine w_imul X17 hx (hb hby d5_20) (pc' := 21) rfl ?_
      refine w_eqI (z := (2 : Int32)) (by decide) ?_
      refine w_iconst (v := (1 : Int32)) X17 hx (hb hby d5_21) rfl (pc' := 22) rfl ?_
      refine w_iadd X17 hx (hb hby d5_22) (pc' := 23) rfl ?_
      refine w_eqI (z := (3 : Int32)) (by decide) ?_
      refine w_aloadN X17 hx (hb hby d5_23) rfl rfl (pc' := 24) rfl ?_
      refine w_getf (i := 1) (v := .ref (n0 + 2)) X17 hx hZ hown (wd15 hw) P17 rfl Fo1 2 rfl rfl (hb hby d5_24) (pc' := 27) rfl ?_
      intro T18 X18 P18
      refine w_arrlen (i := 2) X18 hx hZ P18 rfl hk2 (hb hby d5_27) (z := (3 : Int32)) rfl (pc' := 28) rfl ?_
      refine w_icmp_ge X18 hx (hb hby d5_28) (by decide) (pcY := 144) (by decide) (pc' := 31) rfl (fun h4 => ?_) (fun h4 => absurd h4 (by decide))
      refine w_aloadN X18 hx (hb hby d5_144) rfl rfl (pc' := 145) rfl ?_
      refine w_getf (i := 1) (v := .ref (n0 + 2)) X18 hx hZ hown (wd15 hw) P18 rfl Fo1 2 rfl rfl (hb hby d5_145) (pc' := 148) rfl ?_
      intro T19 X19 P19
      refine w_iload X19 hx (hb hby d5_148) rfl (pc' := 150) rfl ?_
      refine w_iloadN X19 hx (hb hby d5_150) rfl (pc' := 151) rfl ?_
      refine w_iastore (i := 2) (jn := 1) X19 hx hZ N2 P19 rfl hk2 (hb hby d5_151) (by decide) (Nat.le_of_ble_eq_true rfl) (pc' := 152) rfl ?_
      intro T20 L3 N3 X20 P20
      replace P20 : HP n0 T20.heap [AC k0 (List.map Value.long pP), o1, AC k2 [.int (Int32.ofNat pa1), .int (Int32.ofNat pa0), .int (Int32.ofNat pa2)], AC k3 (List.map Value.int (pQ.set (pa1 - pf) (0 : Int32)))] := P20
      refine w_aloadN X20 hx (hb hby d5_152) rfl rfl (pc' := 153) rfl ?_
      refine w_getf (i := 1) (v := .ref (n0 + 3)) X20 hx hZ hown (wd17 hw) P20 rfl Fo1 3 rfl rfl (hb hby d5_153) (pc' := 156) rfl ?_
      intro T21 X21 P21
      refine w_iloadN X21 hx (hb hby d5_156) rfl (pc' := 157) rfl ?_
      refine w_aloadN X21 hx (hb hby d5_157) rfl rfl (pc' := 158) rfl ?_
      refine w_getf (i := 1) (v := .int (Int32.ofNat pf)) X21 hx hZ hown (wd12 hw) P21 rfl Fo1 1 rfl rfl (hb hby d5_158) (pc' := 161) rfl ?_
      intro T22 X22 P22
      refine w_isub X22 hx (hb hby d5_161) (pc' := 162) rfl ?_
      refine w_eqI (z := (Int32.ofNat (pa0 - pf))) (own_osub (a := pa0) (b := pf) (by omega)) ?_
      refine w_iload X22 hx (hb hby d5_162) rfl (pc' := 164) rfl ?_
      refine w_iastoreL (i := 3) (jn := (pa0 - pf)) X22 hx hZ N3 P22 rfl hk3 (hb hby d5_164) (own_oN (by omega)) (own_llt (own_sl ilen) (by omega)) (pc' := 165) rfl ?_
      intro T23 L4 N4 X23 P23
      replace P23 : HP n0 T23.heap [AC k0 (List.map Value.long pP), o1, AC k2 [.int (Int32.ofNat pa1), .int (Int32.ofNat pa0), .int (Int32.ofNat pa2)], AC k3 (List.map Value.int ((pQ.set (pa1 - pf) (0 : Int32)).set (pa0 - pf) (1 : Int32)))] := P23
      have h2p := own_pnl h2
      have h3p := own_plt h3
      exact w_ret_v X23 hx hret hlk (hb hby d5_165) (by decide) (by decide) ⟨rfl, N4, pa1, pa0, pa2, ((pQ.set (pa1 - pf) (0 : Int32)).set (pa0 - pf) (1 : Int32)), ⟨(own_sl (own_sl ilen)), il1, il0, il2, iu1, iu0, iu2, (own_nes in01), in12, in02, (fun c h1 h2 => by have q := icov c h1 h2; omega), (by rw [own_gn (own_sne il0 il1 in01), own_gp (i := pa1 - pf) ilen (by omega)]), (by rw [own_gp (i := pa0 - pf) (own_sl ilen) (by omega)]), (by rw [own_gn (own_sne il0 il2 in02), own_gn (own_sne il1 il2 in12)]; exact iq2)⟩, ⟨by omega, by omega⟩, P23⟩
    · refine w_goto X10 hx (hb hby d5_101) (by decide) (pc' := 144) (by decide) ?_
      refine w_aloadN X10 hx (hb hby d5_144) rfl rfl (pc' := 145) rfl ?_
      refine w_getf (i := 1) (v := .ref (n0 + 2)) X10 hx hZ hown (wd15 hw) P10 rfl Fo1 2 rfl rfl (hb hby d5_145) (pc' := 148) rfl ?_
      intro T24 X24 P24
      refine w_iload X24 hx (hb hby d5_148) rfl (pc' := 150) rfl ?_
      refine w_iloadN X24 hx (hb hby d5_150) rfl (pc' := 151) rfl ?_
      refine w_iastore (i := 2) (jn := 0) X24 hx hZ N0 P24 rfl hk2 (hb hby d5_151) (by decide) (Nat.le_of_ble_eq_true rfl) (pc' := 152) rfl ?_
      intro T25 L5 N5 X25 P25
      replace P25 : HP n0 T25.heap [AC k0 (List.map Value.long pP), o1, AC k2 [.int (Int32.ofNat pa0), .int (Int32.ofNat pa1), .int (Int32.ofNat pa2)], AC k3 (List.map Value.int pQ)] := P25
      refine w_aloadN X25 hx (hb hby d5_152) rfl rfl (pc' := 153) rfl ?_
      refine w_getf (i := 1) (v := .ref (n0 + 3)) X25 hx hZ hown (wd17 hw) P25 rfl Fo1 3 rfl rfl (hb hby d5_153) (pc' := 156) rfl ?_
      intro T26 X26 P26
      refine w_iloadN X26 hx (hb hby d5_156) rfl (pc' := 157) rfl ?_
      refine w_aloadN X26 hx (hb hby d5_157) rfl rfl (pc' := 158) rfl ?_
      refine w_getf (i := 1) (v := .int (Int32.ofNat pf)) X26 hx hZ hown (wd12 hw) P26 rfl Fo1 1 rfl rfl (hb hby d5_158) (pc' := 161) rfl ?_
      intro T27 X27 P27
      refine w_isub X27 hx (hb hby d5_161) (pc' := 162) rfl ?_
      refine w_eqI (z := (Int32.ofNat (pa0 - pf))) (own_osub (a := pa0) (b := pf) (by omega)) ?_
      refine w_iload X27 hx (hb hby d5_162) rfl (pc' := 164) rfl ?_
      refine w_iastoreL (i := 3) (jn := (pa0 - pf)) X27 hx hZ N5 P27 rfl hk3 (hb hby d5_164) (own_oN (by omega)) (own_llt ilen (by omega)) (pc' := 165) rfl ?_
      intro T28 L6 N6 X28 P28
      replace P28 : HP n0 T28.heap [AC k0 (List.map Value.long pP), o1, AC k2 [.int (Int32.ofNat pa0), .int (Int32.ofNat pa1), .int (Int32.ofNat pa2)], AC k3 (List.map Value.int (pQ.set (pa0 - pf) (0 : Int32)))] := P28
      have h2p := own_pnl h2
      have h3p := own_pnl h3
      exact w_ret_v X28 hx hret hlk (hb hby d5_165) (by decide) (by decide) ⟨rfl, N6, pa0, pa1, pa2, (pQ.set (pa0 - pf) (0 : Int32)), ⟨(own_sl ilen), il0, il1, il2, iu0, iu1, iu2, in01, in02, in12, (fun c h1 h2 => by have q := icov c h1 h2; omega), (by rw [own_gp (i := pa0 - pf) ilen (by omega)]), (by rw [own_gn (own_sne il0 il1 in01)]; exact iq1), (by rw [own_gn (own_sne il0 il2 in02)]; exact iq2)⟩, ⟨by omega, by omega⟩, P28⟩
  · refine w_iincE (z := (2 : Int32)) (l' := #[.val (.ref (n0 + 1)), .val (.int (0 : Int32)), .val (.int (Int32.ofNat pa0)), .val (.long (pP.getD pa0 0)), .second, .val (.int (0 : Int32)), .val (.int (2 : Int32))]) X8 hx (hb hby d5_81) rfl (by decide) rfl (pc' := 84) rfl ?_
    refine w_aloadN X8 hx (hb hby d5_84) rfl rfl (pc' := 85) rfl ?_
    refine w_getf (i := 1) (v := .ref (n0 + 0)) X8 hx hZ hown (wd10 hw) P8 rfl Fo1 0 rfl rfl (hb hby d5_85) (pc' := 88) rfl ?_
    intro T29 X29 P29
    refine w_aloadN X29 hx (hb hby d5_88) rfl rfl (pc' := 89) rfl ?_
    refine w_getf (i := 1) (v := .ref (n0 + 2)) X29 hx hZ hown (wd15 hw) P29 rfl Fo1 2 rfl rfl (hb hby d5_89) (pc' := 92) rfl ?_
    intro T30 X30 P30
    refine w_iload X30 hx (hb hby d5_92) rfl (pc' := 94) rfl ?_
    refine w_iaload (i := 2) (jn := 2) (v := .int (Int32.ofNat pa2)) X30 hx hZ P30 rfl hk2 (hb hby d5_94) (by decide) rfl (pc' := 95) rfl ?_
    refine w_laloadL (i := 0) (jn := pa2) X30 hx hZ P30 rfl hk0 (hb hby d5_95) (own_oN (by omega)) (own_llt hpP (by omega)) (pc' := 96) rfl ?_
    refine w_lloadN X30 hx (hb hby d5_96) rfl (pc' := 97) rfl ?_
    refine w_lcmp_lt X30 hx (hb hby d5_97) rfl (hb hby d5_98) (by decide) (pcY := 104) (by decide) (pc' := 101) rfl (fun h5 => ?_) (fun h5 => ?_)
    · refine w_aloadN X30 hx (hb hby d5_104) rfl rfl (pc' := 105) rfl ?_
      refine w_getf (i := 1) (v := .ref (n0 + 2)) X30 hx hZ hown (wd15 hw) P30 rfl Fo1 2 rfl rfl (hb hby d5_105) (pc' := 108) rfl ?_
      intro T31 X31 P31
      refine w_iload X31 hx (hb hby d5_108) rfl (pc' := 110) rfl ?_
      refine w_aloadN X31 hx (hb hby d5_110) rfl rfl (pc' := 111) rfl ?_
      refine w_getf (i := 1) (v := .ref (n0 + 2)) X31 hx hZ hown (wd15 hw) P31 rfl Fo1 2 rfl rfl (hb hby d5_111) (pc' := 114) rfl ?_
      intro T32 X32 P32
      refine w_iload X32 hx (hb hby d5_114) rfl (pc' := 116) rfl ?_
      refine w_iaload (i := 2) (jn := 2) (v := .int (Int32.ofNat pa2)) X32 hx hZ P32 rfl hk2 (hb hby d5_116) (by decide) rfl (pc' := 117) rfl ?_
      refine w_iastore (i := 2) (jn := 0) X32 hx hZ N0 P32 rfl hk2 (hb hby d5_117) (by decide) (Nat.le_of_ble_eq_true rfl) (pc' := 118) rfl ?_
      intro T33 L7 N7 X33 P33
      replace P33 : HP n0 T33.heap [AC k0 (List.map Value.long pP), o1, AC k2 [.int (Int32.ofNat pa2), .int (Int32.ofNat pa1), .int (Int32.ofNat pa2)], AC k3 (List.map Value.int pQ)] := P33
      refine w_aloadN X33 hx (hb hby d5_118) rfl rfl (pc' := 119) rfl ?_
      refine w_getf (i := 1) (v := .ref (n0 + 3)) X33 hx hZ hown (wd17 hw) P33 rfl Fo1 3 rfl rfl (hb hby d5_119) (pc' := 122) rfl ?_
      intro T34 X34 P34
      refine w_aloadN X34 hx (hb hby d5_122) rfl rfl (pc' := 123) rfl ?_
      refine w_getf (i := 1) (v := .ref (n0 + 2)) X34 hx hZ hown (wd15 hw) P34 rfl Fo1 2 rfl rfl (hb hby d5_123) (pc' := 126) rfl ?_
      intro T35 X35 P35
      refine w_iload X35 hx (hb hby d5_126) rfl (pc' := 128) rfl ?_
      refine w_iaload (i := 2) (jn := 0) (v := .int (Int32.ofNat pa2)) X35 hx hZ P35 rfl hk2 (hb hby d5_128) (by decide) rfl (pc' := 129) rfl ?_
      refine w_aloadN X35 hx (hb hby d5_129) rfl rfl (pc' := 130) rfl ?_
      refine w_getf (i := 1) (v := .int (Int32.ofNat pf)) X35 hx hZ hown (wd12 hw) P35 rfl Fo1 1 rfl rfl (hb hby d5_130) (pc' := 133) rfl ?_
      intro T36 X36 P36
      refine w_isub X36 hx (hb hby d5_133) (pc' := 134) rfl ?_
      refine w_eqI (z := (Int32.ofNat (pa2 - pf))) (own_osub (a := pa2) (b := pf) (by omega)) ?_
      refine w_iload X36 hx (hb hby d5_134) rfl (pc' := 136) rfl ?_
      refine w_iastoreL (i := 3) (jn := (pa2 - pf)) X36 hx hZ N7 P36 rfl hk3 (hb hby d5_136) (own_oN (by omega)) (own_llt ilen (by omega)) (pc' := 137) rfl ?_
      intro T37 L8 N8 X37 P37
      replace P37 : HP n0 T37.heap [AC k0 (List.map Value.long pP), o1, AC k2 [.int (Int32.ofNat pa2), .int (Int32.ofNat pa1), .int (Int32.ofNat pa2)], AC k3 (List.map Value.int (pQ.set (pa2 - pf) (0 : Int32)))] := P37
      refine w_iload X37 hx (hb hby d5_137) rfl (pc' := 139) rfl ?_
      refine w_istore (l' := #[.val (.ref (n0 + 1)), .val (.int (0 : Int32)), .val (.int (Int32.ofNat pa0)), .val (.long (pP.getD pa0 0)), .second, .val (.int (2 : Int32)), .val (.int (2 : Int32))]) X37 hx (hb hby d5_139) rfl (pc' := 141) rfl ?_
      refine w_goto X37 hx (hb hby d5_141) (by decide) (pc' := 17) (by decide) ?_
      refine w_iconst (v := (2 : Int32)) X37 hx (hb hby d5_17) rfl (pc' := 18) rfl ?_
      refine w_iload X37 hx (hb hby d5_18) rfl (pc' := 20) rfl ?_
      refine w_imul X37 hx (hb hby d5_20) (pc' := 21) rfl ?_
      refine w_eqI (z := (4 : Int32)) (by decide) ?_
      refine w_iconst (v := (1 : Int32)) X37 hx (hb hby d5_21) rfl (pc' := 22) rfl ?_
      refine w_iadd X37 hx (hb hby d5_22) (pc' := 23) rfl ?_
      refine w_eqI (z := (5 : Int32)) (by decide) ?_
      refine w_aloadN X37 hx (hb hby d5_23) rfl rfl (pc' := 24) rfl ?_
      refine w_getf (i := 1) (v := .ref (n0 + 2)) X37 hx hZ hown (wd15 hw) P37 rfl Fo1 2 rfl rfl (hb hby d5_24) (pc' := 27) rfl ?_
      intro T38 X38 P38
      refine w_arrlen (i := 2) X38 hx hZ P38 rfl hk2 (hb hby d5_27) (z := (3 : Int32)) rfl (pc' := 28) rfl ?_
      refine w_icmp_ge X38 hx (hb hby d5_28) (by decide) (pcY := 144) (by decide) (pc' := 31) rfl (fun h6 => ?_) (fun h6 => absurd h6 (by decide))
      refine w_aloadN X38 hx (hb hby d5_144) rfl rfl (pc' := 145) rfl ?_
      refine w_getf (i := 1) (v := .ref (n0 + 2)) X38 hx hZ hown (wd15 hw) P38 rfl Fo1 2 rfl rfl (hb hby d5_145) (pc' := 148) rfl ?_
      intro T39 X39 P39
      refine w_iload X39 hx (hb hby d5_148) rfl (pc' := 150) rfl ?_
      refine w_iloadN X39 hx (hb hby d5_150) rfl (pc' := 151) rfl ?_
      refine w_iastore (i := 2) (jn := 2) X39 hx hZ N8 P39 rfl hk2 (hb hby d5_151) (by decide) (Nat.le_of_ble_eq_true rfl) (pc' := 152) rfl ?_
      intro T40 L9 N9 X40 P40
      replace P40 : HP n0 T40.heap [AC k0 (List.map Value.long pP), o1, AC k2 [.int (Int32.ofNat pa2), .int (Int32.ofNat pa1), .int (Int32.ofNat pa0)], AC k3 (List.map Value.int (pQ.set (pa2 - pf) (0 : Int32)))] := P40
      refine w_aloadN X40 hx (hb hby d5_152) rfl rfl (pc' := 153) rfl ?_
      refine w_getf (i := 1) (v := .ref (n0 + 3)) X40 hx hZ hown (wd17 hw) P40 rfl Fo1 3 rfl rfl (hb hby d5_153) (pc' := 156) rfl ?_
      intro T41 X41 P41
      refine w_iloadN X41 hx (hb hby d5_156) rfl (pc' := 157) rfl ?_
      refine w_aloadN X41 hx (hb hby d5_157) rfl rfl (pc' := 158) rfl ?_
      refine w_getf (i := 1) (v := .int (Int32.ofNat pf)) X41 hx hZ hown (wd12 hw) P41 rfl Fo1 1 rfl rfl (hb hby d5_158) (pc' := 161) rfl ?_
      intro T42 X42 P42
      refine w_isub X42 hx (hb hby d5_161) (pc' := 162) rfl ?_
      refine w_eqI (z := (Int32.ofNat (pa0 - pf))) (own_osub (a := pa0) (b := pf) (by omega)) ?_
      refine w_iload X42 hx (hb hby d5_162) rfl (pc' := 164) rfl ?_
      refine w_iastoreL (i := 3) (jn := (pa0 - pf)) X42 hx hZ N9 P42 rfl hk3 (hb hby d5_164) (own_oN (by omega)) (own_llt (own_sl ilen) (by omega)) (pc' := 165) rfl ?_
      intro T43 L10 N10 X43 P43
      replace P43 : HP n0 T43.heap [AC k0 (List.map Value.long pP), o1, AC k2 [.int (Int32.ofNat pa2), .int (Int32.ofNat pa1), .int (Int32.ofNat pa0)], AC k3 (List.map Value.int ((pQ.set (pa2 - pf) (0 : Int32)).set (pa0 - pf) (2 : Int32)))] := P43
      have h2p := own_plt h2
      have h5p := own_plt h5
      exact w_ret_v X43 hx hret hlk (hb hby d5_165) (by decide) (by decide) ⟨rfl, N10, pa2, pa1, pa0, ((pQ.set (pa2 - pf) (0 : Int32)).set (pa0 - pf) (2 : Int32)), ⟨(own_sl (own_sl ilen)), il2, il1, il0, iu2, iu1, iu0, (own_nes in12), (own_nes in02), (own_nes in01), (fun c h1 h2 => by have q := icov c h1 h2; omega), (by rw [own_gn (own_sne il0 il2 in02), own_gp (i := pa2 - pf) ilen (by omega)]), (by rw [own_gn (own_sne il0 il1 in01), own_gn (own_sne il2 il1 (own_nes in12))]; exact iq1), (by rw [own_gp (i := pa0 - pf) (own_sl ilen) (by omega)])⟩, ⟨by omega, by omega⟩, P43⟩
    · refine w_goto X30 hx (hb hby d5_101) (by decide) (pc' := 144) (by decide) ?_
      refine w_aloadN X30 hx (hb hby d5_144) rfl rfl (pc' := 145) rfl ?_
      refine w_getf (i := 1) (v := .ref (n0 + 2)) X30 hx hZ hown (wd15 hw) P30 rfl Fo1 2 rfl rfl (hb hby d5_145) (pc' := 148) rfl ?_
      intro T44 X44 P44
      refine w_iload X44 hx (hb hby d5_148) rfl (pc' := 150) rfl ?_
      refine w_iloadN X44 hx (hb hby d5_150) rfl (pc' := 151) rfl ?_
      refine w_iastore (i := 2) (jn := 0) X44 hx hZ N0 P44 rfl hk2 (hb hby d5_151) (by decide) (Nat.le_of_ble_eq_true rfl) (pc' := 152) rfl ?_
      intro T45 L11 N11 X45 P45
      replace P45 : HP n0 T45.heap [AC k0 (List.map Value.long pP), o1, AC k2 [.int (Int32.ofNat pa0), .int (Int32.ofNat pa1), .int (Int32.ofNat pa2)], AC k3 (List.map Value.int pQ)] := P45
      refine w_aloadN X45 hx (hb hby d5_152) rfl rfl (pc' := 153) rfl ?_
      refine w_getf (i := 1) (v := .ref (n0 + 3)) X45 hx hZ hown (wd17 hw) P45 rfl Fo1 3 rfl rfl (hb hby d5_153) (pc' := 156) rfl ?_
      intro T46 X46 P46
      refine w_iloadN X46 hx (hb hby d5_156) rfl (pc' := 157) rfl ?_
      refine w_aloadN X46 hx (hb hby d5_157) rfl rfl (pc' := 158) rfl ?_
      refine w_getf (i := 1) (v := .int (Int32.ofNat pf)) X46 hx hZ hown (wd12 hw) P46 rfl Fo1 1 rfl rfl (hb hby d5_158) (pc' := 161) rfl ?_
      intro T47 X47 P47
      refine w_isub X47 hx (hb hby d5_161) (pc' := 162) rfl ?_
      refine w_eqI (z := (Int32.ofNat (pa0 - pf))) (own_osub (a := pa0) (b := pf) (by omega)) ?_
      refine w_iload X47 hx (hb hby d5_162) rfl (pc' := 164) rfl ?_
      refine w_iastoreL (i := 3) (jn := (pa0 - pf)) X47 hx hZ N11 P47 rfl hk3 (hb hby d5_164) (own_oN (by omega)) (own_llt ilen (by omega)) (pc' := 165) rfl ?_
      intro T48 L12 N12 X48 P48
      replace P48 : HP n0 T48.heap [AC k0 (List.map Value.long pP), o1, AC k2 [.int (Int32.ofNat pa0), .int (Int32.ofNat pa1), .int (Int32.ofNat pa2)], AC k3 (List.map Value.int (pQ.set (pa0 - pf) (0 : Int32)))] := P48
      have h2p := own_plt h2
      have h5p := own_pnl h5
      exact w_ret_v X48 hx hret hlk (hb hby d5_165) (by decide) (by decide) ⟨rfl, N12, pa0, pa1, pa2, (pQ.set (pa0 - pf) (0 : Int32)), ⟨(own_sl ilen), il0, il1, il2, iu0, iu1, iu2, in01, in02, in12, (fun c h1 h2 => by have q := icov c h1 h2; omega), (by rw [own_gp (i := pa0 - pf) ilen (by omega)]), (by rw [own_gn (own_sne il0 il1 in01)]; exact iq1), (by rw [own_gn (own_sne il0 il2 in02)]; exact iq2)⟩, ⟨by omega, by omega⟩, P48⟩
theorem ef_sd31 (m : MethodId) (n0 : Nat) (pf : Nat) (pa0 : Nat) (pa1 : Nat) (pa2 : Nat) : entryFrame m #[.ref (n0 + 1), .int (1 : Int32)] 7 = mkF m 0 #[.val (.ref (n0 + 1)), .val (.int (1 : Int32)), .unset, .unset, .unset, .unset, .unset] [] := by first | (simp [entryFrame, mkF, argsToLocals, Value.category]; done) | rfl
def Q_sd31 (Z : State) (n0 : Nat) (k0 : ClassId) (o1 : Jvm.Cell) (k2 : ClassId) (k3 : ClassId) (pP : List Int64) (pf : Nat) (pa0 : Nat) (pa1 : Nat) (pa2 : Nat) (pQ : List Int32) (v : Option Value) (h : Heap) (L : List Loc) : Prop := v = none ∧ Fr n0 L ∧ ∃ (b0 b1 b2 : Nat) (Q1 : List Int32), own_I3 pf b0 b1 b2 Q1 ∧ own_O3 pP b0 b1 b2 ∧ HP n0 h [AC k0 (List.map Value.long pP), o1, AC k2 [Value.int (Int32.ofNat b0), Value.int (Int32.ofNat b1), Value.int (Int32.ofNat b2)], AC k3 (List.map Value.int Q1)]
set_option maxRecDepth 65536 in
set_option maxHeartbeats 40000000 in
theorem rm_sd31 (l : Launch) (Z : State) (a0 : Array Value) (hw : ∀ d ∈ tables_1, d.before a0 Z = true) (ws : List Jvm.Cond) (n0 : Nat) (k0 : ClassId) (o1 : Jvm.Cell) (k2 : ClassId) (k3 : ClassId) (pP : List Int64) (pf : Nat) (pa0 : Nat) (pa1 : Nat) (pa2 : Nat) (pQ : List Int32) (h0 : Heap) (P0 : HP n0 h0 [AC k0 (List.map Value.long pP), o1, AC k2 [.int (Int32.ofNat pa0), .int (Int32.ofNat pa1), .int (Int32.ofNat pa2)], AC k3 (List.map Value.int pQ)]) (hk0 : IsA Z k0 .long) (hk2 : IsA Z k2 .int) (hk3 : IsA Z k3 .int) (Fo1 : ObjF Z o1 "com/example/bidcrier/bidcrier/CheapestColumns" fl_C0 [.ref (n0 + 0), .int (Int32.ofNat pf), .ref (n0 + 2), .ref (n0 + 3)]) (hpP : pP.length = pf + 3) (hpf : pf < 2) (hI : own_I3 pf pa0 pa1 pa2 pQ) (ho01 : own_p pP pa0 ≤ own_p pP pa1) (ho02 : own_p pP pa0 ≤ own_p pP pa2) :
    MetFree l (⟨"com/example/bidcrier/bidcrier/CheapestColumns", "siftDown", "(I)V"⟩ : MethodName) (head1 (Jvm.Cond.code (⟨"com/example/bidcrier/bidcrier/CheapestColumns", "siftDown", "(I)V"⟩ : MethodName) prog_7_method_6_code 7 none :: ws) ({ frames := 0, cells := 0, slots := 0, locals := 0 } : Room)) (fun aa U => aa = #[.ref (n0 + 1), .int (1 : Int32)] ∧ Z.Warmed39 U.vm ∧ U.heap = h0) (fun _ _ _ _ _ => True) (fun _ U o U' => ∃ v L, o = .returned v ∧ Q_sd31 Z n0 k0 o1 k2 k3 pP pf pa0 pa1 pa2 pQ v U'.heap L ∧ FrameEnd U o U' L ({ frames := 0, cells := 0, slots := 0, locals := 0 } : Room).cells ({ frames := 0, cells := 0, slots := 0, locals := 0 } : Room).slots) := by
  refine own_body pn5 ?_
  intro p e s m below meth c T0 hx hby hml hret hlk hown hnm hZ X0 e0
  subst e0
  have N0 : Fr n0 [] := Fr.nil n0
  obtain ⟨ilen, il0, il1, il2, iu0, iu1, iu2, in01, in02, in12, icov, iq0, iq1, iq2⟩ := hI
  refine own_cast (ef_sd31 m n0 pf pa0 pa1 pa2) ?_
  refine w_aloadN X0 hx (hb hby d5_0) rfl rfl (pc' := 1) rfl ?_
  refine w_getf (i := 1) (v := .ref (n0 + 2)) X0 hx hZ hown (wd15 hw) P0 rfl Fo1 2 rfl rfl (hb hby d5_1) (pc' := 4) rfl ?_
  intro T1 X1 P1
  refine w_iloadN X1 hx (hb hby d5_4) rfl (pc' := 5) rfl ?_
  refine w_iaload (i := 2) (jn := 1) (v := .int (Int32.ofNat pa1)) X1 hx hZ P1 rfl hk2 (hb hby d5_5) (by decide) rfl (pc' := 6) rfl ?_
  refine w_istoreN (l' := #[.val (.ref (n0 + 1)), .val (.int (1 : Int32)), .val (.int (Int32.ofNat pa1)), .unset, .unset, .unset, .unset]) X1 hx (hb hby d5_6) rfl (pc' := 7) rfl ?_
  refine w_aloadN X1 hx (hb hby d5_7) rfl rfl (pc' := 8) rfl ?_
  refine w_getf (i := 1) (v := .ref (n0 + 0)) X1 hx hZ hown (wd10 hw) P1 rfl Fo1 0 rfl rfl (hb hby d5_8) (pc' := 11) rfl ?_
  intro T2 X2 P2
  refine w_iloadN X2 hx (hb hby d5_11) rfl (pc' := 12) rfl ?_
  refine w_laloadL (i := 0) (jn := pa1) X2 hx hZ P2 rfl hk0 (hb hby d5_12) (own_oN (by omega)) (own_llt hpP (by omega)) (pc' := 13) rfl ?_
  refine w_lstoreN (l' := #[.val (.ref (n0 + 1)), .val (.int (1 : Int32)), .val (.int (Int32.ofNat pa1)), .val (.long (pP.getD pa1 0)), .second, .unset, .unset]) X2 hx (hb hby d5_13) rfl (pc' := 14) rfl ?_
  refine w_iloadN X2 hx (hb hby d5_14) rfl (pc' := 15) rfl ?_
  refine w_istore (l' := #[.val (.ref (n0 + 1)), .val (.int (1 : Int32)), .val (.int (Int32.ofNat pa1)), .val (.long (pP.getD pa1 0)), .second, .val (.int (1 : Int32)), .unset]) X2 hx (hb hby d5_15) rfl (pc' := 17) rfl ?_
  refine w_iconst (v := (2 : Int32)) X2 hx (hb hby d5_17) rfl (pc' := 18) rfl ?_
  refine w_iload X2 hx (hb hby d5_18) rfl (pc' := 20) rfl ?_
  refine w_imul X2 hx (hb hby d5_20) (pc' := 21) rfl ?_
  refine w_eqI (z := (2 : Int32)) (by decide) ?_
  refine w_iconst (v := (1 : Int32)) X2 hx (hb hby d5_21) rfl (pc' := 22) rfl ?_
  refine w_iadd X2 hx (hb hby d5_22) (pc' := 23) rfl ?_
  refine w_eqI (z := (3 : Int32)) (by decide) ?_
  refine w_aloadN X2 hx (hb hby d5_23) rfl rfl (pc' := 24) rfl ?_
  refine w_getf (i := 1) (v := .ref (n0 + 2)) X2 hx hZ hown (wd15 hw) P2 rfl Fo1 2 rfl rfl (hb hby d5_24) (pc' := 27) rfl ?_
  intro T3 X3 P3
  refine w_arrlen (i := 2) X3 hx hZ P3 rfl hk2 (hb hby d5_27) (z := (3 : Int32)) rfl (pc' := 28) rfl ?_
  refine w_icmp_ge X3 hx (hb hby d5_28) (by decide) (pcY := 144) (by decide) (pc' := 31) rfl (fun h0 => ?_) (fun h0 => absurd h0 (by decide))
  refine w_aloadN X3 hx (hb hby d5_144) rfl rfl (pc' := 145) rfl ?_
  refine w_getf (i := 1) (v := .ref (n0 + 2)) X3 hx hZ hown (wd15 hw) P3 rfl Fo1 2 rfl rfl (hb hby d5_145) (pc' := 148) rfl ?_
  intro T4 X4 P4
  refine w_iload X4 hx (hb hby d5_148) rfl (pc' := 150) rfl ?_
  refine w_iloadN X4 hx (hb hby d5_150) rfl (pc' := 151) rfl ?_
  refine w_iastore (i := 2) (jn := 1) X4 hx hZ N0 P4 rfl hk2 (hb hby d5_151) (by decide) (Nat.le_of_ble_eq_true rfl) (pc' := 152) rfl ?_
  intro T5 L1 N1 X5 P5
  replace P5 : HP n0 T5.heap [AC k0 (List.map Value.long pP), o1, AC k2 [.int (Int32.ofNat pa0), .int (Int32.ofNat pa1), .int (Int32.ofNat pa2)], AC k3 (List.map Value.int pQ)] := P5
  refine w_aloadN X5 hx (hb hby d5_152) rfl rfl (pc' := 153) rfl ?_
  refine w_getf (i := 1) (v := .ref (n0 + 3)) X5 hx hZ hown (wd17 hw) P5 rfl Fo1 3 rfl rfl (hb hby d5_153) (pc' := 156) rfl ?_
  intro T6 X6 P6
  refine w_iloadN X6 hx (hb hby d5_156) rfl (pc' := 157) rfl ?_
  refine w_aloadN X6 hx (hb hby d5_157) rfl rfl (pc' := 158) rfl ?_
  refine w_getf (i := 1) (v := .int (Int32.ofNat pf)) X6 hx hZ hown (wd12 hw) P6 rfl Fo1 1 rfl rfl (hb hby d5_158) (pc' := 161) rfl ?_
  intro T7 X7 P7
  refine w_isub X7 hx (hb hby d5_161) (pc' := 162) rfl ?_
  refine w_eqI (z := (Int32.ofNat (pa1 - pf))) (own_osub (a := pa1) (b := pf) (by omega)) ?_
  refine w_iload X7 hx (hb hby d5_162) rfl (pc' := 164) rfl ?_
  refine w_iastoreL (i := 3) (jn := (pa1 - pf)) X7 hx hZ N1 P7 rfl hk3 (hb hby d5_164) (own_oN (by omega)) (own_llt ilen (by omega)) (pc' := 165) rfl ?_
  intro T8 L2 N2 X8 P8
  replace P8 : HP n0 T8.heap [AC k0 (List.map Value.long pP), o1, AC k2 [.int (Int32.ofNat pa0), .int (Int32.ofNat pa1), .int (Int32.ofNat pa2)], AC k3 (List.map Value.int (pQ.set (pa1 - pf) (1 : Int32)))] := P8
  exact w_ret_v X8 hx hret hlk (hb hby d5_165) (by decide) (by decide) ⟨rfl, N2, pa0, pa1, pa2, (pQ.set (pa1 - pf) (1 : Int32)), ⟨(own_sl ilen), il0, il1, il2, iu0, iu1, iu2, in01, in02, in12, (fun c h1 h2 => by have q := icov c h1 h2; omega), (by rw [own_gn (own_sne il1 il0 (own_nes in01))]; exact iq0), (by rw [own_gp (i := pa1 - pf) ilen (by omega)]), (by rw [own_gn (own_sne il1 il2 in12)]; exact iq2)⟩, ⟨by omega, by omega⟩, P8⟩
theorem ef_sd32 (m : MethodId) (n0 : Nat) (pf : Nat) (pa0 : Nat) (pa1 : Nat) (pa2 : Nat) : entryFrame m #[.ref (n0 + 1), .int (2 : Int32)] 7 = mkF m 0 #[.val (.ref (n0 + 1)), .val (.int (2 : Int32)), .unset, .unset, .unset, .unset, .unset] [] := by first | (simp [entryFrame, mkF, argsToLocals, Value.category]; done) | rfl
def Q_sd32 (Z : State) (n0 : Nat) (k0 : ClassId) (o1 : Jvm.Cell) (k2 : ClassId) (k3 : ClassId) (pP : List Int64) (pf : Nat) (pa0 : Nat) (pa1 : Nat) (pa2 : Nat) (pQ : List Int32) (v : Option Value) (h : Heap) (L : List Loc) : Prop := v = none ∧ Fr n0 L ∧ ∃ (b0 b1 b2 : Nat) (Q1 : List Int32), own_I3 pf b0 b1 b2 Q1 ∧ own_O3 pP b0 b1 b2 ∧ HP n0 h [AC k0 (List.map Value.long pP), o1, AC k2 [Value.int (Int32.ofNat b0), Value.int (Int32.ofNat b1), Value.int (Int32.ofNat b2)], AC k3 (List.map Value.int Q1)]
set_option maxRecDepth 65536 in
set_option maxHeartbeats 40000000 in
theorem rm_sd32 (l : Launch) (Z : State) (a0 : Array Value) (hw : ∀ d ∈ tables_1, d.before a0 Z = true) (ws : List Jvm.Cond) (n0 : Nat) (k0 : ClassId) (o1 : Jvm.Cell) (k2 : ClassId) (k3 : ClassId) (pP : List Int64) (pf : Nat) (pa0 : Nat) (pa1 : Nat) (pa2 : Nat) (pQ : List Int32) (h0 : Heap) (P0 : HP n0 h0 [AC k0 (List.map Value.long pP), o1, AC k2 [.int (Int32.ofNat pa0), .int (Int32.ofNat pa1), .int (Int32.ofNat pa2)], AC k3 (List.map Value.int pQ)]) (hk0 : IsA Z k0 .long) (hk2 : IsA Z k2 .int) (hk3 : IsA Z k3 .int) (Fo1 : ObjF Z o1 "com/example/bidcrier/bidcrier/CheapestColumns" fl_C0 [.ref (n0 + 0), .int (Int32.ofNat pf), .ref (n0 + 2), .ref (n0 + 3)]) (hpP : pP.length = pf + 3) (hpf : pf < 2) (hI : own_I3 pf pa0 pa1 pa2 pQ) (ho01 : own_p pP pa0 ≤ own_p pP pa1) (ho02 : own_p pP pa0 ≤ own_p pP pa2) :
    MetFree l (⟨"com/example/bidcrier/bidcrier/CheapestColumns", "siftDown", "(I)V"⟩ : MethodName) (head1 (Jvm.Cond.code (⟨"com/example/bidcrier/bidcrier/CheapestColumns", "siftDown", "(I)V"⟩ : MethodName) prog_7_method_6_code 7 none :: ws) ({ frames := 0, cells := 0, slots := 0, locals := 0 } : Room)) (fun aa U => aa = #[.ref (n0 + 1), .int (2 : Int32)] ∧ Z.Warmed39 U.vm ∧ U.heap = h0) (fun _ _ _ _ _ => True) (fun _ U o U' => ∃ v L, o = .returned v ∧ Q_sd32 Z n0 k0 o1 k2 k3 pP pf pa0 pa1 pa2 pQ v U'.heap L ∧ FrameEnd U o U' L ({ frames := 0, cells := 0, slots := 0, locals := 0 } : Room).cells ({ frames := 0, cells := 0, slots := 0, locals := 0 } : Room).slots) := by
  refine own_body pn5 ?_
  intro p e s m below meth c T0 hx hby hml hret hlk hown hnm hZ X0 e0
  subst e0
  have N0 : Fr n0 [] := Fr.nil n0
  obtain ⟨ilen, il0, il1, il2, iu0, iu1, iu2, in01, in02, in12, icov, iq0, iq1, iq2⟩ := hI
  refine own_cast (ef_sd32 m n0 pf pa0 pa1 pa2) ?_
  refine w_aloadN X0 hx (hb hby d5_0) rfl rfl (pc' := 1) rfl ?_
  refine w_getf (i := 1) (v := .ref (n0 + 2)) X0 hx hZ hown (wd15 hw) P0 rfl Fo1 2 rfl rfl (hb hby d5_1) (pc' := 4) rfl ?_
  intro T1 X1 P1
  refine w_iloadN X1 hx (hb hby d5_4) rfl (pc' := 5) rfl ?_
  refine w_iaload (i := 2) (jn := 2) (v := .int (Int32.ofNat pa2)) X1 hx hZ P1 rfl hk2 (hb hby d5_5) (by decide) rfl (pc' := 6) rfl ?_
  refine w_istoreN (l' := #[.val (.ref (n0 + 1)), .val (.int (2 : Int32)), .val (.int (Int32.ofNat pa2)), .unset, .unset, .unset, .unset]) X1 hx (hb hby d5_6) rfl (pc' := 7) rfl ?_
  refine w_aloadN X1 hx (hb hby d5_7) rfl rfl (pc' := 8) rfl ?_
  refine w_getf (i := 1) (v := .ref (n0 + 0)) X1 hx hZ hown (wd10 hw) P1 rfl Fo1 0 rfl rfl (hb hby d5_8) (pc' := 11) rfl ?_
  intro T2 X2 P2
  refine w_iloadN X2 hx (hb hby d5_11) rfl (pc' := 12) rfl ?_
  refine w_laloadL (i := 0) (jn := pa2) X2 hx hZ P2 rfl hk0 (hb hby d5_12) (own_oN (by omega)) (own_llt hpP (by omega)) (pc' := 13) rfl ?_
  refine w_lstoreN (l' := #[.val (.ref (n0 + 1)), .val (.int (2 : Int32)), .val (.int (Int32.ofNat pa2)), .val (.long (pP.getD pa2 0)), .second, .unset, .unset]) X2 hx (hb hby d5_13) rfl (pc' := 14) rfl ?_
  refine w_iloadN X2 hx (hb hby d5_14) rfl (pc' := 15) rfl ?_
  refine w_istore (l' := #[.val (.ref (n0 + 1)), .val (.int (2 : Int32)), .val (.int (Int32.ofNat pa2)), .val (.long (pP.getD pa2 0)), .second, .val (.int (2 : Int32)), .unset]) X2 hx (hb hby d5_15) rfl (pc' := 17) rfl ?_
  refine w_iconst (v := (2 : Int32)) X2 hx (hb hby d5_17) rfl (pc' := 18) rfl ?_
  refine w_iload X2 hx (hb hby d5_18) rfl (pc' := 20) rfl ?_
  refine w_imul X2 hx (hb hby d5_20) (pc' := 21) rfl ?_
  refine w_eqI (z := (4 : Int32)) (by decide) ?_
  refine w_iconst (v := (1 : Int32)) X2 hx (hb hby d5_21) rfl (pc' := 22) rfl ?_
  refine w_iadd X2 hx (hb hby d5_22) (pc' := 23) rfl ?_
  refine w_eqI (z := (5 : Int32)) (by decide) ?_
  refine w_aloadN X2 hx (hb hby d5_23) rfl rfl (pc' := 24) rfl ?_
  refine w_getf (i := 1) (v := .ref (n0 + 2)) X2 hx hZ hown (wd15 hw) P2 rfl Fo1 2 rfl rfl (hb hby d5_24) (pc' := 27) rfl ?_
  intro T3 X3 P3
  refine w_arrlen (i := 2) X3 hx hZ P3 rfl hk2 (hb hby d5_27) (z := (3 : Int32)) rfl (pc' := 28) rfl ?_
  refine w_icmp_ge X3 hx (hb hby d5_28) (by decide) (pcY := 144) (by decide) (pc' := 31) rfl (fun h0 => ?_) (fun h0 => absurd h0 (by decide))
  refine w_aloadN X3 hx (hb hby d5_144) rfl rfl (pc' := 145) rfl ?_
  refine w_getf (i := 1) (v := .ref (n0 + 2)) X3 hx hZ hown (wd15 hw) P3 rfl Fo1 2 rfl rfl (hb hby d5_145) (pc' := 148) rfl ?_
  intro T4 X4 P4
  refine w_iload X4 hx (hb hby d5_148) rfl (pc' := 150) rfl ?_
  refine w_iloadN X4 hx (hb hby d5_150) rfl (pc' := 151) rfl ?_
  refine w_iastore (i := 2) (jn := 2) X4 hx hZ N0 P4 rfl hk2 (hb hby d5_151) (by decide) (Nat.le_of_ble_eq_true rfl) (pc' := 152) rfl ?_
  intro T5 L1 N1 X5 P5
  replace P5 : HP n0 T5.heap [AC k0 (List.map Value.long pP), o1, AC k2 [.int (Int32.ofNat pa0), .int (Int32.ofNat pa1), .int (Int32.ofNat pa2)], AC k3 (List.map Value.int pQ)] := P5
  refine w_aloadN X5 hx (hb hby d5_152) rfl rfl (pc' := 153) rfl ?_
  refine w_getf (i := 1) (v := .ref (n0 + 3)) X5 hx hZ hown (wd17 hw) P5 rfl Fo1 3 rfl rfl (hb hby d5_153) (pc' := 156) rfl ?_
  intro T6 X6 P6
  refine w_iloadN X6 hx (hb hby d5_156) rfl (pc' := 157) rfl ?_
  refine w_aloadN X6 hx (hb hby d5_157) rfl rfl (pc' := 158) rfl ?_
  refine w_getf (i := 1) (v := .int (Int32.ofNat pf)) X6 hx hZ hown (wd12 hw) P6 rfl Fo1 1 rfl rfl (hb hby d5_158) (pc' := 161) rfl ?_
  intro T7 X7 P7
  refine w_isub X7 hx (hb hby d5_161) (pc' := 162) rfl ?_
  refine w_eqI (z := (Int32.ofNat (pa2 - pf))) (own_osub (a := pa2) (b := pf) (by omega)) ?_
  refine w_iload X7 hx (hb hby d5_162) rfl (pc' := 164) rfl ?_
  refine w_iastoreL (i := 3) (jn := (pa2 - pf)) X7 hx hZ N1 P7 rfl hk3 (hb hby d5_164) (own_oN (by omega)) (own_llt ilen (by omega)) (pc' := 165) rfl ?_
  intro T8 L2 N2 X8 P8
  replace P8 : HP n0 T8.heap [AC k0 (List.map Value.long pP), o1, AC k2 [.int (Int32.ofNat pa0), .int (Int32.ofNat pa1), .int (Int32.ofNat pa2)], AC k3 (List.map Value.int (pQ.set (pa2 - pf) (2 : Int32)))] := P8
  exact w_ret_v X8 hx hret hlk (hb hby d5_165) (by decide) (by decide) ⟨rfl, N2, pa0, pa1, pa2, (pQ.set (pa2 - pf) (2 : Int32)), ⟨(own_sl ilen), il0, il1, il2, iu0, iu1, iu2, in01, in02, in12, (fun c h1 h2 => by have q := icov c h1 h2; omega), (by rw [own_gn (own_sne il2 il0 (own_nes in02))]; exact iq0), (by rw [own_gn (own_sne il2 il1 (own_nes in12))]; exact iq1), (by rw [own_gp (i := pa2 - pf) ilen (by omega)])⟩, ⟨by omega, by omega⟩, P8⟩
theorem ef_sd40 (m : MethodId) (n0 : Nat) (pf : Nat) (pa0 : Nat) (pa1 : Nat) (pa2 : Nat) (pa3 : Nat) : entryFrame m #[.ref (n0 + 1), .int (0 : Int32)] 7 = mkF m 0 #[.val (.ref (n0 + 1)), .val (.int (0 : Int32)), .unset, .unset, .unset, .unset, .unset] [] := by first | (simp [entryFrame, mkF, argsToLocals, Value.category]; done) | rfl
def Q_sd40 (Z : State) (n0 : Nat) (k0 : ClassId) (o1 : Jvm.Cell) (k2 : ClassId) (k3 : ClassId) (pP : List Int64) (pf : Nat) (pa0 : Nat) (pa1 : Nat) (pa2 : Nat) (pa3 : Nat) (pQ : List Int32) (v : Option Value) (h : Heap) (L : List Loc) : Prop := v = none ∧ Fr n0 L ∧ ∃ (b0 b1 b2 b3 : Nat) (Q1 : List Int32), own_I4 pf b0 b1 b2 b3 Q1 ∧ own_O4 pP b0 b1 b2 b3 ∧ HP n0 h [AC k0 (List.map Value.long pP), o1, AC k2 [Value.int (Int32.ofNat b0), Value.int (Int32.ofNat b1), Value.int (Int32.ofNat b2), Value.int (Int32.ofNat b3)], AC k3 (List.map Value.int Q1)]
set_option maxRecDepth 65536 in
set_option maxHeartbeats 40000000 in
theorem rm_sd40 (l : Launch) (Z : State) (a0 : Array Value) (hw : ∀ d ∈ tables_1, d.before a0 Z = true) (ws : List Jvm.Cond) (n0 : Nat) (k0 : ClassId) (o1 : Jvm.Cell) (k2 : ClassId) (k3 : ClassId) (pP : List Int64) (pf : Nat) (pa0 : Nat) (pa1 : Nat) (pa2 : Nat) (pa3 : Nat) (pQ : List Int32) (h0 : Heap) (P0 : HP n0 h0 [AC k0 (List.map Value.long pP), o1, AC k2 [.int (Int32.ofNat pa0), .int (Int32.ofNat pa1), .int (Int32.ofNat pa2), .int (Int32.ofNat pa3)], AC k3 (List.map Value.int pQ)]) (hk0 : IsA Z k0 .long) (hk2 : IsA Z k2 .int) (hk3 : IsA Z k3 .int) (Fo1 : ObjF Z o1 "com/example/bidcrier/bidcrier/CheapestColumns" fl_C0 [.ref (n0 + 0), .int (Int32.ofNat pf), .ref (n0 + 2), .ref (n0 + 3)]) (hpP : pP.length = pf + 4) (hpf : pf < 2) (hI : own_I4 pf pa0 pa1 pa2 pa3 pQ) (ho13 : own_p pP pa1 ≤ own_p pP pa3) :
    MetFree l (⟨"com/example/bidcrier/bidcrier/CheapestColumns", "siftDown", "(I)V"⟩ : MethodName) (head1 (Jvm.Cond.code (⟨"com/example/bidcrier/bidcrier/CheapestColumns", "siftDown", "(I)V"⟩ : MethodName) prog_7_method_6_code 7 none :: ws) ({ frames := 0, cells := 0, slots := 0, locals := 0 } : Room)) (fun aa U => aa = #[.ref (n0 + 1), .int (0 : Int32)] ∧ Z.Warmed39 U.vm ∧ U.heap = h0) (fun _ _ _ _ _ => True) (fun _ U o U' => ∃ v L, o = .returned v ∧ Q_sd40 Z n0 k0 o1 k2 k3 pP pf pa0 pa1 pa2 pa3 pQ v U'.heap L ∧ FrameEnd U o U' L ({ frames := 0, cells := 0, slots := 0, locals := 0 } : Room).cells ({ frames := 0, cells := 0, slots := 0, locals := 0 } : Room).slots) := by
  refine own_body pn5 ?_
  intro p e s m below meth c T0 hx hby hml hret hlk hown hnm hZ X0 e0
  subst e0
  have N0 : Fr n0 [] := Fr.nil n0
  obtain ⟨ilen, il0, il1, il2, il3, iu0, iu1, iu2, iu3, in01, in02, in03, in12, in13, in23, icov, iq0, iq1, iq2, iq3⟩ := hI
  refine own_cast (ef_sd40 m n0 pf pa0 pa1 pa2 pa3) ?_
  refine w_aloadN X0 hx (hb hby d5_0) rfl rfl (pc' := 1) rfl ?_
  refine w_getf (i := 1) (v := .ref (n0 + 2)) X0 hx hZ hown (wd15 hw) P0 rfl Fo1 2 rfl rfl (hb hby d5_1) (pc' := 4) rfl ?_
  intro T1 X1 P1
  refine w_iloadN X1 hx (hb hby d5_4) rfl (pc' := 5) rfl ?_
  refine w_iaload (i := 2) (jn := 0) (v := .int (Int32.ofNat pa0)) X1 hx hZ P1 rfl hk2 (hb hby d5_5) (by decide) rfl (pc' := 6) rfl ?_
  refine w_istoreN (l' := #[.val (.ref (n0 + 1)), .val (.int (0 : Int32)), .val (.int (Int32.ofNat pa0)), .unset, .unset, .unset, .unset]) X1 hx (hb hby d5_6) rfl (pc' := 7) rfl ?_
  refine w_aloadN X1 hx (hb hby d5_7) rfl rfl (pc' := 8) rfl ?_
  refine w_getf (i := 1) (v := .ref (n0 + 0)) X1 hx hZ hown (wd10 hw) P1 rfl Fo1 0 rfl rfl (hb hby d5_8) (pc' := 11) rfl ?_
  intro T2 X2 P2
  refine w_iloadN X2 hx (hb hby d5_11) rfl (pc' := 12) rfl ?_
  refine w_laloadL (i := 0) (jn := pa0) X2 hx hZ P2 rfl hk0 (hb hby d5_12) (own_oN (by omega)) (own_llt hpP (by omega)) (pc' := 13) rfl ?_
  refine w_lstoreN (l' := #[.val (.ref (n0 + 1)), .val (.int (0 : Int32)), .val (.int (Int32.ofNat pa0)), .val (.long (pP.getD pa0 0)), .second, .unset, .unset]) X2 hx (hb hby d5_13) rfl (pc' := 14) rfl ?_
  refine w_iloadN X2 hx (hb hby d5_14) rfl (pc' := 15) rfl ?_
  refine w_istore (l' := #[.val (.ref (n0 + 1)), .val (.int (0 : Int32)), .val (.int (Int32.ofNat pa0)), .val (.long (pP.getD pa0 0)), .second, .val (.int (0 : Int32)), .unset]) X2 hx (hb hby d5_15) rfl (pc' := 17) rfl ?_
  refine w_iconst (v := (2 : Int32)) X2 hx (hb hby d5_17) rfl (pc' := 18) rfl ?_
  refine w_iload X2 hx (hb hby d5_18) rfl (pc' := 20) rfl ?_
  refine w_imul X2 hx (hb hby d5_20) (pc' := 21) rfl ?_
  refine w_eqI (z := (0 : Int32)) (by decide) ?_
  refine w_iconst (v := (1 : Int32)) X2 hx (hb hby d5_21) rfl (pc' := 22) rfl ?_
  refine w_iadd X2 hx (hb hby d5_22) (pc' := 23) rfl ?_
  refine w_eqI (z := (1 : Int32)) (by decide) ?_
  refine w_aloadN X2 hx (hb hby d5_23) rfl rfl (pc' := 24) rfl ?_
  refine w_getf (i := 1) (v := .ref (n0 + 2)) X2 hx hZ hown (wd15 hw) P2 rfl Fo1 2 rfl rfl (hb hby d5_24) (pc' := 27) rfl ?_
  intro T3 X3 P3
  refine w_arrlen (i := 2) X3 hx hZ P3 rfl hk2 (hb hby d5_27) (z := (4 : Int32)) rfl (pc' := 28) rfl ?_
  refine w_icmp_ge X3 hx (hb hby d5_28) (by decide) (pcY := 144) (by decide) (pc' := 31) rfl (fun h0 => absurd h0 (by decide)) (fun h0 => ?_)
  refine w_iconst (v := (2 : Int32)) X3 hx (hb hby d5_31) rfl (pc' := 32) rfl ?_
  refine w_iload X3 hx (hb hby d5_32) rfl (pc' := 34) rfl ?_
  refine w_imul X3 hx (hb hby d5_34) (pc' := 35) rfl ?_
  refine w_eqI (z := (0 : Int32)) (by decide) ?_
  refine w_iconst (v := (1 : Int32)) X3 hx (hb hby d5_35) rfl (pc' := 36) rfl ?_
  refine w_iadd X3 hx (hb hby d5_36) (pc' := 37) rfl ?_
  refine w_eqI (z := (1 : Int32)) (by decide) ?_
  refine w_istore (l' := #[.val (.ref (n0 + 1)), .val (.int (0 : Int32)), .val (.int (Int32.ofNat pa0)), .val (.long (pP.getD pa0 0)), .second, .val (.int (0 : Int32)), .val (.int (1 : Int32))]) X3 hx (hb hby d5_37) rfl (pc' := 39) rfl ?_
  refine w_iload X3 hx (hb hby d5_39) rfl (pc' := 41) rfl ?_
  refine w_iconst (v := (1 : Int32)) X3 hx (hb hby d5_41) rfl (pc' := 42) rfl ?_
  refine w_iadd X3 hx (hb hby d5_42) (pc' := 43) rfl ?_
  refine w_eqI (z := (2 : Int32)) (by decide) ?_
  refine w_aloadN X3 hx (hb hby d5_43) rfl rfl (pc' := 44) rfl ?_
  refine w_getf (i := 1) (v := .ref (n0 + 2)) X3 hx hZ hown (wd15 hw) P3 rfl Fo1 2 rfl rfl (hb hby d5_44) (pc' := 47) rfl ?_
  intro T4 X4 P4
  refine w_arrlen (i := 2) X4 hx hZ P4 rfl hk2 (hb hby d5_47) (z := (4 : Int32)) rfl (pc' := 48) rfl ?_
  refine w_icmp_ge X4 hx (hb hby d5_48) (by decide) (pcY := 84) (by decide) (pc' := 51) rfl (fun h1 => absurd h1 (by decide)) (fun h1 => ?_)
  refine w_aloadN X4 hx (hb hby d5_51) rfl rfl (pc' := 52) rfl ?_
  refine w_getf (i := 1) (v := .ref (n0 + 0)) X4 hx hZ hown (wd10 hw) P4 rfl Fo1 0 rfl rfl (hb hby d5_52) (pc' := 55) rfl ?_
  intro T5 X5 P5
  refine w_aloadN X5 hx (hb hby d5_55) rfl rfl (pc' := 56) rfl ?_
  refine w_getf (i := 1) (v := .ref (n0 + 2)) X5 hx hZ hown (wd15 hw) P5 rfl Fo1 2 rfl rfl (hb hby d5_56) (pc' := 59) rfl ?_
  intro T6 X6 P6
  refine w_iload X6 hx (hb hby d5_59) rfl (pc' := 61) rfl ?_
  refine w_iconst (v := (1 : Int32)) X6 hx (hb hby d5_61) rfl (pc' := 62) rfl ?_
  refine w_iadd X6 hx (hb hby d5_62) (pc' := 63) rfl ?_
  refine w_eqI (z := (2 : Int32)) (by decide) ?_
  refine w_iaload (i := 2) (jn := 2) (v := .int (Int32.ofNat pa2)) X6 hx hZ P6 rfl hk2 (hb hby d5_63) (by decide) rfl (pc' := 64) rfl ?_
  refine w_laloadL (i := 0) (jn := pa2) X6 hx hZ P6 rfl hk0 (hb hby d5_64) (own_oN (by omega)) (own_llt hpP (by omega)) (pc' := 65) rfl ?_
  refine w_aloadN X6 hx (hb hby d5_65) rfl rfl (pc' := 66) rfl ?_
  refine w_getf (i := 1) (v := .ref (n0 + 0)) X6 hx hZ hown (wd10 hw) P6 rfl Fo1 0 rfl rfl (hb hby d5_66) (pc' := 69) rfl ?_
  intro T7 X7 P7
  refine w_aloadN X7 hx (hb hby d5_69) rfl rfl (pc' := 70) rfl ?_
  refine w_getf (i := 1) (v := .ref (n0 + 2)) X7 hx hZ hown (wd15 hw) P7 rfl Fo1 2 rfl rfl (hb hby d5_70) (pc' := 73) rfl ?_
  intro T8 X8 P8
  refine w_iload X8 hx (hb hby d5_73) rfl (pc' := 75) rfl ?_
  refine w_iaload (i := 2) (jn := 1) (v := .int (Int32.ofNat pa1)) X8 hx hZ P8 rfl hk2 (hb hby d5_75) (by decide) rfl (pc' := 76) rfl ?_
  refine w_laloadL (i := 0) (jn := pa1) X8 hx hZ P8 rfl hk0 (hb hby d5_76) (own_oN (by omega)) (own_llt hpP (by omega)) (pc' := 77) rfl ?_
  refine w_lcmp_ge X8 hx (hb hby d5_77) rfl (hb hby d5_78) (by decide) (pcY := 84) (by decide) (pc' := 81) rfl (fun h2 => ?_) (fun h2 => ?_)
  · refine w_aloadN X8 hx (hb hby d5_84) rfl rfl (pc' := 85) rfl ?_
    refine w_getf (i := 1) (v := .ref (n0 + 0)) X8 hx hZ hown (wd10 hw) P8 rfl Fo1 0 rfl rfl (hb hby d5_85) (pc' := 88) rfl ?_
    intro T9 X9 P9
    refine w_aloadN X9 hx (hb hby d5_88) rfl rfl (pc' := 89) rfl ?_
    refine w_getf (i := 1) (v := .ref (n0 + 2)) X9 hx hZ hown (wd15 hw) P9 rfl Fo1 2 rfl rfl (hb hby d5_89) (pc' := 92) rfl ?_
    intro T10 X10 P10
    refine w_iload X10 hx (hb hby d5_92) rfl (pc' := 94) rfl ?_
    refine w_iaload (i := 2) (jn := 1) (v := .int (Int32.ofNat pa1)) X10 hx hZ P10 rfl hk2 (hb hby d5_94) (by decide) rfl (pc' := 95) rfl ?_
    refine w_laloadL (i := 0) (jn := pa1) X10 hx hZ P10 rfl hk0 (hb hby d5_95) (own_oN (by omega)) (own_llt hpP (by omega)) (pc' := 96) rfl ?_
    refine w_lloadN X10 hx (hb hby d5_96) rfl (pc' := 97) rfl ?_
    refine w_lcmp_lt X10 hx (hb hby d5_97) rfl (hb hby d5_98) (by decide) (pcY := 104) (by decide) (pc' := 101) rfl (fun h3 => ?_) (fun h3 => ?_)
    · refine w_aloadN X10 hx (hb hby d5_104) rfl rfl (pc' := 105) rfl ?_
      refine w_getf (i := 1) (v := .ref (n0 + 2)) X10 hx hZ hown (wd15 hw) P10 rfl Fo1 2 rfl rfl (hb hby d5_105) (pc' := 108) rfl ?_
      intro T11 X11 P11
      refine w_iload X11 hx (hb hby d5_108) rfl (pc' := 110) rfl ?_
      refine w_aloadN X11 hx (hb hby d5_110) rfl rfl (pc' := 111) rfl ?_
      refine w_getf (i := 1) (v := .ref (n0 + 2)) X11 hx hZ hown (wd15 hw) P11 rfl Fo1 2 rfl rfl (hb hby d5_111) (pc' := 114) rfl ?_
      intro T12 X12 P12
      refine w_iload X12 hx (hb hby d5_114) rfl (pc' := 116) rfl ?_
      refine w_iaload (i := 2) (jn := 1) (v := .int (Int32.ofNat pa1)) X12 hx hZ P12 rfl hk2 (hb hby d5_116) (by decide) rfl (pc' := 117) rfl ?_
      refine w_iastore (i := 2) (jn := 0) X12 hx hZ N0 P12 rfl hk2 (hb hby d5_117) (by decide) (Nat.le_of_ble_eq_true rfl) (pc' := 118) rfl ?_
      intro T13 L1 N1 X13 P13
      replace P13 : HP n0 T13.heap [AC k0 (List.map Value.long pP), o1, AC k2 [.int (Int32.ofNat pa1), .int (Int32.ofNat pa1), .int (Int32.ofNat pa2), .int (Int32.ofNat pa3)], AC k3 (List.map Value.int pQ)] := P13
      refine w_aloadN X13 hx (hb hby d5_118) rfl rfl (pc' := 119) rfl ?_
      refine w_getf (i := 1) (v := .ref (n0 + 3)) X13 hx hZ hown (wd17 hw) P13 rfl Fo1 3 rfl rfl (hb hby d5_119) (pc' := 122) rfl ?_
      intro T14 X14 P14
      refine w_aloadN X14 hx (hb hby d5_122) rfl rfl (pc' := 123) rfl ?_
      refine w_getf (i := 1) (v := .ref (n0 + 2)) X14 hx hZ hown (wd15 hw) P14 rfl Fo1 2 rfl rfl (hb hby d5_123) (pc' := 126) rfl ?_
      intro T15 X15 P15
      refine w_iload X15 hx (hb hby d5_126) rfl (pc' := 128) rfl ?_
      refine w_iaload (i := 2) (jn := 0) (v := .int (Int32.ofNat pa1)) X15 hx hZ P15 rfl hk2 (hb hby d5_128) (by decide) rfl (pc' := 129) rfl ?_
      refine w_aloadN X15 hx (hb hby d5_129) rfl rfl (pc' := 130) rfl ?_
      refine w_getf (i := 1) (v := .int (Int32.ofNat pf)) X15 hx hZ hown (wd12 hw) P15 rfl Fo1 1 rfl rfl (hb hby d5_130) (pc' := 133) rfl ?_
      intro T16 X16 P16
      refine w_isub X16 hx (hb hby d5_133) (pc' := 134) rfl ?_
      refine w_eqI (z := (Int32.ofNat (pa1 - pf))) (own_osub (a := pa1) (b := pf) (by omega)) ?_
      refine w_iload X16 hx (hb hby d5_134) rfl (pc' := 136) rfl ?_
      refine w_iastoreL (i := 3) (jn := (pa1 - pf)) X16 hx hZ N1 P16 rfl hk3 (hb hby d5_136) (own_oN (by omega)) (own_llt ilen (by omega)) (pc' := 137) rfl ?_
      intro T17 L2 N2 X17 P17
      replace P17 : HP n0 T17.heap [AC k0 (List.map Value.long pP), o1, AC k2 [.int (Int32.ofNat pa1), .int (Int32.ofNat pa1), .int (Int32.ofNat pa2), .int (Int32.ofNat pa3)], AC k3 (List.map Value.int (pQ.set (pa1 - pf) (0 : Int32)))] := P17
      refine w_iload X17 hx (hb hby d5_137) rfl (pc' := 139) rfl ?_
      refine w_istore (l' := #[.val (.ref (n0 + 1)), .val (.int (0 : Int32)), .val (.int (Int32.ofNat pa0)), .val (.long (pP.getD pa0 0)), .second, .val (.int (1 : Int32)), .val (.int (1 : Int32))]) X17 hx (hb hby d5_139) rfl (pc' := 141) rfl ?_
      refine w_goto X17 hx (hb hby d5_141) (by decide) (pc' := 17) (by decide) ?_
      refine w_iconst (v := (2 : Int32)) X17 hx (hb hby d5_17) rfl (pc' := 18) rfl ?_
      refine w_iload X17 hx (hb hby d5_18) rfl (pc' := 20) rfl ?_
      refine w_imul X17 hx (hb hby d5_20) (pc' := 21) rfl ?_
      refine w_eqI (z := (2 : Int32)) (by decide) ?_
      refine w_iconst (v := (1 : Int32)) X17 hx (hb hby d5_21) rfl (pc' := 22) rfl ?_
      refine w_iadd X17 hx (hb hby d5_22) (pc' := 23) rfl ?_
      refine w_eqI (z := (3 : Int32)) (by decide) ?_
      refine w_aloadN X17 hx (hb hby d5_23) rfl rfl (pc' := 24) rfl ?_
      refine w_getf (i := 1) (v := .ref (n0 + 2)) X17 hx hZ hown (wd15 hw) P17 rfl Fo1 2 rfl rfl (hb hby d5_24) (pc' := 27) rfl ?_
      intro T18 X18 P18
      refine w_arrlen (i := 2) X18 hx hZ P18 rfl hk2 (hb hby d5_27) (z := (4 : Int32)) rfl (pc' := 28) rfl ?_
      refine w_icmp_ge X18 hx (hb hby d5_28) (by decide) (pcY := 144) (by decide) (pc' := 31) rfl (fun h4 => absurd h4 (by decide)) (fun h4 => ?_)
      refine w_iconst (v := (2 : Int32)) X18 hx (hb hby d5_31) rfl (pc' := 32) rfl ?_
      refine w_iload X18 hx (hb hby d5_32) rfl (pc' := 34) rfl ?_
      refine w_imul X18 hx (hb hby d5_34) (pc' := 35) rfl ?_
      refine w_eqI (z := (2 : Int32)) (by decide) ?_
      refine w_iconst (v := (1 : Int32)) X18 hx (hb hby d5_35) rfl (pc' := 36) rfl ?_
      refine w_iadd X18 hx (hb hby d5_36) (pc' := 37) rfl ?_
      refine w_eqI (z := (3 : Int32)) (by decide) ?_
      refine w_istore (l' := #[.val (.ref (n0 + 1)), .val (.int (0 : Int32)), .val (.int (Int32.ofNat pa0)), .val (.long (pP.getD pa0 0)), .second, .val (.int (1 : Int32)), .val (.int (3 : Int32))]) X18 hx (hb hby d5_37) rfl (pc' := 39) rfl ?_
      refine w_iload X18 hx (hb hby d5_39) rfl (pc' := 41) rfl ?_
      refine w_iconst (v := (1 : Int32)) X18 hx (hb hby d5_41) rfl (pc' := 42) rfl ?_
      refine w_iadd X18 hx (hb hby d5_42) (pc' := 43) rfl ?_
      refine w_eqI (z := (4 : Int32)) (by decide) ?_
      refine w_aloadN X18 hx (hb hby d5_43) rfl rfl (pc' := 44) rfl ?_
      refine w_getf (i := 1) (v := .ref (n0 + 2)) X18 hx hZ hown (wd15 hw) P18 rfl Fo1 2 rfl rfl (hb hby d5_44) (pc' := 47) rfl ?_
      intro T19 X19 P19
      refine w_arrlen (i := 2) X19 hx hZ P19 rfl hk2 (hb hby d5_47) (z := (4 : Int32)) rfl (pc' := 48) rfl ?_
      refine w_icmp_ge X19 hx (hb hby d5_48) (by decide) (pcY := 84) (by decide) (pc' := 51) rfl (fun h5 => ?_) (fun h5 => absurd h5 (by decide))
      refine w_aloadN X19 hx (hb hby d5_84) rfl rfl (pc' := 85) rfl ?_
      refine w_getf (i := 1) (v := .ref (n0 + 0)) X19 hx hZ hown (wd10 hw) P19 rfl Fo1 0 rfl rfl (hb hby d5_85) (pc' := 88) rfl ?_
      intro T20 X20 P20
      refine w_aloadN X20 hx (hb hby d5_88) rfl rfl (pc' := 89) rfl ?_
      refine w_getf (i := 1) (v := .ref (n0 + 2)) X20 hx hZ hown (wd15 hw) P20 rfl Fo1 2 rfl rfl (hb hby d5_89) (pc' := 92) rfl ?_
      intro T21 X21 P21
      refine w_iload X21 hx (hb hby d5_92) rfl (pc' := 94) rfl ?_
      refine w_iaload (i := 2) (jn := 3) (v := .int (Int32.ofNat pa3)) X21 hx hZ P21 rfl hk2 (hb hby d5_94) (by decide) rfl (pc' := 95) rfl ?_
      refine w_laloadL (i := 0) (jn := pa3) X21 hx hZ P21 rfl hk0 (hb hby d5_95) (own_oN (by omega)) (own_llt hpP (by omega)) (pc' := 96) rfl ?_
      refine w_lloadN X21 hx (hb hby d5_96) rfl (pc' := 97) rfl ?_
      refine w_lcmp_lt X21 hx (hb hby d5_97) rfl (hb hby d5_98) (by decide) (pcY := 104) (by decide) (pc' := 101) rfl (fun h6 => ?_) (fun h6 => ?_)
      · refine w_aloadN X21 hx (hb hby d5_104) rfl rfl (pc' := 105) rfl ?_
        refine w_getf (i := 1) (v := .ref (n0 + 2)) X21 hx hZ hown (wd15 hw) P21 rfl Fo1 2 rfl rfl (hb hby d5_105) (pc' := 108) rfl ?_
        intro T22 X22 P22
        refine w_iload X22 hx (hb hby d5_108) rfl (pc' := 110) rfl ?_
        refine w_aloadN X22 hx (hb hby d5_110) rfl rfl (pc' := 111) rfl ?_
        refine w_getf (i := 1) (v := .ref (n0 + 2)) X22 hx hZ hown (wd15 hw) P22 rfl Fo1 2 rfl rfl (hb hby d5_111) (pc' := 114) rfl ?_
        intro T23 X23 P23
        refine w_iload X23 hx (hb hby d5_114) rfl (pc' := 116) rfl ?_
        refine w_iaload (i := 2) (jn := 3) (v := .int (Int32.ofNat pa3)) X23 hx hZ P23 rfl hk2 (hb hby d5_116) (by decide) rfl (pc' := 117) rfl ?_
        refine w_iastore (i := 2) (jn := 1) X23 hx hZ N2 P23 rfl hk2 (hb hby d5_117) (by decide) (Nat.le_of_ble_eq_true rfl) (pc' := 118) rfl ?_
        intro T24 L3 N3 X24 P24
        replace P24 : HP n0 T24.heap [AC k0 (List.map Value.long pP), o1, AC k2 [.int (Int32.ofNat pa1), .int (Int32.ofNat pa3), .int (Int32.ofNat pa2), .int (Int32.ofNat pa3)], AC k3 (List.map Value.int (pQ.set (pa1 - pf) (0 : Int32)))] := P24
        refine w_aloadN X24 hx (hb hby d5_118) rfl rfl (pc' := 119) rfl ?_
        refine w_getf (i := 1) (v := .ref (n0 + 3)) X24 hx hZ hown (wd17 hw) P24 rfl Fo1 3 rfl rfl (hb hby d5_119) (pc' := 122) rfl ?_
        intro T25 X25 P25
        refine w_aloadN X25 hx (hb hby d5_122) rfl rfl (pc' := 123) rfl ?_
        refine w_getf (i := 1) (v := .ref (n0 + 2)) X25 hx hZ hown (wd15 hw) P25 rfl Fo1 2 rfl rfl (hb hby d5_123) (pc' := 126) rfl ?_
        intro T26 X26 P26
        refine w_iload X26 hx (hb hby d5_126) rfl (pc' := 128) rfl ?_
        refine w_iaload (i := 2) (jn := 1) (v := .int (Int32.ofNat pa3)) X26 hx hZ P26 rfl hk2 (hb hby d5_128) (by decide) rfl (pc' := 129) rfl ?_
        refine w_aloadN X26 hx (hb hby d5_129) rfl rfl (pc' := 130) rfl ?_
        refine w_getf (i := 1) (v := .int (Int32.ofNat pf)) X26 hx hZ hown (wd12 hw) P26 rfl Fo1 1 rfl rfl (hb hby d5_130) (pc' := 133) rfl ?_
        intro T27 X27 P27
        refine w_isub X27 hx (hb hby d5_133) (pc' := 134) rfl ?_
        refine w_eqI (z := (Int32.ofNat (pa3 - pf))) (own_osub (a := pa3) (b := pf) (by omega)) ?_
        refine w_iload X27 hx (hb hby d5_134) rfl (pc' := 136) rfl ?_
        refine w_iastoreL (i := 3) (jn := (pa3 - pf)) X27 hx hZ N3 P27 rfl hk3 (hb hby d5_136) (own_oN (by omega)) (own_llt (own_sl ilen) (by omega)) (pc' := 137) rfl ?_
        intro T28 L4 N4 X28 P28
        replace P28 : HP n0 T28.heap [AC k0 (List.map Value.long pP), o1, AC k2 [.int (Int32.ofNat pa1), .int (Int32.ofNat pa3), .int (Int32.ofNat pa2), .int (Int32.ofNat pa3)], AC k3 (List.map Value.int ((pQ.set (pa1 - pf) (0 : Int32)).set (pa3 - pf) (1 : Int32)))] := P28
        refine w_iload X28 hx (hb hby d5_137) rfl (pc' := 139) rfl ?_
        refine w_istore (l' := #[.val (.ref (n0 + 1)), .val (.int (0 : Int32)), .val (.int (Int32.ofNat pa0)), .val (.long (pP.getD pa0 0)), .second, .val (.int (3 : Int32)), .val (.int (3 : Int32))]) X28 hx (hb hby d5_139) rfl (pc' := 141) rfl ?_
        refine w_goto X28 hx (hb hby d5_141) (by decide) (pc' := 17) (by decide) ?_
        refine w_iconst (v := (2 : Int32)) X28 hx (hb hby d5_17) rfl (pc' := 18) rfl ?_
        refine w_iload X28 hx (hb hby d5_18) rfl (pc' := 20) rfl ?_
        refine w_imul X28 hx (hb hby d5_20) (pc' := 21) rfl ?_
        refine w_eqI (z := (6 : Int32)) (by decide) ?_
        refine w_iconst (v := (1 : Int32)) X28 hx (hb hby d5_21) rfl (pc' := 22) rfl ?_
        refine w_iadd X28 hx (hb hby d5_22) (pc' := 23) rfl ?_
        refine w_eqI (z := (7 : Int32)) (by decide) ?_
        refine w_aloadN X28 hx (hb hby d5_23) rfl rfl (pc' := 24) rfl ?_
        refine w_getf (i := 1) (v := .ref (n0 + 2)) X28 hx hZ hown (wd15 hw) P28 rfl Fo1 2 rfl rfl (hb hby d5_24) (pc' := 27) rfl ?_
        intro T29 X29 P29
        refine w_arrlen (i := 2) X29 hx hZ P29 rfl hk2 (hb hby d5_27) (z := (4 : Int32)) rfl (pc' := 28) rfl ?_
        refine w_icmp_ge X29 hx (hb hby d5_28) (by decide) (pcY := 144) (by decide) (pc' := 31) rfl (fun h7 => ?_) (fun h7 => absurd h7 (by decide))
        refine w_aloadN X29 hx (hb hby d5_144) rfl rfl (pc' := 145) rfl ?_
        refine w_getf (i := 1) (v := .ref (n0 + 2)) X29 hx hZ hown (wd15 hw) P29 rfl Fo1 2 rfl rfl (hb hby d5_145) (pc' := 148) rfl ?_
        intro T30 X30 P30
        refine w_iload X30 hx (hb hby d5_148) rfl (pc' := 150) rfl ?_
        refine w_iloadN X30 hx (hb hby d5_150) rfl (pc' := 151) rfl ?_
        refine w_iastore (i := 2) (jn := 3) X30 hx hZ N4 P30 rfl hk2 (hb hby d5_151) (by decide) (Nat.le_of_ble_eq_true rfl) (pc' := 152) rfl ?_
        intro T31 L5 N5 X31 P31
        replace P31 : HP n0 T31.heap [AC k0 (List.map Value.long pP), o1, AC k2 [.int (Int32.ofNat pa1), .int (Int32.ofNat pa3), .int (Int32.ofNat pa2), .int (Int32.ofNat pa0)], AC k3 (List.map Value.int ((pQ.set (pa1 - pf) (0 : Int32)).set (pa3 - pf) (1 : Int32)))] := P31
        refine w_aloadN X31 hx (hb hby d5_152) rfl rfl (pc' := 153) rfl ?_
        refine w_getf (i := 1) (v := .ref (n0 + 3)) X31 hx hZ hown (wd17 hw) P31 rfl Fo1 3 rfl rfl (hb hby d5_153) (pc' := 156) rfl ?_
        intro T32 X32 P32
        refine w_iloadN X32 hx (hb hby d5_156) rfl (pc' := 157) rfl ?_
        refine w_aloadN X32 hx (hb hby d5_157) rfl rfl (pc' := 158) rfl ?_
        refine w_getf (i := 1) (v := .int (Int32.ofNat pf)) X32 hx hZ hown (wd12 hw) P32 rfl Fo1 1 rfl rfl (hb hby d5_158) (pc' := 161) rfl ?_
        intro T33 X33 P33
        refine w_isub X33 hx (hb hby d5_161) (pc' := 162) rfl ?_
        refine w_eqI (z := (Int32.ofNat (pa0 - pf))) (own_osub (a := pa0) (b := pf) (by omega)) ?_
        refine w_iload X33 hx (hb hby d5_162) rfl (pc' := 164) rfl ?_
        refine w_iastoreL (i := 3) (jn := (pa0 - pf)) X33 hx hZ N5 P33 rfl hk3 (hb hby d5_164) (own_oN (by omega)) (own_llt (own_sl (own_sl ilen)) (by omega)) (pc' := 165) rfl ?_
        intro T34 L6 N6 X34 P34
        replace P34 : HP n0 T34.heap [AC k0 (List.map Value.long pP), o1, AC k2 [.int (Int32.ofNat pa1), .int (Int32.ofNat pa3), .int (Int32.ofNat pa2), .int (Int32.ofNat pa0)], AC k3 (List.map Value.int (((pQ.set (pa1 - pf) (0 : Int32)).set (pa3 - pf) (1 : Int32)).set (pa0 - pf) (3 : Int32)))] := P34
        have h2p := own_pnl h2
        have h3p := own_plt h3
        have h6p := own_plt h6
        exact w_ret_v X34 hx hret hlk (hb hby d5_165) (by decide) (by decide) ⟨rfl, N6, pa1, pa3, pa2, pa0, (((pQ.set (pa1 - pf) (0 : Int32)).set (pa3 - pf) (1 : Int32)).set (pa0 - pf) (3 : Int32)), ⟨(own_sl (own_sl (own_sl ilen))), il1, il3, il2, il0, iu1, iu3, iu2, iu0, in13, in12, (own_nes in01), (own_nes in23), (own_nes in03), (own_nes in02), (fun c h1 h2 => by have q := icov c h1 h2; omega), (by rw [own_gn (own_sne il0 il1 in01), own_gn (own_sne il3 il1 (own_nes in13)), own_gp (i := pa1 - pf) ilen (by omega)]), (by rw [own_gn (own_sne il0 il3 in03), own_gp (i := pa3 - pf) (own_sl ilen) (by omega)]), (by rw [own_gn (own_sne il0 il2 in02), own_gn (own_sne il3 il2 (own_nes in23)), own_gn (own_sne il1 il2 in12)]; exact iq2), (by rw [own_gp (i := pa0 - pf) (own_sl (own_sl ilen)) (by omega)])⟩, ⟨by omega, by omega, by omega⟩, P34⟩
      · refine w_goto X21 hx (hb hby d5_101) (by decide) (pc' := 144) (by decide) ?_
        refine w_aloadN X21 hx (hb hby d5_144) rfl rfl (pc' := 145) rfl ?_
        refine w_getf (i := 1) (v := .ref (n0 + 2)) X21 hx hZ hown (wd15 hw) P21 rfl Fo1 2 rfl rfl (hb hby d5_145) (pc' := 148) rfl ?_
        intro T35 X35 P35
        refine w_iload X35 hx (hb hby d5_148) rfl (pc' := 150) rfl ?_
        refine w_iloadN X35 hx (hb hby d5_150) rfl (pc' := 151) rfl ?_
        refine w_iastore (i := 2) (jn := 1) X35 hx hZ N2 P35 rfl hk2 (hb hby d5_151) (by decide) (Nat.le_of_ble_eq_true rfl) (pc' := 152) rfl ?_
        intro T36 L7 N7 X36 P36
        replace P36 : HP n0 T36.heap [AC k0 (List.map Value.long pP), o1, AC k2 [.int (Int32.ofNat pa1), .int (Int32.ofNat pa0), .int (Int32.ofNat pa2), .int (Int32.ofNat pa3)], AC k3 (List.map Value.int (pQ.set (pa1 - pf) (0 : Int32)))] := P36
        refine w_aloadN X36 hx (hb hby d5_152) rfl rfl (pc' := 153) rfl ?_
        refine w_getf (i := 1) (v := .ref (n0 + 3)) X36 hx hZ hown (wd17 hw) P36 rfl Fo1 3 rfl rfl (hb hby d5_153) (pc' := 156) rfl ?_
        intro T37 X37 P37
        refine w_iloadN X37 hx (hb hby d5_156) rfl (pc' := 157) rfl ?_
        refine w_aloadN X37 hx (hb hby d5_157) rfl rfl (pc' := 158) rfl ?_
        refine w_getf (i := 1) (v := .int (Int32.ofNat pf)) X37 hx hZ hown (wd12 hw) P37 rfl Fo1 1 rfl rfl (hb hby d5_158) (pc' := 161) rfl ?_
        intro T38 X38 P38
        refine w_isub X38 hx (hb hby d5_161) (pc' := 162) rfl ?_
        refine w_eqI (z := (Int32.ofNat (pa0 - pf))) (own_osub (a := pa0) (b := pf) (by omega)) ?_
        refine w_iload X38 hx (hb hby d5_162) rfl (pc' := 164) rfl ?_
        refine w_iastoreL (i := 3) (jn := (pa0 - pf)) X38 hx hZ N7 P38 rfl hk3 (hb hby d5_164) (own_oN (by omega)) (own_llt (own_sl ilen) (by omega)) (pc' := 165) rfl ?_
        intro T39 L8 N8 X39 P39
        replace P39 : HP n0 T39.heap [AC k0 (List.map Value.long pP), o1, AC k2 [.int (Int32.ofNat pa1), .int (Int32.ofNat pa0), .int (Int32.ofNat pa2), .int (Int32.ofNat pa3)], AC k3 (List.map Value.int ((pQ.set (pa1 - pf) (0 : Int32)).set (pa0 - pf) (1 : Int32)))] := P39
        have h2p := own_pnl h2
        have h3p := own_plt h3
        have h6p := own_pnl h6
        exact w_ret_v X39 hx hret hlk (hb hby d5_165) (by decide) (by decide) ⟨rfl, N8, pa1, pa0, pa2, pa3, ((pQ.set (pa1 - pf) (0 : Int32)).set (pa0 - pf) (1 : Int32)), ⟨(own_sl (own_sl ilen)), il1, il0, il2, il3, iu1, iu0, iu2, iu3, (own_nes in01), in12, in13, in02, in03, in23, (fun c h1 h2 => by have q := icov c h1 h2; omega), (by rw [own_gn (own_sne il0 il1 in01), own_gp (i := pa1 - pf) ilen (by omega)]), (by rw [own_gp (i := pa0 - pf) (own_sl ilen) (by omega)]), (by rw [own_gn (own_sne il0 il2 in02), own_gn (own_sne il1 il2 in12)]; exact iq2), (by rw [own_gn (own_sne il0 il3 in03), own_gn (own_sne il1 il3 in13)]; exact iq3)⟩, ⟨by omega, by omega, by omega⟩, P39⟩
    · refine w_goto X10 hx (hb hby d5_101) (by decide) (pc' := 144) (by decide) ?_
      refine w_aloadN X10 hx (hb hby d5_144) rfl rfl (pc' := 145) rfl ?_
      refine w_getf (i := 1) (v := .ref (n0 + 2)) X10 hx hZ hown (wd15 hw) P10 rfl Fo1 2 rfl rfl (hb hby d5_145) (pc' := 148) rfl ?_
      intro T40 X40 P40
      refine w_iload X40 hx (hb hby d5_148) rfl (pc' := 150) rfl ?_
      refine w_iloadN X40 hx (hb hby d5_150) rfl (pc' := 151) rfl ?_
      refine w_iastore (i := 2) (jn := 0) X40 hx hZ N0 P40 rfl hk2 (hb hby d5_151) (by decide) (Nat.le_of_ble_eq_true rfl) (pc' := 152) rfl ?_
      intro T41 L9 N9 X41 P41
      replace P41 : HP n0 T41.heap [AC k0 (List.map Value.long pP), o1, AC k2 [.int (Int32.ofNat pa0), .int (Int32.ofNat pa1), .int (Int32.ofNat pa2), .int (Int32.ofNat pa3)], AC k3 (List.map Value.int pQ)] := P41
      refine w_aloadN X41 hx (hb hby d5_152) rfl rfl (pc' := 153) rfl ?_
      refine w_getf (i := 1) (v := .ref (n0 + 3)) X41 hx hZ hown (wd17 hw) P41 rfl Fo1 3 rfl rfl (hb hby d5_153) (pc' := 156) rfl ?_
      intro T42 X42 P42
      refine w_iloadN X42 hx (hb hby d5_156) rfl (pc' := 157) rfl ?_
      refine w_aloadN X42 hx (hb hby d5_157) rfl rfl (pc' := 158) rfl ?_
      refine w_getf (i := 1) (v := .int (Int32.ofNat pf)) X42 hx hZ hown (wd12 hw) P42 rfl Fo1 1 rfl rfl (hb hby d5_158) (pc' := 161) rfl ?_
      intro T43 X43 P43
      refine w_isub X43 hx (hb hby d5_161) (pc' := 162) rfl ?_
      refine w_eqI (z := (Int32.ofNat (pa0 - pf))) (own_osub (a := pa0) (b := pf) (by omega)) ?_
      refine w_iload X43 hx (hb hby d5_162) rfl (pc' := 164) rfl ?_
      refine w_iastoreL (i := 3) (jn := (pa0 - pf)) X43 hx hZ N9 P43 rfl hk3 (hb hby d5_164) (own_oN (by omega)) (own_llt ilen (by omega)) (pc' := 165) rfl ?_
      intro T44 L10 N10 X44 P44
      replace P44 : HP n0 T44.heap [AC k0 (List.map Value.long pP), o1, AC k2 [.int (Int32.ofNat pa0), .int (Int32.ofNat pa1), .int (Int32.ofNat pa2), .int (Int32.ofNat pa3)], AC k3 (List.map Value.int (pQ.set (pa0 - pf) (0 : Int32)))] := P44
      have h2p := own_pnl h2
      have h3p := own_pnl h3
      exact w_ret_v X44 hx hret hlk (hb hby d5_165) (by decide) (by decide) ⟨rfl, N10, pa0, pa1, pa2, pa3, (pQ.set (pa0 - pf) (0 : Int32)), ⟨(own_sl ilen), il0, il1, il2, il3, iu0, iu1, iu2, iu3, in01, in02, in03, in12, in13, in23, (fun c h1 h2 => by have q := icov c h1 h2; omega), (by rw [own_gp (i := pa0 - pf) ilen (by omega)]), (by rw [own_gn (own_sne il0 il1 in01)]; exact iq1), (by rw [own_gn (own_sne il0 il2 in02)]; exact iq2), (by rw [own_gn (own_sne il0 il3 in03)]; exact iq3)⟩, ⟨by omega, by omega, by omega⟩, P44⟩
  · refine w_iincE (z := (2 : Int32)) (l' := #[.val (.ref (n0 + 1)), .val (.int (0 : Int32)), .val (.int (Int32.ofNat pa0)), .val (.long (pP.getD pa0 0)), .second, .val (.int (0 : Int32)), .val (.int (2 : Int32))]) X8 hx (hb hby d5_81) rfl (by decide) rfl (pc' := 84) rfl ?_
    refine w_aloadN X8 hx (hb hby d5_84) rfl rfl (pc' := 85) rfl ?_
    refine w_getf (i := 1) (v := .ref (n0 + 0)) X8 hx hZ hown (wd10 hw) P8 rfl Fo1 0 rfl rfl (hb hby d5_85) (pc' := 88) rfl ?_
    intro T45 X45 P45
    refine w_aloadN X45 hx (hb hby d5_88) rfl rfl (pc' := 89) rfl ?_
    refine w_getf (i := 1) (v := .ref (n0 + 2)) X45 hx hZ hown (wd15 hw) P45 rfl Fo1 2 rfl rfl (hb hby d5_89) (pc' := 92) rfl ?_
    intro T46 X46 P46
    refine w_iload X46 hx (hb hby d5_92) rfl (pc' := 94) rfl ?_
    refine w_iaload (i := 2) (jn := 2) (v := .int (Int32.ofNat pa2)) X46 hx hZ P46 rfl hk2 (hb hby d5_94) (by decide) rfl (pc' := 95) rfl ?_
    refine w_laloadL (i := 0) (jn := pa2) X46 hx hZ P46 rfl hk0 (hb hby d5_95) (own_oN (by omega)) (own_llt hpP (by omega)) (pc' := 96) rfl ?_
    refine w_lloadN X46 hx (hb hby d5_96) rfl (pc' := 97) rfl ?_
    refine w_lcmp_lt X46 hx (hb hby d5_97) rfl (hb hby d5_98) (by decide) (pcY := 104) (by decide) (pc' := 101) rfl (fun h8 => ?_) (fun h8 => ?_)
    · refine w_aloadN X46 hx (hb hby d5_104) rfl rfl (pc' := 105) rfl ?_
      refine w_getf (i := 1) (v := .ref (n0 + 2)) X46 hx hZ hown (wd15 hw) P46 rfl Fo1 2 rfl rfl (hb hby d5_105) (pc' := 108) rfl ?_
      intro T47 X47 P47
      refine w_iload X47 hx (hb hby d5_108) rfl (pc' := 110) rfl ?_
      refine w_aloadN X47 hx (hb hby d5_110) rfl rfl (pc' := 111) rfl ?_
      refine w_getf (i := 1) (v := .ref (n0 + 2)) X47 hx hZ hown (wd15 hw) P47 rfl Fo1 2 rfl rfl (hb hby d5_111) (pc' := 114) rfl ?_
      intro T48 X48 P48
      refine w_iload X48 hx (hb hby d5_114) rfl (pc' := 116) rfl ?_
      refine w_iaload (i := 2) (jn := 2) (v := .int (Int32.ofNat pa2)) X48 hx hZ P48 rfl hk2 (hb hby d5_116) (by decide) rfl (pc' := 117) rfl ?_
      refine w_iastore (i := 2) (jn := 0) X48 hx hZ N0 P48 rfl hk2 (hb hby d5_117) (by decide) (Nat.le_of_ble_eq_true rfl) (pc' := 118) rfl ?_
      intro T49 L11 N11 X49 P49
      replace P49 : HP n0 T49.heap [AC k0 (List.map Value.long pP), o1, AC k2 [.int (Int32.ofNat pa2), .int (Int32.ofNat pa1), .int (Int32.ofNat pa2), .int (Int32.ofNat pa3)], AC k3 (List.map Value.int pQ)] := P49
      refine w_aloadN X49 hx (hb hby d5_118) rfl rfl (pc' := 119) rfl ?_
      refine w_getf (i := 1) (v := .ref (n0 + 3)) X49 hx hZ hown (wd17 hw) P49 rfl Fo1 3 rfl rfl (hb hby d5_119) (pc' := 122) rfl ?_
      intro T50 X50 P50
      refine w_aloadN X50 hx (hb hby d5_122) rfl rfl (pc' := 123) rfl ?_
      refine w_getf (i := 1) (v := .ref (n0 + 2)) X50 hx hZ hown (wd15 hw) P50 rfl Fo1 2 rfl rfl (hb hby d5_123) (pc' := 126) rfl ?_
      intro T51 X51 P51
      refine w_iload X51 hx (hb hby d5_126) rfl (pc' := 128) rfl ?_
      refine w_iaload (i := 2) (jn := 0) (v := .int (Int32.ofNat pa2)) X51 hx hZ P51 rfl hk2 (hb hby d5_128) (by decide) rfl (pc' := 129) rfl ?_
      refine w_aloadN X51 hx (hb hby d5_129) rfl rfl (pc' := 130) rfl ?_
      refine w_getf (i := 1) (v := .int (Int32.ofNat pf)) X51 hx hZ hown (wd12 hw) P51 rfl Fo1 1 rfl rfl (hb hby d5_130) (pc' := 133) rfl ?_
      intro T52 X52 P52
      refine w_isub X52 hx (hb hby d5_133) (pc' := 134) rfl ?_
      refine w_eqI (z := (Int32.ofNat (pa2 - pf))) (own_osub (a := pa2) (b := pf) (by omega)) ?_
      refine w_iload X52 hx (hb hby d5_134) rfl (pc' := 136) rfl ?_
      refine w_iastoreL (i := 3) (jn := (pa2 - pf)) X52 hx hZ N11 P52 rfl hk3 (hb hby d5_136) (own_oN (by omega)) (own_llt ilen (by omega)) (pc' := 137) rfl ?_
      intro T53 L12 N12 X53 P53
      replace P53 : HP n0 T53.heap [AC k0 (List.map Value.long pP), o1, AC k2 [.int (Int32.ofNat pa2), .int (Int32.ofNat pa1), .int (Int32.ofNat pa2), .int (Int32.ofNat pa3)], AC k3 (List.map Value.int (pQ.set (pa2 - pf) (0 : Int32)))] := P53
      refine w_iload X53 hx (hb hby d5_137) rfl (pc' := 139) rfl ?_
      refine w_istore (l' := #[.val (.ref (n0 + 1)), .val (.int (0 : Int32)), .val (.int (Int32.ofNat pa0)), .val (.long (pP.getD pa0 0)), .second, .val (.int (2 : Int32)), .val (.int (2 : Int32))]) X53 hx (hb hby d5_139) rfl (pc' := 141) rfl ?_
      refine w_goto X53 hx (hb hby d5_141) (by decide) (pc' := 17) (by decide) ?_
      refine w_iconst (v := (2 : Int32)) X53 hx (hb hby d5_17) rfl (pc' := 18) rfl ?_
      refine w_iload X53 hx (hb hby d5_18) rfl (pc' := 20) rfl ?_
      refine w_imul X53 hx (hb hby d5_20) (pc' := 21) rfl ?_
      refine w_eqI (z := (4 : Int32)) (by decide) ?_
      refine w_iconst (v := (1 : Int32)) X53 hx (hb hby d5_21) rfl (pc' := 22) rfl ?_
      refine w_iadd X53 hx (hb hby d5_22) (pc' := 23) rfl ?_
      refine w_eqI (z := (5 : Int32)) (by decide) ?_
      refine w_aloadN X53 hx (hb hby d5_23) rfl rfl (pc' := 24) rfl ?_
      refine w_getf (i := 1) (v := .ref (n0 + 2)) X53 hx hZ hown (wd15 hw) P53 rfl Fo1 2 rfl rfl (hb hby d5_24) (pc' := 27) rfl ?_
      intro T54 X54 P54
      refine w_arrlen (i := 2) X54 hx hZ P54 rfl hk2 (hb hby d5_27) (z := (4 : Int32)) rfl (pc' := 28) rfl ?_
      refine w_icmp_ge X54 hx (hb hby d5_28) (by decide) (pcY := 144) (by decide) (pc' := 31) rfl (fun h9 => ?_) (fun h9 => absurd h9 (by decide))
      refine w_aloadN X54 hx (hb hby d5_144) rfl rfl (pc' := 145) rfl ?_
      refine w_getf (i := 1) (v := .ref (n0 + 2)) X54 hx hZ hown (wd15 hw) P54 rfl Fo1 2 rfl rfl (hb hby d5_145) (pc' := 148) rfl ?_
      intro T55 X55 P55
      refine w_iload X55 hx (hb hby d5_148) rfl (pc' := 150) rfl ?_
      refine w_iloadN X55 hx (hb hby d5_150) rfl (pc' := 151) rfl ?_
      refine w_iastore (i := 2) (jn := 2) X55 hx hZ N12 P55 rfl hk2 (hb hby d5_151) (by decide) (Nat.le_of_ble_eq_true rfl) (pc' := 152) rfl ?_
      intro T56 L13 N13 X56 P56
      replace P56 : HP n0 T56.heap [AC k0 (List.map Value.long pP), o1, AC k2 [.int (Int32.ofNat pa2), .int (Int32.ofNat pa1), .int (Int32.ofNat pa0), .int (Int32.ofNat pa3)], AC k3 (List.map Value.int (pQ.set (pa2 - pf) (0 : Int32)))] := P56
      refine w_aloadN X56 hx (hb hby d5_152) rfl rfl (pc' := 153) rfl ?_
      refine w_getf (i := 1) (v := .ref (n0 + 3)) X56 hx hZ hown (wd17 hw) P56 rfl Fo1 3 rfl rfl (hb hby d5_153) (pc' := 156) rfl ?_
      intro T57 X57 P57
      refine w_iloadN X57 hx (hb hby d5_156) rfl (pc' := 157) rfl ?_
      refine w_aloadN X57 hx (hb hby d5_157) rfl rfl (pc' := 158) rfl ?_
      refine w_getf (i := 1) (v := .int (Int32.ofNat pf)) X57 hx hZ hown (wd12 hw) P57 rfl Fo1 1 rfl rfl (hb hby d5_158) (pc' := 161) rfl ?_
      intro T58 X58 P58
      refine w_isub X58 hx (hb hby d5_161) (pc' := 162) rfl ?_
      refine w_eqI (z := (Int32.ofNat (pa0 - pf))) (own_osub (a := pa0) (b := pf) (by omega)) ?_
      refine w_iload X58 hx (hb hby d5_162) rfl (pc' := 164) rfl ?_
      refine w_iastoreL (i := 3) (jn := (pa0 - pf)) X58 hx hZ N13 P58 rfl hk3 (hb hby d5_164) (own_oN (by omega)) (own_llt (own_sl ilen) (by omega)) (pc' := 165) rfl ?_
      intro T59 L14 N14 X59 P59
      replace P59 : HP n0 T59.heap [AC k0 (List.map Value.long pP), o1, AC k2 [.int (Int32.ofNat pa2), .int (Int32.ofNat pa1), .int (Int32.ofNat pa0), .int (Int32.ofNat pa3)], AC k3 (List.map Value.int ((pQ.set (pa2 - pf) (0 : Int32)).set (pa0 - pf) (2 : Int32)))] := P59
      have h2p := own_plt h2
      have h8p := own_plt h8
      exact w_ret_v X59 hx hret hlk (hb hby d5_165) (by decide) (by decide) ⟨rfl, N14, pa2, pa1, pa0, pa3, ((pQ.set (pa2 - pf) (0 : Int32)).set (pa0 - pf) (2 : Int32)), ⟨(own_sl (own_sl ilen)), il2, il1, il0, il3, iu2, iu1, iu0, iu3, (own_nes in12), (own_nes in02), in23, (own_nes in01), in13, in03, (fun c h1 h2 => by have q := icov c h1 h2; omega), (by rw [own_gn (own_sne il0 il2 in02), own_gp (i := pa2 - pf) ilen (by omega)]), (by rw [own_gn (own_sne il0 il1 in01), own_gn (own_sne il2 il1 (own_nes in12))]; exact iq1), (by rw [own_gp (i := pa0 - pf) (own_sl ilen) (by omega)]), (by rw [own_gn (own_sne il0 il3 in03), own_gn (own_sne il2 il3 in23)]; exact iq3)⟩, ⟨by omega, by omega, by omega⟩, P59⟩
    · refine w_goto X46 hx (hb hby d5_101) (by decide) (pc' := 144) (by decide) ?_
      refine w_aloadN X46 hx (hb hby d5_144) rfl rfl (pc' := 145) rfl ?_
      refine w_getf (i := 1) (v := .ref (n0 + 2)) X46 hx hZ hown (wd15 hw) P46 rfl Fo1 2 rfl rfl (hb hby d5_145) (pc' := 148) rfl ?_
      intro T60 X60 P60
      refine w_iload X60 hx (hb hby d5_148) rfl (pc' := 150) rfl ?_
      refine w_iloadN X60 hx (hb hby d5_150) rfl (pc' := 151) rfl ?_
      refine w_iastore (i := 2) (jn := 0) X60 hx hZ N0 P60 rfl hk2 (hb hby d5_151) (by decide) (Nat.le_of_ble_eq_true rfl) (pc' := 152) rfl ?_
      intro T61 L15 N15 X61 P61
      replace P61 : HP n0 T61.heap [AC k0 (List.map Value.long pP), o1, AC k2 [.int (Int32.ofNat pa0), .int (Int32.ofNat pa1), .int (Int32.ofNat pa2), .int (Int32.ofNat pa3)], AC k3 (List.map Value.int pQ)] := P61
      refine w_aloadN X61 hx (hb hby d5_152) rfl rfl (pc' := 153) rfl ?_
      refine w_getf (i := 1) (v := .ref (n0 + 3)) X61 hx hZ hown (wd17 hw) P61 rfl Fo1 3 rfl rfl (hb hby d5_153) (pc' := 156) rfl ?_
      intro T62 X62 P62
      refine w_iloadN X62 hx (hb hby d5_156) rfl (pc' := 157) rfl ?_
      refine w_aloadN X62 hx (hb hby d5_157) rfl rfl (pc' := 158) rfl ?_
      refine w_getf (i := 1) (v := .int (Int32.ofNat pf)) X62 hx hZ hown (wd12 hw) P62 rfl Fo1 1 rfl rfl (hb hby d5_158) (pc' := 161) rfl ?_
      intro T63 X63 P63
      refine w_isub X63 hx (hb hby d5_161) (pc' := 162) rfl ?_
      refine w_eqI (z := (Int32.ofNat (pa0 - pf))) (own_osub (a := pa0) (b := pf) (by omega)) ?_
      refine w_iload X63 hx (hb hby d5_162) rfl (pc' := 164) rfl ?_
      refine w_iastoreL (i := 3) (jn := (pa0 - pf)) X63 hx hZ N15 P63 rfl hk3 (hb hby d5_164) (own_oN (by omega)) (own_llt ilen (by omega)) (pc' := 165) rfl ?_
      intro T64 L16 N16 X64 P64
      replace P64 : HP n0 T64.heap [AC k0 (List.map Value.long pP), o1, AC k2 [.int (Int32.ofNat pa0), .int (Int32.ofNat pa1), .int (Int32.ofNat pa2), .int (Int32.ofNat pa3)], AC k3 (List.map Value.int (pQ.set (pa0 - pf) (0 : Int32)))] := P64
      have h2p := own_plt h2
      have h8p := own_pnl h8
      exact w_ret_v X64 hx hret hlk (hb hby d5_165) (by decide) (by decide) ⟨rfl, N16, pa0, pa1, pa2, pa3, (pQ.set (pa0 - pf) (0 : Int32)), ⟨(own_sl ilen), il0, il1, il2, il3, iu0, iu1, iu2, iu3, in01, in02, in03, in12, in13, in23, (fun c h1 h2 => by have q := icov c h1 h2; omega), (by rw [own_gp (i := pa0 - pf) ilen (by omega)]), (by rw [own_gn (own_sne il0 il1 in01)]; exact iq1), (by rw [own_gn (own_sne il0 il2 in02)]; exact iq2), (by rw [own_gn (own_sne il0 il3 in03)]; exact iq3)⟩, ⟨by omega, by omega, by omega⟩, P64⟩
theorem ef_sd41 (m : MethodId) (n0 : Nat) (pf : Nat) (pa0 : Nat) (pa1 : Nat) (pa2 : Nat) (pa3 : Nat) : entryFrame m #[.ref (n0 + 1), .int (1 : Int32)] 7 = mkF m 0 #[.val (.ref (n0 + 1)), .val (.int (1 : Int32)), .unset, .unset, .unset, .unset, .unset] [] := by first | (simp [entryFrame, mkF, argsToLocals, Value.category]; done) | rfl
def Q_sd41 (Z : State) (n0 : Nat) (k0 : ClassId) (o1 : Jvm.Cell) (k2 : ClassId) (k3 : ClassId) (pP : List Int64) (pf : Nat) (pa0 : Nat) (pa1 : Nat) (pa2 : Nat) (pa3 : Nat) (pQ : List Int32) (v : Option Value) (h : Heap) (L : List Loc) : Prop := v = none ∧ Fr n0 L ∧ ∃ (b0 b1 b2 b3 : Nat) (Q1 : List Int32), own_I4 pf b0 b1 b2 b3 Q1 ∧ own_O4 pP b0 b1 b2 b3 ∧ HP n0 h [AC k0 (List.map Value.long pP), o1, AC k2 [Value.int (Int32.ofNat b0), Value.int (Int32.ofNat b1), Value.int (Int32.ofNat b2), Value.int (Int32.ofNat b3)], AC k3 (List.map Value.int Q1)]
set_option maxRecDepth 65536 in
set_option maxHeartbeats 40000000 in
theorem rm_sd41 (l : Launch) (Z : State) (a0 : Array Value) (hw : ∀ d ∈ tables_1, d.before a0 Z = true) (ws : List Jvm.Cond) (n0 : Nat) (k0 : ClassId) (o1 : Jvm.Cell) (k2 : ClassId) (k3 : ClassId) (pP : List Int64) (pf : Nat) (pa0 : Nat) (pa1 : Nat) (pa2 : Nat) (pa3 : Nat) (pQ : List Int32) (h0 : Heap) (P0 : HP n0 h0 [AC k0 (List.map Value.long pP), o1, AC k2 [.int (Int32.ofNat pa0), .int (Int32.ofNat pa1), .int (Int32.ofNat pa2), .int (Int32.ofNat pa3)], AC k3 (List.map Value.int pQ)]) (hk0 : IsA Z k0 .long) (hk2 : IsA Z k2 .int) (hk3 : IsA Z k3 .int) (Fo1 : ObjF Z o1 "com/example/bidcrier/bidcrier/CheapestColumns" fl_C0 [.ref (n0 + 0), .int (Int32.ofNat pf), .ref (n0 + 2), .ref (n0 + 3)]) (hpP : pP.length = pf + 4) (hpf : pf < 2) (hI : own_I4 pf pa0 pa1 pa2 pa3 pQ) (ho01 : own_p pP pa0 ≤ own_p pP pa1) (ho02 : own_p pP pa0 ≤ own_p pP pa2) (ho03 : own_p pP pa0 ≤ own_p pP pa3) :
    MetFree l (⟨"com/example/bidcrier/bidcrier/CheapestColumns", "siftDown", "(I)V"⟩ : MethodName) (head1 (Jvm.Cond.code (⟨"com/example/bidcrier/bidcrier/CheapestColumns", "siftDown", "(I)V"⟩ : MethodName) prog_7_method_6_code 7 none :: ws) ({ frames := 0, cells := 0, slots := 0, locals := 0 } : Room)) (fun aa U => aa = #[.ref (n0 + 1), .int (1 : Int32)] ∧ Z.Warmed39 U.vm ∧ U.heap = h0) (fun _ _ _ _ _ => True) (fun _ U o U' => ∃ v L, o = .returned v ∧ Q_sd41 Z n0 k0 o1 k2 k3 pP pf pa0 pa1 pa2 pa3 pQ v U'.heap L ∧ FrameEnd U o U' L ({ frames := 0, cells := 0, slots := 0, locals := 0 } : Room).cells ({ frames := 0, cells := 0, slots := 0, locals := 0 } : Room).slots) := by
  refine own_body pn5 ?_
  intro p e s m below meth c T0 hx hby hml hret hlk hown hnm hZ X0 e0
  subst e0
  have N0 : Fr n0 [] := Fr.nil n0
  obtain ⟨ilen, il0, il1, il2, il3, iu0, iu1, iu2, iu3, in01, in02, in03, in12, in13, in23, icov, iq0, iq1, iq2, iq3⟩ := hI
  refine own_cast (ef_sd41 m n0 pf pa0 pa1 pa2 pa3) ?_
  refine w_aloadN X0 hx (hb hby d5_0) rfl rfl (pc' := 1) rfl ?_
  refine w_getf (i := 1) (v := .ref (n0 + 2)) X0 hx hZ hown (wd15 hw) P0 rfl Fo1 2 rfl rfl (hb hby d5_1) (pc' := 4) rfl ?_
  intro T1 X1 P1
  refine w_iloadN X1 hx (hb hby d5_4) rfl (pc' := 5) rfl ?_
  refine w_iaload (i := 2) (jn := 1) (v := .int (Int32.ofNat pa1)) X1 hx hZ P1 rfl hk2 (hb hby d5_5) (by decide) rfl (pc' := 6) rfl ?_
  refine w_istoreN (l' := #[.val (.ref (n0 + 1)), .val (.int (1 : Int32)), .val (.int (Int32.ofNat pa1)), .unset, .unset, .unset, .unset]) X1 hx (hb hby d5_6) rfl (pc' := 7) rfl ?_
  refine w_aloadN X1 hx (hb hby d5_7) rfl rfl (pc' := 8) rfl ?_
  refine w_getf (i := 1) (v := .ref (n0 + 0)) X1 hx hZ hown (wd10 hw) P1 rfl Fo1 0 rfl rfl (hb hby d5_8) (pc' := 11) rfl ?_
  intro T2 X2 P2
  refine w_iloadN X2 hx (hb hby d5_11) rfl (pc' := 12) rfl ?_
  refine w_laloadL (i := 0) (jn := pa1) X2 hx hZ P2 rfl hk0 (hb hby d5_12) (own_oN (by omega)) (own_llt hpP (by omega)) (pc' := 13) rfl ?_
  refine w_lstoreN (l' := #[.val (.ref (n0 + 1)), .val (.int (1 : Int32)), .val (.int (Int32.ofNat pa1)), .val (.long (pP.getD pa1 0)), .second, .unset, .unset]) X2 hx (hb hby d5_13) rfl (pc' := 14) rfl ?_
  refine w_iloadN X2 hx (hb hby d5_14) rfl (pc' := 15) rfl ?_
  refine w_istore (l' := #[.val (.ref (n0 + 1)), .val (.int (1 : Int32)), .val (.int (Int32.ofNat pa1)), .val (.long (pP.getD pa1 0)), .second, .val (.int (1 : Int32)), .unset]) X2 hx (hb hby d5_15) rfl (pc' := 17) rfl ?_
  refine w_iconst (v := (2 : Int32)) X2 hx (hb hby d5_17) rfl (pc' := 18) rfl ?_
  refine w_iload X2 hx (hb hby d5_18) rfl (pc' := 20) rfl ?_
  refine w_imul X2 hx (hb hby d5_20) (pc' := 21) rfl ?_
  refine w_eqI (z := (2 : Int32)) (by decide) ?_
  refine w_iconst (v := (1 : Int32)) X2 hx (hb hby d5_21) rfl (pc' := 22) rfl ?_
  refine w_iadd X2 hx (hb hby d5_22) (pc' := 23) rfl ?_
  refine w_eqI (z := (3 : Int32)) (by decide) ?_
  refine w_aloadN X2 hx (hb hby d5_23) rfl rfl (pc' := 24) rfl ?_
  refine w_getf (i := 1) (v := .ref (n0 + 2)) X2 hx hZ hown (wd15 hw) P2 rfl Fo1 2 rfl rfl (hb hby d5_24) (pc' := 27) rfl ?_
  intro T3 X3 P3
  refine w_arrlen (i := 2) X3 hx hZ P3 rfl hk2 (hb hby d5_27) (z := (4 : Int32)) rfl (pc' := 28) rfl ?_
  refine w_icmp_ge X3 hx (hb hby d5_28) (by decide) (pcY := 144) (by decide) (pc' := 31) rfl (fun h0 => absurd h0 (by decide)) (fun h0 => ?_)
  refine w_iconst (v := (2 : Int32)) X3 hx (hb hby d5_31) rfl (pc' := 32) rfl ?_
  refine w_iload X3 hx (hb hby d5_32) rfl (pc' := 34) rfl ?_
  refine w_imul X3 hx (hb hby d5_34) (pc' := 35) rfl ?_
  refine w_eqI (z := (2 : Int32)) (by decide) ?_
  refine w_iconst (v := (1 : Int32)) X3 hx (hb hby d5_35) rfl (pc' := 36) rfl ?_
  refine w_iadd X3 hx (hb hby d5_36) (pc' := 37) rfl ?_
  refine w_eqI (z := (3 : Int32)) (by decide) ?_
  refine w_istore (l' := #[.val (.ref (n0 + 1)), .val (.int (1 : Int32)), .val (.int (Int32.ofNat pa1)), .val (.long (pP.getD pa1 0)), .second, .val (.int (1 : Int32)), .val (.int (3 : Int32))]) X3 hx (hb hby d5_37) rfl (pc' := 39) rfl ?_
  refine w_iload X3 hx (hb hby d5_39) rfl (pc' := 41) rfl ?_
  refine w_iconst (v := (1 : Int32)) X3 hx (hb hby d5_41) rfl (pc' := 42) rfl ?_
  refine w_iadd X3 hx (hb hby d5_42) (pc' := 43) rfl ?_
  refine w_eqI (z := (4 : Int32)) (by decide) ?_
  refine w_aloadN X3 hx (hb hby d5_43) rfl rfl (pc' := 44) rfl ?_
  refine w_getf (i := 1) (v := .ref (n0 + 2)) X3 hx hZ hown (wd15 hw) P3 rfl Fo1 2 rfl rfl (hb hby d5_44) (pc' := 47) rfl ?_
  intro T4 X4 P4
  refine w_arrlen (i := 2) X4 hx hZ P4 rfl hk2 (hb hby d5_47) (z := (4 : Int32)) rfl (pc' := 48) rfl ?_
  refine w_icmp_ge X4 hx (hb hby d5_48) (by decide) (pcY := 84) (by decide) (pc' := 51) rfl (fun h1 => ?_) (fun h1 => absurd h1 (by decide))
  refine w_aloadN X4 hx (hb hby d5_84) rfl rfl (pc' := 85) rfl ?_
  refine w_getf (i := 1) (v := .ref (n0 + 0)) X4 hx hZ hown (wd10 hw) P4 rfl Fo1 0 rfl rfl (hb hby d5_85) (pc' := 88) rfl ?_
  intro T5 X5 P5
  refine w_aloadN X5 hx (hb hby d5_88) rfl rfl (pc' := 89) rfl ?_
  refine w_getf (i := 1) (v := .ref (n0 + 2)) X5 hx hZ hown (wd15 hw) P5 rfl Fo1 2 rfl rfl (hb hby d5_89) (pc' := 92) rfl ?_
  intro T6 X6 P6
  refine w_iload X6 hx (hb hby d5_92) rfl (pc' := 94) rfl ?_
  refine w_iaload (i := 2) (jn := 3) (v := .int (Int32.ofNat pa3)) X6 hx hZ P6 rfl hk2 (hb hby d5_94) (by decide) rfl (pc' := 95) rfl ?_
  refine w_laloadL (i := 0) (jn := pa3) X6 hx hZ P6 rfl hk0 (hb hby d5_95) (own_oN (by omega)) (own_llt hpP (by omega)) (pc' := 96) rfl ?_
  refine w_lloadN X6 hx (hb hby d5_96) rfl (pc' := 97) rfl ?_
  refine w_lcmp_lt X6 hx (hb hby d5_97) rfl (hb hby d5_98) (by decide) (pcY := 104) (by decide) (pc' := 101) rfl (fun h2 => ?_) (fun h2 => ?_)
  · refine w_aloadN X6 hx (hb hby d5_104) rfl rfl (pc' := 105) rfl ?_
    refine w_getf (i := 1) (v := .ref (n0 + 2)) X6 hx hZ hown (wd15 hw) P6 rfl Fo1 2 rfl rfl (hb hby d5_105) (pc' := 108) rfl ?_
    intro T7 X7 P7
    refine w_iload X7 hx (hb hby d5_108) rfl (pc' := 110) rfl ?_
    refine w_aloadN X7 hx (hb hby d5_110) rfl rfl (pc' := 111) rfl ?_
    refine w_getf (i := 1) (v := .ref (n0 + 2)) X7 hx hZ hown (wd15 hw) P7 rfl Fo1 2 rfl rfl (hb hby d5_111) (pc' := 114) rfl ?_
    intro T8 X8 P8
    refine w_iload X8 hx (hb hby d5_114) rfl (pc' := 116) rfl ?_
    refine w_iaload (i := 2) (jn := 3) (v := .int (Int32.ofNat pa3)) X8 hx hZ P8 rfl hk2 (hb hby d5_116) (by decide) rfl (pc' := 117) rfl ?_
    refine w_iastore (i := 2) (jn := 1) X8 hx hZ N0 P8 rfl hk2 (hb hby d5_117) (by decide) (Nat.le_of_ble_eq_true rfl) (pc' := 118) rfl ?_
    intro T9 L1 N1 X9 P9
    replace P9 : HP n0 T9.heap [AC k0 (List.map Value.long pP), o1, AC k2 [.int (Int32.ofNat pa0), .int (Int32.ofNat pa3), .int (Int32.ofNat pa2), .int (Int32.ofNat pa3)], AC k3 (List.map Value.int pQ)] := P9
    refine w_aloadN X9 hx (hb hby d5_118) rfl rfl (pc' := 119) rfl ?_
    refine w_getf (i := 1) (v := .ref (n0 + 3)) X9 hx hZ hown (wd17 hw) P9 rfl Fo1 3 rfl rfl (hb hby d5_119) (pc' := 122) rfl ?_
    intro T10 X10 P10
    refine w_aloadN X10 hx (hb hby d5_122) rfl rfl (pc' := 123) rfl ?_
    refine w_getf (i := 1) (v := .ref (n0 + 2)) X10 hx hZ hown (wd15 hw) P10 rfl Fo1 2 rfl rfl (hb hby d5_123) (pc' := 126) rfl ?_
    intro T11 X11 P11
    refine w_iload X11 hx (hb hby d5_126) rfl (pc' := 128) rfl ?_
    refine w_iaload (i := 2) (jn := 1) (v := .int (Int32.ofNat pa3)) X11 hx hZ P11 rfl hk2 (hb hby d5_128) (by decide) rfl (pc' := 129) rfl ?_
    refine w_aloadN X11 hx (hb hby d5_129) rfl rfl (pc' := 130) rfl ?_
    refine w_getf (i := 1) (v := .int (Int32.ofNat pf)) X11 hx hZ hown (wd12 hw) P11 rfl Fo1 1 rfl rfl (hb hby d5_130) (pc' := 133) rfl ?_
    intro T12 X12 P12
    refine w_isub X12 hx (hb hby d5_133) (pc' := 134) rfl ?_
    refine w_eqI (z := (Int32.ofNat (pa3 - pf))) (own_osub (a := pa3) (b := pf) (by omega)) ?_
    refine w_iload X12 hx (hb hby d5_134) rfl (pc' := 136) rfl ?_
    refine w_iastoreL (i := 3) (jn := (pa3 - pf)) X12 hx hZ N1 P12 rfl hk3 (hb hby d5_136) (own_oN (by omega)) (own_llt ilen (by omega)) (pc' := 137) rfl ?_
    intro T13 L2 N2 X13 P13
    replace P13 : HP n0 T13.heap [AC k0 (List.map Value.long pP), o1, AC k2 [.int (Int32.ofNat pa0), .int (Int32.ofNat pa3), .int (Int32.ofNat pa2), .int (Int32.ofNat pa3)], AC k3 (List.map Value.int (pQ.set (pa3 - pf) (1 : Int32)))] := P13
    refine w_iload X13 hx (hb hby d5_137) rfl (pc' := 139) rfl ?_
    refine w_istore (l' := #[.val (.ref (n0 + 1)), .val (.int (1 : Int32)), .val (.int (Int32.ofNat pa1)), .val (.long (pP.getD pa1 0)), .second, .val (.int (3 : Int32)), .val (.int (3 : Int32))]) X13 hx (hb hby d5_139) rfl (pc' := 141) rfl ?_
    refine w_goto X13 hx (hb hby d5_141) (by decide) (pc' := 17) (by decide) ?_
    refine w_iconst (v := (2 : Int32)) X13 hx (hb hby d5_17) rfl (pc' := 18) rfl ?_
    refine w_iload X13 hx (hb hby d5_18) rfl (pc' := 20) rfl ?_
    refine w_imul X13 hx (hb hby d5_20) (pc' := 21) rfl ?_
    refine w_eqI (z := (6 : Int32)) (by decide) ?_
    refine w_iconst (v := (1 : Int32)) X13 hx (hb hby d5_21) rfl (pc' := 22) rfl ?_
    refine w_iadd X13 hx (hb hby d5_22) (pc' := 23) rfl ?_
    refine w_eqI (z := (7 : Int32)) (by decide) ?_
    refine w_aloadN X13 hx (hb hby d5_23) rfl rfl (pc' := 24) rfl ?_
    refine w_getf (i := 1) (v := .ref (n0 + 2)) X13 hx hZ hown (wd15 hw) P13 rfl Fo1 2 rfl rfl (hb hby d5_24) (pc' := 27) rfl ?_
    intro T14 X14 P14
    refine w_arrlen (i := 2) X14 hx hZ P14 rfl hk2 (hb hby d5_27) (z := (4 : Int32)) rfl (pc' := 28) rfl ?_
    refine w_icmp_ge X14 hx (hb hby d5_28) (by decide) (pcY := 144) (by decide) (pc' := 31) rfl (fun h3 => ?_) (fun h3 => absurd h3 (by decide))
    refine w_aloadN X14 hx (hb hby d5_144) rfl rfl (pc' := 145) rfl ?_
    refine w_getf (i := 1) (v := .ref (n0 + 2)) X14 hx hZ hown (wd15 hw) P14 rfl Fo1 2 rfl rfl (hb hby d5_145) (pc' := 148) rfl ?_
    intro T15 X15 P15
    refine w_iload X15 hx (hb hby d5_148) rfl (pc' := 150) rfl ?_
    refine w_iloadN X15 hx (hb hby d5_150) rfl (pc' := 151) rfl ?_
    refine w_iastore (i := 2) (jn := 3) X15 hx hZ N2 P15 rfl hk2 (hb hby d5_151) (by decide) (Nat.le_of_ble_eq_true rfl) (pc' := 152) rfl ?_
    intro T16 L3 N3 X16 P16
    replace P16 : HP n0 T16.heap [AC k0 (List.map Value.long pP), o1, AC k2 [.int (Int32.ofNat pa0), .int (Int32.ofNat pa3), .int (Int32.ofNat pa2), .int (Int32.ofNat pa1)], AC k3 (List.map Value.int (pQ.set (pa3 - pf) (1 : Int32)))] := P16
    refine w_aloadN X16 hx (hb hby d5_152) rfl rfl (pc' := 153) rfl ?_
    refine w_getf (i := 1) (v := .ref (n0 + 3)) X16 hx hZ hown (wd17 hw) P16 rfl Fo1 3 rfl rfl (hb hby d5_153) (pc' := 156) rfl ?_
    intro T17 X17 P17
    refine w_iloadN X17 hx (hb hby d5_156) rfl (pc' := 157) rfl ?_
    refine w_aloadN X17 hx (hb hby d5_157) rfl rfl (pc' := 158) rfl ?_
    refine w_getf (i := 1) (v := .int (Int32.ofNat pf)) X17 hx hZ hown (wd12 hw) P17 rfl Fo1 1 rfl rfl (hb hby d5_158) (pc' := 161) rfl ?_
    intro T18 X18 P18
    refine w_isub X18 hx (hb hby d5_161) (pc' := 162) rfl ?_
    refine w_eqI (z := (Int32.ofNat (pa1 - pf))) (own_osub (a := pa1) (b := pf) (by omega)) ?_
    refine w_iload X18 hx (hb hby d5_162) rfl (pc' := 164) rfl ?_
    refine w_iastoreL (i := 3) (jn := (pa1 - pf)) X18 hx hZ N3 P18 rfl hk3 (hb hby d5_164) (own_oN (by omega)) (own_llt (own_sl ilen) (by omega)) (pc' := 165) rfl ?_
    intro T19 L4 N4 X19 P19
    replace P19 : HP n0 T19.heap [AC k0 (List.map Value.long pP), o1, AC k2 [.int (Int32.ofNat pa0), .int (Int32.ofNat pa3), .int (Int32.ofNat pa2), .int (Int32.ofNat pa1)], AC k3 (List.map Value.int ((pQ.set (pa3 - pf) (1 : Int32)).set (pa1 - pf) (3 : Int32)))] := P19
    have h2p := own_plt h2
    exact w_ret_v X19 hx hret hlk (hb hby d5_165) (by decide) (by decide) ⟨rfl, N4, pa0, pa3, pa2, pa1, ((pQ.set (pa3 - pf) (1 : Int32)).set (pa1 - pf) (3 : Int32)), ⟨(own_sl (own_sl ilen)), il0, il3, il2, il1, iu0, iu3, iu2, iu1, in03, in02, in01, (own_nes in23), (own_nes in13), (own_nes in12), (fun c h1 h2 => by have q := icov c h1 h2; omega), (by rw [own_gn (own_sne il1 il0 (own_nes in01)), own_gn (own_sne il3 il0 (own_nes in03))]; exact iq0), (by rw [own_gn (own_sne il1 il3 in13), own_gp (i := pa3 - pf) ilen (by omega)]), (by rw [own_gn (own_sne il1 il2 in12), own_gn (own_sne il3 il2 (own_nes in23))]; exact iq2), (by rw [own_gp (i := pa1 - pf) (own_sl ilen) (by omega)])⟩, ⟨by omega, by omega, by omega⟩, P19⟩
  · refine w_goto X6 hx (hb hby d5_101) (by decide) (pc' := 144) (by decide) ?_
    refine w_aloadN X6 hx (hb hby d5_144) rfl rfl (pc' := 145) rfl ?_
    refine w_getf (i := 1) (v := .ref (n0 + 2)) X6 hx hZ hown (wd15 hw) P6 rfl Fo1 2 rfl rfl (hb hby d5_145) (pc' := 148) rfl ?_
    intro T20 X20 P20
    refine w_iload X20 hx (hb hby d5_148) rfl (pc' := 150) rfl ?_
    refine w_iloadN X20 hx (hb hby d5_150) rfl (pc' := 151) rfl ?_
    refine w_iastore (i := 2) (jn := 1) X20 hx hZ N0 P20 rfl hk2 (hb hby d5_151) (by decide) (Nat.le_of_ble_eq_true rfl) (pc' := 152) rfl ?_
    intro T21 L5 N5 X21 P21
    replace P21 : HP n0 T21.heap [AC k0 (List.map Value.long pP), o1, AC k2 [.int (Int32.ofNat pa0), .int (Int32.ofNat pa1), .int (Int32.ofNat pa2), .int (Int32.ofNat pa3)], AC k3 (List.map Value.int pQ)] := P21
    refine w_aloadN X21 hx (hb hby d5_152) rfl rfl (pc' := 153) rfl ?_
    refine w_getf (i := 1) (v := .ref (n0 + 3)) X21 hx hZ hown (wd17 hw) P21 rfl Fo1 3 rfl rfl (hb hby d5_153) (pc' := 156) rfl ?_
    intro T22 X22 P22
    refine w_iloadN X22 hx (hb hby d5_156) rfl (pc' := 157) rfl ?_
    refine w_aloadN X22 hx (hb hby d5_157) rfl rfl (pc' := 158) rfl ?_
    refine w_getf (i := 1) (v := .int (Int32.ofNat pf)) X22 hx hZ hown (wd12 hw) P22 rfl Fo1 1 rfl rfl (hb hby d5_158) (pc' := 161) rfl ?_
    intro T23 X23 P23
    refine w_isub X23 hx (hb hby d5_161) (pc' := 162) rfl ?_
    refine w_eqI (z := (Int32.ofNat (pa1 - pf))) (own_osub (a := pa1) (b := pf) (by omega)) ?_
    refine w_iload X23 hx (hb hby d5_162) rfl (pc' := 164) rfl ?_
    refine w_iastoreL (i := 3) (jn := (pa1 - pf)) X23 hx hZ N5 P23 rfl hk3 (hb hby d5_164) (own_oN (by omega)) (own_llt ilen (by omega)) (pc' := 165) rfl ?_
    intro T24 L6 N6 X24 P24
    replace P24 : HP n0 T24.heap [AC k0 (List.map Value.long pP), o1, AC k2 [.int (Int32.ofNat pa0), .int (Int32.ofNat pa1), .int (Int32.ofNat pa2), .int (Int32.ofNat pa3)], AC k3 (List.map Value.int (pQ.set (pa1 - pf) (1 : Int32)))] := P24
    have h2p := own_pnl h2
    exact w_ret_v X24 hx hret hlk (hb hby d5_165) (by decide) (by decide) ⟨rfl, N6, pa0, pa1, pa2, pa3, (pQ.set (pa1 - pf) (1 : Int32)), ⟨(own_sl ilen), il0, il1, il2, il3, iu0, iu1, iu2, iu3, in01, in02, in03, in12, in13, in23, (fun c h1 h2 => by have q := icov c h1 h2; omega), (by rw [own_gn (own_sne il1 il0 (own_nes in01))]; exact iq0), (by rw [own_gp (i := pa1 - pf) ilen (by omega)]), (by rw [own_gn (own_sne il1 il2 in12)]; exact iq2), (by rw [own_gn (own_sne il1 il3 in13)]; exact iq3)⟩, ⟨by omega, by omega, by omega⟩, P24⟩
theorem ef_sd42 (m : MethodId) (n0 : Nat) (pf : Nat) (pa0 : Nat) (pa1 : Nat) (pa2 : Nat) (pa3 : Nat) : entryFrame m #[.ref (n0 + 1), .int (2 : Int32)] 7 = mkF m 0 #[.val (.ref (n0 + 1)), .val (.int (2 : Int32)), .unset, .unset, .unset, .unset, .unset] [] := by first | (simp [entryFrame, mkF, argsToLocals, Value.category]; done) | rfl
def Q_sd42 (Z : State) (n0 : Nat) (k0 : ClassId) (o1 : Jvm.Cell) (k2 : ClassId) (k3 : ClassId) (pP : List Int64) (pf : Nat) (pa0 : Nat) (pa1 : Nat) (pa2 : Nat) (pa3 : Nat) (pQ : List Int32) (v : Option Value) (h : Heap) (L : List Loc) : Prop := v = none ∧ Fr n0 L ∧ ∃ (b0 b1 b2 b3 : Nat) (Q1 : List Int32), own_I4 pf b0 b1 b2 b3 Q1 ∧ own_O4 pP b0 b1 b2 b3 ∧ HP n0 h [AC k0 (List.map Value.long pP), o1, AC k2 [Value.int (Int32.ofNat b0), Value.int (Int32.ofNat b1), Value.int (Int32.ofNat b2), Value.int (Int32.ofNat b3)], AC k3 (List.map Value.int Q1)]
set_option maxRecDepth 65536 in
set_option maxHeartbeats 40000000 in
theorem rm_sd42 (l : Launch) (Z : State) (a0 : Array Value) (hw : ∀ d ∈ tables_1, d.before a0 Z = true) (ws : List Jvm.Cond) (n0 : Nat) (k0 : ClassId) (o1 : Jvm.Cell) (k2 : ClassId) (k3 : ClassId) (pP : List Int64) (pf : Nat) (pa0 : Nat) (pa1 : Nat) (pa2 : Nat) (pa3 : Nat) (pQ : List Int32) (h0 : Heap) (P0 : HP n0 h0 [AC k0 (List.map Value.long pP), o1, AC k2 [.int (Int32.ofNat pa0), .int (Int32.ofNat pa1), .int (Int32.ofNat pa2), .int (Int32.ofNat pa3)], AC k3 (List.map Value.int pQ)]) (hk0 : IsA Z k0 .long) (hk2 : IsA Z k2 .int) (hk3 : IsA Z k3 .int) (Fo1 : ObjF Z o1 "com/example/bidcrier/bidcrier/CheapestColumns" fl_C0 [.ref (n0 + 0), .int (Int32.ofNat pf), .ref (n0 + 2), .ref (n0 + 3)]) (hpP : pP.length = pf + 4) (hpf : pf < 2) (hI : own_I4 pf pa0 pa1 pa2 pa3 pQ) (ho01 : own_p pP pa0 ≤ own_p pP pa1) (ho02 : own_p pP pa0 ≤ own_p pP pa2) (ho13 : own_p pP pa1 ≤ own_p pP pa3) :
    MetFree l (⟨"com/example/bidcrier/bidcrier/CheapestColumns", "siftDown", "(I)V"⟩ : MethodName) (head1 (Jvm.Cond.code (⟨"com/example/bidcrier/bidcrier/CheapestColumns", "siftDown", "(I)V"⟩ : MethodName) prog_7_method_6_code 7 none :: ws) ({ frames := 0, cells := 0, slots := 0, locals := 0 } : Room)) (fun aa U => aa = #[.ref (n0 + 1), .int (2 : Int32)] ∧ Z.Warmed39 U.vm ∧ U.heap = h0) (fun _ _ _ _ _ => True) (fun _ U o U' => ∃ v L, o = .returned v ∧ Q_sd42 Z n0 k0 o1 k2 k3 pP pf pa0 pa1 pa2 pa3 pQ v U'.heap L ∧ FrameEnd U o U' L ({ frames := 0, cells := 0, slots := 0, locals := 0 } : Room).cells ({ frames := 0, cells := 0, slots := 0, locals := 0 } : Room).slots) := by
  refine own_body pn5 ?_
  intro p e s m below meth c T0 hx hby hml hret hlk hown hnm hZ X0 e0
  subst e0
  have N0 : Fr n0 [] := Fr.nil n0
  obtain ⟨ilen, il0, il1, il2, il3, iu0, iu1, iu2, iu3, in01, in02, in03, in12, in13, in23, icov, iq0, iq1, iq2, iq3⟩ := hI
  refine own_cast (ef_sd42 m n0 pf pa0 pa1 pa2 pa3) ?_
  refine w_aloadN X0 hx (hb hby d5_0) rfl rfl (pc' := 1) rfl ?_
  refine w_getf (i := 1) (v := .ref (n0 + 2)) X0 hx hZ hown (wd15 hw) P0 rfl Fo1 2 rfl rfl (hb hby d5_1) (pc' := 4) rfl ?_
  intro T1 X1 P1
  refine w_iloadN X1 hx (hb hby d5_4) rfl (pc' := 5) rfl ?_
  refine w_iaload (i := 2) (jn := 2) (v := .int (Int32.ofNat pa2)) X1 hx hZ P1 rfl hk2 (hb hby d5_5) (by decide) rfl (pc' := 6) rfl ?_
  refine w_istoreN (l' := #[.val (.ref (n0 + 1)), .val (.int (2 : Int32)), .val (.int (Int32.ofNat pa2)), .unset, .unset, .unset, .unset]) X1 hx (hb hby d5_6) rfl (pc' := 7) rfl ?_
  refine w_aloadN X1 hx (hb hby d5_7) rfl rfl (pc' := 8) rfl ?_
  refine w_getf (i := 1) (v := .ref (n0 + 0)) X1 hx hZ hown (wd10 hw) P1 rfl Fo1 0 rfl rfl (hb hby d5_8) (pc' := 11) rfl ?_
  intro T2 X2 P2
  refine w_iloadN X2 hx (hb hby d5_11) rfl (pc' := 12) rfl ?_
  refine w_laloadL (i := 0) (jn := pa2) X2 hx hZ P2 rfl hk0 (hb hby d5_12) (own_oN (by omega)) (own_llt hpP (by omega)) (pc' := 13) rfl ?_
  refine w_lstoreN (l' := #[.val (.ref (n0 + 1)), .val (.int (2 : Int32)), .val (.int (Int32.ofNat pa2)), .val (.long (pP.getD pa2 0)), .second, .unset, .unset]) X2 hx (hb hby d5_13) rfl (pc' := 14) rfl ?_
  refine w_iloadN X2 hx (hb hby d5_14) rfl (pc' := 15) rfl ?_
  refine w_istore (l' := #[.val (.ref (n0 + 1)), .val (.int (2 : Int32)), .val (.int (Int32.ofNat pa2)), .val (.long (pP.getD pa2 0)), .second, .val (.int (2 : Int32)), .unset]) X2 hx (hb hby d5_15) rfl (pc' := 17) rfl ?_
  refine w_iconst (v := (2 : Int32)) X2 hx (hb hby d5_17) rfl (pc' := 18) rfl ?_
  refine w_iload X2 hx (hb hby d5_18) rfl (pc' := 20) rfl ?_
  refine w_imul X2 hx (hb hby d5_20) (pc' := 21) rfl ?_
  refine w_eqI (z := (4 : Int32)) (by decide) ?_
  refine w_iconst (v := (1 : Int32)) X2 hx (hb hby d5_21) rfl (pc' := 22) rfl ?_
  refine w_iadd X2 hx (hb hby d5_22) (pc' := 23) rfl ?_
  refine w_eqI (z := (5 : Int32)) (by decide) ?_
  refine w_aloadN X2 hx (hb hby d5_23) rfl rfl (pc' := 24) rfl ?_
  refine w_getf (i := 1) (v := .ref (n0 + 2)) X2 hx hZ hown (wd15 hw) P2 rfl Fo1 2 rfl rfl (hb hby d5_24) (pc' := 27) rfl ?_
  intro T3 X3 P3
  refine w_arrlen (i := 2) X3 hx hZ P3 rfl hk2 (hb hby d5_27) (z := (4 : Int32)) rfl (pc' := 28) rfl ?_
  refine w_icmp_ge X3 hx (hb hby d5_28) (by decide) (pcY := 144) (by decide) (pc' := 31) rfl (fun h0 => ?_) (fun h0 => absurd h0 (by decide))
  refine w_aloadN X3 hx (hb hby d5_144) rfl rfl (pc' := 145) rfl ?_
  refine w_getf (i := 1) (v := .ref (n0 + 2)) X3 hx hZ hown (wd15 hw) P3 rfl Fo1 2 rfl rfl (hb hby d5_145) (pc' := 148) rfl ?_
  intro T4 X4 P4
  refine w_iload X4 hx (hb hby d5_148) rfl (pc' := 150) rfl ?_
  refine w_iloadN X4 hx (hb hby d5_150) rfl (pc' := 151) rfl ?_
  refine w_iastore (i := 2) (jn := 2) X4 hx hZ N0 P4 rfl hk2 (hb hby d5_151) (by decide) (Nat.le_of_ble_eq_true rfl) (pc' := 152) rfl ?_
  intro T5 L1 N1 X5 P5
  replace P5 : HP n0 T5.heap [AC k0 (List.map Value.long pP), o1, AC k2 [.int (Int32.ofNat pa0), .int (Int32.ofNat pa1), .int (Int32.ofNat pa2), .int (Int32.ofNat pa3)], AC k3 (List.map Value.int pQ)] := P5
  refine w_aloadN X5 hx (hb hby d5_152) rfl rfl (pc' := 153) rfl ?_
  refine w_getf (i := 1) (v := .ref (n0 + 3)) X5 hx hZ hown (wd17 hw) P5 rfl Fo1 3 rfl rfl (hb hby d5_153) (pc' := 156) rfl ?_
  intro T6 X6 P6
  refine w_iloadN X6 hx (hb hby d5_156) rfl (pc' := 157) rfl ?_
  refine w_aloadN X6 hx (hb hby d5_157) rfl rfl (pc' := 158) rfl ?_
  refine w_getf (i := 1) (v := .int (Int32.ofNat pf)) X6 hx hZ hown (wd12 hw) P6 rfl Fo1 1 rfl rfl (hb hby d5_158) (pc' := 161) rfl ?_
  intro T7 X7 P7
  refine w_isub X7 hx (hb hby d5_161) (pc' := 162) rfl ?_
  refine w_eqI (z := (Int32.ofNat (pa2 - pf))) (own_osub (a := pa2) (b := pf) (by omega)) ?_
  refine w_iload X7 hx (hb hby d5_162) rfl (pc' := 164) rfl ?_
  refine w_iastoreL (i := 3) (jn := (pa2 - pf)) X7 hx hZ N1 P7 rfl hk3 (hb hby d5_164) (own_oN (by omega)) (own_llt ilen (by omega)) (pc' := 165) rfl ?_
  intro T8 L2 N2 X8 P8
  replace P8 : HP n0 T8.heap [AC k0 (List.map Value.long pP), o1, AC k2 [.int (Int32.ofNat pa0), .int (Int32.ofNat pa1), .int (Int32.ofNat pa2), .int (Int32.ofNat pa3)], AC k3 (List.map Value.int (pQ.set (pa2 - pf) (2 : Int32)))] := P8
  exact w_ret_v X8 hx hret hlk (hb hby d5_165) (by decide) (by decide) ⟨rfl, N2, pa0, pa1, pa2, pa3, (pQ.set (pa2 - pf) (2 : Int32)), ⟨(own_sl ilen), il0, il1, il2, il3, iu0, iu1, iu2, iu3, in01, in02, in03, in12, in13, in23, (fun c h1 h2 => by have q := icov c h1 h2; omega), (by rw [own_gn (own_sne il2 il0 (own_nes in02))]; exact iq0), (by rw [own_gn (own_sne il2 il1 (own_nes in12))]; exact iq1), (by rw [own_gp (i := pa2 - pf) ilen (by omega)]), (by rw [own_gn (own_sne il2 il3 in23)]; exact iq3)⟩, ⟨by omega, by omega, by omega⟩, P8⟩
theorem ef_sd43 (m : MethodId) (n0 : Nat) (pf : Nat) (pa0 : Nat) (pa1 : Nat) (pa2 : Nat) (pa3 : Nat) : entryFrame m #[.ref (n0 + 1), .int (3 : Int32)] 7 = mkF m 0 #[.val (.ref (n0 + 1)), .val (.int (3 : Int32)), .unset, .unset, .unset, .unset, .unset] [] := by first | (simp [entryFrame, mkF, argsToLocals, Value.category]; done) | rfl
def Q_sd43 (Z : State) (n0 : Nat) (k0 : ClassId) (o1 : Jvm.Cell) (k2 : ClassId) (k3 : ClassId) (pP : List Int64) (pf : Nat) (pa0 : Nat) (pa1 : Nat) (pa2 : Nat) (pa3 : Nat) (pQ : List Int32) (v : Option Value) (h : Heap) (L : List Loc) : Prop := v = none ∧ Fr n0 L ∧ ∃ (b0 b1 b2 b3 : Nat) (Q1 : List Int32), own_I4 pf b0 b1 b2 b3 Q1 ∧ own_O4 pP b0 b1 b2 b3 ∧ HP n0 h [AC k0 (List.map Value.long pP), o1, AC k2 [Value.int (Int32.ofNat b0), Value.int (Int32.ofNat b1), Value.int (Int32.ofNat b2), Value.int (Int32.ofNat b3)], AC k3 (List.map Value.int Q1)]
set_option maxRecDepth 65536 in
set_option maxHeartbeats 40000000 in
theorem rm_sd43 (l : Launch) (Z : State) (a0 : Array Value) (hw : ∀ d ∈ tables_1, d.before a0 Z = true) (ws : List Jvm.Cond) (n0 : Nat) (k0 : ClassId) (o1 : Jvm.Cell) (k2 : ClassId) (k3 : ClassId) (pP : List Int64) (pf : Nat) (pa0 : Nat) (pa1 : Nat) (pa2 : Nat) (pa3 : Nat) (pQ : List Int32) (h0 : Heap) (P0 : HP n0 h0 [AC k0 (List.map Value.long pP), o1, AC k2 [.int (Int32.ofNat pa0), .int (Int32.ofNat pa1), .int (Int32.ofNat pa2), .int (Int32.ofNat pa3)], AC k3 (List.map Value.int pQ)]) (hk0 : IsA Z k0 .long) (hk2 : IsA Z k2 .int) (hk3 : IsA Z k3 .int) (Fo1 : ObjF Z o1 "com/example/bidcrier/bidcrier/CheapestColumns" fl_C0 [.ref (n0 + 0), .int (Int32.ofNat pf), .ref (n0 + 2), .ref (n0 + 3)]) (hpP : pP.length = pf + 4) (hpf : pf < 2) (hI : own_I4 pf pa0 pa1 pa2 pa3 pQ) (ho01 : own_p pP pa0 ≤ own_p pP pa1) (ho02 : own_p pP pa0 ≤ own_p pP pa2) (ho13 : own_p pP pa1 ≤ own_p pP pa3) :
    MetFree l (⟨"com/example/bidcrier/bidcrier/CheapestColumns", "siftDown", "(I)V"⟩ : MethodName) (head1 (Jvm.Cond.code (⟨"com/example/bidcrier/bidcrier/CheapestColumns", "siftDown", "(I)V"⟩ : MethodName) prog_7_method_6_code 7 none :: ws) ({ frames := 0, cells := 0, slots := 0, locals := 0 } : Room)) (fun aa U => aa = #[.ref (n0 + 1), .int (3 : Int32)] ∧ Z.Warmed39 U.vm ∧ U.heap = h0) (fun _ _ _ _ _ => True) (fun _ U o U' => ∃ v L, o = .returned v ∧ Q_sd43 Z n0 k0 o1 k2 k3 pP pf pa0 pa1 pa2 pa3 pQ v U'.heap L ∧ FrameEnd U o U' L ({ frames := 0, cells := 0, slots := 0, locals := 0 } : Room).cells ({ frames := 0, cells := 0, slots := 0, locals := 0 } : Room).slots) := by
  refine own_body pn5 ?_
  intro p e s m below meth c T0 hx hby hml hret hlk hown hnm hZ X0 e0
  subst e0
  have N0 : Fr n0 [] := Fr.nil n0
  obtain ⟨ilen, il0, il1, il2, il3, iu0, iu1, iu2, iu3, in01, in02, in03, in12, in13, in23, icov, iq0, iq1, iq2, iq3⟩ := hI
  refine own_cast (ef_sd43 m n0 pf pa0 pa1 pa2 pa3) ?_
  refine w_aloadN X0 hx (hb hby d5_0) rfl rfl (pc' := 1) rfl ?_
  refine w_getf (i := 1) (v := .ref (n0 + 2)) X0 hx hZ hown (wd15 hw) P0 rfl Fo1 2 rfl rfl (hb hby d5_1) (pc' := 4) rfl ?_
  intro T1 X1 P1
  refine w_iloadN X1 hx (hb hby d5_4) rfl (pc' := 5) rfl ?_
  refine w_iaload (i := 2) (jn := 3) (v := .int (Int32.ofNat pa3)) X1 hx hZ P1 rfl hk2 (hb hby d5_5) (by decide) rfl (pc' := 6) rfl ?_
  refine w_istoreN (l' := #[.val (.ref (n0 + 1)), .val (.int (3 : Int32)), .val (.int (Int32.ofNat pa3)), .unset, .unset, .unset, .unset]) X1 hx (hb hby d5_6) rfl (pc' := 7) rfl ?_
  refine w_aloadN X1 hx (hb hby d5_7) rfl rfl (pc' := 8) rfl ?_
  refine w_getf (i := 1) (v := .ref (n0 + 0)) X1 hx hZ hown (wd10 hw) P1 rfl Fo1 0 rfl rfl (hb hby d5_8) (pc' := 11) rfl ?_
  intro T2 X2 P2
  refine w_iloadN X2 hx (hb hby d5_11) rfl (pc' := 12) rfl ?_
  refine w_laloadL (i := 0) (jn := pa3) X2 hx hZ P2 rfl hk0 (hb hby d5_12) (own_oN (by omega)) (own_llt hpP (by omega)) (pc' := 13) rfl ?_
  refine w_lstoreN (l' := #[.val (.ref (n0 + 1)), .val (.int (3 : Int32)), .val (.int (Int32.ofNat pa3)), .val (.long (pP.getD pa3 0)), .second, .unset, .unset]) X2 hx (hb hby d5_13) rfl (pc' := 14) rfl ?_
  refine w_iloadN X2 hx (hb hby d5_14) rfl (pc' := 15) rfl ?_
  refine w_istore (l' := #[.val (.ref (n0 + 1)), .val (.int (3 : Int32)), .val (.int (Int32.ofNat pa3)), .val (.long (pP.getD pa3 0)), .second, .val (.int (3 : Int32)), .unset]) X2 hx (hb hby d5_15) rfl (pc' := 17) rfl ?_
  refine w_iconst (v := (2 : Int32)) X2 hx (hb hby d5_17) rfl (pc' := 18) rfl ?_
  refine w_iload X2 hx (hb hby d5_18) rfl (pc' := 20) rfl ?_
  refine w_imul X2 hx (hb hby d5_20) (pc' := 21) rfl ?_
  refine w_eqI (z := (6 : Int32)) (by decide) ?_
  refine w_iconst (v := (1 : Int32)) X2 hx (hb hby d5_21) rfl (pc' := 22) rfl ?_
  refine w_iadd X2 hx (hb hby d5_22) (pc' := 23) rfl ?_
  refine w_eqI (z := (7 : Int32)) (by decide) ?_
  refine w_aloadN X2 hx (hb hby d5_23) rfl rfl (pc' := 24) rfl ?_
  refine w_getf (i := 1) (v := .ref (n0 + 2)) X2 hx hZ hown (wd15 hw) P2 rfl Fo1 2 rfl rfl (hb hby d5_24) (pc' := 27) rfl ?_
  intro T3 X3 P3
  refine w_arrlen (i := 2) X3 hx hZ P3 rfl hk2 (hb hby d5_27) (z := (4 : Int32)) rfl (pc' := 28) rfl ?_
  refine w_icmp_ge X3 hx (hb hby d5_28) (by decide) (pcY := 144) (by decide) (pc' := 31) rfl (fun h0 => ?_) (fun h0 => absurd h0 (by decide))
  refine w_aloadN X3 hx (hb hby d5_144) rfl rfl (pc' := 145) rfl ?_
  refine w_getf (i := 1) (v := .ref (n0 + 2)) X3 hx hZ hown (wd15 hw) P3 rfl Fo1 2 rfl rfl (hb hby d5_145) (pc' := 148) rfl ?_
  intro T4 X4 P4
  refine w_iload X4 hx (hb hby d5_148) rfl (pc' := 150) rfl ?_
  refine w_iloadN X4 hx (hb hby d5_150) rfl (pc' := 151) rfl ?_
  refine w_iastore (i := 2) (jn := 3) X4 hx hZ N0 P4 rfl hk2 (hb hby d5_151) (by decide) (Nat.le_of_ble_eq_true rfl) (pc' := 152) rfl ?_
  intro T5 L1 N1 X5 P5
  replace P5 : HP n0 T5.heap [AC k0 (List.map Value.long pP), o1, AC k2 [.int (Int32.ofNat pa0), .int (Int32.ofNat pa1), .int (Int32.ofNat pa2), .int (Int32.ofNat pa3)], AC k3 (List.map Value.int pQ)] := P5
  refine w_aloadN X5 hx (hb hby d5_152) rfl rfl (pc' := 153) rfl ?_
  refine w_getf (i := 1) (v := .ref (n0 + 3)) X5 hx hZ hown (wd17 hw) P5 rfl Fo1 3 rfl rfl (hb hby d5_153) (pc' := 156) rfl ?_
  intro T6 X6 P6
  refine w_iloadN X6 hx (hb hby d5_156) rfl (pc' := 157) rfl ?_
  refine w_aloadN X6 hx (hb hby d5_157) rfl rfl (pc' := 158) rfl ?_
  refine w_getf (i := 1) (v := .int (Int32.ofNat pf)) X6 hx hZ hown (wd12 hw) P6 rfl Fo1 1 rfl rfl (hb hby d5_158) (pc' := 161) rfl ?_
  intro T7 X7 P7
  refine w_isub X7 hx (hb hby d5_161) (pc' := 162) rfl ?_
  refine w_eqI (z := (Int32.ofNat (pa3 - pf))) (own_osub (a := pa3) (b := pf) (by omega)) ?_
  refine w_iload X7 hx (hb hby d5_162) rfl (pc' := 164) rfl ?_
  refine w_iastoreL (i := 3) (jn := (pa3 - pf)) X7 hx hZ N1 P7 rfl hk3 (hb hby d5_164) (own_oN (by omega)) (own_llt ilen (by omega)) (pc' := 165) rfl ?_
  intro T8 L2 N2 X8 P8
  replace P8 : HP n0 T8.heap [AC k0 (List.map Value.long pP), o1, AC k2 [.int (Int32.ofNat pa0), .int (Int32.ofNat pa1), .int (Int32.ofNat pa2), .int (Int32.ofNat pa3)], AC k3 (List.map Value.int (pQ.set (pa3 - pf) (3 : Int32)))] := P8
  exact w_ret_v X8 hx hret hlk (hb hby d5_165) (by decide) (by decide) ⟨rfl, N2, pa0, pa1, pa2, pa3, (pQ.set (pa3 - pf) (3 : Int32)), ⟨(own_sl ilen), il0, il1, il2, il3, iu0, iu1, iu2, iu3, in01, in02, in03, in12, in13, in23, (fun c h1 h2 => by have q := icov c h1 h2; omega), (by rw [own_gn (own_sne il3 il0 (own_nes in03))]; exact iq0), (by rw [own_gn (own_sne il3 il1 (own_nes in13))]; exact iq1), (by rw [own_gn (own_sne il3 il2 (own_nes in23))]; exact iq2), (by rw [own_gp (i := pa3 - pf) ilen (by omega)])⟩, ⟨by omega, by omega, by omega⟩, P8⟩
theorem ef_sd41i (m : MethodId) (n0 : Nat) (pf : Nat) (pa0 : Nat) (pa1 : Nat) (pa2 : Nat) (pa3 : Nat) : entryFrame m #[.ref (n0 + 1), .int (1 : Int32)] 7 = mkF m 0 #[.val (.ref (n0 + 1)), .val (.int (1 : Int32)), .unset, .unset, .unset, .unset, .unset] [] := by first | (simp [entryFrame, mkF, argsToLocals, Value.category]; done) | rfl
def Q_sd41i (Z : State) (n0 : Nat) (k0 : ClassId) (o1 : Jvm.Cell) (k2 : ClassId) (k3 : ClassId) (pP : List Int64) (pf : Nat) (pa0 : Nat) (pa1 : Nat) (pa2 : Nat) (pa3 : Nat) (pQ : List Int32) (v : Option Value) (h : Heap) (L : List Loc) : Prop := v = none ∧ Fr n0 L ∧ ∃ (b0 b1 b2 b3 : Nat) (Q1 : List Int32), own_I4 pf b0 b1 b2 b3 Q1 ∧ own_p pP b1 ≤ own_p pP b3 ∧ HP n0 h [AC k0 (List.map Value.long pP), o1, AC k2 [Value.int (Int32.ofNat b0), Value.int (Int32.ofNat b1), Value.int (Int32.ofNat b2), Value.int (Int32.ofNat b3)], AC k3 (List.map Value.int Q1)]
set_option maxRecDepth 65536 in
set_option maxHeartbeats 40000000 in
theorem rm_sd41i (l : Launch) (Z : State) (a0 : Array Value) (hw : ∀ d ∈ tables_1, d.before a0 Z = true) (ws : List Jvm.Cond) (n0 : Nat) (k0 : ClassId) (o1 : Jvm.Cell) (k2 : ClassId) (k3 : ClassId) (pP : List Int64) (pf : Nat) (pa0 : Nat) (pa1 : Nat) (pa2 : Nat) (pa3 : Nat) (pQ : List Int32) (h0 : Heap) (P0 : HP n0 h0 [AC k0 (List.map Value.long pP), o1, AC k2 [.int (Int32.ofNat pa0), .int (Int32.ofNat pa1), .int (Int32.ofNat pa2), .int (Int32.ofNat pa3)], AC k3 (List.map Value.int pQ)]) (hk0 : IsA Z k0 .long) (hk2 : IsA Z k2 .int) (hk3 : IsA Z k3 .int) (Fo1 : ObjF Z o1 "com/example/bidcrier/bidcrier/CheapestColumns" fl_C0 [.ref (n0 + 0), .int (Int32.ofNat pf), .ref (n0 + 2), .ref (n0 + 3)]) (hpP : pP.length = pf + 4) (hpf : pf < 2) (hI : own_I4 pf pa0 pa1 pa2 pa3 pQ) :
    MetFree l (⟨"com/example/bidcrier/bidcrier/CheapestColumns", "siftDown", "(I)V"⟩ : MethodName) (head1 (Jvm.Cond.code (⟨"com/example/bidcrier/bidcrier/CheapestColumns", "siftDown", "(I)V"⟩ : MethodName) prog_7_method_6_code 7 none :: ws) ({ frames := 0, cells := 0, slots := 0, locals := 0 } : Room)) (fun aa U => aa = #[.ref (n0 + 1), .int (1 : Int32)] ∧ Z.Warmed39 U.vm ∧ U.heap = h0) (fun _ _ _ _ _ => True) (fun _ U o U' => ∃ v L, o = .returned v ∧ Q_sd41i Z n0 k0 o1 k2 k3 pP pf pa0 pa1 pa2 pa3 pQ v U'.heap L ∧ FrameEnd U o U' L ({ frames := 0, cells := 0, slots := 0, locals := 0 } : Room).cells ({ frames := 0, cells := 0, slots := 0, locals := 0 } : Room).slots) := by
  refine own_body pn5 ?_
  intro p e s m below meth c T0 hx hby hml hret hlk hown hnm hZ X0 e0
  subst e0
  have N0 : Fr n0 [] := Fr.nil n0
  obtain ⟨ilen, il0, il1, il2, il3, iu0, iu1, iu2, iu3, in01, in02, in03, in12, in13, in23, icov, iq0, iq1, iq2, iq3⟩ := hI
  refine own_cast (ef_sd41i m n0 pf pa0 pa1 pa2 pa3) ?_
  refine w_aloadN X0 hx (hb hby d5_0) rfl rfl (pc' := 1) rfl ?_
  refine w_getf (i := 1) (v := .ref (n0 + 2)) X0 hx hZ hown (wd15 hw) P0 rfl Fo1 2 rfl rfl (hb hby d5_1) (pc' := 4) rfl ?_
  intro T1 X1 P1
  refine w_iloadN X1 hx (hb hby d5_4) rfl (pc' := 5) rfl ?_
  refine w_iaload (i := 2) (jn := 1) (v := .int (Int32.ofNat pa1)) X1 hx hZ P1 rfl hk2 (hb hby d5_5) (by decide) rfl (pc' := 6) rfl ?_
  refine w_istoreN (l' := #[.val (.ref (n0 + 1)), .val (.int (1 : Int32)), .val (.int (Int32.ofNat pa1)), .unset, .unset, .unset, .unset]) X1 hx (hb hby d5_6) rfl (pc' := 7) rfl ?_
  refine w_aloadN X1 hx (hb hby d5_7) rfl rfl (pc' := 8) rfl ?_
  refine w_getf (i := 1) (v := .ref (n0 + 0)) X1 hx hZ hown (wd10 hw) P1 rfl Fo1 0 rfl rfl (hb hby d5_8) (pc' := 11) rfl ?_
  intro T2 X2 P2
  refine w_iloadN X2 hx (hb hby d5_11) rfl (pc' := 12) rfl ?_
  refine w_laloadL (i := 0) (jn := pa1) X2 hx hZ P2 rfl hk0 (hb hby d5_12) (own_oN (by omega)) (own_llt hpP (by omega)) (pc' := 13) rfl ?_
  refine w_lstoreN (l' := #[.val (.ref (n0 + 1)), .val (.int (1 : Int32)), .val (.int (Int32.ofNat pa1)), .val (.long (pP.getD pa1 0)), .second, .unset, .unset]) X2 hx (hb hby d5_13) rfl (pc' := 14) rfl ?_
  refine w_iloadN X2 hx (hb hby d5_14) rfl (pc' := 15) rfl ?_
  refine w_istore (l' := #[.val (.ref (n0 + 1)), .val (.int (1 : Int32)), .val (.int (Int32.ofNat pa1)), .val (.long (pP.getD pa1 0)), .second, .val (.int (1 : Int32)), .unset]) X2 hx (hb hby d5_15) rfl (pc' := 17) rfl ?_
  refine w_iconst (v := (2 : Int32)) X2 hx (hb hby d5_17) rfl (pc' := 18) rfl ?_
  refine w_iload X2 hx (hb hby d5_18) rfl (pc' := 20) rfl ?_
  refine w_imul X2 hx (hb hby d5_20) (pc' := 21) rfl ?_
  refine w_eqI (z := (2 : Int32)) (by decide) ?_
  refine w_iconst (v := (1 : Int32)) X2 hx (hb hby d5_21) rfl (pc' := 22) rfl ?_
  refine w_iadd X2 hx (hb hby d5_22) (pc' := 23) rfl ?_
  refine w_eqI (z := (3 : Int32)) (by decide) ?_
  refine w_aloadN X2 hx (hb hby d5_23) rfl rfl (pc' := 24) rfl ?_
  refine w_getf (i := 1) (v := .ref (n0 + 2)) X2 hx hZ hown (wd15 hw) P2 rfl Fo1 2 rfl rfl (hb hby d5_24) (pc' := 27) rfl ?_
  intro T3 X3 P3
  refine w_arrlen (i := 2) X3 hx hZ P3 rfl hk2 (hb hby d5_27) (z := (4 : Int32)) rfl (pc' := 28) rfl ?_
  refine w_icmp_ge X3 hx (hb hby d5_28) (by decide) (pcY := 144) (by decide) (pc' := 31) rfl (fun h0 => absurd h0 (by decide)) (fun h0 => ?_)
  refine w_iconst (v := (2 : Int32)) X3 hx (hb hby d5_31) rfl (pc' := 32) rfl ?_
  refine w_iload X3 hx (hb hby d5_32) rfl (pc' := 34) rfl ?_
  refine w_imul X3 hx (hb hby d5_34) (pc' := 35) rfl ?_
  refine w_eqI (z := (2 : Int32)) (by decide) ?_
  refine w_iconst (v := (1 : Int32)) X3 hx (hb hby d5_35) rfl (pc' := 36) rfl ?_
  refine w_iadd X3 hx (hb hby d5_36) (pc' := 37) rfl ?_
  refine w_eqI (z := (3 : Int32)) (by decide) ?_
  refine w_istore (l' := #[.val (.ref (n0 + 1)), .val (.int (1 : Int32)), .val (.int (Int32.ofNat pa1)), .val (.long (pP.getD pa1 0)), .second, .val (.int (1 : Int32)), .val (.int (3 : Int32))]) X3 hx (hb hby d5_37) rfl (pc' := 39) rfl ?_
  refine w_iload X3 hx (hb hby d5_39) rfl (pc' := 41) rfl ?_
  refine w_iconst (v := (1 : Int32)) X3 hx (hb hby d5_41) rfl (pc' := 42) rfl ?_
  refine w_iadd X3 hx (hb hby d5_42) (pc' := 43) rfl ?_
  refine w_eqI (z := (4 : Int32)) (by decide) ?_
  refine w_aloadN X3 hx (hb hby d5_43) rfl rfl (pc' := 44) rfl ?_
  refine w_getf (i := 1) (v := .ref (n0 + 2)) X3 hx hZ hown (wd15 hw) P3 rfl Fo1 2 rfl rfl (hb hby d5_44) (pc' := 47) rfl ?_
  intro T4 X4 P4
  refine w_arrlen (i := 2) X4 hx hZ P4 rfl hk2 (hb hby d5_47) (z := (4 : Int32)) rfl (pc' := 48) rfl ?_
  refine w_icmp_ge X4 hx (hb hby d5_48) (by decide) (pcY := 84) (by decide) (pc' := 51) rfl (fun h1 => ?_) (fun h1 => absurd h1 (by decide))
  refine w_aloadN X4 hx (hb hby d5_84) rfl rfl (pc' := 85) rfl ?_
  refine w_getf (i := 1) (v := .ref (n0 + 0)) X4 hx hZ hown (wd10 hw) P4 rfl Fo1 0 rfl rfl (hb hby d5_85) (pc' := 88) rfl ?_
  intro T5 X5 P5
  refine w_aloadN X5 hx (hb hby d5_88) rfl rfl (pc' := 89) rfl ?_
  refine w_getf (i := 1) (v := .ref (n0 + 2)) X5 hx hZ hown (wd15 hw) P5 rfl Fo1 2 rfl rfl (hb hby d5_89) (pc' := 92) rfl ?_
  intro T6 X6 P6
  refine w_iload X6 hx (hb hby d5_92) rfl (pc' := 94) rfl ?_
  refine w_iaload (i := 2) (jn := 3) (v := .int (Int32.ofNat pa3)) X6 hx hZ P6 rfl hk2 (hb hby d5_94) (by decide) rfl (pc' := 95) rfl ?_
  refine w_laloadL (i := 0) (jn := pa3) X6 hx hZ P6 rfl hk0 (hb hby d5_95) (own_oN (by omega)) (own_llt hpP (by omega)) (pc' := 96) rfl ?_
  refine w_lloadN X6 hx (hb hby d5_96) rfl (pc' := 97) rfl ?_
  refine w_lcmp_lt X6 hx (hb hby d5_97) rfl (hb hby d5_98) (by decide) (pcY := 104) (by decide) (pc' := 101) rfl (fun h2 => ?_) (fun h2 => ?_)
  · refine w_aloadN X6 hx (hb hby d5_104) rfl rfl (pc' := 105) rfl ?_
    refine w_getf (i := 1) (v := .ref (n0 + 2)) X6 hx hZ hown (wd15 hw) P6 rfl Fo1 2 rfl rfl (hb hby d5_105) (pc' := 108) rfl ?_
    intro T7 X7 P7
    refine w_iload X7 hx (hb hby d5_108) rfl (pc' := 110) rfl ?_
    refine w_aloadN X7 hx (hb hby d5_110) rfl rfl (pc' := 111) rfl ?_
    refine w_getf (i := 1) (v := .ref (n0 + 2)) X7 hx hZ hown (wd15 hw) P7 rfl Fo1 2 rfl rfl (hb hby d5_111) (pc' := 114) rfl ?_
    intro T8 X8 P8
    refine w_iload X8 hx (hb hby d5_114) rfl (pc' := 116) rfl ?_
    refine w_iaload (i := 2) (jn := 3) (v := .int (Int32.ofNat pa3)) X8 hx hZ P8 rfl hk2 (hb hby d5_116) (by decide) rfl (pc' := 117) rfl ?_
    refine w_iastore (i := 2) (jn := 1) X8 hx hZ N0 P8 rfl hk2 (hb hby d5_117) (by decide) (Nat.le_of_ble_eq_true rfl) (pc' := 118) rfl ?_
    intro T9 L1 N1 X9 P9
    replace P9 : HP n0 T9.heap [AC k0 (List.map Value.long pP), o1, AC k2 [.int (Int32.ofNat pa0), .int (Int32.ofNat pa3), .int (Int32.ofNat pa2), .int (Int32.ofNat pa3)], AC k3 (List.map Value.int pQ)] := P9
    refine w_aloadN X9 hx (hb hby d5_118) rfl rfl (pc' := 119) rfl ?_
    refine w_getf (i := 1) (v := .ref (n0 + 3)) X9 hx hZ hown (wd17 hw) P9 rfl Fo1 3 rfl rfl (hb hby d5_119) (pc' := 122) rfl ?_
    intro T10 X10 P10
    refine w_aloadN X10 hx (hb hby d5_122) rfl rfl (pc' := 123) rfl ?_
    refine w_getf (i := 1) (v := .ref (n0 + 2)) X10 hx hZ hown (wd15 hw) P10 rfl Fo1 2 rfl rfl (hb hby d5_123) (pc' := 126) rfl ?_
    intro T11 X11 P11
    refine w_iload X11 hx (hb hby d5_126) rfl (pc' := 128) rfl ?_
    refine w_iaload (i := 2) (jn := 1) (v := .int (Int32.ofNat pa3)) X11 hx hZ P11 rfl hk2 (hb hby d5_128) (by decide) rfl (pc' := 129) rfl ?_
    refine w_aloadN X11 hx (hb hby d5_129) rfl rfl (pc' := 130) rfl ?_
    refine w_getf (i := 1) (v := .int (Int32.ofNat pf)) X11 hx hZ hown (wd12 hw) P11 rfl Fo1 1 rfl rfl (hb hby d5_130) (pc' := 133) rfl ?_
    intro T12 X12 P12
    refine w_isub X12 hx (hb hby d5_133) (pc' := 134) rfl ?_
    refine w_eqI (z := (Int32.ofNat (pa3 - pf))) (own_osub (a := pa3) (b := pf) (by omega)) ?_
    refine w_iload X12 hx (hb hby d5_134) rfl (pc' := 136) rfl ?_
    refine w_iastoreL (i := 3) (jn := (pa3 - pf)) X12 hx hZ N1 P12 rfl hk3 (hb hby d5_136) (own_oN (by omega)) (own_llt ilen (by omega)) (pc' := 137) rfl ?_
    intro T13 L2 N2 X13 P13
    replace P13 : HP n0 T13.heap [AC k0 (List.map Value.long pP), o1, AC k2 [.int (Int32.ofNat pa0), .int (Int32.ofNat pa3), .int (Int32.ofNat pa2), .int (Int32.ofNat pa3)], AC k3 (List.map Value.int (pQ.set (pa3 - pf) (1 : Int32)))] := P13
    refine w_iload X13 hx (hb hby d5_137) rfl (pc' := 139) rfl ?_
    refine w_istore (l' := #[.val (.ref (n0 + 1)), .val (.int (1 : Int32)), .val (.int (Int32.ofNat pa1)), .val (.long (pP.getD pa1 0)), .second, .val (.int (3 : Int32)), .val (.int (3 : Int32))]) X13 hx (hb hby d5_139) rfl (pc' := 141) rfl ?_
    refine w_goto X13 hx (hb hby d5_141) (by decide) (pc' := 17) (by decide) ?_
    refine w_iconst (v := (2 : Int32)) X13 hx (hb hby d5_17) rfl (pc' := 18) rfl ?_
    refine w_iload X13 hx (hb hby d5_18) rfl (pc' := 20) rfl ?_
    refine w_imul X13 hx (hb hby d5_20) (pc' := 21) rfl ?_
    refine w_eqI (z := (6 : Int32)) (by decide) ?_
    refine w_iconst (v := (1 : Int32)) X13 hx (hb hby d5_21) rfl (pc' := 22) rfl ?_
    refine w_iadd X13 hx (hb hby d5_22) (pc' := 23) rfl ?_
    refine w_eqI (z := (7 : Int32)) (by decide) ?_
    refine w_aloadN X13 hx (hb hby d5_23) rfl rfl (pc' := 24) rfl ?_
    refine w_getf (i := 1) (v := .ref (n0 + 2)) X13 hx hZ hown (wd15 hw) P13 rfl Fo1 2 rfl rfl (hb hby d5_24) (pc' := 27) rfl ?_
    intro T14 X14 P14
    refine w_arrlen (i := 2) X14 hx hZ P14 rfl hk2 (hb hby d5_27) (z := (4 : Int32)) rfl (pc' := 28) rfl ?_
    refine w_icmp_ge X14 hx (hb hby d5_28) (by decide) (pcY := 144) (by decide) (pc' := 31) rfl (fun h3 => ?_) (fun h3 => absurd h3 (by decide))
    refine w_aloadN X14 hx (hb hby d5_144) rfl rfl (pc' := 145) rfl ?_
    refine w_getf (i := 1) (v := .ref (n0 + 2)) X14 hx hZ hown (wd15 hw) P14 rfl Fo1 2 rfl rfl (hb hby d5_145) (pc' := 148) rfl ?_
    intro T15 X15 P15
    refine w_iload X15 hx (hb hby d5_148) rfl (pc' := 150) rfl ?_
    refine w_iloadN X15 hx (hb hby d5_150) rfl (pc' := 151) rfl ?_
    refine w_iastore (i := 2) (jn := 3) X15 hx hZ N2 P15 rfl hk2 (hb hby d5_151) (by decide) (Nat.le_of_ble_eq_true rfl) (pc' := 152) rfl ?_
    intro T16 L3 N3 X16 P16
    replace P16 : HP n0 T16.heap [AC k0 (List.map Value.long pP), o1, AC k2 [.int (Int32.ofNat pa0), .int (Int32.ofNat pa3), .int (Int32.ofNat pa2), .int (Int32.ofNat pa1)], AC k3 (List.map Value.int (pQ.set (pa3 - pf) (1 : Int32)))] := P16
    refine w_aloadN X16 hx (hb hby d5_152) rfl rfl (pc' := 153) rfl ?_
    refine w_getf (i := 1) (v := .ref (n0 + 3)) X16 hx hZ hown (wd17 hw) P16 rfl Fo1 3 rfl rfl (hb hby d5_153) (pc' := 156) rfl ?_
    intro T17 X17 P17
    refine w_iloadN X17 hx (hb hby d5_156) rfl (pc' := 157) rfl ?_
    refine w_aloadN X17 hx (hb hby d5_157) rfl rfl (pc' := 158) rfl ?_
    refine w_getf (i := 1) (v := .int (Int32.ofNat pf)) X17 hx hZ hown (wd12 hw) P17 rfl Fo1 1 rfl rfl (hb hby d5_158) (pc' := 161) rfl ?_
    intro T18 X18 P18
    refine w_isub X18 hx (hb hby d5_161) (pc' := 162) rfl ?_
    refine w_eqI (z := (Int32.ofNat (pa1 - pf))) (own_osub (a := pa1) (b := pf) (by omega)) ?_
    refine w_iload X18 hx (hb hby d5_162) rfl (pc' := 164) rfl ?_
    refine w_iastoreL (i := 3) (jn := (pa1 - pf)) X18 hx hZ N3 P18 rfl hk3 (hb hby d5_164) (own_oN (by omega)) (own_llt (own_sl ilen) (by omega)) (pc' := 165) rfl ?_
    intro T19 L4 N4 X19 P19
    replace P19 : HP n0 T19.heap [AC k0 (List.map Value.long pP), o1, AC k2 [.int (Int32.ofNat pa0), .int (Int32.ofNat pa3), .int (Int32.ofNat pa2), .int (Int32.ofNat pa1)], AC k3 (List.map Value.int ((pQ.set (pa3 - pf) (1 : Int32)).set (pa1 - pf) (3 : Int32)))] := P19
    have h2p := own_plt h2
    exact w_ret_v X19 hx hret hlk (hb hby d5_165) (by decide) (by decide) ⟨rfl, N4, pa0, pa3, pa2, pa1, ((pQ.set (pa3 - pf) (1 : Int32)).set (pa1 - pf) (3 : Int32)), ⟨(own_sl (own_sl ilen)), il0, il3, il2, il1, iu0, iu3, iu2, iu1, in03, in02, in01, (own_nes in23), (own_nes in13), (own_nes in12), (fun c h1 h2 => by have q := icov c h1 h2; omega), (by rw [own_gn (own_sne il1 il0 (own_nes in01)), own_gn (own_sne il3 il0 (own_nes in03))]; exact iq0), (by rw [own_gn (own_sne il1 il3 in13), own_gp (i := pa3 - pf) ilen (by omega)]), (by rw [own_gn (own_sne il1 il2 in12), own_gn (own_sne il3 il2 (own_nes in23))]; exact iq2), (by rw [own_gp (i := pa1 - pf) (own_sl ilen) (by omega)])⟩, by omega, P19⟩
  · refine w_goto X6 hx (hb hby d5_101) (by decide) (pc' := 144) (by decide) ?_
    refine w_aloadN X6 hx (hb hby d5_144) rfl rfl (pc' := 145) rfl ?_
    refine w_getf (i := 1) (v := .ref (n0 + 2)) X6 hx hZ hown (wd15 hw) P6 rfl Fo1 2 rfl rfl (hb hby d5_145) (pc' := 148) rfl ?_
    intro T20 X20 P20
    refine w_iload X20 hx (hb hby d5_148) rfl (pc' := 150) rfl ?_
    refine w_iloadN X20 hx (hb hby d5_150) rfl (pc' := 151) rfl ?_
    refine w_iastore (i := 2) (jn := 1) X20 hx hZ N0 P20 rfl hk2 (hb hby d5_151) (by decide) (Nat.le_of_ble_eq_true rfl) (pc' := 152) rfl ?_
    intro T21 L5 N5 X21 P21
    replace P21 : HP n0 T21.heap [AC k0 (List.map Value.long pP), o1, AC k2 [.int (Int32.ofNat pa0), .int (Int32.ofNat pa1), .int (Int32.ofNat pa2), .int (Int32.ofNat pa3)], AC k3 (List.map Value.int pQ)] := P21
    refine w_aloadN X21 hx (hb hby d5_152) rfl rfl (pc' := 153) rfl ?_
    refine w_getf (i := 1) (v := .ref (n0 + 3)) X21 hx hZ hown (wd17 hw) P21 rfl Fo1 3 rfl rfl (hb hby d5_153) (pc' := 156) rfl ?_
    intro T22 X22 P22
    refine w_iloadN X22 hx (hb hby d5_156) rfl (pc' := 157) rfl ?_
    refine w_aloadN X22 hx (hb hby d5_157) rfl rfl (pc' := 158) rfl ?_
    refine w_getf (i := 1) (v := .int (Int32.ofNat pf)) X22 hx hZ hown (wd12 hw) P22 rfl Fo1 1 rfl rfl (hb hby d5_158) (pc' := 161) rfl ?_
    intro T23 X23 P23
    refine w_isub X23 hx (hb hby d5_161) (pc' := 162) rfl ?_
    refine w_eqI (z := (Int32.ofNat (pa1 - pf))) (own_osub (a := pa1) (b := pf) (by omega)) ?_
    refine w_iload X23 hx (hb hby d5_162) rfl (pc' := 164) rfl ?_
    refine w_iastoreL (i := 3) (jn := (pa1 - pf)) X23 hx hZ N5 P23 rfl hk3 (hb hby d5_164) (own_oN (by omega)) (own_llt ilen (by omega)) (pc' := 165) rfl ?_
    intro T24 L6 N6 X24 P24
    replace P24 : HP n0 T24.heap [AC k0 (List.map Value.long pP), o1, AC k2 [.int (Int32.ofNat pa0), .int (Int32.ofNat pa1), .int (Int32.ofNat pa2), .int (Int32.ofNat pa3)], AC k3 (List.map Value.int (pQ.set (pa1 - pf) (1 : Int32)))] := P24
    have h2p := own_pnl h2
    exact w_ret_v X24 hx hret hlk (hb hby d5_165) (by decide) (by decide) ⟨rfl, N6, pa0, pa1, pa2, pa3, (pQ.set (pa1 - pf) (1 : Int32)), ⟨(own_sl ilen), il0, il1, il2, il3, iu0, iu1, iu2, iu3, in01, in02, in03, in12, in13, in23, (fun c h1 h2 => by have q := icov c h1 h2; omega), (by rw [own_gn (own_sne il1 il0 (own_nes in01))]; exact iq0), (by rw [own_gp (i := pa1 - pf) ilen (by omega)]), (by rw [own_gn (own_sne il1 il2 in12)]; exact iq2), (by rw [own_gn (own_sne il1 il3 in13)]; exact iq3)⟩, by omega, P24⟩
theorem d1_0 : decode prog_7_method_1_code 0 = .ok (.aload_n 0, 1) := by decide +kernel
theorem d1_1 : decode prog_7_method_1_code 1 = .ok (.invokespecial 1, 3) := by decide +kernel
theorem d1_4 : decode prog_7_method_1_code 4 = .ok (.aload_n 0, 1) := by decide +kernel
theorem d1_5 : decode prog_7_method_1_code 5 = .ok (.aload_n 1, 1) := by decide +kernel
theorem d1_6 : decode prog_7_method_1_code 6 = .ok (.putfield 7, 3) := by decide +kernel
theorem d1_9 : decode prog_7_method_1_code 9 = .ok (.aload_n 0, 1) := by decide +kernel
theorem d1_10 : decode prog_7_method_1_code 10 = .ok (.iload_n 2, 1) := by decide +kernel
theorem d1_11 : decode prog_7_method_1_code 11 = .ok (.putfield 13, 3) := by decide +kernel
theorem d1_14 : decode prog_7_method_1_code 14 = .ok (.aload_n 0, 1) := by decide +kernel
theorem d1_15 : decode prog_7_method_1_code 15 = .ok (.aload_n 1, 1) := by decide +kernel
theorem d1_16 : decode prog_7_method_1_code 16 = .ok (.arraylength, 1) := by decide +kernel
theorem d1_17 : decode prog_7_method_1_code 17 = .ok (.iload_n 2, 1) := by decide +kernel
theorem d1_18 : decode prog_7_method_1_code 18 = .ok (.isub, 1) := by decide +kernel
theorem d1_19 : decode prog_7_method_1_code 19 = .ok (.newarray .int, 2) := by decide +kernel
theorem d1_21 : decode prog_7_method_1_code 21 = .ok (.putfield 17, 3) := by decide +kernel
theorem d1_24 : decode prog_7_method_1_code 24 = .ok (.aload_n 0, 1) := by decide +kernel
theorem d1_25 : decode prog_7_method_1_code 25 = .ok (.aload_n 0, 1) := by decide +kernel
theorem d1_26 : decode prog_7_method_1_code 26 = .ok (.getfield 17, 3) := by decide +kernel
theorem d1_29 : decode prog_7_method_1_code 29 = .ok (.arraylength, 1) := by decide +kernel
theorem d1_30 : decode prog_7_method_1_code 30 = .ok (.newarray .int, 2) := by decide +kernel
theorem d1_32 : decode prog_7_method_1_code 32 = .ok (.putfield 21, 3) := by decide +kernel
theorem d1_35 : decode prog_7_method_1_code 35 = .ok (.iconst 0, 1) := by decide +kernel
theorem d1_36 : decode prog_7_method_1_code 36 = .ok (.istore_n 3, 1) := by decide +kernel
theorem d1_37 : decode prog_7_method_1_code 37 = .ok (.iload_n 3, 1) := by decide +kernel
theorem d1_38 : decode prog_7_method_1_code 38 = .ok (.aload_n 0, 1) := by decide +kernel
theorem d1_39 : decode prog_7_method_1_code 39 = .ok (.getfield 17, 3) := by decide +kernel
theorem d1_42 : decode prog_7_method_1_code 42 = .ok (.arraylength, 1) := by decide +kernel
theorem d1_43 : decode prog_7_method_1_code 43 = .ok (.if_icmp .ge 25, 3) := by decide +kernel
theorem d1_46 : decode prog_7_method_1_code 46 = .ok (.aload_n 0, 1) := by decide +kernel
theorem d1_47 : decode prog_7_method_1_code 47 = .ok (.getfield 17, 3) := by decide +kernel
theorem d1_50 : decode prog_7_method_1_code 50 = .ok (.iload_n 3, 1) := by decide +kernel
theorem d1_51 : decode prog_7_method_1_code 51 = .ok (.iload_n 2, 1) := by decide +kernel
theorem d1_52 : decode prog_7_method_1_code 52 = .ok (.iload_n 3, 1) := by decide +kernel
theorem d1_53 : decode prog_7_method_1_code 53 = .ok (.iadd, 1) := by decide +kernel
theorem d1_54 : decode prog_7_method_1_code 54 = .ok (.iastore, 1) := by decide +kernel
theorem d1_55 : decode prog_7_method_1_code 55 = .ok (.aload_n 0, 1) := by decide +kernel
theorem d1_56 : decode prog_7_method_1_code 56 = .ok (.getfield 21, 3) := by decide +kernel
theorem d1_59 : decode prog_7_method_1_code 59 = .ok (.iload_n 3, 1) := by decide +kernel
theorem d1_60 : decode prog_7_method_1_code 60 = .ok (.iload_n 3, 1) := by decide +kernel
theorem d1_61 : decode prog_7_method_1_code 61 = .ok (.iastore, 1) := by decide +kernel
theorem d1_62 : decode prog_7_method_1_code 62 = .ok (.iinc 3 1, 3) := by decide +kernel
theorem d1_65 : decode prog_7_method_1_code 65 = .ok (.goto (-28), 3) := by decide +kernel
theorem d1_68 : decode prog_7_method_1_code 68 = .ok (.aload_n 0, 1) := by decide +kernel
theorem d1_69 : decode prog_7_method_1_code 69 = .ok (.getfield 17, 3) := by decide +kernel
theorem d1_72 : decode prog_7_method_1_code 72 = .ok (.arraylength, 1) := by decide +kernel
theorem d1_73 : decode prog_7_method_1_code 73 = .ok (.iconst 2, 1) := by decide +kernel
theorem d1_74 : decode prog_7_method_1_code 74 = .ok (.idiv, 1) := by decide +kernel
theorem d1_75 : decode prog_7_method_1_code 75 = .ok (.iconst 1, 1) := by decide +kernel
theorem d1_76 : decode prog_7_method_1_code 76 = .ok (.isub, 1) := by decide +kernel
theorem d1_77 : decode prog_7_method_1_code 77 = .ok (.istore_n 3, 1) := by decide +kernel
theorem d1_78 : decode prog_7_method_1_code 78 = .ok (.iload_n 3, 1) := by decide +kernel
theorem d1_79 : decode prog_7_method_1_code 79 = .ok (.ifCond .lt 14, 3) := by decide +kernel
theorem d1_82 : decode prog_7_method_1_code 82 = .ok (.aload_n 0, 1) := by decide +kernel
theorem d1_83 : decode prog_7_method_1_code 83 = .ok (.iload_n 3, 1) := by decide +kernel
theorem d1_84 : decode prog_7_method_1_code 84 = .ok (.invokevirtual 24, 3) := by decide +kernel
theorem d1_87 : decode prog_7_method_1_code 87 = .ok (.iinc 3 (-1), 3) := by decide +kernel
theorem d1_90 : decode prog_7_method_1_code 90 = .ok (.goto (-12), 3) := by decide +kernel
theorem d1_93 : decode prog_7_method_1_code 93 = .ok (.return_, 1) := by decide +kernel
theorem pn1 : plainFor (⟨"com/example/bidcrier/bidcrier/CheapestColumns", "<init>", "([JI)V"⟩ : MethodName) = true := plainFor_of_name (by first | (simp [plainName, overriddenIn]; done) | decide +kernel)
theorem pd1 : parseMethodDescriptor (⟨"com/example/bidcrier/bidcrier/CheapestColumns", "<init>", "([JI)V"⟩ : MethodName).desc = some ⟨[(.array .long), .int], none⟩ := by decide +kernel
theorem ef_ini1 (m : MethodId) (n0 : Nat) (pf : Nat) : entryFrame m #[.ref (n0 + 1), .ref (n0 + 0), .int (Int32.ofNat pf)] 4 = mkF m 0 #[.val (.ref (n0 + 1)), .val (.ref (n0 + 0)), .val (.int (Int32.ofNat pf)), .unset] [] := by first | (simp [entryFrame, mkF, argsToLocals, Value.category]; done) | rfl
def Q_ini1 (Z : State) (n0 : Nat) (k0 : ClassId) (o1 : Jvm.Cell) (pP : List Int64) (pf : Nat) (v : Option Value) (h : Heap) (L : List Loc) : Prop := v = none ∧ Fr n0 L ∧ ∃ o1 : Jvm.Cell, ObjF Z o1 "com/example/bidcrier/bidcrier/CheapestColumns" fl_C0 [.ref (n0 + 0), .int (Int32.ofNat pf), .ref (n0 + 2), .ref (n0 + 3)] ∧ ∃ k2 : ClassId, IsA Z k2 .int ∧ ∃ k3 : ClassId, IsA Z k3 .int ∧ ∃ (b0 : Nat) (Q1 : List Int32), own_I1 pf b0 Q1 ∧ own_O1 pP b0 ∧ HP n0 h [AC k0 (List.map Value.long pP), o1, AC k2 [Value.int (Int32.ofNat b0)], AC k3 (List.map Value.int Q1)]
set_option maxRecDepth 65536 in
set_option maxHeartbeats 40000000 in
theorem rm_ini1 (l : Launch) (Z : State) (a0 : Array Value) (hw : ∀ d ∈ tables_1, d.before a0 Z = true) (ws : List Jvm.Cond) (n0 : Nat) (k0 : ClassId) (o1 : Jvm.Cell) (pP : List Int64) (pf : Nat) (h0 : Heap) (P0 : HP n0 h0 [AC k0 (List.map Value.long pP), o1]) (hk0 : IsA Z k0 .long) (Fo1 : ObjF Z o1 "com/example/bidcrier/bidcrier/CheapestColumns" fl_C0 [.null, .int (0 : Int32), .null, .null]) (hpP : pP.length = pf + 1) (hpf : pf < 2) :
    MetFree l (⟨"com/example/bidcrier/bidcrier/CheapestColumns", "<init>", "([JI)V"⟩ : MethodName) (head1 (Jvm.Cond.code (⟨"com/example/bidcrier/bidcrier/CheapestColumns", "<init>", "([JI)V"⟩ : MethodName) prog_7_method_1_code 4 none :: ws) ({ frames := 1, cells := 2, slots := 2, locals := 12 } : Room)) (fun aa U => aa = #[.ref (n0 + 1), .ref (n0 + 0), .int (Int32.ofNat pf)] ∧ Z.Warmed39 U.vm ∧ U.heap = h0) (fun _ _ _ _ _ => True) (fun _ U o U' => ∃ v L, o = .returned v ∧ Q_ini1 Z n0 k0 o1 pP pf v U'.heap L ∧ FrameEnd U o U' L ({ frames := 1, cells := 2, slots := 2, locals := 12 } : Room).cells ({ frames := 1, cells := 2, slots := 2, locals := 12 } : Room).slots) := by
  refine own_body pn1 ?_
  intro p e s m below meth c T0 hx hby hml hret hlk hown hnm hZ X0 e0
  subst e0
  have N0 : Fr n0 [] := Fr.nil n0
  refine own_cast (ef_ini1 m n0 pf) ?_
  refine w_aloadN X0 hx (hb hby d1_0) rfl rfl (pc' := 1) rfl ?_
  refine w_initO (W := 0) X0 hx hZ hown (by rw [hml]; rfl) (wd7 hw) (wd8 hw) (wd9 hw) P0 (hb hby d1_1) (by decide) (Nat.le_of_eq rfl) (by decide) (pc' := 4) rfl ?_
  intro T1 X1 P1
  refine w_aloadN X1 hx (hb hby d1_4) rfl rfl (pc' := 5) rfl ?_
  refine w_aloadN X1 hx (hb hby d1_5) rfl rfl (pc' := 6) rfl ?_
  refine w_putf (i := 1) (ty := (.array .long)) X1 hx hZ hown (wd10 hw) N0 P1 rfl Fo1 (di_C0 hw) 0 rfl (Or.inr ⟨(wd11 hw), rfl, hnm⟩) (wd2 hw) (by decide) rfl rfl (hb hby d1_6) (pc' := 9) rfl ?_
  intro T2 L1 c1 N1 X2 P2 F1
  replace P2 : HP n0 T2.heap [AC k0 (List.map Value.long pP), c1] := P2
  replace F1 : ObjF Z c1 "com/example/bidcrier/bidcrier/CheapestColumns" fl_C0 [.ref (n0 + 0), .int (0 : Int32), .null, .null] := F1
  refine w_aloadN X2 hx (hb hby d1_9) rfl rfl (pc' := 10) rfl ?_
  refine w_iloadN X2 hx (hb hby d1_10) rfl (pc' := 11) rfl ?_
  refine w_putf (i := 1) (ty := .int) X2 hx hZ hown (wd12 hw) N1 P2 rfl F1 (di_C0 hw) 1 rfl (Or.inr ⟨(wd13 hw), rfl, hnm⟩) (wd2 hw) (by decide) rfl rfl (hb hby d1_11) (pc' := 14) rfl ?_
  intro T3 L2 c2 N2 X3 P3 F2
  replace P3 : HP n0 T3.heap [AC k0 (List.map Value.long pP), c2] := P3
  replace F2 : ObjF Z c2 "com/example/bidcrier/bidcrier/CheapestColumns" fl_C0 [.ref (n0 + 0), .int (Int32.ofNat pf), .null, .null] := F2
  refine w_aloadN X3 hx (hb hby d1_14) rfl rfl (pc' := 15) rfl ?_
  refine w_aloadN X3 hx (hb hby d1_15) rfl rfl (pc' := 16) rfl ?_
  refine w_arrlen (i := 0) X3 hx hZ P3 rfl hk0 (hb hby d1_16) (z := (Int32.ofNat (pf + 1))) (own_len hpP) (pc' := 17) rfl ?_
  refine w_iloadN X3 hx (hb hby d1_17) rfl (pc' := 18) rfl ?_
  refine w_isub X3 hx (hb hby d1_18) (pc' := 19) rfl ?_
  refine w_eqI (z := (Int32.ofNat ((pf + 1) - pf))) (own_osub (a := (pf + 1)) (b := pf) (by omega)) ?_
  refine w_eqI (z := (1 : Int32)) (own_subf pf 1) ?_
  refine w_newarr (N := 1) (j := 2) X3 hx hZ P3 (ty := .int) rfl (wd14 hw) (hb hby d1_19) (by decide) (by decide) (by decide) (by decide) rfl (pc' := 21) rfl ?_
  intro T4 kA3 X4 hkA3 P4
  replace P4 : HP n0 T4.heap [AC k0 (List.map Value.long pP), c2, AC kA3 [.int (0 : Int32)]] := P4
  refine w_putf (i := 1) (ty := (.array .int)) X4 hx hZ hown (wd15 hw) N2 P4 rfl F2 (di_C0 hw) 2 rfl (Or.inr ⟨(wd16 hw), rfl, hnm⟩) (wd2 hw) (by decide) rfl rfl (hb hby d1_21) (pc' := 24) rfl ?_
  intro T5 L3 c4 N3 X5 P5 F4
  replace P5 : HP n0 T5.heap [AC k0 (List.map Value.long pP), c4, AC kA3 [.int (0 : Int32)]] := P5
  replace F4 : ObjF Z c4 "com/example/bidcrier/bidcrier/CheapestColumns" fl_C0 [.ref (n0 + 0), .int (Int32.ofNat pf), .ref (n0 + 2), .null] := F4
  refine w_aloadN X5 hx (hb hby d1_24) rfl rfl (pc' := 25) rfl ?_
  refine w_aloadN X5 hx (hb hby d1_25) rfl rfl (pc' := 26) rfl ?_
  refine w_getf (i := 1) (v := .ref (n0 + 2)) X5 hx hZ hown (wd15 hw) P5 rfl F4 2 rfl rfl (hb hby d1_26) (pc' := 29) rfl ?_
  intro T6 X6 P6
  refine w_arrlen (i := 2) X6 hx hZ P6 rfl hkA3 (hb hby d1_29) (z := (1 : Int32)) rfl (pc' := 30) rfl ?_
  refine w_newarr (N := 1) (j := 3) X6 hx hZ P6 (ty := .int) rfl (wd14 hw) (hb hby d1_30) (by decide) (by decide) (by decide) (by decide) rfl (pc' := 32) rfl ?_
  intro T7 kA5 X7 hkA5 P7
  replace P7 : HP n0 T7.heap [AC k0 (List.map Value.long pP), c4, AC kA3 [.int (0 : Int32)], AC kA5 [.int (0 : Int32)]] := P7
  refine w_putf (i := 1) (ty := (.array .int)) X7 hx hZ hown (wd17 hw) N3 P7 rfl F4 (di_C0 hw) 3 rfl (Or.inr ⟨(wd18 hw), rfl, hnm⟩) (wd2 hw) (by decide) rfl rfl (hb hby d1_32) (pc' := 35) rfl ?_
  intro T8 L4 c6 N4 X8 P8 F6
  replace P8 : HP n0 T8.heap [AC k0 (List.map Value.long pP), c6, AC kA3 [.int (0 : Int32)], AC kA5 [.int (0 : Int32)]] := P8
  replace F6 : ObjF Z c6 "com/example/bidcrier/bidcrier/CheapestColumns" fl_C0 [.ref (n0 + 0), .int (Int32.ofNat pf), .ref (n0 + 2), .ref (n0 + 3)] := F6
  refine w_iconst (v := (0 : Int32)) X8 hx (hb hby d1_35) rfl (pc' := 36) rfl ?_
  refine w_istoreN (l' := #[.val (.ref (n0 + 1)), .val (.ref (n0 + 0)), .val (.int (Int32.ofNat pf)), .val (.int (0 : Int32))]) X8 hx (hb hby d1_36) rfl (pc' := 37) rfl ?_
  refine w_iloadN X8 hx (hb hby d1_37) rfl (pc' := 38) rfl ?_
  refine w_aloadN X8 hx (hb hby d1_38) rfl rfl (pc' := 39) rfl ?_
  refine w_getf (i := 1) (v := .ref (n0 + 2)) X8 hx hZ hown (wd15 hw) P8 rfl F6 2 rfl rfl (hb hby d1_39) (pc' := 42) rfl ?_
  intro T9 X9 P9
  refine w_arrlen (i := 2) X9 hx hZ P9 rfl hkA3 (hb hby d1_42) (z := (1 : Int32)) rfl (pc' := 43) rfl ?_
  refine w_icmp_ge X9 hx (hb hby d1_43) (by decide) (pcY := 68) (by decide) (pc' := 46) rfl (fun h0 => absurd h0 (by decide)) (fun h0 => ?_)
  refine w_aloadN X9 hx (hb hby d1_46) rfl rfl (pc' := 47) rfl ?_
  refine w_getf (i := 1) (v := .ref (n0 + 2)) X9 hx hZ hown (wd15 hw) P9 rfl F6 2 rfl rfl (hb hby d1_47) (pc' := 50) rfl ?_
  intro T10 X10 P10
  refine w_iloadN X10 hx (hb hby d1_50) rfl (pc' := 51) rfl ?_
  refine w_iloadN X10 hx (hb hby d1_51) rfl (pc' := 52) rfl ?_
  refine w_iloadN X10 hx (hb hby d1_52) rfl (pc' := 53) rfl ?_
  refine w_iadd X10 hx (hb hby d1_53) (pc' := 54) rfl ?_
  refine w_eqI (z := (Int32.ofNat (pf + 0))) (own_oadd pf 0) ?_
  refine w_iastore (i := 2) (jn := 0) X10 hx hZ N4 P10 rfl hkA3 (hb hby d1_54) (by decide) (Nat.le_of_ble_eq_true rfl) (pc' := 55) rfl ?_
  intro T11 L5 N5 X11 P11
  replace P11 : HP n0 T11.heap [AC k0 (List.map Value.long pP), c6, AC kA3 [.int (Int32.ofNat (pf + 0))], AC kA5 [.int (0 : Int32)]] := P11
  refine w_aloadN X11 hx (hb hby d1_55) rfl rfl (pc' := 56) rfl ?_
  refine w_getf (i := 1) (v := .ref (n0 + 3)) X11 hx hZ hown (wd17 hw) P11 rfl F6 3 rfl rfl (hb hby d1_56) (pc' := 59) rfl ?_
  intro T12 X12 P12
  refine w_iloadN X12 hx (hb hby d1_59) rfl (pc' := 60) rfl ?_
  refine w_iloadN X12 hx (hb hby d1_60) rfl (pc' := 61) rfl ?_
  refine w_iastore (i := 3) (jn := 0) X12 hx hZ N5 P12 rfl hkA5 (hb hby d1_61) (by decide) (Nat.le_of_ble_eq_true rfl) (pc' := 62) rfl ?_
  intro T13 L6 N6 X13 P13
  replace P13 : HP n0 T13.heap [AC k0 (List.map Value.long pP), c6, AC kA3 [.int (Int32.ofNat (pf + 0))], AC kA5 [.int (0 : Int32)]] := P13
  refine w_iincE (z := (1 : Int32)) (l' := #[.val (.ref (n0 + 1)), .val (.ref (n0 + 0)), .val (.int (Int32.ofNat pf)), .val (.int (1 : Int32))]) X13 hx (hb hby d1_62) rfl (by decide) rfl (pc' := 65) rfl ?_
  refine w_goto X13 hx (hb hby d1_65) (by decide) (pc' := 37) (by decide) ?_
  refine w_iloadN X13 hx (hb hby d1_37) rfl (pc' := 38) rfl ?_
  refine w_aloadN X13 hx (hb hby d1_38) rfl rfl (pc' := 39) rfl ?_
  refine w_getf (i := 1) (v := .ref (n0 + 2)) X13 hx hZ hown (wd15 hw) P13 rfl F6 2 rfl rfl (hb hby d1_39) (pc' := 42) rfl ?_
  intro T14 X14 P14
  refine w_arrlen (i := 2) X14 hx hZ P14 rfl hkA3 (hb hby d1_42) (z := (1 : Int32)) rfl (pc' := 43) rfl ?_
  refine w_icmp_ge X14 hx (hb hby d1_43) (by decide) (pcY := 68) (by decide) (pc' := 46) rfl (fun h1 => ?_) (fun h1 => absurd h1 (by decide))
  refine w_aloadN X14 hx (hb hby d1_68) rfl rfl (pc' := 69) rfl ?_
  refine w_getf (i := 1) (v := .ref (n0 + 2)) X14 hx hZ hown (wd15 hw) P14 rfl F6 2 rfl rfl (hb hby d1_69) (pc' := 72) rfl ?_
  intro T15 X15 P15
  refine w_arrlen (i := 2) X15 hx hZ P15 rfl hkA3 (hb hby d1_72) (z := (1 : Int32)) rfl (pc' := 73) rfl ?_
  refine w_iconst (v := (2 : Int32)) X15 hx (hb hby d1_73) rfl (pc' := 74) rfl ?_
  refine w_idiv X15 hx (hb hby d1_74) (by decide) (pc' := 75) rfl ?_
  refine w_eqI (z := (0 : Int32)) (by decide) ?_
  refine w_iconst (v := (1 : Int32)) X15 hx (hb hby d1_75) rfl (pc' := 76) rfl ?_
  refine w_isub X15 hx (hb hby d1_76) (pc' := 77) rfl ?_
  refine w_eqI (z := (-1 : Int32)) (by decide) ?_
  refine w_istoreN (l' := #[.val (.ref (n0 + 1)), .val (.ref (n0 + 0)), .val (.int (Int32.ofNat pf)), .val (.int (-1 : Int32))]) X15 hx (hb hby d1_77) rfl (pc' := 78) rfl ?_
  refine w_iloadN X15 hx (hb hby d1_78) rfl (pc' := 79) rfl ?_
  refine w_if_lt X15 hx (hb hby d1_79) (by decide) (pcY := 93) (by decide) (pc' := 82) rfl (fun h2 => ?_) (fun h2 => absurd h2 (by decide))
  exact w_ret_v X15 hx hret hlk (hb hby d1_93) (by decide) (by decide) ⟨rfl, N6, c6, F6, kA3, hkA3, kA5, hkA5, pf + 0, [(0 : Int32)], ⟨rfl, by omega, by omega, (fun c h1 h2 => by omega), (by rw [Nat.add_sub_cancel_left] <;> rfl)⟩, ⟨rfl, rfl⟩, P15⟩
theorem ef_ini2 (m : MethodId) (n0 : Nat) (pf : Nat) : entryFrame m #[.ref (n0 + 1), .ref (n0 + 0), .int (Int32.ofNat pf)] 4 = mkF m 0 #[.val (.ref (n0 + 1)), .val (.ref (n0 + 0)), .val (.int (Int32.ofNat pf)), .unset] [] := by first | (simp [entryFrame, mkF, argsToLocals, Value.category]; done) | rfl
def Q_ini2 (Z : State) (n0 : Nat) (k0 : ClassId) (o1 : Jvm.Cell) (pP : List Int64) (pf : Nat) (v : Option Value) (h : Heap) (L : List Loc) : Prop := v = none ∧ Fr n0 L ∧ ∃ o1 : Jvm.Cell, ObjF Z o1 "com/example/bidcrier/bidcrier/CheapestColumns" fl_C0 [.ref (n0 + 0), .int (Int32.ofNat pf), .ref (n0 + 2), .ref (n0 + 3)] ∧ ∃ k2 : ClassId, IsA Z k2 .int ∧ ∃ k3 : ClassId, IsA Z k3 .int ∧ ∃ (b0 b1 : Nat) (Q1 : List Int32), own_I2 pf b0 b1 Q1 ∧ own_O2 pP b0 b1 ∧ HP n0 h [AC k0 (List.map Value.long pP), o1, AC k2 [Value.int (Int32.ofNat b0), Value.int (Int32.ofNat b1)], AC k3 (List.map Value.int Q1)]
set_option maxRecDepth 65536 in
set_option maxHeartbeats 40000000 in
theorem rm_ini2 (l : Launch) (Z : State) (a0 : Array Value) (hw : ∀ d ∈ tables_1, d.before a0 Z = true) (ws : List Jvm.Cond) (n0 : Nat) (k0 : ClassId) (o1 : Jvm.Cell) (pP : List Int64) (pf : Nat) (h0 : Heap) (P0 : HP n0 h0 [AC k0 (List.map Value.long pP), o1]) (hk0 : IsA Z k0 .long) (Fo1 : ObjF Z o1 "com/example/bidcrier/bidcrier/CheapestColumns" fl_C0 [.null, .int (0 : Int32), .null, .null]) (hpP : pP.length = pf + 2) (hpf : pf < 2) :
    MetFree l (⟨"com/example/bidcrier/bidcrier/CheapestColumns", "<init>", "([JI)V"⟩ : MethodName) (head1 (Jvm.Cond.code (⟨"com/example/bidcrier/bidcrier/CheapestColumns", "<init>", "([JI)V"⟩ : MethodName) prog_7_method_1_code 4 none :: ws) ({ frames := 1, cells := 2, slots := 4, locals := 18 } : Room)) (fun aa U => aa = #[.ref (n0 + 1), .ref (n0 + 0), .int (Int32.ofNat pf)] ∧ Z.Warmed39 U.vm ∧ U.heap = h0) (fun _ _ _ _ _ => True) (fun _ U o U' => ∃ v L, o = .returned v ∧ Q_ini2 Z n0 k0 o1 pP pf v U'.heap L ∧ FrameEnd U o U' L ({ frames := 1, cells := 2, slots := 4, locals := 18 } : Room).cells ({ frames := 1, cells := 2, slots := 4, locals := 18 } : Room).slots) := by
  refine own_body pn1 ?_
  intro p e s m below meth c T0 hx hby hml hret hlk hown hnm hZ X0 e0
  subst e0
  have N0 : Fr n0 [] := Fr.nil n0
  refine own_cast (ef_ini2 m n0 pf) ?_
  refine w_aloadN X0 hx (hb hby d1_0) rfl rfl (pc' := 1) rfl ?_
  refine w_initO (W := 0) X0 hx hZ hown (by rw [hml]; rfl) (wd7 hw) (wd8 hw) (wd9 hw) P0 (hb hby d1_1) (by decide) (Nat.le_of_eq rfl) (by decide) (pc' := 4) rfl ?_
  intro T1 X1 P1
  refine w_aloadN X1 hx (hb hby d1_4) rfl rfl (pc' := 5) rfl ?_
  refine w_aloadN X1 hx (hb hby d1_5) rfl rfl (pc' := 6) rfl ?_
  refine w_putf (i := 1) (ty := (.array .long)) X1 hx hZ hown (wd10 hw) N0 P1 rfl Fo1 (di_C0 hw) 0 rfl (Or.inr ⟨(wd11 hw), rfl, hnm⟩) (wd2 hw) (by decide) rfl rfl (hb hby d1_6) (pc' := 9) rfl ?_
  intro T2 L1 c1 N1 X2 P2 F1
  replace P2 : HP n0 T2.heap [AC k0 (List.map Value.long pP), c1] := P2
  replace F1 : ObjF Z c1 "com/example/bidcrier/bidcrier/CheapestColumns" fl_C0 [.ref (n0 + 0), .int (0 : Int32), .null, .null] := F1
  refine w_aloadN X2 hx (hb hby d1_9) rfl rfl (pc' := 10) rfl ?_
  refine w_iloadN X2 hx (hb hby d1_10) rfl (pc' := 11) rfl ?_
  refine w_putf (i := 1) (ty := .int) X2 hx hZ hown (wd12 hw) N1 P2 rfl F1 (di_C0 hw) 1 rfl (Or.inr ⟨(wd13 hw), rfl, hnm⟩) (wd2 hw) (by decide) rfl rfl (hb hby d1_11) (pc' := 14) rfl ?_
  intro T3 L2 c2 N2 X3 P3 F2
  replace P3 : HP n0 T3.heap [AC k0 (List.map Value.long pP), c2] := P3
  replace F2 : ObjF Z c2 "com/example/bidcrier/bidcrier/CheapestColumns" fl_C0 [.ref (n0 + 0), .int (Int32.ofNat pf), .null, .null] := F2
  refine w_aloadN X3 hx (hb hby d1_14) rfl rfl (pc' := 15) rfl ?_
  refine w_aloadN X3 hx (hb hby d1_15) rfl rfl (pc' := 16) rfl ?_
  refine w_arrlen (i := 0) X3 hx hZ P3 rfl hk0 (hb hby d1_16) (z := (Int32.ofNat (pf + 2))) (own_len hpP) (pc' := 17) rfl ?_
  refine w_iloadN X3 hx (hb hby d1_17) rfl (pc' := 18) rfl ?_
  refine w_isub X3 hx (hb hby d1_18) (pc' := 19) rfl ?_
  refine w_eqI (z := (Int32.ofNat ((pf + 2) - pf))) (own_osub (a := (pf + 2)) (b := pf) (by omega)) ?_
  refine w_eqI (z := (2 : Int32)) (own_subf pf 2) ?_
  refine w_newarr (N := 2) (j := 2) X3 hx hZ P3 (ty := .int) rfl (wd14 hw) (hb hby d1_19) (by decide) (by decide) (by decide) (by decide) rfl (pc' := 21) rfl ?_
  intro T4 kA3 X4 hkA3 P4
  replace P4 : HP n0 T4.heap [AC k0 (List.map Value.long pP), c2, AC kA3 [.int (0 : Int32), .int (0 : Int32)]] := P4
  refine w_putf (i := 1) (ty := (.array .int)) X4 hx hZ hown (wd15 hw) N2 P4 rfl F2 (di_C0 hw) 2 rfl (Or.inr ⟨(wd16 hw), rfl, hnm⟩) (wd2 hw) (by decide) rfl rfl (hb hby d1_21) (pc' := 24) rfl ?_
  intro T5 L3 c4 N3 X5 P5 F4
  replace P5 : HP n0 T5.heap [AC k0 (List.map Value.long pP), c4, AC kA3 [.int (0 : Int32), .int (0 : Int32)]] := P5
  replace F4 : ObjF Z c4 "com/example/bidcrier/bidcrier/CheapestColumns" fl_C0 [.ref (n0 + 0), .int (Int32.ofNat pf), .ref (n0 + 2), .null] := F4
  refine w_aloadN X5 hx (hb hby d1_24) rfl rfl (pc' := 25) rfl ?_
  refine w_aloadN X5 hx (hb hby d1_25) rfl rfl (pc' := 26) rfl ?_
  refine w_getf (i := 1) (v := .ref (n0 + 2)) X5 hx hZ hown (wd15 hw) P5 rfl F4 2 rfl rfl (hb hby d1_26) (pc' := 29) rfl ?_
  intro T6 X6 P6
  refine w_arrlen (i := 2) X6 hx hZ P6 rfl hkA3 (hb hby d1_29) (z := (2 : Int32)) rfl (pc' := 30) rfl ?_
  refine w_newarr (N := 2) (j := 3) X6 hx hZ P6 (ty := .int) rfl (wd14 hw) (hb hby d1_30) (by decide) (by decide) (by decide) (by decide) rfl (pc' := 32) rfl ?_
  intro T7 kA5 X7 hkA5 P7
  replace P7 : HP n0 T7.heap [AC k0 (List.map Value.long pP), c4, AC kA3 [.int (0 : Int32), .int (0 : Int32)], AC kA5 [.int (0 : Int32), .int (0 : Int32)]] := P7
  refine w_putf (i := 1) (ty := (.array .int)) X7 hx hZ hown (wd17 hw) N3 P7 rfl F4 (di_C0 hw) 3 rfl (Or.inr ⟨(wd18 hw), rfl, hnm⟩) (wd2 hw) (by decide) rfl rfl (hb hby d1_32) (pc' := 35) rfl ?_
  intro T8 L4 c6 N4 X8 P8 F6
  replace P8 : HP n0 T8.heap [AC k0 (List.map Value.long pP), c6, AC kA3 [.int (0 : Int32), .int (0 : Int32)], AC kA5 [.int (0 : Int32), .int (0 : Int32)]] := P8
  replace F6 : ObjF Z c6 "com/example/bidcrier/bidcrier/CheapestColumns" fl_C0 [.ref (n0 + 0), .int (Int32.ofNat pf), .ref (n0 + 2), .ref (n0 + 3)] := F6
  refine w_iconst (v := (0 : Int32)) X8 hx (hb hby d1_35) rfl (pc' := 36) rfl ?_
  refine w_istoreN (l' := #[.val (.ref (n0 + 1)), .val (.ref (n0 + 0)), .val (.int (Int32.ofNat pf)), .val (.int (0 : Int32))]) X8 hx (hb hby d1_36) rfl (pc' := 37) rfl ?_
  refine w_iloadN X8 hx (hb hby d1_37) rfl (pc' := 38) rfl ?_
  refine w_aloadN X8 hx (hb hby d1_38) rfl rfl (pc' := 39) rfl ?_
  refine w_getf (i := 1) (v := .ref (n0 + 2)) X8 hx hZ hown (wd15 hw) P8 rfl F6 2 rfl rfl (hb hby d1_39) (pc' := 42) rfl ?_
  intro T9 X9 P9
  refine w_arrlen (i := 2) X9 hx hZ P9 rfl hkA3 (hb hby d1_42) (z := (2 : Int32)) rfl (pc' := 43) rfl ?_
  refine w_icmp_ge X9 hx (hb hby d1_43) (by decide) (pcY := 68) (by decide) (pc' := 46) rfl (fun h0 => absurd h0 (by decide)) (fun h0 => ?_)
  refine w_aloadN X9 hx (hb hby d1_46) rfl rfl (pc' := 47) rfl ?_
  refine w_getf (i := 1) (v := .ref (n0 + 2)) X9 hx hZ hown (wd15 hw) P9 rfl F6 2 rfl rfl (hb hby d1_47) (pc' := 50) rfl ?_
  intro T10 X10 P10
  refine w_iloadN X10 hx (hb hby d1_50) rfl (pc' := 51) rfl ?_
  refine w_iloadN X10 hx (hb hby d1_51) rfl (pc' := 52) rfl ?_
  refine w_iloadN X10 hx (hb hby d1_52) rfl (pc' := 53) rfl ?_
  refine w_iadd X10 hx (hb hby d1_53) (pc' := 54) rfl ?_
  refine w_eqI (z := (Int32.ofNat (pf + 0))) (own_oadd pf 0) ?_
  refine w_iastore (i := 2) (jn := 0) X10 hx hZ N4 P10 rfl hkA3 (hb hby d1_54) (by decide) (Nat.le_of_ble_eq_true rfl) (pc' := 55) rfl ?_
  intro T11 L5 N5 X11 P11
  replace P11 : HP n0 T11.heap [AC k0 (List.map Value.long pP), c6, AC kA3 [.int (Int32.ofNat (pf + 0)), .int (0 : Int32)], AC kA5 [.int (0 : Int32), .int (0 : Int32)]] := P11
  refine w_aloadN X11 hx (hb hby d1_55) rfl rfl (pc' := 56) rfl ?_
  refine w_getf (i := 1) (v := .ref (n0 + 3)) X11 hx hZ hown (wd17 hw) P11 rfl F6 3 rfl rfl (hb hby d1_56) (pc' := 59) rfl ?_
  intro T12 X12 P12
  refine w_iloadN X12 hx (hb hby d1_59) rfl (pc' := 60) rfl ?_
  refine w_iloadN X12 hx (hb hby d1_60) rfl (pc' := 61) rfl ?_
  refine w_iastore (i := 3) (jn := 0) X12 hx hZ N5 P12 rfl hkA5 (hb hby d1_61) (by decide) (Nat.le_of_ble_eq_true rfl) (pc' := 62) rfl ?_
  intro T13 L6 N6 X13 P13
  replace P13 : HP n0 T13.heap [AC k0 (List.map Value.long pP), c6, AC kA3 [.int (Int32.ofNat (pf + 0)), .int (0 : Int32)], AC kA5 [.int (0 : Int32), .int (0 : Int32)]] := P13
  refine w_iincE (z := (1 : Int32)) (l' := #[.val (.ref (n0 + 1)), .val (.ref (n0 + 0)), .val (.int (Int32.ofNat pf)), .val (.int (1 : Int32))]) X13 hx (hb hby d1_62) rfl (by decide) rfl (pc' := 65) rfl ?_
  refine w_goto X13 hx (hb hby d1_65) (by decide) (pc' := 37) (by decide) ?_
  refine w_iloadN X13 hx (hb hby d1_37) rfl (pc' := 38) rfl ?_
  refine w_aloadN X13 hx (hb hby d1_38) rfl rfl (pc' := 39) rfl ?_
  refine w_getf (i := 1) (v := .ref (n0 + 2)) X13 hx hZ hown (wd15 hw) P13 rfl F6 2 rfl rfl (hb hby d1_39) (pc' := 42) rfl ?_
  intro T14 X14 P14
  refine w_arrlen (i := 2) X14 hx hZ P14 rfl hkA3 (hb hby d1_42) (z := (2 : Int32)) rfl (pc' := 43) rfl ?_
  refine w_icmp_ge X14 hx (hb hby d1_43) (by decide) (pcY := 68) (by decide) (pc' := 46) rfl (fun h1 => absurd h1 (by decide)) (fun h1 => ?_)
  refine w_aloadN X14 hx (hb hby d1_46) rfl rfl (pc' := 47) rfl ?_
  refine w_getf (i := 1) (v := .ref (n0 + 2)) X14 hx hZ hown (wd15 hw) P14 rfl F6 2 rfl rfl (hb hby d1_47) (pc' := 50) rfl ?_
  intro T15 X15 P15
  refine w_iloadN X15 hx (hb hby d1_50) rfl (pc' := 51) rfl ?_
  refine w_iloadN X15 hx (hb hby d1_51) rfl (pc' := 52) rfl ?_
  refine w_iloadN X15 hx (hb hby d1_52) rfl (pc' := 53) rfl ?_
  refine w_iadd X15 hx (hb hby d1_53) (pc' := 54) rfl ?_
  refine w_eqI (z := (Int32.ofNat (pf + 1))) (own_oadd pf 1) ?_
  refine w_iastore (i := 2) (jn := 1) X15 hx hZ N6 P15 rfl hkA3 (hb hby d1_54) (by decide) (Nat.le_of_ble_eq_true rfl) (pc' := 55) rfl ?_
  intro T16 L7 N7 X16 P16
  replace P16 : HP n0 T16.heap [AC k0 (List.map Value.long pP), c6, AC kA3 [.int (Int32.ofNat (pf + 0)), .int (Int32.ofNat (pf + 1))], AC kA5 [.int (0 : Int32), .int (0 : Int32)]] := P16
  refine w_aloadN X16 hx (hb hby d1_55) rfl rfl (pc' := 56) rfl ?_
  refine w_getf (i := 1) (v := .ref (n0 + 3)) X16 hx hZ hown (wd17 hw) P16 rfl F6 3 rfl rfl (hb hby d1_56) (pc' := 59) rfl ?_
  intro T17 X17 P17
  refine w_iloadN X17 hx (hb hby d1_59) rfl (pc' := 60) rfl ?_
  refine w_iloadN X17 hx (hb hby d1_60) rfl (pc' := 61) rfl ?_
  refine w_iastore (i := 3) (jn := 1) X17 hx hZ N7 P17 rfl hkA5 (hb hby d1_61) (by decide) (Nat.le_of_ble_eq_true rfl) (pc' := 62) rfl ?_
  intro T18 L8 N8 X18 P18
  replace P18 : HP n0 T18.heap [AC k0 (List.map Value.long pP), c6, AC kA3 [.int (Int32.ofNat (pf + 0)), .int (Int32.ofNat (pf + 1))], AC kA5 [.int (0 : Int32), .int (1 : Int32)]] := P18
  refine w_iincE (z := (2 : Int32)) (l' := #[.val (.ref (n0 + 1)), .val (.ref (n0 + 0)), .val (.int (Int32.ofNat pf)), .val (.int (2 : Int32))]) X18 hx (hb hby d1_62) rfl (by decide) rfl (pc' := 65) rfl ?_
  refine w_goto X18 hx (hb hby d1_65) (by decide) (pc' := 37) (by decide) ?_
  refine w_iloadN X18 hx (hb hby d1_37) rfl (pc' := 38) rfl ?_
  refine w_aloadN X18 hx (hb hby d1_38) rfl rfl (pc' := 39) rfl ?_
  refine w_getf (i := 1) (v := .ref (n0 + 2)) X18 hx hZ hown (wd15 hw) P18 rfl F6 2 rfl rfl (hb hby d1_39) (pc' := 42) rfl ?_
  intro T19 X19 P19
  refine w_arrlen (i := 2) X19 hx hZ P19 rfl hkA3 (hb hby d1_42) (z := (2 : Int32)) rfl (pc' := 43) rfl ?_
  refine w_icmp_ge X19 hx (hb hby d1_43) (by decide) (pcY := 68) (by decide) (pc' := 46) rfl (fun h2 => ?_) (fun h2 => absurd h2 (by decide))
  refine w_aloadN X19 hx (hb hby d1_68) rfl rfl (pc' := 69) rfl ?_
  refine w_getf (i := 1) (v := .ref (n0 + 2)) X19 hx hZ hown (wd15 hw) P19 rfl F6 2 rfl rfl (hb hby d1_69) (pc' := 72) rfl ?_
  intro T20 X20 P20
  refine w_arrlen (i := 2) X20 hx hZ P20 rfl hkA3 (hb hby d1_72) (z := (2 : Int32)) rfl (pc' := 73) rfl ?_
  refine w_iconst (v := (2 : Int32)) X20 hx (hb hby d1_73) rfl (pc' := 74) rfl ?_
  refine w_idiv X20 hx (hb hby d1_74) (by decide) (pc' := 75) rfl ?_
  refine w_eqI (z := (1 : Int32)) (by decide) ?_
  refine w_iconst (v := (1 : Int32)) X20 hx (hb hby d1_75) rfl (pc' := 76) rfl ?_
  refine w_isub X20 hx (hb hby d1_76) (pc' := 77) rfl ?_
  refine w_eqI (z := (0 : Int32)) (by decide) ?_
  refine w_istoreN (l' := #[.val (.ref (n0 + 1)), .val (.ref (n0 + 0)), .val (.int (Int32.ofNat pf)), .val (.int (0 : Int32))]) X20 hx (hb hby d1_77) rfl (pc' := 78) rfl ?_
  refine w_iloadN X20 hx (hb hby d1_78) rfl (pc' := 79) rfl ?_
  refine w_if_lt X20 hx (hb hby d1_79) (by decide) (pcY := 93) (by decide) (pc' := 82) rfl (fun h3 => absurd h3 (by decide)) (fun h3 => ?_)
  refine w_aloadN X20 hx (hb hby d1_82) rfl rfl (pc' := 83) rfl ?_
  refine w_iloadN X20 hx (hb hby d1_83) rfl (pc' := 84) rfl ?_
  refine own_callPr (W := 0) X20 hx hZ rfl hown hml.symm (wd29 hw) (wd22 hw) rfl (wd31 hw) (wd30 hw) (wd3 hw) (wd32 hw) (rm_sd20 l Z a0 hw [] n0 k0 c6 kA3 kA5 pP pf (pf + 0) (pf + 1) ([(0 : Int32), (1 : Int32)]) _ P20 hk0 hkA3 hkA5 F6 hpP hpf ⟨rfl, by omega, by omega, by omega, by omega, own_neI (by omega), (fun c h1 h2 => by omega), (by rw [Nat.add_sub_cancel_left] <;> rfl), (by rw [Nat.add_sub_cancel_left] <;> rfl)⟩) (a := (n0 + 1)) (P20.exa (i := 1) rfl F6.1) (by decide) (by decide) (by decide) (by decide) (by decide) (argsL := [.int (0 : Int32)]) (rest := []) pd5 rfl rfl rfl (Nat.le_of_eq rfl) (hb hby d1_84) (pc' := 87) rfl ?_
  intro v21 T21 L9 X21 hq
  obtain ⟨rfl, N9, b1_0, b1_1, Q1_, hI1, hO1, P21⟩ := hq
  replace N9 := Fr.app N8 N9
  replace P21 : HP n0 T21.heap [AC k0 (List.map Value.long pP), c6, AC kA3 [.int (Int32.ofNat b1_0), .int (Int32.ofNat b1_1)], AC kA5 (List.map Value.int Q1_)] := P21
  refine w_iincE (z := (-1 : Int32)) (l' := #[.val (.ref (n0 + 1)), .val (.ref (n0 + 0)), .val (.int (Int32.ofNat pf)), .val (.int (-1 : Int32))]) X21 hx (hb hby d1_87) rfl (by decide) rfl (pc' := 90) rfl ?_
  refine w_goto X21 hx (hb hby d1_90) (by decide) (pc' := 78) (by decide) ?_
  refine w_iloadN X21 hx (hb hby d1_78) rfl (pc' := 79) rfl ?_
  refine w_if_lt X21 hx (hb hby d1_79) (by decide) (pcY := 93) (by decide) (pc' := 82) rfl (fun h4 => ?_) (fun h4 => absurd h4 (by decide))
  exact w_ret_v X21 hx hret hlk (hb hby d1_93) (by decide) (by decide) ⟨rfl, N9, c6, F6, kA3, hkA3, kA5, hkA5, b1_0, b1_1, Q1_, hI1, hO1, P21⟩
theorem ef_ini3 (m : MethodId) (n0 : Nat) (pf : Nat) : entryFrame m #[.ref (n0 + 1), .ref (n0 + 0), .int (Int32.ofNat pf)] 4 = mkF m 0 #[.val (.ref (n0 + 1)), .val (.ref (n0 + 0)), .val (.int (Int32.ofNat pf)), .unset] [] := by first | (simp [entryFrame, mkF, argsToLocals, Value.category]; done) | rfl
def Q_ini3 (Z : State) (n0 : Nat) (k0 : ClassId) (o1 : Jvm.Cell) (pP : List Int64) (pf : Nat) (v : Option Value) (h : Heap) (L : List Loc) : Prop := v = none ∧ Fr n0 L ∧ ∃ o1 : Jvm.Cell, ObjF Z o1 "com/example/bidcrier/bidcrier/CheapestColumns" fl_C0 [.ref (n0 + 0), .int (Int32.ofNat pf), .ref (n0 + 2), .ref (n0 + 3)] ∧ ∃ k2 : ClassId, IsA Z k2 .int ∧ ∃ k3 : ClassId, IsA Z k3 .int ∧ ∃ (b0 b1 b2 : Nat) (Q1 : List Int32), own_I3 pf b0 b1 b2 Q1 ∧ own_O3 pP b0 b1 b2 ∧ HP n0 h [AC k0 (List.map Value.long pP), o1, AC k2 [Value.int (Int32.ofNat b0), Value.int (Int32.ofNat b1), Value.int (Int32.ofNat b2)], AC k3 (List.map Value.int Q1)]
set_option maxRecDepth 65536 in
set_option maxHeartbeats 40000000 in
theorem rm_ini3 (l : Launch) (Z : State) (a0 : Array Value) (hw : ∀ d ∈ tables_1, d.before a0 Z = true) (ws : List Jvm.Cond) (n0 : Nat) (k0 : ClassId) (o1 : Jvm.Cell) (pP : List Int64) (pf : Nat) (h0 : Heap) (P0 : HP n0 h0 [AC k0 (List.map Value.long pP), o1]) (hk0 : IsA Z k0 .long) (Fo1 : ObjF Z o1 "com/example/bidcrier/bidcrier/CheapestColumns" fl_C0 [.null, .int (0 : Int32), .null, .null]) (hpP : pP.length = pf + 3) (hpf : pf < 2) :
    MetFree l (⟨"com/example/bidcrier/bidcrier/CheapestColumns", "<init>", "([JI)V"⟩ : MethodName) (head1 (Jvm.Cond.code (⟨"com/example/bidcrier/bidcrier/CheapestColumns", "<init>", "([JI)V"⟩ : MethodName) prog_7_method_1_code 4 none :: ws) ({ frames := 1, cells := 2, slots := 6, locals := 18 } : Room)) (fun aa U => aa = #[.ref (n0 + 1), .ref (n0 + 0), .int (Int32.ofNat pf)] ∧ Z.Warmed39 U.vm ∧ U.heap = h0) (fun _ _ _ _ _ => True) (fun _ U o U' => ∃ v L, o = .returned v ∧ Q_ini3 Z n0 k0 o1 pP pf v U'.heap L ∧ FrameEnd U o U' L ({ frames := 1, cells := 2, slots := 6, locals := 18 } : Room).cells ({ frames := 1, cells := 2, slots := 6, locals := 18 } : Room).slots) := by
  refine own_body pn1 ?_
  intro p e s m below meth c T0 hx hby hml hret hlk hown hnm hZ X0 e0
  subst e0
  have N0 : Fr n0 [] := Fr.nil n0
  refine own_cast (ef_ini3 m n0 pf) ?_
  refine w_aloadN X0 hx (hb hby d1_0) rfl rfl (pc' := 1) rfl ?_
  refine w_initO (W := 0) X0 hx hZ hown (by rw [hml]; rfl) (wd7 hw) (wd8 hw) (wd9 hw) P0 (hb hby d1_1) (by decide) (Nat.le_of_eq rfl) (by decide) (pc' := 4) rfl ?_
  intro T1 X1 P1
  refine w_aloadN X1 hx (hb hby d1_4) rfl rfl (pc' := 5) rfl ?_
  refine w_aloadN X1 hx (hb hby d1_5) rfl rfl (pc' := 6) rfl ?_
  refine w_putf (i := 1) (ty := (.array .long)) X1 hx hZ hown (wd10 hw) N0 P1 rfl Fo1 (di_C0 hw) 0 rfl (Or.inr ⟨(wd11 hw), rfl, hnm⟩) (wd2 hw) (by decide) rfl rfl (hb hby d1_6) (pc' := 9) rfl ?_
  intro T2 L1 c1 N1 X2 P2 F1
  replace P2 : HP n0 T2.heap [AC k0 (List.map Value.long pP), c1] := P2
  replace F1 : ObjF Z c1 "com/example/bidcrier/bidcrier/CheapestColumns" fl_C0 [.ref (n0 + 0), .int (0 : Int32), .null, .null] := F1
  refine w_aloadN X2 hx (hb hby d1_9) rfl rfl (pc' := 10) rfl ?_
  refine w_iloadN X2 hx (hb hby d1_10) rfl (pc' := 11) rfl ?_
  refine w_putf (i := 1) (ty := .int) X2 hx hZ hown (wd12 hw) N1 P2 rfl F1 (di_C0 hw) 1 rfl (Or.inr ⟨(wd13 hw), rfl, hnm⟩) (wd2 hw) (by decide) rfl rfl (hb hby d1_11) (pc' := 14) rfl ?_
  intro T3 L2 c2 N2 X3 P3 F2
  replace P3 : HP n0 T3.heap [AC k0 (List.map Value.long pP), c2] := P3
  replace F2 : ObjF Z c2 "com/example/bidcrier/bidcrier/CheapestColumns" fl_C0 [.ref (n0 + 0), .int (Int32.ofNat pf), .null, .null] := F2
  refine w_aloadN X3 hx (hb hby d1_14) rfl rfl (pc' := 15) rfl ?_
  refine w_aloadN X3 hx (hb hby d1_15) rfl rfl (pc' := 16) rfl ?_
  refine w_arrlen (i := 0) X3 hx hZ P3 rfl hk0 (hb hby d1_16) (z := (Int32.ofNat (pf + 3))) (own_len hpP) (pc' := 17) rfl ?_
  refine w_iloadN X3 hx (hb hby d1_17) rfl (pc' := 18) rfl ?_
  refine w_isub X3 hx (hb hby d1_18) (pc' := 19) rfl ?_
  refine w_eqI (z := (Int32.ofNat ((pf + 3) - pf))) (own_osub (a := (pf + 3)) (b := pf) (by omega)) ?_
  refine w_eqI (z := (3 : Int32)) (own_subf pf 3) ?_
  refine w_newarr (N := 3) (j := 2) X3 hx hZ P3 (ty := .int) rfl (wd14 hw) (hb hby d1_19) (by decide) (by decide) (by decide) (by decide) rfl (pc' := 21) rfl ?_
  intro T4 kA3 X4 hkA3 P4
  replace P4 : HP n0 T4.heap [AC k0 (List.map Value.long pP), c2, AC kA3 [.int (0 : Int32), .int (0 : Int32), .int (0 : Int32)]] := P4
  refine w_putf (i := 1) (ty := (.array .int)) X4 hx hZ hown (wd15 hw) N2 P4 rfl F2 (di_C0 hw) 2 rfl (Or.inr ⟨(wd16 hw), rfl, hnm⟩) (wd2 hw) (by decide) rfl rfl (hb hby d1_21) (pc' := 24) rfl ?_
  intro T5 L3 c4 N3 X5 P5 F4
  replace P5 : HP n0 T5.heap [AC k0 (List.map Value.long pP), c4, AC kA3 [.int (0 : Int32), .int (0 : Int32), .int (0 : Int32)]] := P5
  replace F4 : ObjF Z c4 "com/example/bidcrier/bidcrier/CheapestColumns" fl_C0 [.ref (n0 + 0), .int (Int32.ofNat pf), .ref (n0 + 2), .null] := F4
  refine w_aloadN X5 hx (hb hby d1_24) rfl rfl (pc' := 25) rfl ?_
  refine w_aloadN X5 hx (hb hby d1_25) rfl rfl (pc' := 26) rfl ?_
  refine w_getf (i := 1) (v := .ref (n0 + 2)) X5 hx hZ hown (wd15 hw) P5 rfl F4 2 rfl rfl (hb hby d1_26) (pc' := 29) rfl ?_
  intro T6 X6 P6
  refine w_arrlen (i := 2) X6 hx hZ P6 rfl hkA3 (hb hby d1_29) (z := (3 : Int32)) rfl (pc' := 30) rfl ?_
  refine w_newarr (N := 3) (j := 3) X6 hx hZ P6 (ty := .int) rfl (wd14 hw) (hb hby d1_30) (by decide) (by decide) (by decide) (by decide) rfl (pc' := 32) rfl ?_
  intro T7 kA5 X7 hkA5 P7
  replace P7 : HP n0 T7.heap [AC k0 (List.map Value.long pP), c4, AC kA3 [.int (0 : Int32), .int (0 : Int32), .int (0 : Int32)], AC kA5 [.int (0 : Int32), .int (0 : Int32), .int (0 : Int32)]] := P7
  refine w_putf (i := 1) (ty := (.array .int)) X7 hx hZ hown (wd17 hw) N3 P7 rfl F4 (di_C0 hw) 3 rfl (Or.inr ⟨(wd18 hw), rfl, hnm⟩) (wd2 hw) (by decide) rfl rfl (hb hby d1_32) (pc' := 35) rfl ?_
  intro T8 L4 c6 N4 X8 P8 F6
  replace P8 : HP n0 T8.heap [AC k0 (List.map Value.long pP), c6, AC kA3 [.int (0 : Int32), .int (0 : Int32), .int (0 : Int32)], AC kA5 [.int (0 : Int32), .int (0 : Int32), .int (0 : Int32)]] := P8
  replace F6 : ObjF Z c6 "com/example/bidcrier/bidcrier/CheapestColumns" fl_C0 [.ref (n0 + 0), .int (Int32.ofNat pf), .ref (n0 + 2), .ref (n0 + 3)] := F6
  refine w_iconst (v := (0 : Int32)) X8 hx (hb hby d1_35) rfl (pc' := 36) rfl ?_
  refine w_istoreN (l' := #[.val (.ref (n0 + 1)), .val (.ref (n0 + 0)), .val (.int (Int32.ofNat pf)), .val (.int (0 : Int32))]) X8 hx (hb hby d1_36) rfl (pc' := 37) rfl ?_
  refine w_iloadN X8 hx (hb hby d1_37) rfl (pc' := 38) rfl ?_
  refine w_aloadN X8 hx (hb hby d1_38) rfl rfl (pc' := 39) rfl ?_
  refine w_getf (i := 1) (v := .ref (n0 + 2)) X8 hx hZ hown (wd15 hw) P8 rfl F6 2 rfl rfl (hb hby d1_39) (pc' := 42) rfl ?_
  intro T9 X9 P9
  refine w_arrlen (i := 2) X9 hx hZ P9 rfl hkA3 (hb hby d1_42) (z := (3 : Int32)) rfl (pc' := 43) rfl ?_
  refine w_icmp_ge X9 hx (hb hby d1_43) (by decide) (pcY := 68) (by decide) (pc' := 46) rfl (fun h0 => absurd h0 (by decide)) (fun h0 => ?_)
  refine w_aloadN X9 hx (hb hby d1_46) rfl rfl (pc' := 47) rfl ?_
  refine w_getf (i := 1) (v := .ref (n0 + 2)) X9 hx hZ hown (wd15 hw) P9 rfl F6 2 rfl rfl (hb hby d1_47) (pc' := 50) rfl ?_
  intro T10 X10 P10
  refine w_iloadN X10 hx (hb hby d1_50) rfl (pc' := 51) rfl ?_
  refine w_iloadN X10 hx (hb hby d1_51) rfl (pc' := 52) rfl ?_
  refine w_iloadN X10 hx (hb hby d1_52) rfl (pc' := 53) rfl ?_
  refine w_iadd X10 hx (hb hby d1_53) (pc' := 54) rfl ?_
  refine w_eqI (z := (Int32.ofNat (pf + 0))) (own_oadd pf 0) ?_
  refine w_iastore (i := 2) (jn := 0) X10 hx hZ N4 P10 rfl hkA3 (hb hby d1_54) (by decide) (Nat.le_of_ble_eq_true rfl) (pc' := 55) rfl ?_
  intro T11 L5 N5 X11 P11
  replace P11 : HP n0 T11.heap [AC k0 (List.map Value.long pP), c6, AC kA3 [.int (Int32.ofNat (pf + 0)), .int (0 : Int32), .int (0 : Int32)], AC kA5 [.int (0 : Int32), .int (0 : Int32), .int (0 : Int32)]] := P11
  refine w_aloadN X11 hx (hb hby d1_55) rfl rfl (pc' := 56) rfl ?_
  refine w_getf (i := 1) (v := .ref (n0 + 3)) X11 hx hZ hown (wd17 hw) P11 rfl F6 3 rfl rfl (hb hby d1_56) (pc' := 59) rfl ?_
  intro T12 X12 P12
  refine w_iloadN X12 hx (hb hby d1_59) rfl (pc' := 60) rfl ?_
  refine w_iloadN X12 hx (hb hby d1_60) rfl (pc' := 61) rfl ?_
  refine w_iastore (i := 3) (jn := 0) X12 hx hZ N5 P12 rfl hkA5 (hb hby d1_61) (by decide) (Nat.le_of_ble_eq_true rfl) (pc' := 62) rfl ?_
  intro T13 L6 N6 X13 P13
  replace P13 : HP n0 T13.heap [AC k0 (List.map Value.long pP), c6, AC kA3 [.int (Int32.ofNat (pf + 0)), .int (0 : Int32), .int (0 : Int32)], AC kA5 [.int (0 : Int32), .int (0 : Int32), .int (0 : Int32)]] := P13
  refine w_iincE (z := (1 : Int32)) (l' := #[.val (.ref (n0 + 1)), .val (.ref (n0 + 0)), .val (.int (Int32.ofNat pf)), .val (.int (1 : Int32))]) X13 hx (hb hby d1_62) rfl (by decide) rfl (pc' := 65) rfl ?_
  refine w_goto X13 hx (hb hby d1_65) (by decide) (pc' := 37) (by decide) ?_
  refine w_iloadN X13 hx (hb hby d1_37) rfl (pc' := 38) rfl ?_
  refine w_aloadN X13 hx (hb hby d1_38) rfl rfl (pc' := 39) rfl ?_
  refine w_getf (i := 1) (v := .ref (n0 + 2)) X13 hx hZ hown (wd15 hw) P13 rfl F6 2 rfl rfl (hb hby d1_39) (pc' := 42) rfl ?_
  intro T14 X14 P14
  refine w_arrlen (i := 2) X14 hx hZ P14 rfl hkA3 (hb hby d1_42) (z := (3 : Int32)) rfl (pc' := 43) rfl ?_
  refine w_icmp_ge X14 hx (hb hby d1_43) (by decide) (pcY := 68) (by decide) (pc' := 46) rfl (fun h1 => absurd h1 (by decide)) (fun h1 => ?_)
  refine w_aloadN X14 hx (hb hby d1_46) rfl rfl (pc' := 47) rfl ?_
  refine w_getf (i := 1) (v := .ref (n0 + 2)) X14 hx hZ hown (wd15 hw) P14 rfl F6 2 rfl rfl (hb hby d1_47) (pc' := 50) rfl ?_
  intro T15 X15 P15
  refine w_iloadN X15 hx (hb hby d1_50) rfl (pc' := 51) rfl ?_
  refine w_iloadN X15 hx (hb hby d1_51) rfl (pc' := 52) rfl ?_
  refine w_iloadN X15 hx (hb hby d1_52) rfl (pc' := 53) rfl ?_
  refine w_iadd X15 hx (hb hby d1_53) (pc' := 54) rfl ?_
  refine w_eqI (z := (Int32.ofNat (pf + 1))) (own_oadd pf 1) ?_
  refine w_iastore (i := 2) (jn := 1) X15 hx hZ N6 P15 rfl hkA3 (hb hby d1_54) (by decide) (Nat.le_of_ble_eq_true rfl) (pc' := 55) rfl ?_
  intro T16 L7 N7 X16 P16
  replace P16 : HP n0 T16.heap [AC k0 (List.map Value.long pP), c6, AC kA3 [.int (Int32.ofNat (pf + 0)), .int (Int32.ofNat (pf + 1)), .int (0 : Int32)], AC kA5 [.int (0 : Int32), .int (0 : Int32), .int (0 : Int32)]] := P16
  refine w_aloadN X16 hx (hb hby d1_55) rfl rfl (pc' := 56) rfl ?_
  refine w_getf (i := 1) (v := .ref (n0 + 3)) X16 hx hZ hown (wd17 hw) P16 rfl F6 3 rfl rfl (hb hby d1_56) (pc' := 59) rfl ?_
  intro T17 X17 P17
  refine w_iloadN X17 hx (hb hby d1_59) rfl (pc' := 60) rfl ?_
  refine w_iloadN X17 hx (hb hby d1_60) rfl (pc' := 61) rfl ?_
  refine w_iastore (i := 3) (jn := 1) X17 hx hZ N7 P17 rfl hkA5 (hb hby d1_61) (by decide) (Nat.le_of_ble_eq_true rfl) (pc' := 62) rfl ?_
  intro T18 L8 N8 X18 P18
  replace P18 : HP n0 T18.heap [AC k0 (List.map Value.long pP), c6, AC kA3 [.int (Int32.ofNat (pf + 0)), .int (Int32.ofNat (pf + 1)), .int (0 : Int32)], AC kA5 [.int (0 : Int32), .int (1 : Int32), .int (0 : Int32)]] := P18
  refine w_iincE (z := (2 : Int32)) (l' := #[.val (.ref (n0 + 1)), .val (.ref (n0 + 0)), .val (.int (Int32.ofNat pf)), .val (.int (2 : Int32))]) X18 hx (hb hby d1_62) rfl (by decide) rfl (pc' := 65) rfl ?_
  refine w_goto X18 hx (hb hby d1_65) (by decide) (pc' := 37) (by decide) ?_
  refine w_iloadN X18 hx (hb hby d1_37) rfl (pc' := 38) rfl ?_
  refine w_aloadN X18 hx (hb hby d1_38) rfl rfl (pc' := 39) rfl ?_
  refine w_getf (i := 1) (v := .ref (n0 + 2)) X18 hx hZ hown (wd15 hw) P18 rfl F6 2 rfl rfl (hb hby d1_39) (pc' := 42) rfl ?_
  intro T19 X19 P19
  refine w_arrlen (i := 2) X19 hx hZ P19 rfl hkA3 (hb hby d1_42) (z := (3 : Int32)) rfl (pc' := 43) rfl ?_
  refine w_icmp_ge X19 hx (hb hby d1_43) (by decide) (pcY := 68) (by decide) (pc' := 46) rfl (fun h2 => absurd h2 (by decide)) (fun h2 => ?_)
  refine w_aloadN X19 hx (hb hby d1_46) rfl rfl (pc' := 47) rfl ?_
  refine w_getf (i := 1) (v := .ref (n0 + 2)) X19 hx hZ hown (wd15 hw) P19 rfl F6 2 rfl rfl (hb hby d1_47) (pc' := 50) rfl ?_
  intro T20 X20 P20
  refine w_iloadN X20 hx (hb hby d1_50) rfl (pc' := 51) rfl ?_
  refine w_iloadN X20 hx (hb hby d1_51) rfl (pc' := 52) rfl ?_
  refine w_iloadN X20 hx (hb hby d1_52) rfl (pc' := 53) rfl ?_
  refine w_iadd X20 hx (hb hby d1_53) (pc' := 54) rfl ?_
  refine w_eqI (z := (Int32.ofNat (pf + 2))) (own_oadd pf 2) ?_
  refine w_iastore (i := 2) (jn := 2) X20 hx hZ N8 P20 rfl hkA3 (hb hby d1_54) (by decide) (Nat.le_of_ble_eq_true rfl) (pc' := 55) rfl ?_
  intro T21 L9 N9 X21 P21
  replace P21 : HP n0 T21.heap [AC k0 (List.map Value.long pP), c6, AC kA3 [.int (Int32.ofNat (pf + 0)), .int (Int32.ofNat (pf + 1)), .int (Int32.ofNat (pf + 2))], AC kA5 [.int (0 : Int32), .int (1 : Int32), .int (0 : Int32)]] := P21
  refine w_aloadN X21 hx (hb hby d1_55) rfl rfl (pc' := 56) rfl ?_
  refine w_getf (i := 1) (v := .ref (n0 + 3)) X21 hx hZ hown (wd17 hw) P21 rfl F6 3 rfl rfl (hb hby d1_56) (pc' := 59) rfl ?_
  intro T22 X22 P22
  refine w_iloadN X22 hx (hb hby d1_59) rfl (pc' := 60) rfl ?_
  refine w_iloadN X22 hx (hb hby d1_60) rfl (pc' := 61) rfl ?_
  refine w_iastore (i := 3) (jn := 2) X22 hx hZ N9 P22 rfl hkA5 (hb hby d1_61) (by decide) (Nat.le_of_ble_eq_true rfl) (pc' := 62) rfl ?_
  intro T23 L10 N10 X23 P23
  replace P23 : HP n0 T23.heap [AC k0 (List.map Value.long pP), c6, AC kA3 [.int (Int32.ofNat (pf + 0)), .int (Int32.ofNat (pf + 1)), .int (Int32.ofNat (pf + 2))], AC kA5 [.int (0 : Int32), .int (1 : Int32), .int (2 : Int32)]] := P23
  refine w_iincE (z := (3 : Int32)) (l' := #[.val (.ref (n0 + 1)), .val (.ref (n0 + 0)), .val (.int (Int32.ofNat pf)), .val (.int (3 : Int32))]) X23 hx (hb hby d1_62) rfl (by decide) rfl (pc' := 65) rfl ?_
  refine w_goto X23 hx (hb hby d1_65) (by decide) (pc' := 37) (by decide) ?_
  refine w_iloadN X23 hx (hb hby d1_37) rfl (pc' := 38) rfl ?_
  refine w_aloadN X23 hx (hb hby d1_38) rfl rfl (pc' := 39) rfl ?_
  refine w_getf (i := 1) (v := .ref (n0 + 2)) X23 hx hZ hown (wd15 hw) P23 rfl F6 2 rfl rfl (hb hby d1_39) (pc' := 42) rfl ?_
  intro T24 X24 P24
  refine w_arrlen (i := 2) X24 hx hZ P24 rfl hkA3 (hb hby d1_42) (z := (3 : Int32)) rfl (pc' := 43) rfl ?_
  refine w_icmp_ge X24 hx (hb hby d1_43) (by decide) (pcY := 68) (by decide) (pc' := 46) rfl (fun h3 => ?_) (fun h3 => absurd h3 (by decide))
  refine w_aloadN X24 hx (hb hby d1_68) rfl rfl (pc' := 69) rfl ?_
  refine w_getf (i := 1) (v := .ref (n0 + 2)) X24 hx hZ hown (wd15 hw) P24 rfl F6 2 rfl rfl (hb hby d1_69) (pc' := 72) rfl ?_
  intro T25 X25 P25
  refine w_arrlen (i := 2) X25 hx hZ P25 rfl hkA3 (hb hby d1_72) (z := (3 : Int32)) rfl (pc' := 73) rfl ?_
  refine w_iconst (v := (2 : Int32)) X25 hx (hb hby d1_73) rfl (pc' := 74) rfl ?_
  refine w_idiv X25 hx (hb hby d1_74) (by decide) (pc' := 75) rfl ?_
  refine w_eqI (z := (1 : Int32)) (by decide) ?_
  refine w_iconst (v := (1 : Int32)) X25 hx (hb hby d1_75) rfl (pc' := 76) rfl ?_
  refine w_isub X25 hx (hb hby d1_76) (pc' := 77) rfl ?_
  refine w_eqI (z := (0 : Int32)) (by decide) ?_
  refine w_istoreN (l' := #[.val (.ref (n0 + 1)), .val (.ref (n0 + 0)), .val (.int (Int32.ofNat pf)), .val (.int (0 : Int32))]) X25 hx (hb hby d1_77) rfl (pc' := 78) rfl ?_
  refine w_iloadN X25 hx (hb hby d1_78) rfl (pc' := 79) rfl ?_
  refine w_if_lt X25 hx (hb hby d1_79) (by decide) (pcY := 93) (by decide) (pc' := 82) rfl (fun h4 => absurd h4 (by decide)) (fun h4 => ?_)
  refine w_aloadN X25 hx (hb hby d1_82) rfl rfl (pc' := 83) rfl ?_
  refine w_iloadN X25 hx (hb hby d1_83) rfl (pc' := 84) rfl ?_
  refine own_callPr (W := 0) X25 hx hZ rfl hown hml.symm (wd29 hw) (wd22 hw) rfl (wd31 hw) (wd30 hw) (wd3 hw) (wd32 hw) (rm_sd30 l Z a0 hw [] n0 k0 c6 kA3 kA5 pP pf (pf + 0) (pf + 1) (pf + 2) ([(0 : Int32), (1 : Int32), (2 : Int32)]) _ P25 hk0 hkA3 hkA5 F6 hpP hpf ⟨rfl, by omega, by omega, by omega, by omega, by omega, by omega, own_neI (by omega), own_neI (by omega), own_neI (by omega), (fun c h1 h2 => by omega), (by rw [Nat.add_sub_cancel_left] <;> rfl), (by rw [Nat.add_sub_cancel_left] <;> rfl), (by rw [Nat.add_sub_cancel_left] <;> rfl)⟩) (a := (n0 + 1)) (P25.exa (i := 1) rfl F6.1) (by decide) (by decide) (by decide) (by decide) (by decide) (argsL := [.int (0 : Int32)]) (rest := []) pd5 rfl rfl rfl (Nat.le_of_eq rfl) (hb hby d1_84) (pc' := 87) rfl ?_
  intro v26 T26 L11 X26 hq
  obtain ⟨rfl, N11, b1_0, b1_1, b1_2, Q1_, hI1, hO1, P26⟩ := hq
  replace N11 := Fr.app N10 N11
  replace P26 : HP n0 T26.heap [AC k0 (List.map Value.long pP), c6, AC kA3 [.int (Int32.ofNat b1_0), .int (Int32.ofNat b1_1), .int (Int32.ofNat b1_2)], AC kA5 (List.map Value.int Q1_)] := P26
  refine w_iincE (z := (-1 : Int32)) (l' := #[.val (.ref (n0 + 1)), .val (.ref (n0 + 0)), .val (.int (Int32.ofNat pf)), .val (.int (-1 : Int32))]) X26 hx (hb hby d1_87) rfl (by decide) rfl (pc' := 90) rfl ?_
  refine w_goto X26 hx (hb hby d1_90) (by decide) (pc' := 78) (by decide) ?_
  refine w_iloadN X26 hx (hb hby d1_78) rfl (pc' := 79) rfl ?_
  refine w_if_lt X26 hx (hb hby d1_79) (by decide) (pcY := 93) (by decide) (pc' := 82) rfl (fun h5 => ?_) (fun h5 => absurd h5 (by decide))
  exact w_ret_v X26 hx hret hlk (hb hby d1_93) (by decide) (by decide) ⟨rfl, N11, c6, F6, kA3, hkA3, kA5, hkA5, b1_0, b1_1, b1_2, Q1_, hI1, hO1, P26⟩
theorem ef_ini4 (m : MethodId) (n0 : Nat) (pf : Nat) : entryFrame m #[.ref (n0 + 1), .ref (n0 + 0), .int (Int32.ofNat pf)] 4 = mkF m 0 #[.val (.ref (n0 + 1)), .val (.ref (n0 + 0)), .val (.int (Int32.ofNat pf)), .unset] [] := by first | (simp [entryFrame, mkF, argsToLocals, Value.category]; done) | rfl
def Q_ini4 (Z : State) (n0 : Nat) (k0 : ClassId) (o1 : Jvm.Cell) (pP : List Int64) (pf : Nat) (v : Option Value) (h : Heap) (L : List Loc) : Prop := v = none ∧ Fr n0 L ∧ ∃ o1 : Jvm.Cell, ObjF Z o1 "com/example/bidcrier/bidcrier/CheapestColumns" fl_C0 [.ref (n0 + 0), .int (Int32.ofNat pf), .ref (n0 + 2), .ref (n0 + 3)] ∧ ∃ k2 : ClassId, IsA Z k2 .int ∧ ∃ k3 : ClassId, IsA Z k3 .int ∧ ∃ (b0 b1 b2 b3 : Nat) (Q1 : List Int32), own_I4 pf b0 b1 b2 b3 Q1 ∧ own_O4 pP b0 b1 b2 b3 ∧ HP n0 h [AC k0 (List.map Value.long pP), o1, AC k2 [Value.int (Int32.ofNat b0), Value.int (Int32.ofNat b1), Value.int (Int32.ofNat b2), Value.int (Int32.ofNat b3)], AC k3 (List.map Value.int Q1)]
set_option maxRecDepth 65536 in
set_option maxHeartbeats 40000000 in
theorem rm_ini4 (l : Launch) (Z : State) (a0 : Array Value) (hw : ∀ d ∈ tables_1, d.before a0 Z = true) (ws : List Jvm.Cond) (n0 : Nat) (k0 : ClassId) (o1 : Jvm.Cell) (pP : List Int64) (pf : Nat) (h0 : Heap) (P0 : HP n0 h0 [AC k0 (List.map Value.long pP), o1]) (hk0 : IsA Z k0 .long) (Fo1 : ObjF Z o1 "com/example/bidcrier/bidcrier/CheapestColumns" fl_C0 [.null, .int (0 : Int32), .null, .null]) (hpP : pP.length = pf + 4) (hpf : pf < 2) :
    MetFree l (⟨"com/example/bidcrier/bidcrier/CheapestColumns", "<init>", "([JI)V"⟩ : MethodName) (head1 (Jvm.Cond.code (⟨"com/example/bidcrier/bidcrier/CheapestColumns", "<init>", "([JI)V"⟩ : MethodName) prog_7_method_1_code 4 none :: ws) ({ frames := 1, cells := 2, slots := 8, locals := 18 } : Room)) (fun aa U => aa = #[.ref (n0 + 1), .ref (n0 + 0), .int (Int32.ofNat pf)] ∧ Z.Warmed39 U.vm ∧ U.heap = h0) (fun _ _ _ _ _ => True) (fun _ U o U' => ∃ v L, o = .returned v ∧ Q_ini4 Z n0 k0 o1 pP pf v U'.heap L ∧ FrameEnd U o U' L ({ frames := 1, cells := 2, slots := 8, locals := 18 } : Room).cells ({ frames := 1, cells := 2, slots := 8, locals := 18 } : Room).slots) := by
  refine own_body pn1 ?_
  intro p e s m below meth c T0 hx hby hml hret hlk hown hnm hZ X0 e0
  subst e0
  have N0 : Fr n0 [] := Fr.nil n0
  refine own_cast (ef_ini4 m n0 pf) ?_
  refine w_aloadN X0 hx (hb hby d1_0) rfl rfl (pc' := 1) rfl ?_
  refine w_initO (W := 0) X0 hx hZ hown (by rw [hml]; rfl) (wd7 hw) (wd8 hw) (wd9 hw) P0 (hb hby d1_1) (by decide) (Nat.le_of_eq rfl) (by decide) (pc' := 4) rfl ?_
  intro T1 X1 P1
  refine w_aloadN X1 hx (hb hby d1_4) rfl rfl (pc' := 5) rfl ?_
  refine w_aloadN X1 hx (hb hby d1_5) rfl rfl (pc' := 6) rfl ?_
  refine w_putf (i := 1) (ty := (.array .long)) X1 hx hZ hown (wd10 hw) N0 P1 rfl Fo1 (di_C0 hw) 0 rfl (Or.inr ⟨(wd11 hw), rfl, hnm⟩) (wd2 hw) (by decide) rfl rfl (hb hby d1_6) (pc' := 9) rfl ?_
  intro T2 L1 c1 N1 X2 P2 F1
  replace P2 : HP n0 T2.heap [AC k0 (List.map Value.long pP), c1] := P2
  replace F1 : ObjF Z c1 "com/example/bidcrier/bidcrier/CheapestColumns" fl_C0 [.ref (n0 + 0), .int (0 : Int32), .null, .null] := F1
  refine w_aloadN X2 hx (hb hby d1_9) rfl rfl (pc' := 10) rfl ?_
  refine w_iloadN X2 hx (hb hby d1_10) rfl (pc' := 11) rfl ?_
  refine w_putf (i := 1) (ty := .int) X2 hx hZ hown (wd12 hw) N1 P2 rfl F1 (di_C0 hw) 1 rfl (Or.inr ⟨(wd13 hw), rfl, hnm⟩) (wd2 hw) (by decide) rfl rfl (hb hby d1_11) (pc' := 14) rfl ?_
  intro T3 L2 c2 N2 X3 P3 F2
  replace P3 : HP n0 T3.heap [AC k0 (List.map Value.long pP), c2] := P3
  replace F2 : ObjF Z c2 "com/example/bidcrier/bidcrier/CheapestColumns" fl_C0 [.ref (n0 + 0), .int (Int32.ofNat pf), .null, .null] := F2
  refine w_aloadN X3 hx (hb hby d1_14) rfl rfl (pc' := 15) rfl ?_
  refine w_aloadN X3 hx (hb hby d1_15) rfl rfl (pc' := 16) rfl ?_
  refine w_arrlen (i := 0) X3 hx hZ P3 rfl hk0 (hb hby d1_16) (z := (Int32.ofNat (pf + 4))) (own_len hpP) (pc' := 17) rfl ?_
  refine w_iloadN X3 hx (hb hby d1_17) rfl (pc' := 18) rfl ?_
  refine w_isub X3 hx (hb hby d1_18) (pc' := 19) rfl ?_
  refine w_eqI (z := (Int32.ofNat ((pf + 4) - pf))) (own_osub (a := (pf + 4)) (b := pf) (by omega)) ?_
  refine w_eqI (z := (4 : Int32)) (own_subf pf 4) ?_
  refine w_newarr (N := 4) (j := 2) X3 hx hZ P3 (ty := .int) rfl (wd14 hw) (hb hby d1_19) (by decide) (by decide) (by decide) (by decide) rfl (pc' := 21) rfl ?_
  intro T4 kA3 X4 hkA3 P4
  replace P4 : HP n0 T4.heap [AC k0 (List.map Value.long pP), c2, AC kA3 [.int (0 : Int32), .int (0 : Int32), .int (0 : Int32), .int (0 : Int32)]] := P4
  refine w_putf (i := 1) (ty := (.array .int)) X4 hx hZ hown (wd15 hw) N2 P4 rfl F2 (di_C0 hw) 2 rfl (Or.inr ⟨(wd16 hw), rfl, hnm⟩) (wd2 hw) (by decide) rfl rfl (hb hby d1_21) (pc' := 24) rfl ?_
  intro T5 L3 c4 N3 X5 P5 F4
  replace P5 : HP n0 T5.heap [AC k0 (List.map Value.long pP), c4, AC kA3 [.int (0 : Int32), .int (0 : Int32), .int (0 : Int32), .int (0 : Int32)]] := P5
  replace F4 : ObjF Z c4 "com/example/bidcrier/bidcrier/CheapestColumns" fl_C0 [.ref (n0 + 0), .int (Int32.ofNat pf), .ref (n0 + 2), .null] := F4
  refine w_aloadN X5 hx (hb hby d1_24) rfl rfl (pc' := 25) rfl ?_
  refine w_aloadN X5 hx (hb hby d1_25) rfl rfl (pc' := 26) rfl ?_
  refine w_getf (i := 1) (v := .ref (n0 + 2)) X5 hx hZ hown (wd15 hw) P5 rfl F4 2 rfl rfl (hb hby d1_26) (pc' := 29) rfl ?_
  intro T6 X6 P6
  refine w_arrlen (i := 2) X6 hx hZ P6 rfl hkA3 (hb hby d1_29) (z := (4 : Int32)) rfl (pc' := 30) rfl ?_
  refine w_newarr (N := 4) (j := 3) X6 hx hZ P6 (ty := .int) rfl (wd14 hw) (hb hby d1_30) (by decide) (by decide) (by decide) (by decide) rfl (pc' := 32) rfl ?_
  intro T7 kA5 X7 hkA5 P7
  replace P7 : HP n0 T7.heap [AC k0 (List.map Value.long pP), c4, AC kA3 [.int (0 : Int32), .int (0 : Int32), .int (0 : Int32), .int (0 : Int32)], AC kA5 [.int (0 : Int32), .int (0 : Int32), .int (0 : Int32), .int (0 : Int32)]] := P7
  refine w_putf (i := 1) (ty := (.array .int)) X7 hx hZ hown (wd17 hw) N3 P7 rfl F4 (di_C0 hw) 3 rfl (Or.inr ⟨(wd18 hw), rfl, hnm⟩) (wd2 hw) (by decide) rfl rfl (hb hby d1_32) (pc' := 35) rfl ?_
  intro T8 L4 c6 N4 X8 P8 F6
  replace P8 : HP n0 T8.heap [AC k0 (List.map Value.long pP), c6, AC kA3 [.int (0 : Int32), .int (0 : Int32), .int (0 : Int32), .int (0 : Int32)], AC kA5 [.int (0 : Int32), .int (0 : Int32), .int (0 : Int32), .int (0 : Int32)]] := P8
  replace F6 : ObjF Z c6 "com/example/bidcrier/bidcrier/CheapestColumns" fl_C0 [.ref (n0 + 0), .int (Int32.ofNat pf), .ref (n0 + 2), .ref (n0 + 3)] := F6
  refine w_iconst (v := (0 : Int32)) X8 hx (hb hby d1_35) rfl (pc' := 36) rfl ?_
  refine w_istoreN (l' := #[.val (.ref (n0 + 1)), .val (.ref (n0 + 0)), .val (.int (Int32.ofNat pf)), .val (.int (0 : Int32))]) X8 hx (hb hby d1_36) rfl (pc' := 37) rfl ?_
  refine w_iloadN X8 hx (hb hby d1_37) rfl (pc' := 38) rfl ?_
  refine w_aloadN X8 hx (hb hby d1_38) rfl rfl (pc' := 39) rfl ?_
  refine w_getf (i := 1) (v := .ref (n0 + 2)) X8 hx hZ hown (wd15 hw) P8 rfl F6 2 rfl rfl (hb hby d1_39) (pc' := 42) rfl ?_
  intro T9 X9 P9
  refine w_arrlen (i := 2) X9 hx hZ P9 rfl hkA3 (hb hby d1_42) (z := (4 : Int32)) rfl (pc' := 43) rfl ?_
  refine w_icmp_ge X9 hx (hb hby d1_43) (by decide) (pcY := 68) (by decide) (pc' := 46) rfl (fun h0 => absurd h0 (by decide)) (fun h0 => ?_)
  refine w_aloadN X9 hx (hb hby d1_46) rfl rfl (pc' := 47) rfl ?_
  refine w_getf (i := 1) (v := .ref (n0 + 2)) X9 hx hZ hown (wd15 hw) P9 rfl F6 2 rfl rfl (hb hby d1_47) (pc' := 50) rfl ?_
  intro T10 X10 P10
  refine w_iloadN X10 hx (hb hby d1_50) rfl (pc' := 51) rfl ?_
  refine w_iloadN X10 hx (hb hby d1_51) rfl (pc' := 52) rfl ?_
  refine w_iloadN X10 hx (hb hby d1_52) rfl (pc' := 53) rfl ?_
  refine w_iadd X10 hx (hb hby d1_53) (pc' := 54) rfl ?_
  refine w_eqI (z := (Int32.ofNat (pf + 0))) (own_oadd pf 0) ?_
  refine w_iastore (i := 2) (jn := 0) X10 hx hZ N4 P10 rfl hkA3 (hb hby d1_54) (by decide) (Nat.le_of_ble_eq_true rfl) (pc' := 55) rfl ?_
  intro T11 L5 N5 X11 P11
  replace P11 : HP n0 T11.heap [AC k0 (List.map Value.long pP), c6, AC kA3 [.int (Int32.ofNat (pf + 0)), .int (0 : Int32), .int (0 : Int32), .int (0 : Int32)], AC kA5 [.int (0 : Int32), .int (0 : Int32), .int (0 : Int32), .int (0 : Int32)]] := P11
  refine w_aloadN X11 hx (hb hby d1_55) rfl rfl (pc' := 56) rfl ?_
  refine w_getf (i := 1) (v := .ref (n0 + 3)) X11 hx hZ hown (wd17 hw) P11 rfl F6 3 rfl rfl (hb hby d1_56) (pc' := 59) rfl ?_
  intro T12 X12 P12
  refine w_iloadN X12 hx (hb hby d1_59) rfl (pc' := 60) rfl ?_
  refine w_iloadN X12 hx (hb hby d1_60) rfl (pc' := 61) rfl ?_
  refine w_iastore (i := 3) (jn := 0) X12 hx hZ N5 P12 rfl hkA5 (hb hby d1_61) (by decide) (Nat.le_of_ble_eq_true rfl) (pc' := 62) rfl ?_
  intro T13 L6 N6 X13 P13
  replace P13 : HP n0 T13.heap [AC k0 (List.map Value.long pP), c6, AC kA3 [.int (Int32.ofNat (pf + 0)), .int (0 : Int32), .int (0 : Int32), .int (0 : Int32)], AC kA5 [.int (0 : Int32), .int (0 : Int32), .int (0 : Int32), .int (0 : Int32)]] := P13
  refine w_iincE (z := (1 : Int32)) (l' := #[.val (.ref (n0 + 1)), .val (.ref (n0 + 0)), .val (.int (Int32.ofNat pf)), .val (.int (1 : Int32))]) X13 hx (hb hby d1_62) rfl (by decide) rfl (pc' := 65) rfl ?_
  refine w_goto X13 hx (hb hby d1_65) (by decide) (pc' := 37) (by decide) ?_
  refine w_iloadN X13 hx (hb hby d1_37) rfl (pc' := 38) rfl ?_
  refine w_aloadN X13 hx (hb hby d1_38) rfl rfl (pc' := 39) rfl ?_
  refine w_getf (i := 1) (v := .ref (n0 + 2)) X13 hx hZ hown (wd15 hw) P13 rfl F6 2 rfl rfl (hb hby d1_39) (pc' := 42) rfl ?_
  intro T14 X14 P14
  refine w_arrlen (i := 2) X14 hx hZ P14 rfl hkA3 (hb hby d1_42) (z := (4 : Int32)) rfl (pc' := 43) rfl ?_
  refine w_icmp_ge X14 hx (hb hby d1_43) (by decide) (pcY := 68) (by decide) (pc' := 46) rfl (fun h1 => absurd h1 (by decide)) (fun h1 => ?_)
  refine w_aloadN X14 hx (hb hby d1_46) rfl rfl (pc' := 47) rfl ?_
  refine w_getf (i := 1) (v := .ref (n0 + 2)) X14 hx hZ hown (wd15 hw) P14 rfl F6 2 rfl rfl (hb hby d1_47) (pc' := 50) rfl ?_
  intro T15 X15 P15
  refine w_iloadN X15 hx (hb hby d1_50) rfl (pc' := 51) rfl ?_
  refine w_iloadN X15 hx (hb hby d1_51) rfl (pc' := 52) rfl ?_
  refine w_iloadN X15 hx (hb hby d1_52) rfl (pc' := 53) rfl ?_
  refine w_iadd X15 hx (hb hby d1_53) (pc' := 54) rfl ?_
  refine w_eqI (z := (Int32.ofNat (pf + 1))) (own_oadd pf 1) ?_
  refine w_iastore (i := 2) (jn := 1) X15 hx hZ N6 P15 rfl hkA3 (hb hby d1_54) (by decide) (Nat.le_of_ble_eq_true rfl) (pc' := 55) rfl ?_
  intro T16 L7 N7 X16 P16
  replace P16 : HP n0 T16.heap [AC k0 (List.map Value.long pP), c6, AC kA3 [.int (Int32.ofNat (pf + 0)), .int (Int32.ofNat (pf + 1)), .int (0 : Int32), .int (0 : Int32)], AC kA5 [.int (0 : Int32), .int (0 : Int32), .int (0 : Int32), .int (0 : Int32)]] := P16
  refine w_aloadN X16 hx (hb hby d1_55) rfl rfl (pc' := 56) rfl ?_
  refine w_getf (i := 1) (v := .ref (n0 + 3)) X16 hx hZ hown (wd17 hw) P16 rfl F6 3 rfl rfl (hb hby d1_56) (pc' := 59) rfl ?_
  intro T17 X17 P17
  refine w_iloadN X17 hx (hb hby d1_59) rfl (pc' := 60) rfl ?_
  refine w_iloadN X17 hx (hb hby d1_60) rfl (pc' := 61) rfl ?_
  refine w_iastore (i := 3) (jn := 1) X17 hx hZ N7 P17 rfl hkA5 (hb hby d1_61) (by decide) (Nat.le_of_ble_eq_true rfl) (pc' := 62) rfl ?_
  intro T18 L8 N8 X18 P18
  replace P18 : HP n0 T18.heap [AC k0 (List.map Value.long pP), c6, AC kA3 [.int (Int32.ofNat (pf + 0)), .int (Int32.ofNat (pf + 1)), .int (0 : Int32), .int (0 : Int32)], AC kA5 [.int (0 : Int32), .int (1 : Int32), .int (0 : Int32), .int (0 : Int32)]] := P18
  refine w_iincE (z := (2 : Int32)) (l' := #[.val (.ref (n0 + 1)), .val (.ref (n0 + 0)), .val (.int (Int32.ofNat pf)), .val (.int (2 : Int32))]) X18 hx (hb hby d1_62) rfl (by decide) rfl (pc' := 65) rfl ?_
  refine w_goto X18 hx (hb hby d1_65) (by decide) (pc' := 37) (by decide) ?_
  refine w_iloadN X18 hx (hb hby d1_37) rfl (pc' := 38) rfl ?_
  refine w_aloadN X18 hx (hb hby d1_38) rfl rfl (pc' := 39) rfl ?_
  refine w_getf (i := 1) (v := .ref (n0 + 2)) X18 hx hZ hown (wd15 hw) P18 rfl F6 2 rfl rfl (hb hby d1_39) (pc' := 42) rfl ?_
  intro T19 X19 P19
  refine w_arrlen (i := 2) X19 hx hZ P19 rfl hkA3 (hb hby d1_42) (z := (4 : Int32)) rfl (pc' := 43) rfl ?_
  refine w_icmp_ge X19 hx (hb hby d1_43) (by decide) (pcY := 68) (by decide) (pc' := 46) rfl (fun h2 => absurd h2 (by decide)) (fun h2 => ?_)
  refine w_aloadN X19 hx (hb hby d1_46) rfl rfl (pc' := 47) rfl ?_
  refine w_getf (i := 1) (v := .ref (n0 + 2)) X19 hx hZ hown (wd15 hw) P19 rfl F6 2 rfl rfl (hb hby d1_47) (pc' := 50) rfl ?_
  intro T20 X20 P20
  refine w_iloadN X20 hx (hb hby d1_50) rfl (pc' := 51) rfl ?_
  refine w_iloadN X20 hx (hb hby d1_51) rfl (pc' := 52) rfl ?_
  refine w_iloadN X20 hx (hb hby d1_52) rfl (pc' := 53) rfl ?_
  refine w_iadd X20 hx (hb hby d1_53) (pc' := 54) rfl ?_
  refine w_eqI (z := (Int32.ofNat (pf + 2))) (own_oadd pf 2) ?_
  refine w_iastore (i := 2) (jn := 2) X20 hx hZ N8 P20 rfl hkA3 (hb hby d1_54) (by decide) (Nat.le_of_ble_eq_true rfl) (pc' := 55) rfl ?_
  intro T21 L9 N9 X21 P21
  replace P21 : HP n0 T21.heap [AC k0 (List.map Value.long pP), c6, AC kA3 [.int (Int32.ofNat (pf + 0)), .int (Int32.ofNat (pf + 1)), .int (Int32.ofNat (pf + 2)), .int (0 : Int32)], AC kA5 [.int (0 : Int32), .int (1 : Int32), .int (0 : Int32), .int (0 : Int32)]] := P21
  refine w_aloadN X21 hx (hb hby d1_55) rfl rfl (pc' := 56) rfl ?_
  refine w_getf (i := 1) (v := .ref (n0 + 3)) X21 hx hZ hown (wd17 hw) P21 rfl F6 3 rfl rfl (hb hby d1_56) (pc' := 59) rfl ?_
  intro T22 X22 P22
  refine w_iloadN X22 hx (hb hby d1_59) rfl (pc' := 60) rfl ?_
  refine w_iloadN X22 hx (hb hby d1_60) rfl (pc' := 61) rfl ?_
  refine w_iastore (i := 3) (jn := 2) X22 hx hZ N9 P22 rfl hkA5 (hb hby d1_61) (by decide) (Nat.le_of_ble_eq_true rfl) (pc' := 62) rfl ?_
  intro T23 L10 N10 X23 P23
  replace P23 : HP n0 T23.heap [AC k0 (List.map Value.long pP), c6, AC kA3 [.int (Int32.ofNat (pf + 0)), .int (Int32.ofNat (pf + 1)), .int (Int32.ofNat (pf + 2)), .int (0 : Int32)], AC kA5 [.int (0 : Int32), .int (1 : Int32), .int (2 : Int32), .int (0 : Int32)]] := P23
  refine w_iincE (z := (3 : Int32)) (l' := #[.val (.ref (n0 + 1)), .val (.ref (n0 + 0)), .val (.int (Int32.ofNat pf)), .val (.int (3 : Int32))]) X23 hx (hb hby d1_62) rfl (by decide) rfl (pc' := 65) rfl ?_
  refine w_goto X23 hx (hb hby d1_65) (by decide) (pc' := 37) (by decide) ?_
  refine w_iloadN X23 hx (hb hby d1_37) rfl (pc' := 38) rfl ?_
  refine w_aloadN X23 hx (hb hby d1_38) rfl rfl (pc' := 39) rfl ?_
  refine w_getf (i := 1) (v := .ref (n0 + 2)) X23 hx hZ hown (wd15 hw) P23 rfl F6 2 rfl rfl (hb hby d1_39) (pc' := 42) rfl ?_
  intro T24 X24 P24
  refine w_arrlen (i := 2) X24 hx hZ P24 rfl hkA3 (hb hby d1_42) (z := (4 : Int32)) rfl (pc' := 43) rfl ?_
  refine w_icmp_ge X24 hx (hb hby d1_43) (by decide) (pcY := 68) (by decide) (pc' := 46) rfl (fun h3 => absurd h3 (by decide)) (fun h3 => ?_)
  refine w_aloadN X24 hx (hb hby d1_46) rfl rfl (pc' := 47) rfl ?_
  refine w_getf (i := 1) (v := .ref (n0 + 2)) X24 hx hZ hown (wd15 hw) P24 rfl F6 2 rfl rfl (hb hby d1_47) (pc' := 50) rfl ?_
  intro T25 X25 P25
  refine w_iloadN X25 hx (hb hby d1_50) rfl (pc' := 51) rfl ?_
  refine w_iloadN X25 hx (hb hby d1_51) rfl (pc' := 52) rfl ?_
  refine w_iloadN X25 hx (hb hby d1_52) rfl (pc' := 53) rfl ?_
  refine w_iadd X25 hx (hb hby d1_53) (pc' := 54) rfl ?_
  refine w_eqI (z := (Int32.ofNat (pf + 3))) (own_oadd pf 3) ?_
  refine w_iastore (i := 2) (jn := 3) X25 hx hZ N10 P25 rfl hkA3 (hb hby d1_54) (by decide) (Nat.le_of_ble_eq_true rfl) (pc' := 55) rfl ?_
  intro T26 L11 N11 X26 P26
  replace P26 : HP n0 T26.heap [AC k0 (List.map Value.long pP), c6, AC kA3 [.int (Int32.ofNat (pf + 0)), .int (Int32.ofNat (pf + 1)), .int (Int32.ofNat (pf + 2)), .int (Int32.ofNat (pf + 3))], AC kA5 [.int (0 : Int32), .int (1 : Int32), .int (2 : Int32), .int (0 : Int32)]] := P26
  refine w_aloadN X26 hx (hb hby d1_55) rfl rfl (pc' := 56) rfl ?_
  refine w_getf (i := 1) (v := .ref (n0 + 3)) X26 hx hZ hown (wd17 hw) P26 rfl F6 3 rfl rfl (hb hby d1_56) (pc' := 59) rfl ?_
  intro T27 X27 P27
  refine w_iloadN X27 hx (hb hby d1_59) rfl (pc' := 60) rfl ?_
  refine w_iloadN X27 hx (hb hby d1_60) rfl (pc' := 61) rfl ?_
  refine w_iastore (i := 3) (jn := 3) X27 hx hZ N11 P27 rfl hkA5 (hb hby d1_61) (by decide) (Nat.le_of_ble_eq_true rfl) (pc' := 62) rfl ?_
  intro T28 L12 N12 X28 P28
  replace P28 : HP n0 T28.heap [AC k0 (List.map Value.long pP), c6, AC kA3 [.int (Int32.ofNat (pf + 0)), .int (Int32.ofNat (pf + 1)), .int (Int32.ofNat (pf + 2)), .int (Int32.ofNat (pf + 3))], AC kA5 [.int (0 : Int32), .int (1 : Int32), .int (2 : Int32), .int (3 : Int32)]] := P28
  refine w_iincE (z := (4 : Int32)) (l' := #[.val (.ref (n0 + 1)), .val (.ref (n0 + 0)), .val (.int (Int32.ofNat pf)), .val (.int (4 : Int32))]) X28 hx (hb hby d1_62) rfl (by decide) rfl (pc' := 65) rfl ?_
  refine w_goto X28 hx (hb hby d1_65) (by decide) (pc' := 37) (by decide) ?_
  refine w_iloadN X28 hx (hb hby d1_37) rfl (pc' := 38) rfl ?_
  refine w_aloadN X28 hx (hb hby d1_38) rfl rfl (pc' := 39) rfl ?_
  refine w_getf (i := 1) (v := .ref (n0 + 2)) X28 hx hZ hown (wd15 hw) P28 rfl F6 2 rfl rfl (hb hby d1_39) (pc' := 42) rfl ?_
  intro T29 X29 P29
  refine w_arrlen (i := 2) X29 hx hZ P29 rfl hkA3 (hb hby d1_42) (z := (4 : Int32)) rfl (pc' := 43) rfl ?_
  refine w_icmp_ge X29 hx (hb hby d1_43) (by decide) (pcY := 68) (by decide) (pc' := 46) rfl (fun h4 => ?_) (fun h4 => absurd h4 (by decide))
  refine w_aloadN X29 hx (hb hby d1_68) rfl rfl (pc' := 69) rfl ?_
  refine w_getf (i := 1) (v := .ref (n0 + 2)) X29 hx hZ hown (wd15 hw) P29 rfl F6 2 rfl rfl (hb hby d1_69) (pc' := 72) rfl ?_
  intro T30 X30 P30
  refine w_arrlen (i := 2) X30 hx hZ P30 rfl hkA3 (hb hby d1_72) (z := (4 : Int32)) rfl (pc' := 73) rfl ?_
  refine w_iconst (v := (2 : Int32)) X30 hx (hb hby d1_73) rfl (pc' := 74) rfl ?_
  refine w_idiv X30 hx (hb hby d1_74) (by decide) (pc' := 75) rfl ?_
  refine w_eqI (z := (2 : Int32)) (by decide) ?_
  refine w_iconst (v := (1 : Int32)) X30 hx (hb hby d1_75) rfl (pc' := 76) rfl ?_
  refine w_isub X30 hx (hb hby d1_76) (pc' := 77) rfl ?_
  refine w_eqI (z := (1 : Int32)) (by decide) ?_
  refine w_istoreN (l' := #[.val (.ref (n0 + 1)), .val (.ref (n0 + 0)), .val (.int (Int32.ofNat pf)), .val (.int (1 : Int32))]) X30 hx (hb hby d1_77) rfl (pc' := 78) rfl ?_
  refine w_iloadN X30 hx (hb hby d1_78) rfl (pc' := 79) rfl ?_
  refine w_if_lt X30 hx (hb hby d1_79) (by decide) (pcY := 93) (by decide) (pc' := 82) rfl (fun h5 => absurd h5 (by decide)) (fun h5 => ?_)
  refine w_aloadN X30 hx (hb hby d1_82) rfl rfl (pc' := 83) rfl ?_
  refine w_iloadN X30 hx (hb hby d1_83) rfl (pc' := 84) rfl ?_
  refine own_callPr (W := 0) X30 hx hZ rfl hown hml.symm (wd29 hw) (wd22 hw) rfl (wd31 hw) (wd30 hw) (wd3 hw) (wd32 hw) (rm_sd41i l Z a0 hw [] n0 k0 c6 kA3 kA5 pP pf (pf + 0) (pf + 1) (pf + 2) (pf + 3) ([(0 : Int32), (1 : Int32), (2 : Int32), (3 : Int32)]) _ P30 hk0 hkA3 hkA5 F6 hpP hpf ⟨rfl, by omega, by omega, by omega, by omega, by omega, by omega, by omega, by omega, own_neI (by omega), own_neI (by omega), own_neI (by omega), own_neI (by omega), own_neI (by omega), own_neI (by omega), (fun c h1 h2 => by omega), (by rw [Nat.add_sub_cancel_left] <;> rfl), (by rw [Nat.add_sub_cancel_left] <;> rfl), (by rw [Nat.add_sub_cancel_left] <;> rfl), (by rw [Nat.add_sub_cancel_left] <;> rfl)⟩) (a := (n0 + 1)) (P30.exa (i := 1) rfl F6.1) (by decide) (by decide) (by decide) (by decide) (by decide) (argsL := [.int (1 : Int32)]) (rest := []) pd5 rfl rfl rfl (Nat.le_of_eq rfl) (hb hby d1_84) (pc' := 87) rfl ?_
  intro v31 T31 L13 X31 hq
  obtain ⟨rfl, N13, b1_0, b1_1, b1_2, b1_3, Q1_, hI1, hO1, P31⟩ := hq
  replace N13 := Fr.app N12 N13
  replace P31 : HP n0 T31.heap [AC k0 (List.map Value.long pP), c6, AC kA3 [.int (Int32.ofNat b1_0), .int (Int32.ofNat b1_1), .int (Int32.ofNat b1_2), .int (Int32.ofNat b1_3)], AC kA5 (List.map Value.int Q1_)] := P31
  refine w_iincE (z := (0 : Int32)) (l' := #[.val (.ref (n0 + 1)), .val (.ref (n0 + 0)), .val (.int (Int32.ofNat pf)), .val (.int (0 : Int32))]) X31 hx (hb hby d1_87) rfl (by decide) rfl (pc' := 90) rfl ?_
  refine w_goto X31 hx (hb hby d1_90) (by decide) (pc' := 78) (by decide) ?_
  refine w_iloadN X31 hx (hb hby d1_78) rfl (pc' := 79) rfl ?_
  refine w_if_lt X31 hx (hb hby d1_79) (by decide) (pcY := 93) (by decide) (pc' := 82) rfl (fun h6 => absurd h6 (by decide)) (fun h6 => ?_)
  refine w_aloadN X31 hx (hb hby d1_82) rfl rfl (pc' := 83) rfl ?_
  refine w_iloadN X31 hx (hb hby d1_83) rfl (pc' := 84) rfl ?_
  refine own_callPr (W := 0) X31 hx hZ rfl hown hml.symm (wd29 hw) (wd22 hw) rfl (wd31 hw) (wd30 hw) (wd3 hw) (wd32 hw) (rm_sd40 l Z a0 hw [] n0 k0 c6 kA3 kA5 pP pf b1_0 b1_1 b1_2 b1_3 Q1_ _ P31 hk0 hkA3 hkA5 F6 hpP hpf hI1 hO1) (a := (n0 + 1)) (P31.exa (i := 1) rfl F6.1) (by decide) (by decide) (by decide) (by decide) (by decide) (argsL := [.int (0 : Int32)]) (rest := []) pd5 rfl rfl rfl (Nat.le_of_eq rfl) (hb hby d1_84) (pc' := 87) rfl ?_
  intro v32 T32 L14 X32 hq
  obtain ⟨rfl, N14, b2_0, b2_1, b2_2, b2_3, Q2_, hI2, hO2, P32⟩ := hq
  replace N14 := Fr.app N13 N14
  replace P32 : HP n0 T32.heap [AC k0 (List.map Value.long pP), c6, AC kA3 [.int (Int32.ofNat b2_0), .int (Int32.ofNat b2_1), .int (Int32.ofNat b2_2), .int (Int32.ofNat b2_3)], AC kA5 (List.map Value.int Q2_)] := P32
  refine w_iincE (z := (-1 : Int32)) (l' := #[.val (.ref (n0 + 1)), .val (.ref (n0 + 0)), .val (.int (Int32.ofNat pf)), .val (.int (-1 : Int32))]) X32 hx (hb hby d1_87) rfl (by decide) rfl (pc' := 90) rfl ?_
  refine w_goto X32 hx (hb hby d1_90) (by decide) (pc' := 78) (by decide) ?_
  refine w_iloadN X32 hx (hb hby d1_78) rfl (pc' := 79) rfl ?_
  refine w_if_lt X32 hx (hb hby d1_79) (by decide) (pcY := 93) (by decide) (pc' := 82) rfl (fun h7 => ?_) (fun h7 => absurd h7 (by decide))
  exact w_ret_v X32 hx hret hlk (hb hby d1_93) (by decide) (by decide) ⟨rfl, N14, c6, F6, kA3, hkA3, kA5, hkA5, b2_0, b2_1, b2_2, b2_3, Q2_, hI2, hO2, P32⟩
theorem d7_0 : decode prog_7_method_5_code 0 = .ok (.aload_n 0, 1) := by decide +kernel
theorem d7_1 : decode prog_7_method_5_code 1 = .ok (.aload_n 0, 1) := by decide +kernel
theorem d7_2 : decode prog_7_method_5_code 2 = .ok (.getfield 21, 3) := by decide +kernel
theorem d7_5 : decode prog_7_method_5_code 5 = .ok (.iload_n 1, 1) := by decide +kernel
theorem d7_6 : decode prog_7_method_5_code 6 = .ok (.aload_n 0, 1) := by decide +kernel
theorem d7_7 : decode prog_7_method_5_code 7 = .ok (.getfield 13, 3) := by decide +kernel
theorem d7_10 : decode prog_7_method_5_code 10 = .ok (.isub, 1) := by decide +kernel
theorem d7_11 : decode prog_7_method_5_code 11 = .ok (.iaload, 1) := by decide +kernel
theorem d7_12 : decode prog_7_method_5_code 12 = .ok (.invokevirtual 24, 3) := by decide +kernel
theorem d7_15 : decode prog_7_method_5_code 15 = .ok (.return_, 1) := by decide +kernel
theorem pn7 : plainFor (⟨"com/example/bidcrier/bidcrier/CheapestColumns", "raised", "(I)V"⟩ : MethodName) = true := plainFor_of_name (by first | (simp [plainName, overriddenIn]; done) | decide +kernel)
theorem pd7 : parseMethodDescriptor (⟨"com/example/bidcrier/bidcrier/CheapestColumns", "raised", "(I)V"⟩ : MethodName).desc = some ⟨[.int], none⟩ := by decide +kernel
theorem ef_ra1 (m : MethodId) (n0 : Nat) (pf : Nat) (pa0 : Nat) (pcol : Nat) : entryFrame m #[.ref (n0 + 1), .int (Int32.ofNat pcol)] 2 = mkF m 0 #[.val (.ref (n0 + 1)), .val (.int (Int32.ofNat pcol))] [] := by first | (simp [entryFrame, mkF, argsToLocals, Value.category]; done) | rfl
def Q_ra1 (Z : State) (n0 : Nat) (k0 : ClassId) (o1 : Jvm.Cell) (k2 : ClassId) (k3 : ClassId) (pP : List Int64) (pf : Nat) (pa0 : Nat) (pQ : List Int32) (pP0 : List Int64) (pcol : Nat) (v : Option Value) (h : Heap) (L : List Loc) : Prop := v = none ∧ Fr n0 L ∧ ∃ (b0 : Nat) (Q1 : List Int32), own_I1 pf b0 Q1 ∧ own_O1 pP b0 ∧ HP n0 h [AC k0 (List.map Value.long pP), o1, AC k2 [Value.int (Int32.ofNat b0)], AC k3 (List.map Value.int Q1)]
set_option maxRecDepth 65536 in
set_option maxHeartbeats 40000000 in
theorem rm_ra1 (l : Launch) (Z : State) (a0 : Array Value) (hw : ∀ d ∈ tables_1, d.before a0 Z = true) (ws : List Jvm.Cond) (n0 : Nat) (k0 : ClassId) (o1 : Jvm.Cell) (k2 : ClassId) (k3 : ClassId) (pP : List Int64) (pf : Nat) (pa0 : Nat) (pQ : List Int32) (pP0 : List Int64) (pcol : Nat) (h0 : Heap) (P0 : HP n0 h0 [AC k0 (List.map Value.long pP), o1, AC k2 [.int (Int32.ofNat pa0)], AC k3 (List.map Value.int pQ)]) (hk0 : IsA Z k0 .long) (hk2 : IsA Z k2 .int) (hk3 : IsA Z k3 .int) (Fo1 : ObjF Z o1 "com/example/bidcrier/bidcrier/CheapestColumns" fl_C0 [.ref (n0 + 0), .int (Int32.ofNat pf), .ref (n0 + 2), .ref (n0 + 3)]) (hpP : pP.length = pf + 1) (hpf : pf < 2) (hI : own_I1 pf pa0 pQ) (hO : own_O1 pP0 pa0) (hc1 : pf ≤ pcol) (hc2 : pcol < pf + 1) (hR : ∀ d, own_ne d pcol → own_p pP d = own_p pP0 d) (hR2 : own_p pP0 pcol ≤ own_p pP pcol) :
    MetFree l (⟨"com/example/bidcrier/bidcrier/CheapestColumns", "raised", "(I)V"⟩ : MethodName) (head1 (Jvm.Cond.code (⟨"com/example/bidcrier/bidcrier/CheapestColumns", "raised", "(I)V"⟩ : MethodName) prog_7_method_5_code 2 none :: ws) ({ frames := 1, cells := 0, slots := 0, locals := 18 } : Room)) (fun aa U => aa = #[.ref (n0 + 1), .int (Int32.ofNat pcol)] ∧ Z.Warmed39 U.vm ∧ U.heap = h0) (fun _ _ _ _ _ => True) (fun _ U o U' => ∃ v L, o = .returned v ∧ Q_ra1 Z n0 k0 o1 k2 k3 pP pf pa0 pQ pP0 pcol v U'.heap L ∧ FrameEnd U o U' L ({ frames := 1, cells := 0, slots := 0, locals := 18 } : Room).cells ({ frames := 1, cells := 0, slots := 0, locals := 18 } : Room).slots) := by
  refine own_body pn7 ?_
  intro p e s m below meth c T0 hx hby hml hret hlk hown hnm hZ X0 e0
  subst e0
  have N0 : Fr n0 [] := Fr.nil n0
  have hI0 := hI
  obtain ⟨ilen, il0, iu0, icov, iq0⟩ := hI0
  refine own_cast (ef_ra1 m n0 pf pa0 pcol) ?_
  refine w_aloadN X0 hx (hb hby d7_0) rfl rfl (pc' := 1) rfl ?_
  refine w_aloadN X0 hx (hb hby d7_1) rfl rfl (pc' := 2) rfl ?_
  refine w_getf (i := 1) (v := .ref (n0 + 3)) X0 hx hZ hown (wd17 hw) P0 rfl Fo1 3 rfl rfl (hb hby d7_2) (pc' := 5) rfl ?_
  intro T1 X1 P1
  refine w_iloadN X1 hx (hb hby d7_5) rfl (pc' := 6) rfl ?_
  refine w_aloadN X1 hx (hb hby d7_6) rfl rfl (pc' := 7) rfl ?_
  refine w_getf (i := 1) (v := .int (Int32.ofNat pf)) X1 hx hZ hown (wd12 hw) P1 rfl Fo1 1 rfl rfl (hb hby d7_7) (pc' := 10) rfl ?_
  intro T2 X2 P2
  refine w_isub X2 hx (hb hby d7_10) (pc' := 11) rfl ?_
  refine w_eqI (z := (Int32.ofNat (pcol - pf))) (own_osub (a := pcol) (b := pf) (by omega)) ?_
  refine w_ialoadL (i := 3) (jn := (pcol - pf)) X2 hx hZ P2 rfl hk3 (hb hby d7_11) (own_oN (by omega)) (own_llt ilen (by omega)) (pc' := 12) rfl ?_
  have e := icov pcol hc1 hc2
  refine w_eqI (z := (0 : Int32)) (by rw [e]; exact iq0) ?_
  have r0 := hR2
  rw [e] at r0
  refine own_callPr (W := 0) X2 hx hZ rfl hown hml.symm (wd29 hw) (wd22 hw) rfl (wd31 hw) (wd30 hw) (wd3 hw) (wd32 hw) (rm_sd10 l Z a0 hw [] n0 k0 o1 k2 k3 pP pf pa0 pQ _ P2 hk0 hk2 hk3 Fo1 hpP hpf hI) (a := (n0 + 1)) (P2.exa (i := 1) rfl Fo1.1) (by decide) (by decide) (by decide) (by decide) (by decide) (argsL := [.int (0 : Int32)]) (rest := []) pd5 rfl rfl rfl (Nat.le_of_eq rfl) (hb hby d7_12) (pc' := 15) rfl ?_
  intro v3 T3 L1 X3 hq
  obtain ⟨rfl, N1, b1_0, Q1_, hI1, hO1, P3⟩ := hq
  replace N1 := Fr.app N0 N1
  replace P3 : HP n0 T3.heap [AC k0 (List.map Value.long pP), o1, AC k2 [.int (Int32.ofNat b1_0)], AC k3 (List.map Value.int Q1_)] := P3
  exact w_ret_v X3 hx hret hlk (hb hby d7_15) (by decide) (by decide) ⟨rfl, N1, b1_0, Q1_, hI1, hO1, P3⟩
theorem ef_ra2 (m : MethodId) (n0 : Nat) (pf : Nat) (pa0 : Nat) (pa1 : Nat) (pcol : Nat) : entryFrame m #[.ref (n0 + 1), .int (Int32.ofNat pcol)] 2 = mkF m 0 #[.val (.ref (n0 + 1)), .val (.int (Int32.ofNat pcol))] [] := by first | (simp [entryFrame, mkF, argsToLocals, Value.category]; done) | rfl
def Q_ra2 (Z : State) (n0 : Nat) (k0 : ClassId) (o1 : Jvm.Cell) (k2 : ClassId) (k3 : ClassId) (pP : List Int64) (pf : Nat) (pa0 : Nat) (pa1 : Nat) (pQ : List Int32) (pP0 : List Int64) (pcol : Nat) (v : Option Value) (h : Heap) (L : List Loc) : Prop := v = none ∧ Fr n0 L ∧ ∃ (b0 b1 : Nat) (Q1 : List Int32), own_I2 pf b0 b1 Q1 ∧ own_O2 pP b0 b1 ∧ HP n0 h [AC k0 (List.map Value.long pP), o1, AC k2 [Value.int (Int32.ofNat b0), Value.int (Int32.ofNat b1)], AC k3 (List.map Value.int Q1)]
set_option maxRecDepth 65536 in
set_option maxHeartbeats 40000000 in
theorem rm_ra2 (l : Launch) (Z : State) (a0 : Array Value) (hw : ∀ d ∈ tables_1, d.before a0 Z = true) (ws : List Jvm.Cond) (n0 : Nat) (k0 : ClassId) (o1 : Jvm.Cell) (k2 : ClassId) (k3 : ClassId) (pP : List Int64) (pf : Nat) (pa0 : Nat) (pa1 : Nat) (pQ : List Int32) (pP0 : List Int64) (pcol : Nat) (h0 : Heap) (P0 : HP n0 h0 [AC k0 (List.map Value.long pP), o1, AC k2 [.int (Int32.ofNat pa0), .int (Int32.ofNat pa1)], AC k3 (List.map Value.int pQ)]) (hk0 : IsA Z k0 .long) (hk2 : IsA Z k2 .int) (hk3 : IsA Z k3 .int) (Fo1 : ObjF Z o1 "com/example/bidcrier/bidcrier/CheapestColumns" fl_C0 [.ref (n0 + 0), .int (Int32.ofNat pf), .ref (n0 + 2), .ref (n0 + 3)]) (hpP : pP.length = pf + 2) (hpf : pf < 2) (hI : own_I2 pf pa0 pa1 pQ) (hO : own_O2 pP0 pa0 pa1) (hc1 : pf ≤ pcol) (hc2 : pcol < pf + 2) (hR : ∀ d, own_ne d pcol → own_p pP d = own_p pP0 d) (hR2 : own_p pP0 pcol ≤ own_p pP pcol) :
    MetFree l (⟨"com/example/bidcrier/bidcrier/CheapestColumns", "raised", "(I)V"⟩ : MethodName) (head1 (Jvm.Cond.code (⟨"com/example/bidcrier/bidcrier/CheapestColumns", "raised", "(I)V"⟩ : MethodName) prog_7_method_5_code 2 none :: ws) ({ frames := 1, cells := 0, slots := 0, locals := 18 } : Room)) (fun aa U => aa = #[.ref (n0 + 1), .int (Int32.ofNat pcol)] ∧ Z.Warmed39 U.vm ∧ U.heap = h0) (fun _ _ _ _ _ => True) (fun _ U o U' => ∃ v L, o = .returned v ∧ Q_ra2 Z n0 k0 o1 k2 k3 pP pf pa0 pa1 pQ pP0 pcol v U'.heap L ∧ FrameEnd U o U' L ({ frames := 1, cells := 0, slots := 0, locals := 18 } : Room).cells ({ frames := 1, cells := 0, slots := 0, locals := 18 } : Room).slots) := by
  refine own_body pn7 ?_
  intro p e s m below meth c T0 hx hby hml hret hlk hown hnm hZ X0 e0
  subst e0
  have N0 : Fr n0 [] := Fr.nil n0
  have hI0 := hI
  obtain ⟨ilen, il0, il1, iu0, iu1, in01, icov, iq0, iq1⟩ := hI0
  have o01 : own_p pP0 pa0 ≤ own_p pP0 pa1 := hO
  refine own_cast (ef_ra2 m n0 pf pa0 pa1 pcol) ?_
  refine w_aloadN X0 hx (hb hby d7_0) rfl rfl (pc' := 1) rfl ?_
  refine w_aloadN X0 hx (hb hby d7_1) rfl rfl (pc' := 2) rfl ?_
  refine w_getf (i := 1) (v := .ref (n0 + 3)) X0 hx hZ hown (wd17 hw) P0 rfl Fo1 3 rfl rfl (hb hby d7_2) (pc' := 5) rfl ?_
  intro T1 X1 P1
  refine w_iloadN X1 hx (hb hby d7_5) rfl (pc' := 6) rfl ?_
  refine w_aloadN X1 hx (hb hby d7_6) rfl rfl (pc' := 7) rfl ?_
  refine w_getf (i := 1) (v := .int (Int32.ofNat pf)) X1 hx hZ hown (wd12 hw) P1 rfl Fo1 1 rfl rfl (hb hby d7_7) (pc' := 10) rfl ?_
  intro T2 X2 P2
  refine w_isub X2 hx (hb hby d7_10) (pc' := 11) rfl ?_
  refine w_eqI (z := (Int32.ofNat (pcol - pf))) (own_osub (a := pcol) (b := pf) (by omega)) ?_
  refine w_ialoadL (i := 3) (jn := (pcol - pf)) X2 hx hZ P2 rfl hk3 (hb hby d7_11) (own_oN (by omega)) (own_llt ilen (by omega)) (pc' := 12) rfl ?_
  rcases icov pcol hc1 hc2 with e | e
  · refine w_eqI (z := (0 : Int32)) (by rw [e]; exact iq0) ?_
    have r1 := hR pa1 (own_neq e (own_nes in01))
    have r0 := hR2
    rw [e] at r0
    refine own_callPr (W := 0) X2 hx hZ rfl hown hml.symm (wd29 hw) (wd22 hw) rfl (wd31 hw) (wd30 hw) (wd3 hw) (wd32 hw) (rm_sd20 l Z a0 hw [] n0 k0 o1 k2 k3 pP pf pa0 pa1 pQ _ P2 hk0 hk2 hk3 Fo1 hpP hpf hI) (a := (n0 + 1)) (P2.exa (i := 1) rfl Fo1.1) (by decide) (by decide) (by decide) (by decide) (by decide) (argsL := [.int (0 : Int32)]) (rest := []) pd5 rfl rfl rfl (Nat.le_of_eq rfl) (hb hby d7_12) (pc' := 15) rfl ?_
    intro v3 T3 L1 X3 hq
    obtain ⟨rfl, N1, b1_0, b1_1, Q1_, hI1, hO1, P3⟩ := hq
    replace N1 := Fr.app N0 N1
    replace P3 : HP n0 T3.heap [AC k0 (List.map Value.long pP), o1, AC k2 [.int (Int32.ofNat b1_0), .int (Int32.ofNat b1_1)], AC k3 (List.map Value.int Q1_)] := P3
    exact w_ret_v X3 hx hret hlk (hb hby d7_15) (by decide) (by decide) ⟨rfl, N1, b1_0, b1_1, Q1_, hI1, hO1, P3⟩
  · refine w_eqI (z := (1 : Int32)) (by rw [e]; exact iq1) ?_
    have r0 := hR pa0 (own_neq e in01)
    have r1 := hR2
    rw [e] at r1
    refine own_callPr (W := 0) X2 hx hZ rfl hown hml.symm (wd29 hw) (wd22 hw) rfl (wd31 hw) (wd30 hw) (wd3 hw) (wd32 hw) (rm_sd21 l Z a0 hw [] n0 k0 o1 k2 k3 pP pf pa0 pa1 pQ _ P2 hk0 hk2 hk3 Fo1 hpP hpf hI (by omega)) (a := (n0 + 1)) (P2.exa (i := 1) rfl Fo1.1) (by decide) (by decide) (by decide) (by decide) (by decide) (argsL := [.int (1 : Int32)]) (rest := []) pd5 rfl rfl rfl (Nat.le_of_eq rfl) (hb hby d7_12) (pc' := 15) rfl ?_
    intro v4 T4 L2 X4 hq
    obtain ⟨rfl, N2, b2_0, b2_1, Q2_, hI2, hO2, P4⟩ := hq
    replace N2 := Fr.app N0 N2
    replace P4 : HP n0 T4.heap [AC k0 (List.map Value.long pP), o1, AC k2 [.int (Int32.ofNat b2_0), .int (Int32.ofNat b2_1)], AC k3 (List.map Value.int Q2_)] := P4
    exact w_ret_v X4 hx hret hlk (hb hby d7_15) (by decide) (by decide) ⟨rfl, N2, b2_0, b2_1, Q2_, hI2, hO2, P4⟩
theorem ef_ra3 (m : MethodId) (n0 : Nat) (pf : Nat) (pa0 : Nat) (pa1 : Nat) (pa2 : Nat) (pcol : Nat) : entryFrame m #[.ref (n0 + 1), .int (Int32.ofNat pcol)] 2 = mkF m 0 #[.val (.ref (n0 + 1)), .val (.int (Int32.ofNat pcol))] [] := by first | (simp [entryFrame, mkF, argsToLocals, Value.category]; done) | rfl
def Q_ra3 (Z : State) (n0 : Nat) (k0 : ClassId) (o1 : Jvm.Cell) (k2 : ClassId) (k3 : ClassId) (pP : List Int64) (pf : Nat) (pa0 : Nat) (pa1 : Nat) (pa2 : Nat) (pQ : List Int32) (pP0 : List Int64) (pcol : Nat) (v : Option Value) (h : Heap) (L : List Loc) : Prop := v = none ∧ Fr n0 L ∧ ∃ (b0 b1 b2 : Nat) (Q1 : List Int32), own_I3 pf b0 b1 b2 Q1 ∧ own_O3 pP b0 b1 b2 ∧ HP n0 h [AC k0 (List.map Value.long pP), o1, AC k2 [Value.int (Int32.ofNat b0), Value.int (Int32.ofNat b1), Value.int (Int32.ofNat b2)], AC k3 (List.map Value.int Q1)]
set_option maxRecDepth 65536 in
set_option maxHeartbeats 40000000 in
theorem rm_ra3 (l : Launch) (Z : State) (a0 : Array Value) (hw : ∀ d ∈ tables_1, d.before a0 Z = true) (ws : List Jvm.Cond) (n0 : Nat) (k0 : ClassId) (o1 : Jvm.Cell) (k2 : ClassId) (k3 : ClassId) (pP : List Int64) (pf : Nat) (pa0 : Nat) (pa1 : Nat) (pa2 : Nat) (pQ : List Int32) (pP0 : List Int64) (pcol : Nat) (h0 : Heap) (P0 : HP n0 h0 [AC k0 (List.map Value.long pP), o1, AC k2 [.int (Int32.ofNat pa0), .int (Int32.ofNat pa1), .int (Int32.ofNat pa2)], AC k3 (List.map Value.int pQ)]) (hk0 : IsA Z k0 .long) (hk2 : IsA Z k2 .int) (hk3 : IsA Z k3 .int) (Fo1 : ObjF Z o1 "com/example/bidcrier/bidcrier/CheapestColumns" fl_C0 [.ref (n0 + 0), .int (Int32.ofNat pf), .ref (n0 + 2), .ref (n0 + 3)]) (hpP : pP.length = pf + 3) (hpf : pf < 2) (hI : own_I3 pf pa0 pa1 pa2 pQ) (hO : own_O3 pP0 pa0 pa1 pa2) (hc1 : pf ≤ pcol) (hc2 : pcol < pf + 3) (hR : ∀ d, own_ne d pcol → own_p pP d = own_p pP0 d) (hR2 : own_p pP0 pcol ≤ own_p pP pcol) :
    MetFree l (⟨"com/example/bidcrier/bidcrier/CheapestColumns", "raised", "(I)V"⟩ : MethodName) (head1 (Jvm.Cond.code (⟨"com/example/bidcrier/bidcrier/CheapestColumns", "raised", "(I)V"⟩ : MethodName) prog_7_method_5_code 2 none :: ws) ({ frames := 1, cells := 0, slots := 0, locals := 18 } : Room)) (fun aa U => aa = #[.ref (n0 + 1), .int (Int32.ofNat pcol)] ∧ Z.Warmed39 U.vm ∧ U.heap = h0) (fun _ _ _ _ _ => True) (fun _ U o U' => ∃ v L, o = .returned v ∧ Q_ra3 Z n0 k0 o1 k2 k3 pP pf pa0 pa1 pa2 pQ pP0 pcol v U'.heap L ∧ FrameEnd U o U' L ({ frames := 1, cells := 0, slots := 0, locals := 18 } : Room).cells ({ frames := 1, cells := 0, slots := 0, locals := 18 } : Room).slots) := by
  refine own_body pn7 ?_
  intro p e s m below meth c T0 hx hby hml hret hlk hown hnm hZ X0 e0
  subst e0
  have N0 : Fr n0 [] := Fr.nil n0
  have hI0 := hI
  obtain ⟨ilen, il0, il1, il2, iu0, iu1, iu2, in01, in02, in12, icov, iq0, iq1, iq2⟩ := hI0
  obtain ⟨o01, o02⟩ := hO
  refine own_cast (ef_ra3 m n0 pf pa0 pa1 pa2 pcol) ?_
  refine w_aloadN X0 hx (hb hby d7_0) rfl rfl (pc' := 1) rfl ?_
  refine w_aloadN X0 hx (hb hby d7_1) rfl rfl (pc' := 2) rfl ?_
  refine w_getf (i := 1) (v := .ref (n0 + 3)) X0 hx hZ hown (wd17 hw) P0 rfl Fo1 3 rfl rfl (hb hby d7_2) (pc' := 5) rfl ?_
  intro T1 X1 P1
  refine w_iloadN X1 hx (hb hby d7_5) rfl (pc' := 6) rfl ?_
  refine w_aloadN X1 hx (hb hby d7_6) rfl rfl (pc' := 7) rfl ?_
  refine w_getf (i := 1) (v := .int (Int32.ofNat pf)) X1 hx hZ hown (wd12 hw) P1 rfl Fo1 1 rfl rfl (hb hby d7_7) (pc' := 10) rfl ?_
  intro T2 X2 P2
  refine w_isub X2 hx (hb hby d7_10) (pc' := 11) rfl ?_
  refine w_eqI (z := (Int32.ofNat (pcol - pf))) (own_osub (a := pcol) (b := pf) (by omega)) ?_
  refine w_ialoadL (i := 3) (jn := (pcol - pf)) X2 hx hZ P2 rfl hk3 (hb hby d7_11) (own_oN (by omega)) (own_llt ilen (by omega)) (pc' := 12) rfl ?_
  rcases icov pcol hc1 hc2 with e | e | e
  · refine w_eqI (z := (0 : Int32)) (by rw [e]; exact iq0) ?_
    have r1 := hR pa1 (own_neq e (own_nes in01))
    have r2 := hR pa2 (own_neq e (own_nes in02))
    have r0 := hR2
    rw [e] at r0
    refine own_callPr (W := 0) X2 hx hZ rfl hown hml.symm (wd29 hw) (wd22 hw) rfl (wd31 hw) (wd30 hw) (wd3 hw) (wd32 hw) (rm_sd30 l Z a0 hw [] n0 k0 o1 k2 k3 pP pf pa0 pa1 pa2 pQ _ P2 hk0 hk2 hk3 Fo1 hpP hpf hI) (a := (n0 + 1)) (P2.exa (i := 1) rfl Fo1.1) (by decide) (by decide) (by decide) (by decide) (by decide) (argsL := [.int (0 : Int32)]) (rest := []) pd5 rfl rfl rfl (Nat.le_of_eq rfl) (hb hby d7_12) (pc' := 15) rfl ?_
    intro v3 T3 L1 X3 hq
    obtain ⟨rfl, N1, b1_0, b1_1, b1_2, Q1_, hI1, hO1, P3⟩ := hq
    replace N1 := Fr.app N0 N1
    replace P3 : HP n0 T3.heap [AC k0 (List.map Value.long pP), o1, AC k2 [.int (Int32.ofNat b1_0), .int (Int32.ofNat b1_1), .int (Int32.ofNat b1_2)], AC k3 (List.map Value.int Q1_)] := P3
    exact w_ret_v X3 hx hret hlk (hb hby d7_15) (by decide) (by decide) ⟨rfl, N1, b1_0, b1_1, b1_2, Q1_, hI1, hO1, P3⟩
  · refine w_eqI (z := (1 : Int32)) (by rw [e]; exact iq1) ?_
    have r0 := hR pa0 (own_neq e in01)
    have r2 := hR pa2 (own_neq e (own_nes in12))
    have r1 := hR2
    rw [e] at r1
    refine own_callPr (W := 0) X2 hx hZ rfl hown hml.symm (wd29 hw) (wd22 hw) rfl (wd31 hw) (wd30 hw) (wd3 hw) (wd32 hw) (rm_sd31 l Z a0 hw [] n0 k0 o1 k2 k3 pP pf pa0 pa1 pa2 pQ _ P2 hk0 hk2 hk3 Fo1 hpP hpf hI (by omega) (by omega)) (a := (n0 + 1)) (P2.exa (i := 1) rfl Fo1.1) (by decide) (by decide) (by decide) (by decide) (by decide) (argsL := [.int (1 : Int32)]) (rest := []) pd5 rfl rfl rfl (Nat.le_of_eq rfl) (hb hby d7_12) (pc' := 15) rfl ?_
    intro v4 T4 L2 X4 hq
    obtain ⟨rfl, N2, b2_0, b2_1, b2_2, Q2_, hI2, hO2, P4⟩ := hq
    replace N2 := Fr.app N0 N2
    replace P4 : HP n0 T4.heap [AC k0 (List.map Value.long pP), o1, AC k2 [.int (Int32.ofNat b2_0), .int (Int32.ofNat b2_1), .int (Int32.ofNat b2_2)], AC k3 (List.map Value.int Q2_)] := P4
    exact w_ret_v X4 hx hret hlk (hb hby d7_15) (by decide) (by decide) ⟨rfl, N2, b2_0, b2_1, b2_2, Q2_, hI2, hO2, P4⟩
  · refine w_eqI (z := (2 : Int32)) (by rw [e]; exact iq2) ?_
    have r0 := hR pa0 (own_neq e in02)
    have r1 := hR pa1 (own_neq e in12)
    have r2 := hR2
    rw [e] at r2
    refine own_callPr (W := 0) X2 hx hZ rfl hown hml.symm (wd29 hw) (wd22 hw) rfl (wd31 hw) (wd30 hw) (wd3 hw) (wd32 hw) (rm_sd32 l Z a0 hw [] n0 k0 o1 k2 k3 pP pf pa0 pa1 pa2 pQ _ P2 hk0 hk2 hk3 Fo1 hpP hpf hI (by omega) (by omega)) (a := (n0 + 1)) (P2.exa (i := 1) rfl Fo1.1) (by decide) (by decide) (by decide) (by decide) (by decide) (argsL := [.int (2 : Int32)]) (rest := []) pd5 rfl rfl rfl (Nat.le_of_eq rfl) (hb hby d7_12) (pc' := 15) rfl ?_
    intro v5 T5 L3 X5 hq
    obtain ⟨rfl, N3, b3_0, b3_1, b3_2, Q3_, hI3, hO3, P5⟩ := hq
    replace N3 := Fr.app N0 N3
    replace P5 : HP n0 T5.heap [AC k0 (List.map Value.long pP), o1, AC k2 [.int (Int32.ofNat b3_0), .int (Int32.ofNat b3_1), .int (Int32.ofNat b3_2)], AC k3 (List.map Value.int Q3_)] := P5
    exact w_ret_v X5 hx hret hlk (hb hby d7_15) (by decide) (by decide) ⟨rfl, N3, b3_0, b3_1, b3_2, Q3_, hI3, hO3, P5⟩
theorem ef_ra4 (m : MethodId) (n0 : Nat) (pf : Nat) (pa0 : Nat) (pa1 : Nat) (pa2 : Nat) (pa3 : Nat) (pcol : Nat) : entryFrame m #[.ref (n0 + 1), .int (Int32.ofNat pcol)] 2 = mkF m 0 #[.val (.ref (n0 + 1)), .val (.int (Int32.ofNat pcol))] [] := by first | (simp [entryFrame, mkF, argsToLocals, Value.category]; done) | rfl
def Q_ra4 (Z : State) (n0 : Nat) (k0 : ClassId) (o1 : Jvm.Cell) (k2 : ClassId) (k3 : ClassId) (pP : List Int64) (pf : Nat) (pa0 : Nat) (pa1 : Nat) (pa2 : Nat) (pa3 : Nat) (pQ : List Int32) (pP0 : List Int64) (pcol : Nat) (v : Option Value) (h : Heap) (L : List Loc) : Prop := v = none ∧ Fr n0 L ∧ ∃ (b0 b1 b2 b3 : Nat) (Q1 : List Int32), own_I4 pf b0 b1 b2 b3 Q1 ∧ own_O4 pP b0 b1 b2 b3 ∧ HP n0 h [AC k0 (List.map Value.long pP), o1, AC k2 [Value.int (Int32.ofNat b0), Value.int (Int32.ofNat b1), Value.int (Int32.ofNat b2), Value.int (Int32.ofNat b3)], AC k3 (List.map Value.int Q1)]
set_option maxRecDepth 65536 in
set_option maxHeartbeats 40000000 in
theorem rm_ra4 (l : Launch) (Z : State) (a0 : Array Value) (hw : ∀ d ∈ tables_1, d.before a0 Z = true) (ws : List Jvm.Cond) (n0 : Nat) (k0 : ClassId) (o1 : Jvm.Cell) (k2 : ClassId) (k3 : ClassId) (pP : List Int64) (pf : Nat) (pa0 : Nat) (pa1 : Nat) (pa2 : Nat) (pa3 : Nat) (pQ : List Int32) (pP0 : List Int64) (pcol : Nat) (h0 : Heap) (P0 : HP n0 h0 [AC k0 (List.map Value.long pP), o1, AC k2 [.int (Int32.ofNat pa0), .int (Int32.ofNat pa1), .int (Int32.ofNat pa2), .int (Int32.ofNat pa3)], AC k3 (List.map Value.int pQ)]) (hk0 : IsA Z k0 .long) (hk2 : IsA Z k2 .int) (hk3 : IsA Z k3 .int) (Fo1 : ObjF Z o1 "com/example/bidcrier/bidcrier/CheapestColumns" fl_C0 [.ref (n0 + 0), .int (Int32.ofNat pf), .ref (n0 + 2), .ref (n0 + 3)]) (hpP : pP.length = pf + 4) (hpf : pf < 2) (hI : own_I4 pf pa0 pa1 pa2 pa3 pQ) (hO : own_O4 pP0 pa0 pa1 pa2 pa3) (hc1 : pf ≤ pcol) (hc2 : pcol < pf + 4) (hR : ∀ d, own_ne d pcol → own_p pP d = own_p pP0 d) (hR2 : own_p pP0 pcol ≤ own_p pP pcol) :
    MetFree l (⟨"com/example/bidcrier/bidcrier/CheapestColumns", "raised", "(I)V"⟩ : MethodName) (head1 (Jvm.Cond.code (⟨"com/example/bidcrier/bidcrier/CheapestColumns", "raised", "(I)V"⟩ : MethodName) prog_7_method_5_code 2 none :: ws) ({ frames := 1, cells := 0, slots := 0, locals := 18 } : Room)) (fun aa U => aa = #[.ref (n0 + 1), .int (Int32.ofNat pcol)] ∧ Z.Warmed39 U.vm ∧ U.heap = h0) (fun _ _ _ _ _ => True) (fun _ U o U' => ∃ v L, o = .returned v ∧ Q_ra4 Z n0 k0 o1 k2 k3 pP pf pa0 pa1 pa2 pa3 pQ pP0 pcol v U'.heap L ∧ FrameEnd U o U' L ({ frames := 1, cells := 0, slots := 0, locals := 18 } : Room).cells ({ frames := 1, cells := 0, slots := 0, locals := 18 } : Room).slots) := by
  refine own_body pn7 ?_
  intro p e s m below meth c T0 hx hby hml hret hlk hown hnm hZ X0 e0
  subst e0
  have N0 : Fr n0 [] := Fr.nil n0
  have hI0 := hI
  obtain ⟨ilen, il0, il1, il2, il3, iu0, iu1, iu2, iu3, in01, in02, in03, in12, in13, in23, icov, iq0, iq1, iq2, iq3⟩ := hI0
  obtain ⟨o01, o02, o13⟩ := hO
  refine own_cast (ef_ra4 m n0 pf pa0 pa1 pa2 pa3 pcol) ?_
  refine w_aloadN X0 hx (hb hby d7_0) rfl rfl (pc' := 1) rfl ?_
  refine w_aloadN X0 hx (hb hby d7_1) rfl rfl (pc' := 2) rfl ?_
  refine w_getf (i := 1) (v := .ref (n0 + 3)) X0 hx hZ hown (wd17 hw) P0 rfl Fo1 3 rfl rfl (hb hby d7_2) (pc' := 5) rfl ?_
  intro T1 X1 P1
  refine w_iloadN X1 hx (hb hby d7_5) rfl (pc' := 6) rfl ?_
  refine w_aloadN X1 hx (hb hby d7_6) rfl rfl (pc' := 7) rfl ?_
  refine w_getf (i := 1) (v := .int (Int32.ofNat pf)) X1 hx hZ hown (wd12 hw) P1 rfl Fo1 1 rfl rfl (hb hby d7_7) (pc' := 10) rfl ?_
  intro T2 X2 P2
  refine w_isub X2 hx (hb hby d7_10) (pc' := 11) rfl ?_
  refine w_eqI (z := (Int32.ofNat (pcol - pf))) (own_osub (a := pcol) (b := pf) (by omega)) ?_
  refine w_ialoadL (i := 3) (jn := (pcol - pf)) X2 hx hZ P2 rfl hk3 (hb hby d7_11) (own_oN (by omega)) (own_llt ilen (by omega)) (pc' := 12) rfl ?_
  rcases icov pcol hc1 hc2 with e | e | e | e
  · refine w_eqI (z := (0 : Int32)) (by rw [e]; exact iq0) ?_
    have r1 := hR pa1 (own_neq e (own_nes in01))
    have r2 := hR pa2 (own_neq e (own_nes in02))
    have r3 := hR pa3 (own_neq e (own_nes in03))
    have r0 := hR2
    rw [e] at r0
    refine own_callPr (W := 0) X2 hx hZ rfl hown hml.symm (wd29 hw) (wd22 hw) rfl (wd31 hw) (wd30 hw) (wd3 hw) (wd32 hw) (rm_sd40 l Z a0 hw [] n0 k0 o1 k2 k3 pP pf pa0 pa1 pa2 pa3 pQ _ P2 hk0 hk2 hk3 Fo1 hpP hpf hI (by omega)) (a := (n0 + 1)) (P2.exa (i := 1) rfl Fo1.1) (by decide) (by decide) (by decide) (by decide) (by decide) (argsL := [.int (0 : Int32)]) (rest := []) pd5 rfl rfl rfl (Nat.le_of_eq rfl) (hb hby d7_12) (pc' := 15) rfl ?_
    intro v3 T3 L1 X3 hq
    obtain ⟨rfl, N1, b1_0, b1_1, b1_2, b1_3, Q1_, hI1, hO1, P3⟩ := hq
    replace N1 := Fr.app N0 N1
    replace P3 : HP n0 T3.heap [AC k0 (List.map Value.long pP), o1, AC k2 [.int (Int32.ofNat b1_0), .int (Int32.ofNat b1_1), .int (Int32.ofNat b1_2), .int (Int32.ofNat b1_3)], AC k3 (List.map Value.int Q1_)] := P3
    exact w_ret_v X3 hx hret hlk (hb hby d7_15) (by decide) (by decide) ⟨rfl, N1, b1_0, b1_1, b1_2, b1_3, Q1_, hI1, hO1, P3⟩
  · refine w_eqI (z := (1 : Int32)) (by rw [e]; exact iq1) ?_
    have r0 := hR pa0 (own_neq e in01)
    have r2 := hR pa2 (own_neq e (own_nes in12))
    have r3 := hR pa3 (own_neq e (own_nes in13))
    have r1 := hR2
    rw [e] at r1
    refine own_callPr (W := 0) X2 hx hZ rfl hown hml.symm (wd29 hw) (wd22 hw) rfl (wd31 hw) (wd30 hw) (wd3 hw) (wd32 hw) (rm_sd41 l Z a0 hw [] n0 k0 o1 k2 k3 pP pf pa0 pa1 pa2 pa3 pQ _ P2 hk0 hk2 hk3 Fo1 hpP hpf hI (by omega) (by omega) (by omega)) (a := (n0 + 1)) (P2.exa (i := 1) rfl Fo1.1) (by decide) (by decide) (by decide) (by decide) (by decide) (argsL := [.int (1 : Int32)]) (rest := []) pd5 rfl rfl rfl (Nat.le_of_eq rfl) (hb hby d7_12) (pc' := 15) rfl ?_
    intro v4 T4 L2 X4 hq
    obtain ⟨rfl, N2, b2_0, b2_1, b2_2, b2_3, Q2_, hI2, hO2, P4⟩ := hq
    replace N2 := Fr.app N0 N2
    replace P4 : HP n0 T4.heap [AC k0 (List.map Value.long pP), o1, AC k2 [.int (Int32.ofNat b2_0), .int (Int32.ofNat b2_1), .int (Int32.ofNat b2_2), .int (Int32.ofNat b2_3)], AC k3 (List.map Value.int Q2_)] := P4
    exact w_ret_v X4 hx hret hlk (hb hby d7_15) (by decide) (by decide) ⟨rfl, N2, b2_0, b2_1, b2_2, b2_3, Q2_, hI2, hO2, P4⟩
  · refine w_eqI (z := (2 : Int32)) (by rw [e]; exact iq2) ?_
    have r0 := hR pa0 (own_neq e in02)
    have r1 := hR pa1 (own_neq e in12)
    have r3 := hR pa3 (own_neq e (own_nes in23))
    have r2 := hR2
    rw [e] at r2
    refine own_callPr (W := 0) X2 hx hZ rfl hown hml.symm (wd29 hw) (wd22 hw) rfl (wd31 hw) (wd30 hw) (wd3 hw) (wd32 hw) (rm_sd42 l Z a0 hw [] n0 k0 o1 k2 k3 pP pf pa0 pa1 pa2 pa3 pQ _ P2 hk0 hk2 hk3 Fo1 hpP hpf hI (by omega) (by omega) (by omega)) (a := (n0 + 1)) (P2.exa (i := 1) rfl Fo1.1) (by decide) (by decide) (by decide) (by decide) (by decide) (argsL := [.int (2 : Int32)]) (rest := []) pd5 rfl rfl rfl (Nat.le_of_eq rfl) (hb hby d7_12) (pc' := 15) rfl ?_
    intro v5 T5 L3 X5 hq
    obtain ⟨rfl, N3, b3_0, b3_1, b3_2, b3_3, Q3_, hI3, hO3, P5⟩ := hq
    replace N3 := Fr.app N0 N3
    replace P5 : HP n0 T5.heap [AC k0 (List.map Value.long pP), o1, AC k2 [.int (Int32.ofNat b3_0), .int (Int32.ofNat b3_1), .int (Int32.ofNat b3_2), .int (Int32.ofNat b3_3)], AC k3 (List.map Value.int Q3_)] := P5
    exact w_ret_v X5 hx hret hlk (hb hby d7_15) (by decide) (by decide) ⟨rfl, N3, b3_0, b3_1, b3_2, b3_3, Q3_, hI3, hO3, P5⟩
  · refine w_eqI (z := (3 : Int32)) (by rw [e]; exact iq3) ?_
    have r0 := hR pa0 (own_neq e in03)
    have r1 := hR pa1 (own_neq e in13)
    have r2 := hR pa2 (own_neq e in23)
    have r3 := hR2
    rw [e] at r3
    refine own_callPr (W := 0) X2 hx hZ rfl hown hml.symm (wd29 hw) (wd22 hw) rfl (wd31 hw) (wd30 hw) (wd3 hw) (wd32 hw) (rm_sd43 l Z a0 hw [] n0 k0 o1 k2 k3 pP pf pa0 pa1 pa2 pa3 pQ _ P2 hk0 hk2 hk3 Fo1 hpP hpf hI (by omega) (by omega) (by omega)) (a := (n0 + 1)) (P2.exa (i := 1) rfl Fo1.1) (by decide) (by decide) (by decide) (by decide) (by decide) (argsL := [.int (3 : Int32)]) (rest := []) pd5 rfl rfl rfl (Nat.le_of_eq rfl) (hb hby d7_12) (pc' := 15) rfl ?_
    intro v6 T6 L4 X6 hq
    obtain ⟨rfl, N4, b4_0, b4_1, b4_2, b4_3, Q4_, hI4, hO4, P6⟩ := hq
    replace N4 := Fr.app N0 N4
    replace P6 : HP n0 T6.heap [AC k0 (List.map Value.long pP), o1, AC k2 [.int (Int32.ofNat b4_0), .int (Int32.ofNat b4_1), .int (Int32.ofNat b4_2), .int (Int32.ofNat b4_3)], AC k3 (List.map Value.int Q4_)] := P6
    exact w_ret_v X6 hx hret hlk (hb hby d7_15) (by decide) (by decide) ⟨rfl, N4, b4_0, b4_1, b4_2, b4_3, Q4_, hI4, hO4, P6⟩
theorem d3_0 : decode prog_7_method_3_code 0 = .ok (.aload_n 0, 1) := by decide +kernel
theorem d3_1 : decode prog_7_method_3_code 1 = .ok (.getfield 17, 3) := by decide +kernel
theorem d3_4 : decode prog_7_method_3_code 4 = .ok (.iconst 0, 1) := by decide +kernel
theorem d3_5 : decode prog_7_method_3_code 5 = .ok (.iaload, 1) := by decide +kernel
theorem d3_6 : decode prog_7_method_3_code 6 = .ok (.ireturn, 1) := by decide +kernel
theorem pn3 : plainFor (⟨"com/example/bidcrier/bidcrier/CheapestColumns", "cheapest", "()I"⟩ : MethodName) = true := plainFor_of_name (by first | (simp [plainName, overriddenIn]; done) | decide +kernel)
theorem pd3 : parseMethodDescriptor (⟨"com/example/bidcrier/bidcrier/CheapestColumns", "cheapest", "()I"⟩ : MethodName).desc = some ⟨[], some .int⟩ := by decide +kernel
theorem ef_ch1 (m : MethodId) (n0 : Nat) (pf : Nat) (pv0 : Int32) : entryFrame m #[.ref (n0 + 1)] 1 = mkF m 0 #[.val (.ref (n0 + 1))] [] := by first | (simp [entryFrame, mkF, argsToLocals, Value.category]; done) | rfl
def Q_ch1 (Z : State) (n0 : Nat) (q0 : Jvm.Cell) (o1 : Jvm.Cell) (k2 : ClassId) (q3 : Jvm.Cell) (pf : Nat) (pv0 : Int32) (v : Option Value) (h : Heap) (L : List Loc) : Prop := v = some (.int pv0) ∧ Fr n0 L ∧ HP n0 h [q0, o1, AC k2 [.int pv0], q3]
set_option maxRecDepth 65536 in
set_option maxHeartbeats 40000000 in
theorem rm_ch1 (l : Launch) (Z : State) (a0 : Array Value) (hw : ∀ d ∈ tables_1, d.before a0 Z = true) (ws : List Jvm.Cond) (n0 : Nat) (q0 : Jvm.Cell) (o1 : Jvm.Cell) (k2 : ClassId) (q3 : Jvm.Cell) (pf : Nat) (pv0 : Int32) (h0 : Heap) (P0 : HP n0 h0 [q0, o1, AC k2 [.int pv0], q3]) (hk2 : IsA Z k2 .int) (Fo1 : ObjF Z o1 "com/example/bidcrier/bidcrier/CheapestColumns" fl_C0 [.ref (n0 + 0), .int (Int32.ofNat pf), .ref (n0 + 2), .ref (n0 + 3)]) :
    MetFree l (⟨"com/example/bidcrier/bidcrier/CheapestColumns", "cheapest", "()I"⟩ : MethodName) (head1 (Jvm.Cond.code (⟨"com/example/bidcrier/bidcrier/CheapestColumns", "cheapest", "()I"⟩ : MethodName) prog_7_method_3_code 1 (some .int) :: ws) ({ frames := 0, cells := 0, slots := 0, locals := 0 } : Room)) (fun aa U => aa = #[.ref (n0 + 1)] ∧ Z.Warmed39 U.vm ∧ U.heap = h0) (fun _ _ _ _ _ => True) (fun _ U o U' => ∃ v L, o = .returned v ∧ Q_ch1 Z n0 q0 o1 k2 q3 pf pv0 v U'.heap L ∧ FrameEnd U o U' L ({ frames := 0, cells := 0, slots := 0, locals := 0 } : Room).cells ({ frames := 0, cells := 0, slots := 0, locals := 0 } : Room).slots) := by
  refine own_body pn3 ?_
  intro p e s m below meth c T0 hx hby hml hret hlk hown hnm hZ X0 e0
  subst e0
  have N0 : Fr n0 [] := Fr.nil n0
  refine own_cast (ef_ch1 m n0 pf pv0) ?_
  refine w_aloadN X0 hx (hb hby d3_0) rfl rfl (pc' := 1) rfl ?_
  refine w_getf (i := 1) (v := .ref (n0 + 2)) X0 hx hZ hown (wd15 hw) P0 rfl Fo1 2 rfl rfl (hb hby d3_1) (pc' := 4) rfl ?_
  intro T1 X1 P1
  refine w_iconst (v := (0 : Int32)) X1 hx (hb hby d3_4) rfl (pc' := 5) rfl ?_
  refine w_iaload (i := 2) (jn := 0) (v := .int pv0) X1 hx hZ P1 rfl hk2 (hb hby d3_5) (by decide) rfl (pc' := 6) rfl ?_
  exact w_ret_i X1 hx hret hlk (hb hby d3_6) (by decide) (by decide) ⟨rfl, N0, P1⟩
theorem ef_ch2 (m : MethodId) (n0 : Nat) (pf : Nat) (pv0 : Int32) (pv1 : Int32) : entryFrame m #[.ref (n0 + 1)] 1 = mkF m 0 #[.val (.ref (n0 + 1))] [] := by first | (simp [entryFrame, mkF, argsToLocals, Value.category]; done) | rfl
def Q_ch2 (Z : State) (n0 : Nat) (q0 : Jvm.Cell) (o1 : Jvm.Cell) (k2 : ClassId) (q3 : Jvm.Cell) (pf : Nat) (pv0 : Int32) (pv1 : Int32) (v : Option Value) (h : Heap) (L : List Loc) : Prop := v = some (.int pv0) ∧ Fr n0 L ∧ HP n0 h [q0, o1, AC k2 [.int pv0, .int pv1], q3]
set_option maxRecDepth 65536 in
set_option maxHeartbeats 40000000 in
theorem rm_ch2 (l : Launch) (Z : State) (a0 : Array Value) (hw : ∀ d ∈ tables_1, d.before a0 Z = true) (ws : List Jvm.Cond) (n0 : Nat) (q0 : Jvm.Cell) (o1 : Jvm.Cell) (k2 : ClassId) (q3 : Jvm.Cell) (pf : Nat) (pv0 : Int32) (pv1 : Int32) (h0 : Heap) (P0 : HP n0 h0 [q0, o1, AC k2 [.int pv0, .int pv1], q3]) (hk2 : IsA Z k2 .int) (Fo1 : ObjF Z o1 "com/example/bidcrier/bidcrier/CheapestColumns" fl_C0 [.ref (n0 + 0), .int (Int32.ofNat pf), .ref (n0 + 2), .ref (n0 + 3)]) :
    MetFree l (⟨"com/example/bidcrier/bidcrier/CheapestColumns", "cheapest", "()I"⟩ : MethodName) (head1 (Jvm.Cond.code (⟨"com/example/bidcrier/bidcrier/CheapestColumns", "cheapest", "()I"⟩ : MethodName) prog_7_method_3_code 1 (some .int) :: ws) ({ frames := 0, cells := 0, slots := 0, locals := 0 } : Room)) (fun aa U => aa = #[.ref (n0 + 1)] ∧ Z.Warmed39 U.vm ∧ U.heap = h0) (fun _ _ _ _ _ => True) (fun _ U o U' => ∃ v L, o = .returned v ∧ Q_ch2 Z n0 q0 o1 k2 q3 pf pv0 pv1 v U'.heap L ∧ FrameEnd U o U' L ({ frames := 0, cells := 0, slots := 0, locals := 0 } : Room).cells ({ frames := 0, cells := 0, slots := 0, locals := 0 } : Room).slots) := by
  refine own_body pn3 ?_
  intro p e s m below meth c T0 hx hby hml hret hlk hown hnm hZ X0 e0
  subst e0
  have N0 : Fr n0 [] := Fr.nil n0
  refine own_cast (ef_ch2 m n0 pf pv0 pv1) ?_
  refine w_aloadN X0 hx (hb hby d3_0) rfl rfl (pc' := 1) rfl ?_
  refine w_getf (i := 1) (v := .ref (n0 + 2)) X0 hx hZ hown (wd15 hw) P0 rfl Fo1 2 rfl rfl (hb hby d3_1) (pc' := 4) rfl ?_
  intro T1 X1 P1
  refine w_iconst (v := (0 : Int32)) X1 hx (hb hby d3_4) rfl (pc' := 5) rfl ?_
  refine w_iaload (i := 2) (jn := 0) (v := .int pv0) X1 hx hZ P1 rfl hk2 (hb hby d3_5) (by decide) rfl (pc' := 6) rfl ?_
  exact w_ret_i X1 hx hret hlk (hb hby d3_6) (by decide) (by decide) ⟨rfl, N0, P1⟩
theorem ef_ch3 (m : MethodId) (n0 : Nat) (pf : Nat) (pv0 : Int32) (pv1 : Int32) (pv2 : Int32) : entryFrame m #[.ref (n0 + 1)] 1 = mkF m 0 #[.val (.ref (n0 + 1))] [] := by first | (simp [entryFrame, mkF, argsToLocals, Value.category]; done) | rfl
def Q_ch3 (Z : State) (n0 : Nat) (q0 : Jvm.Cell) (o1 : Jvm.Cell) (k2 : ClassId) (q3 : Jvm.Cell) (pf : Nat) (pv0 : Int32) (pv1 : Int32) (pv2 : Int32) (v : Option Value) (h : Heap) (L : List Loc) : Prop := v = some (.int pv0) ∧ Fr n0 L ∧ HP n0 h [q0, o1, AC k2 [.int pv0, .int pv1, .int pv2], q3]
set_option maxRecDepth 65536 in
set_option maxHeartbeats 40000000 in
theorem rm_ch3 (l : Launch) (Z : State) (a0 : Array Value) (hw : ∀ d ∈ tables_1, d.before a0 Z = true) (ws : List Jvm.Cond) (n0 : Nat) (q0 : Jvm.Cell) (o1 : Jvm.Cell) (k2 : ClassId) (q3 : Jvm.Cell) (pf : Nat) (pv0 : Int32) (pv1 : Int32) (pv2 : Int32) (h0 : Heap) (P0 : HP n0 h0 [q0, o1, AC k2 [.int pv0, .int pv1, .int pv2], q3]) (hk2 : IsA Z k2 .int) (Fo1 : ObjF Z o1 "com/example/bidcrier/bidcrier/CheapestColumns" fl_C0 [.ref (n0 + 0), .int (Int32.ofNat pf), .ref (n0 + 2), .ref (n0 + 3)]) :
    MetFree l (⟨"com/example/bidcrier/bidcrier/CheapestColumns", "cheapest", "()I"⟩ : MethodName) (head1 (Jvm.Cond.code (⟨"com/example/bidcrier/bidcrier/CheapestColumns", "cheapest", "()I"⟩ : MethodName) prog_7_method_3_code 1 (some .int) :: ws) ({ frames := 0, cells := 0, slots := 0, locals := 0 } : Room)) (fun aa U => aa = #[.ref (n0 + 1)] ∧ Z.Warmed39 U.vm ∧ U.heap = h0) (fun _ _ _ _ _ => True) (fun _ U o U' => ∃ v L, o = .returned v ∧ Q_ch3 Z n0 q0 o1 k2 q3 pf pv0 pv1 pv2 v U'.heap L ∧ FrameEnd U o U' L ({ frames := 0, cells := 0, slots := 0, locals := 0 } : Room).cells ({ frames := 0, cells := 0, slots := 0, locals := 0 } : Room).slots) := by
  refine own_body pn3 ?_
  intro p e s m below meth c T0 hx hby hml hret hlk hown hnm hZ X0 e0
  subst e0
  have N0 : Fr n0 [] := Fr.nil n0
  refine own_cast (ef_ch3 m n0 pf pv0 pv1 pv2) ?_
  refine w_aloadN X0 hx (hb hby d3_0) rfl rfl (pc' := 1) rfl ?_
  refine w_getf (i := 1) (v := .ref (n0 + 2)) X0 hx hZ hown (wd15 hw) P0 rfl Fo1 2 rfl rfl (hb hby d3_1) (pc' := 4) rfl ?_
  intro T1 X1 P1
  refine w_iconst (v := (0 : Int32)) X1 hx (hb hby d3_4) rfl (pc' := 5) rfl ?_
  refine w_iaload (i := 2) (jn := 0) (v := .int pv0) X1 hx hZ P1 rfl hk2 (hb hby d3_5) (by decide) rfl (pc' := 6) rfl ?_
  exact w_ret_i X1 hx hret hlk (hb hby d3_6) (by decide) (by decide) ⟨rfl, N0, P1⟩
theorem ef_ch4 (m : MethodId) (n0 : Nat) (pf : Nat) (pv0 : Int32) (pv1 : Int32) (pv2 : Int32) (pv3 : Int32) : entryFrame m #[.ref (n0 + 1)] 1 = mkF m 0 #[.val (.ref (n0 + 1))] [] := by first | (simp [entryFrame, mkF, argsToLocals, Value.category]; done) | rfl
def Q_ch4 (Z : State) (n0 : Nat) (q0 : Jvm.Cell) (o1 : Jvm.Cell) (k2 : ClassId) (q3 : Jvm.Cell) (pf : Nat) (pv0 : Int32) (pv1 : Int32) (pv2 : Int32) (pv3 : Int32) (v : Option Value) (h : Heap) (L : List Loc) : Prop := v = some (.int pv0) ∧ Fr n0 L ∧ HP n0 h [q0, o1, AC k2 [.int pv0, .int pv1, .int pv2, .int pv3], q3]
set_option maxRecDepth 65536 in
set_option maxHeartbeats 40000000 in
theorem rm_ch4 (l : Launch) (Z : State) (a0 : Array Value) (hw : ∀ d ∈ tables_1, d.before a0 Z = true) (ws : List Jvm.Cond) (n0 : Nat) (q0 : Jvm.Cell) (o1 : Jvm.Cell) (k2 : ClassId) (q3 : Jvm.Cell) (pf : Nat) (pv0 : Int32) (pv1 : Int32) (pv2 : Int32) (pv3 : Int32) (h0 : Heap) (P0 : HP n0 h0 [q0, o1, AC k2 [.int pv0, .int pv1, .int pv2, .int pv3], q3]) (hk2 : IsA Z k2 .int) (Fo1 : ObjF Z o1 "com/example/bidcrier/bidcrier/CheapestColumns" fl_C0 [.ref (n0 + 0), .int (Int32.ofNat pf), .ref (n0 + 2), .ref (n0 + 3)]) :
    MetFree l (⟨"com/example/bidcrier/bidcrier/CheapestColumns", "cheapest", "()I"⟩ : MethodName) (head1 (Jvm.Cond.code (⟨"com/example/bidcrier/bidcrier/CheapestColumns", "cheapest", "()I"⟩ : MethodName) prog_7_method_3_code 1 (some .int) :: ws) ({ frames := 0, cells := 0, slots := 0, locals := 0 } : Room)) (fun aa U => aa = #[.ref (n0 + 1)] ∧ Z.Warmed39 U.vm ∧ U.heap = h0) (fun _ _ _ _ _ => True) (fun _ U o U' => ∃ v L, o = .returned v ∧ Q_ch4 Z n0 q0 o1 k2 q3 pf pv0 pv1 pv2 pv3 v U'.heap L ∧ FrameEnd U o U' L ({ frames := 0, cells := 0, slots := 0, locals := 0 } : Room).cells ({ frames := 0, cells := 0, slots := 0, locals := 0 } : Room).slots) := by
  refine own_body pn3 ?_
  intro p e s m below meth c T0 hx hby hml hret hlk hown hnm hZ X0 e0
  subst e0
  have N0 : Fr n0 [] := Fr.nil n0
  refine own_cast (ef_ch4 m n0 pf pv0 pv1 pv2 pv3) ?_
  refine w_aloadN X0 hx (hb hby d3_0) rfl rfl (pc' := 1) rfl ?_
  refine w_getf (i := 1) (v := .ref (n0 + 2)) X0 hx hZ hown (wd15 hw) P0 rfl Fo1 2 rfl rfl (hb hby d3_1) (pc' := 4) rfl ?_
  intro T1 X1 P1
  refine w_iconst (v := (0 : Int32)) X1 hx (hb hby d3_4) rfl (pc' := 5) rfl ?_
  refine w_iaload (i := 2) (jn := 0) (v := .int pv0) X1 hx hZ P1 rfl hk2 (hb hby d3_5) (by decide) rfl (pc' := 6) rfl ?_
  exact w_ret_i X1 hx hret hlk (hb hby d3_6) (by decide) (by decide) ⟨rfl, N0, P1⟩
theorem d4_0 : decode prog_7_method_4_code 0 = .ok (.aload_n 0, 1) := by decide +kernel
theorem d4_1 : decode prog_7_method_4_code 1 = .ok (.getfield 17, 3) := by decide +kernel
theorem d4_4 : decode prog_7_method_4_code 4 = .ok (.arraylength, 1) := by decide +kernel
theorem d4_5 : decode prog_7_method_4_code 5 = .ok (.iconst 1, 1) := by decide +kernel
theorem d4_6 : decode prog_7_method_4_code 6 = .ok (.if_icmp .ne 5, 3) := by decide +kernel
theorem d4_9 : decode prog_7_method_4_code 9 = .ok (.iconst (-1), 1) := by decide +kernel
theorem d4_10 : decode prog_7_method_4_code 10 = .ok (.ireturn, 1) := by decide +kernel
theorem d4_11 : decode prog_7_method_4_code 11 = .ok (.aload_n 0, 1) := by decide +kernel
theorem d4_12 : decode prog_7_method_4_code 12 = .ok (.getfield 17, 3) := by decide +kernel
theorem d4_15 : decode prog_7_method_4_code 15 = .ok (.arraylength, 1) := by decide +kernel
theorem d4_16 : decode prog_7_method_4_code 16 = .ok (.iconst 2, 1) := by decide +kernel
theorem d4_17 : decode prog_7_method_4_code 17 = .ok (.if_icmp .eq 29, 3) := by decide +kernel
theorem d4_20 : decode prog_7_method_4_code 20 = .ok (.aload_n 0, 1) := by decide +kernel
theorem d4_21 : decode prog_7_method_4_code 21 = .ok (.getfield 7, 3) := by decide +kernel
theorem d4_24 : decode prog_7_method_4_code 24 = .ok (.aload_n 0, 1) := by decide +kernel
theorem d4_25 : decode prog_7_method_4_code 25 = .ok (.getfield 17, 3) := by decide +kernel
theorem d4_28 : decode prog_7_method_4_code 28 = .ok (.iconst 1, 1) := by decide +kernel
theorem d4_29 : decode prog_7_method_4_code 29 = .ok (.iaload, 1) := by decide +kernel
theorem d4_30 : decode prog_7_method_4_code 30 = .ok (.laload, 1) := by decide +kernel
theorem d4_31 : decode prog_7_method_4_code 31 = .ok (.aload_n 0, 1) := by decide +kernel
theorem d4_32 : decode prog_7_method_4_code 32 = .ok (.getfield 7, 3) := by decide +kernel
theorem d4_35 : decode prog_7_method_4_code 35 = .ok (.aload_n 0, 1) := by decide +kernel
theorem d4_36 : decode prog_7_method_4_code 36 = .ok (.getfield 17, 3) := by decide +kernel
theorem d4_39 : decode prog_7_method_4_code 39 = .ok (.iconst 2, 1) := by decide +kernel
theorem d4_40 : decode prog_7_method_4_code 40 = .ok (.iaload, 1) := by decide +kernel
theorem d4_41 : decode prog_7_method_4_code 41 = .ok (.laload, 1) := by decide +kernel
theorem d4_42 : decode prog_7_method_4_code 42 = .ok (.lcmp, 1) := by decide +kernel
theorem d4_43 : decode prog_7_method_4_code 43 = .ok (.ifCond .gt 12, 3) := by decide +kernel
theorem d4_46 : decode prog_7_method_4_code 46 = .ok (.aload_n 0, 1) := by decide +kernel
theorem d4_47 : decode prog_7_method_4_code 47 = .ok (.getfield 17, 3) := by decide +kernel
theorem d4_50 : decode prog_7_method_4_code 50 = .ok (.iconst 1, 1) := by decide +kernel
theorem d4_51 : decode prog_7_method_4_code 51 = .ok (.iaload, 1) := by decide +kernel
theorem d4_52 : decode prog_7_method_4_code 52 = .ok (.goto 9, 3) := by decide +kernel
theorem d4_55 : decode prog_7_method_4_code 55 = .ok (.aload_n 0, 1) := by decide +kernel
theorem d4_56 : decode prog_7_method_4_code 56 = .ok (.getfield 17, 3) := by decide +kernel
theorem d4_59 : decode prog_7_method_4_code 59 = .ok (.iconst 2, 1) := by decide +kernel
theorem d4_60 : decode prog_7_method_4_code 60 = .ok (.iaload, 1) := by decide +kernel
theorem d4_61 : decode prog_7_method_4_code 61 = .ok (.ireturn, 1) := by decide +kernel
theorem pn4 : plainFor (⟨"com/example/bidcrier/bidcrier/CheapestColumns", "secondCheapest", "()I"⟩ : MethodName) = true := plainFor_of_name (by first | (simp [plainName, overriddenIn]; done) | decide +kernel)
theorem pd4 : parseMethodDescriptor (⟨"com/example/bidcrier/bidcrier/CheapestColumns", "secondCheapest", "()I"⟩ : MethodName).desc = some ⟨[], some .int⟩ := by decide +kernel
theorem ef_sec1 (m : MethodId) (n0 : Nat) (pf : Nat) (pa0 : Nat) : entryFrame m #[.ref (n0 + 1)] 1 = mkF m 0 #[.val (.ref (n0 + 1))] [] := by first | (simp [entryFrame, mkF, argsToLocals, Value.category]; done) | rfl
def Q_sec1 (Z : State) (n0 : Nat) (k0 : ClassId) (o1 : Jvm.Cell) (k2 : ClassId) (q3 : Jvm.Cell) (pP : List Int64) (pf : Nat) (pa0 : Nat) (v : Option Value) (h : Heap) (L : List Loc) : Prop := v = some (.int (-1 : Int32)) ∧ Fr n0 L ∧ HP n0 h [AC k0 (List.map Value.long pP), o1, AC k2 [.int (Int32.ofNat pa0)], q3]
set_option maxRecDepth 65536 in
set_option maxHeartbeats 40000000 in
theorem rm_sec1 (l : Launch) (Z : State) (a0 : Array Value) (hw : ∀ d ∈ tables_1, d.before a0 Z = true) (ws : List Jvm.Cond) (n0 : Nat) (k0 : ClassId) (o1 : Jvm.Cell) (k2 : ClassId) (q3 : Jvm.Cell) (pP : List Int64) (pf : Nat) (pa0 : Nat) (h0 : Heap) (P0 : HP n0 h0 [AC k0 (List.map Value.long pP), o1, AC k2 [.int (Int32.ofNat pa0)], q3]) (hk0 : IsA Z k0 .long) (hk2 : IsA Z k2 .int) (Fo1 : ObjF Z o1 "com/example/bidcrier/bidcrier/CheapestColumns" fl_C0 [.ref (n0 + 0), .int (Int32.ofNat pf), .ref (n0 + 2), .ref (n0 + 3)]) (hpP : pP.length = pf + 1) (hpf : pf < 2) (hu0 : pa0 < pf + 1) :
    MetFree l (⟨"com/example/bidcrier/bidcrier/CheapestColumns", "secondCheapest", "()I"⟩ : MethodName) (head1 (Jvm.Cond.code (⟨"com/example/bidcrier/bidcrier/CheapestColumns", "secondCheapest", "()I"⟩ : MethodName) prog_7_method_4_code 1 (some .int) :: ws) ({ frames := 0, cells := 0, slots := 0, locals := 0 } : Room)) (fun aa U => aa = #[.ref (n0 + 1)] ∧ Z.Warmed39 U.vm ∧ U.heap = h0) (fun _ _ _ _ _ => True) (fun _ U o U' => ∃ v L, o = .returned v ∧ Q_sec1 Z n0 k0 o1 k2 q3 pP pf pa0 v U'.heap L ∧ FrameEnd U o U' L ({ frames := 0, cells := 0, slots := 0, locals := 0 } : Room).cells ({ frames := 0, cells := 0, slots := 0, locals := 0 } : Room).slots) := by
  refine own_body pn4 ?_
  intro p e s m below meth c T0 hx hby hml hret hlk hown hnm hZ X0 e0
  subst e0
  have N0 : Fr n0 [] := Fr.nil n0
  refine own_cast (ef_sec1 m n0 pf pa0) ?_
  refine w_aloadN X0 hx (hb hby d4_0) rfl rfl (pc' := 1) rfl ?_
  refine w_getf (i := 1) (v := .ref (n0 + 2)) X0 hx hZ hown (wd15 hw) P0 rfl Fo1 2 rfl rfl (hb hby d4_1) (pc' := 4) rfl ?_
  intro T1 X1 P1
  refine w_arrlen (i := 2) X1 hx hZ P1 rfl hk2 (hb hby d4_4) (z := (1 : Int32)) rfl (pc' := 5) rfl ?_
  refine w_iconst (v := (1 : Int32)) X1 hx (hb hby d4_5) rfl (pc' := 6) rfl ?_
  refine w_icmp_ne X1 hx (hb hby d4_6) (by decide) (pcY := 11) (by decide) (pc' := 9) rfl (fun h0 => absurd h0 (by decide)) (fun h0 => ?_)
  refine w_iconst (v := (-1 : Int32)) X1 hx (hb hby d4_9) rfl (pc' := 10) rfl ?_
  exact w_ret_i X1 hx hret hlk (hb hby d4_10) (by decide) (by decide) ⟨rfl, N0, P1⟩
theorem ef_sec2 (m : MethodId) (n0 : Nat) (pf : Nat) (pa0 : Nat) (pa1 : Nat) : entryFrame m #[.ref (n0 + 1)] 1 = mkF m 0 #[.val (.ref (n0 + 1))] [] := by first | (simp [entryFrame, mkF, argsToLocals, Value.category]; done) | rfl
def Q_sec2 (Z : State) (n0 : Nat) (k0 : ClassId) (o1 : Jvm.Cell) (k2 : ClassId) (q3 : Jvm.Cell) (pP : List Int64) (pf : Nat) (pa0 : Nat) (pa1 : Nat) (v : Option Value) (h : Heap) (L : List Loc) : Prop := v = some (.int (Int32.ofNat pa1)) ∧ Fr n0 L ∧ HP n0 h [AC k0 (List.map Value.long pP), o1, AC k2 [.int (Int32.ofNat pa0), .int (Int32.ofNat pa1)], q3]
set_option maxRecDepth 65536 in
set_option maxHeartbeats 40000000 in
theorem rm_sec2 (l : Launch) (Z : State) (a0 : Array Value) (hw : ∀ d ∈ tables_1, d.before a0 Z = true) (ws : List Jvm.Cond) (n0 : Nat) (k0 : ClassId) (o1 : Jvm.Cell) (k2 : ClassId) (q3 : Jvm.Cell) (pP : List Int64) (pf : Nat) (pa0 : Nat) (pa1 : Nat) (h0 : Heap) (P0 : HP n0 h0 [AC k0 (List.map Value.long pP), o1, AC k2 [.int (Int32.ofNat pa0), .int (Int32.ofNat pa1)], q3]) (hk0 : IsA Z k0 .long) (hk2 : IsA Z k2 .int) (Fo1 : ObjF Z o1 "com/example/bidcrier/bidcrier/CheapestColumns" fl_C0 [.ref (n0 + 0), .int (Int32.ofNat pf), .ref (n0 + 2), .ref (n0 + 3)]) (hpP : pP.length = pf + 2) (hpf : pf < 2) (hu0 : pa0 < pf + 2) (hu1 : pa1 < pf + 2) :
    MetFree l (⟨"com/example/bidcrier/bidcrier/CheapestColumns", "secondCheapest", "()I"⟩ : MethodName) (head1 (Jvm.Cond.code (⟨"com/example/bidcrier/bidcrier/CheapestColumns", "secondCheapest", "()I"⟩ : MethodName) prog_7_method_4_code 1 (some .int) :: ws) ({ frames := 0, cells := 0, slots := 0, locals := 0 } : Room)) (fun aa U => aa = #[.ref (n0 + 1)] ∧ Z.Warmed39 U.vm ∧ U.heap = h0) (fun _ _ _ _ _ => True) (fun _ U o U' => ∃ v L, o = .returned v ∧ Q_sec2 Z n0 k0 o1 k2 q3 pP pf pa0 pa1 v U'.heap L ∧ FrameEnd U o U' L ({ frames := 0, cells := 0, slots := 0, locals := 0 } : Room).cells ({ frames := 0, cells := 0, slots := 0, locals := 0 } : Room).slots) := by
  refine own_body pn4 ?_
  intro p e s m below meth c T0 hx hby hml hret hlk hown hnm hZ X0 e0
  subst e0
  have N0 : Fr n0 [] := Fr.nil n0
  refine own_cast (ef_sec2 m n0 pf pa0 pa1) ?_
  refine w_aloadN X0 hx (hb hby d4_0) rfl rfl (pc' := 1) rfl ?_
  refine w_getf (i := 1) (v := .ref (n0 + 2)) X0 hx hZ hown (wd15 hw) P0 rfl Fo1 2 rfl rfl (hb hby d4_1) (pc' := 4) rfl ?_
  intro T1 X1 P1
  refine w_arrlen (i := 2) X1 hx hZ P1 rfl hk2 (hb hby d4_4) (z := (2 : Int32)) rfl (pc' := 5) rfl ?_
  refine w_iconst (v := (1 : Int32)) X1 hx (hb hby d4_5) rfl (pc' := 6) rfl ?_
  refine w_icmp_ne X1 hx (hb hby d4_6) (by decide) (pcY := 11) (by decide) (pc' := 9) rfl (fun h0 => ?_) (fun h0 => absurd h0 (by decide))
  refine w_aloadN X1 hx (hb hby d4_11) rfl rfl (pc' := 12) rfl ?_
  refine w_getf (i := 1) (v := .ref (n0 + 2)) X1 hx hZ hown (wd15 hw) P1 rfl Fo1 2 rfl rfl (hb hby d4_12) (pc' := 15) rfl ?_
  intro T2 X2 P2
  refine w_arrlen (i := 2) X2 hx hZ P2 rfl hk2 (hb hby d4_15) (z := (2 : Int32)) rfl (pc' := 16) rfl ?_
  refine w_iconst (v := (2 : Int32)) X2 hx (hb hby d4_16) rfl (pc' := 17) rfl ?_
  refine w_icmp_eq X2 hx (hb hby d4_17) (by decide) (pcY := 46) (by decide) (pc' := 20) rfl (fun h1 => ?_) (fun h1 => absurd h1 (by decide))
  refine w_aloadN X2 hx (hb hby d4_46) rfl rfl (pc' := 47) rfl ?_
  refine w_getf (i := 1) (v := .ref (n0 + 2)) X2 hx hZ hown (wd15 hw) P2 rfl Fo1 2 rfl rfl (hb hby d4_47) (pc' := 50) rfl ?_
  intro T3 X3 P3
  refine w_iconst (v := (1 : Int32)) X3 hx (hb hby d4_50) rfl (pc' := 51) rfl ?_
  refine w_iaload (i := 2) (jn := 1) (v := .int (Int32.ofNat pa1)) X3 hx hZ P3 rfl hk2 (hb hby d4_51) (by decide) rfl (pc' := 52) rfl ?_
  refine w_goto X3 hx (hb hby d4_52) (by decide) (pc' := 61) (by decide) ?_
  exact w_ret_i X3 hx hret hlk (hb hby d4_61) (by decide) (by decide) ⟨rfl, N0, P3⟩
theorem ef_sec3 (m : MethodId) (n0 : Nat) (pf : Nat) (pa0 : Nat) (pa1 : Nat) (pa2 : Nat) : entryFrame m #[.ref (n0 + 1)] 1 = mkF m 0 #[.val (.ref (n0 + 1))] [] := by first | (simp [entryFrame, mkF, argsToLocals, Value.category]; done) | rfl
def Q_sec3 (Z : State) (n0 : Nat) (k0 : ClassId) (o1 : Jvm.Cell) (k2 : ClassId) (q3 : Jvm.Cell) (pP : List Int64) (pf : Nat) (pa0 : Nat) (pa1 : Nat) (pa2 : Nat) (v : Option Value) (h : Heap) (L : List Loc) : Prop := ∃ r : Nat, v = some (.int (Int32.ofNat r)) ∧ Fr n0 L ∧ (r = pa1 ∨ r = pa2) ∧ own_p pP r ≤ own_p pP pa1 ∧ own_p pP r ≤ own_p pP pa2 ∧ HP n0 h [AC k0 (List.map Value.long pP), o1, AC k2 [.int (Int32.ofNat pa0), .int (Int32.ofNat pa1), .int (Int32.ofNat pa2)], q3]
set_option maxRecDepth 65536 in
set_option maxHeartbeats 40000000 in
theorem rm_sec3 (l : Launch) (Z : State) (a0 : Array Value) (hw : ∀ d ∈ tables_1, d.before a0 Z = true) (ws : List Jvm.Cond) (n0 : Nat) (k0 : ClassId) (o1 : Jvm.Cell) (k2 : ClassId) (q3 : Jvm.Cell) (pP : List Int64) (pf : Nat) (pa0 : Nat) (pa1 : Nat) (pa2 : Nat) (h0 : Heap) (P0 : HP n0 h0 [AC k0 (List.map Value.long pP), o1, AC k2 [.int (Int32.ofNat pa0), .int (Int32.ofNat pa1), .int (Int32.ofNat pa2)], q3]) (hk0 : IsA Z k0 .long) (hk2 : IsA Z k2 .int) (Fo1 : ObjF Z o1 "com/example/bidcrier/bidcrier/CheapestColumns" fl_C0 [.ref (n0 + 0), .int (Int32.ofNat pf), .ref (n0 + 2), .ref (n0 + 3)]) (hpP : pP.length = pf + 3) (hpf : pf < 2) (hu0 : pa0 < pf + 3) (hu1 : pa1 < pf + 3) (hu2 : pa2 < pf + 3) :
    MetFree l (⟨"com/example/bidcrier/bidcrier/CheapestColumns", "secondCheapest", "()I"⟩ : MethodName) (head1 (Jvm.Cond.code (⟨"com/example/bidcrier/bidcrier/CheapestColumns", "secondCheapest", "()I"⟩ : MethodName) prog_7_method_4_code 1 (some .int) :: ws) ({ frames := 0, cells := 0, slots := 0, locals := 0 } : Room)) (fun aa U => aa = #[.ref (n0 + 1)] ∧ Z.Warmed39 U.vm ∧ U.heap = h0) (fun _ _ _ _ _ => True) (fun _ U o U' => ∃ v L, o = .returned v ∧ Q_sec3 Z n0 k0 o1 k2 q3 pP pf pa0 pa1 pa2 v U'.heap L ∧ FrameEnd U o U' L ({ frames := 0, cells := 0, slots := 0, locals := 0 } : Room).cells ({ frames := 0, cells := 0, slots := 0, locals := 0 } : Room).slots) := by
  refine own_body pn4 ?_
  intro p e s m below meth c T0 hx hby hml hret hlk hown hnm hZ X0 e0
  subst e0
  have N0 : Fr n0 [] := Fr.nil n0
  refine own_cast (ef_sec3 m n0 pf pa0 pa1 pa2) ?_
  refine w_aloadN X0 hx (hb hby d4_0) rfl rfl (pc' := 1) rfl ?_
  refine w_getf (i := 1) (v := .ref (n0 + 2)) X0 hx hZ hown (wd15 hw) P0 rfl Fo1 2 rfl rfl (hb hby d4_1) (pc' := 4) rfl ?_
  intro T1 X1 P1
  refine w_arrlen (i := 2) X1 hx hZ P1 rfl hk2 (hb hby d4_4) (z := (3 : Int32)) rfl (pc' := 5) rfl ?_
  refine w_iconst (v := (1 : Int32)) X1 hx (hb hby d4_5) rfl (pc' := 6) rfl ?_
  refine w_icmp_ne X1 hx (hb hby d4_6) (by decide) (pcY := 11) (by decide) (pc' := 9) rfl (fun h0 => ?_) (fun h0 => absurd h0 (by decide))
  refine w_aloadN X1 hx (hb hby d4_11) rfl rfl (pc' := 12) rfl ?_
  refine w_getf (i := 1) (v := .ref (n0 + 2)) X1 hx hZ hown (wd15 hw) P1 rfl Fo1 2 rfl rfl (hb hby d4_12) (pc' := 15) rfl ?_
  intro T2 X2 P2
  refine w_arrlen (i := 2) X2 hx hZ P2 rfl hk2 (hb hby d4_15) (z := (3 : Int32)) rfl (pc' := 16) rfl ?_
  refine w_iconst (v := (2 : Int32)) X2 hx (hb hby d4_16) rfl (pc' := 17) rfl ?_
  refine w_icmp_eq X2 hx (hb hby d4_17) (by decide) (pcY := 46) (by decide) (pc' := 20) rfl (fun h1 => absurd h1 (by decide)) (fun h1 => ?_)
  refine w_aloadN X2 hx (hb hby d4_20) rfl rfl (pc' := 21) rfl ?_
  refine w_getf (i := 1) (v := .ref (n0 + 0)) X2 hx hZ hown (wd10 hw) P2 rfl Fo1 0 rfl rfl (hb hby d4_21) (pc' := 24) rfl ?_
  intro T3 X3 P3
  refine w_aloadN X3 hx (hb hby d4_24) rfl rfl (pc' := 25) rfl ?_
  refine w_getf (i := 1) (v := .ref (n0 + 2)) X3 hx hZ hown (wd15 hw) P3 rfl Fo1 2 rfl rfl (hb hby d4_25) (pc' := 28) rfl ?_
  intro T4 X4 P4
  refine w_iconst (v := (1 : Int32)) X4 hx (hb hby d4_28) rfl (pc' := 29) rfl ?_
  refine w_iaload (i := 2) (jn := 1) (v := .int (Int32.ofNat pa1)) X4 hx hZ P4 rfl hk2 (hb hby d4_29) (by decide) rfl (pc' := 30) rfl ?_
  refine w_laloadL (i := 0) (jn := pa1) X4 hx hZ P4 rfl hk0 (hb hby d4_30) (own_oN (by omega)) (own_llt hpP (by omega)) (pc' := 31) rfl ?_
  refine w_aloadN X4 hx (hb hby d4_31) rfl rfl (pc' := 32) rfl ?_
  refine w_getf (i := 1) (v := .ref (n0 + 0)) X4 hx hZ hown (wd10 hw) P4 rfl Fo1 0 rfl rfl (hb hby d4_32) (pc' := 35) rfl ?_
  intro T5 X5 P5
  refine w_aloadN X5 hx (hb hby d4_35) rfl rfl (pc' := 36) rfl ?_
  refine w_getf (i := 1) (v := .ref (n0 + 2)) X5 hx hZ hown (wd15 hw) P5 rfl Fo1 2 rfl rfl (hb hby d4_36) (pc' := 39) rfl ?_
  intro T6 X6 P6
  refine w_iconst (v := (2 : Int32)) X6 hx (hb hby d4_39) rfl (pc' := 40) rfl ?_
  refine w_iaload (i := 2) (jn := 2) (v := .int (Int32.ofNat pa2)) X6 hx hZ P6 rfl hk2 (hb hby d4_40) (by decide) rfl (pc' := 41) rfl ?_
  refine w_laloadL (i := 0) (jn := pa2) X6 hx hZ P6 rfl hk0 (hb hby d4_41) (own_oN (by omega)) (own_llt hpP (by omega)) (pc' := 42) rfl ?_
  refine w_lcmp_gt X6 hx (hb hby d4_42) rfl (hb hby d4_43) (by decide) (pcY := 55) (by decide) (pc' := 46) rfl (fun h2 => ?_) (fun h2 => ?_)
  · refine w_aloadN X6 hx (hb hby d4_55) rfl rfl (pc' := 56) rfl ?_
    refine w_getf (i := 1) (v := .ref (n0 + 2)) X6 hx hZ hown (wd15 hw) P6 rfl Fo1 2 rfl rfl (hb hby d4_56) (pc' := 59) rfl ?_
    intro T7 X7 P7
    refine w_iconst (v := (2 : Int32)) X7 hx (hb hby d4_59) rfl (pc' := 60) rfl ?_
    refine w_iaload (i := 2) (jn := 2) (v := .int (Int32.ofNat pa2)) X7 hx hZ P7 rfl hk2 (hb hby d4_60) (by decide) rfl (pc' := 61) rfl ?_
    exact w_ret_i X7 hx hret hlk (hb hby d4_61) (by decide) (by decide) ⟨pa2, rfl, N0, Or.inr rfl, Int.le_of_lt (own_plt h2), Int.le_refl _, P7⟩
  · refine w_aloadN X6 hx (hb hby d4_46) rfl rfl (pc' := 47) rfl ?_
    refine w_getf (i := 1) (v := .ref (n0 + 2)) X6 hx hZ hown (wd15 hw) P6 rfl Fo1 2 rfl rfl (hb hby d4_47) (pc' := 50) rfl ?_
    intro T8 X8 P8
    refine w_iconst (v := (1 : Int32)) X8 hx (hb hby d4_50) rfl (pc' := 51) rfl ?_
    refine w_iaload (i := 2) (jn := 1) (v := .int (Int32.ofNat pa1)) X8 hx hZ P8 rfl hk2 (hb hby d4_51) (by decide) rfl (pc' := 52) rfl ?_
    refine w_goto X8 hx (hb hby d4_52) (by decide) (pc' := 61) (by decide) ?_
    exact w_ret_i X8 hx hret hlk (hb hby d4_61) (by decide) (by decide) ⟨pa1, rfl, N0, Or.inl rfl, Int.le_refl _, own_pnl h2, P8⟩
theorem ef_sec4 (m : MethodId) (n0 : Nat) (pf : Nat) (pa0 : Nat) (pa1 : Nat) (pa2 : Nat) (pa3 : Nat) : entryFrame m #[.ref (n0 + 1)] 1 = mkF m 0 #[.val (.ref (n0 + 1))] [] := by first | (simp [entryFrame, mkF, argsToLocals, Value.category]; done) | rfl
def Q_sec4 (Z : State) (n0 : Nat) (k0 : ClassId) (o1 : Jvm.Cell) (k2 : ClassId) (q3 : Jvm.Cell) (pP : List Int64) (pf : Nat) (pa0 : Nat) (pa1 : Nat) (pa2 : Nat) (pa3 : Nat) (v : Option Value) (h : Heap) (L : List Loc) : Prop := ∃ r : Nat, v = some (.int (Int32.ofNat r)) ∧ Fr n0 L ∧ (r = pa1 ∨ r = pa2) ∧ own_p pP r ≤ own_p pP pa1 ∧ own_p pP r ≤ own_p pP pa2 ∧ HP n0 h [AC k0 (List.map Value.long pP), o1, AC k2 [.int (Int32.ofNat pa0), .int (Int32.ofNat pa1), .int (Int32.ofNat pa2), .int (Int32.ofNat pa3)], q3]
set_option maxRecDepth 65536 in
set_option maxHeartbeats 40000000 in
theorem rm_sec4 (l : Launch) (Z : State) (a0 : Array Value) (hw : ∀ d ∈ tables_1, d.before a0 Z = true) (ws : List Jvm.Cond) (n0 : Nat) (k0 : ClassId) (o1 : Jvm.Cell) (k2 : ClassId) (q3 : Jvm.Cell) (pP : List Int64) (pf : Nat) (pa0 : Nat) (pa1 : Nat) (pa2 : Nat) (pa3 : Nat) (h0 : Heap) (P0 : HP n0 h0 [AC k0 (List.map Value.long pP), o1, AC k2 [.int (Int32.ofNat pa0), .int (Int32.ofNat pa1), .int (Int32.ofNat pa2), .int (Int32.ofNat pa3)], q3]) (hk0 : IsA Z k0 .long) (hk2 : IsA Z k2 .int) (Fo1 : ObjF Z o1 "com/example/bidcrier/bidcrier/CheapestColumns" fl_C0 [.ref (n0 + 0), .int (Int32.ofNat pf), .ref (n0 + 2), .ref (n0 + 3)]) (hpP : pP.length = pf + 4) (hpf : pf < 2) (hu0 : pa0 < pf + 4) (hu1 : pa1 < pf + 4) (hu2 : pa2 < pf + 4) (hu3 : pa3 < pf + 4) :
    MetFree l (⟨"com/example/bidcrier/bidcrier/CheapestColumns", "secondCheapest", "()I"⟩ : MethodName) (head1 (Jvm.Cond.code (⟨"com/example/bidcrier/bidcrier/CheapestColumns", "secondCheapest", "()I"⟩ : MethodName) prog_7_method_4_code 1 (some .int) :: ws) ({ frames := 0, cells := 0, slots := 0, locals := 0 } : Room)) (fun aa U => aa = #[.ref (n0 + 1)] ∧ Z.Warmed39 U.vm ∧ U.heap = h0) (fun _ _ _ _ _ => True) (fun _ U o U' => ∃ v L, o = .returned v ∧ Q_sec4 Z n0 k0 o1 k2 q3 pP pf pa0 pa1 pa2 pa3 v U'.heap L ∧ FrameEnd U o U' L ({ frames := 0, cells := 0, slots := 0, locals := 0 } : Room).cells ({ frames := 0, cells := 0, slots := 0, locals := 0 } : Room).slots) := by
  refine own_body pn4 ?_
  intro p e s m below meth c T0 hx hby hml hret hlk hown hnm hZ X0 e0
  subst e0
  have N0 : Fr n0 [] := Fr.nil n0
  refine own_cast (ef_sec4 m n0 pf pa0 pa1 pa2 pa3) ?_
  refine w_aloadN X0 hx (hb hby d4_0) rfl rfl (pc' := 1) rfl ?_
  refine w_getf (i := 1) (v := .ref (n0 + 2)) X0 hx hZ hown (wd15 hw) P0 rfl Fo1 2 rfl rfl (hb hby d4_1) (pc' := 4) rfl ?_
  intro T1 X1 P1
  refine w_arrlen (i := 2) X1 hx hZ P1 rfl hk2 (hb hby d4_4) (z := (4 : Int32)) rfl (pc' := 5) rfl ?_
  refine w_iconst (v := (1 : Int32)) X1 hx (hb hby d4_5) rfl (pc' := 6) rfl ?_
  refine w_icmp_ne X1 hx (hb hby d4_6) (by decide) (pcY := 11) (by decide) (pc' := 9) rfl (fun h0 => ?_) (fun h0 => absurd h0 (by decide))
  refine w_aloadN X1 hx (hb hby d4_11) rfl rfl (pc' := 12) rfl ?_
  refine w_getf (i := 1) (v := .ref (n0 + 2)) X1 hx hZ hown (wd15 hw) P1 rfl Fo1 2 rfl rfl (hb hby d4_12) (pc' := 15) rfl ?_
  intro T2 X2 P2
  refine w_arrlen (i := 2) X2 hx hZ P2 rfl hk2 (hb hby d4_15) (z := (4 : Int32)) rfl (pc' := 16) rfl ?_
  refine w_iconst (v := (2 : Int32)) X2 hx (hb hby d4_16) rfl (pc' := 17) rfl ?_
  refine w_icmp_eq X2 hx (hb hby d4_17) (by decide) (pcY := 46) (by decide) (pc' := 20) rfl (fun h1 => absurd h1 (by decide)) (fun h1 => ?_)
  refine w_aloadN X2 hx (hb hby d4_20) rfl rfl (pc' := 21) rfl ?_
  refine w_getf (i := 1) (v := .ref (n0 + 0)) X2 hx hZ hown (wd10 hw) P2 rfl Fo1 0 rfl rfl (hb hby d4_21) (pc' := 24) rfl ?_
  intro T3 X3 P3
  refine w_aloadN X3 hx (hb hby d4_24) rfl rfl (pc' := 25) rfl ?_
  refine w_getf (i := 1) (v := .ref (n0 + 2)) X3 hx hZ hown (wd15 hw) P3 rfl Fo1 2 rfl rfl (hb hby d4_25) (pc' := 28) rfl ?_
  intro T4 X4 P4
  refine w_iconst (v := (1 : Int32)) X4 hx (hb hby d4_28) rfl (pc' := 29) rfl ?_
  refine w_iaload (i := 2) (jn := 1) (v := .int (Int32.ofNat pa1)) X4 hx hZ P4 rfl hk2 (hb hby d4_29) (by decide) rfl (pc' := 30) rfl ?_
  refine w_laloadL (i := 0) (jn := pa1) X4 hx hZ P4 rfl hk0 (hb hby d4_30) (own_oN (by omega)) (own_llt hpP (by omega)) (pc' := 31) rfl ?_
  refine w_aloadN X4 hx (hb hby d4_31) rfl rfl (pc' := 32) rfl ?_
  refine w_getf (i := 1) (v := .ref (n0 + 0)) X4 hx hZ hown (wd10 hw) P4 rfl Fo1 0 rfl rfl (hb hby d4_32) (pc' := 35) rfl ?_
  intro T5 X5 P5
  refine w_aloadN X5 hx (hb hby d4_35) rfl rfl (pc' := 36) rfl ?_
  refine w_getf (i := 1) (v := .ref (n0 + 2)) X5 hx hZ hown (wd15 hw) P5 rfl Fo1 2 rfl rfl (hb hby d4_36) (pc' := 39) rfl ?_
  intro T6 X6 P6
  refine w_iconst (v := (2 : Int32)) X6 hx (hb hby d4_39) rfl (pc' := 40) rfl ?_
  refine w_iaload (i := 2) (jn := 2) (v := .int (Int32.ofNat pa2)) X6 hx hZ P6 rfl hk2 (hb hby d4_40) (by decide) rfl (pc' := 41) rfl ?_
  refine w_laloadL (i := 0) (jn := pa2) X6 hx hZ P6 rfl hk0 (hb hby d4_41) (own_oN (by omega)) (own_llt hpP (by omega)) (pc' := 42) rfl ?_
  refine w_lcmp_gt X6 hx (hb hby d4_42) rfl (hb hby d4_43) (by decide) (pcY := 55) (by decide) (pc' := 46) rfl (fun h2 => ?_) (fun h2 => ?_)
  · refine w_aloadN X6 hx (hb hby d4_55) rfl rfl (pc' := 56) rfl ?_
    refine w_getf (i := 1) (v := .ref (n0 + 2)) X6 hx hZ hown (wd15 hw) P6 rfl Fo1 2 rfl rfl (hb hby d4_56) (pc' := 59) rfl ?_
    intro T7 X7 P7
    refine w_iconst (v := (2 : Int32)) X7 hx (hb hby d4_59) rfl (pc' := 60) rfl ?_
    refine w_iaload (i := 2) (jn := 2) (v := .int (Int32.ofNat pa2)) X7 hx hZ P7 rfl hk2 (hb hby d4_60) (by decide) rfl (pc' := 61) rfl ?_
    exact w_ret_i X7 hx hret hlk (hb hby d4_61) (by decide) (by decide) ⟨pa2, rfl, N0, Or.inr rfl, Int.le_of_lt (own_plt h2), Int.le_refl _, P7⟩
  · refine w_aloadN X6 hx (hb hby d4_46) rfl rfl (pc' := 47) rfl ?_
    refine w_getf (i := 1) (v := .ref (n0 + 2)) X6 hx hZ hown (wd15 hw) P6 rfl Fo1 2 rfl rfl (hb hby d4_47) (pc' := 50) rfl ?_
    intro T8 X8 P8
    refine w_iconst (v := (1 : Int32)) X8 hx (hb hby d4_50) rfl (pc' := 51) rfl ?_
    refine w_iaload (i := 2) (jn := 1) (v := .int (Int32.ofNat pa1)) X8 hx hZ P8 rfl hk2 (hb hby d4_51) (by decide) rfl (pc' := 52) rfl ?_
    refine w_goto X8 hx (hb hby d4_52) (by decide) (pc' := 61) (by decide) ?_
    exact w_ret_i X8 hx hret hlk (hb hby d4_61) (by decide) (by decide) ⟨pa1, rfl, N0, Or.inl rfl, Int.le_refl _, own_pnl h2, P8⟩
theorem d8_0 : decode method_3_code 0 = .ok (.iload 5, 2) := by decide +kernel
theorem d8_2 : decode method_3_code 2 = .ok (.iload_n 2, 1) := by decide +kernel
theorem d8_3 : decode method_3_code 3 = .ok (.if_icmp .lt 5, 3) := by decide +kernel
theorem d8_6 : decode method_3_code 6 = .ok (.iconst 1, 1) := by decide +kernel
theorem d8_7 : decode method_3_code 7 = .ok (.ireturn, 1) := by decide +kernel
theorem d8_8 : decode method_3_code 8 = .ok (.iload_n 1, 1) := by decide +kernel
theorem d8_9 : decode method_3_code 9 = .ok (.iload 5, 2) := by decide +kernel
theorem d8_11 : decode method_3_code 11 = .ok (.iadd, 1) := by decide +kernel
theorem d8_12 : decode method_3_code 12 = .ok (.istore 6, 2) := by decide +kernel
theorem d8_14 : decode method_3_code 14 = .ok (.iload 6, 2) := by decide +kernel
theorem d8_16 : decode method_3_code 16 = .ok (.iload_n 3, 1) := by decide +kernel
theorem d8_17 : decode method_3_code 17 = .ok (.if_icmp .ne 5, 3) := by decide +kernel
theorem d8_20 : decode method_3_code 20 = .ok (.iconst 1, 1) := by decide +kernel
theorem d8_21 : decode method_3_code 21 = .ok (.ireturn, 1) := by decide +kernel
theorem d8_22 : decode method_3_code 22 = .ok (.aload_n 0, 1) := by decide +kernel
theorem d8_23 : decode method_3_code 23 = .ok (.iload 4, 2) := by decide +kernel
theorem d8_25 : decode method_3_code 25 = .ok (.laload, 1) := by decide +kernel
theorem d8_26 : decode method_3_code 26 = .ok (.aload_n 0, 1) := by decide +kernel
theorem d8_27 : decode method_3_code 27 = .ok (.iload 6, 2) := by decide +kernel
theorem d8_29 : decode method_3_code 29 = .ok (.laload, 1) := by decide +kernel
theorem d8_30 : decode method_3_code 30 = .ok (.lcmp, 1) := by decide +kernel
theorem d8_31 : decode method_3_code 31 = .ok (.ifCond .gt 7, 3) := by decide +kernel
theorem d8_34 : decode method_3_code 34 = .ok (.iconst 1, 1) := by decide +kernel
theorem d8_35 : decode method_3_code 35 = .ok (.goto 4, 3) := by decide +kernel
theorem d8_38 : decode method_3_code 38 = .ok (.iconst 0, 1) := by decide +kernel
theorem d8_39 : decode method_3_code 39 = .ok (.ireturn, 1) := by decide +kernel
theorem pn8 : plainFor (⟨"com/example/bidcrier/bidcrier/CheapestColumnsSecondCheapestPinLaw", "noCheaper", "([JIIIII)Z"⟩ : MethodName) = true := plainFor_of_name (by first | (simp [plainName, overriddenIn]; done) | decide +kernel)
theorem pd8 : parseMethodDescriptor (⟨"com/example/bidcrier/bidcrier/CheapestColumnsSecondCheapestPinLaw", "noCheaper", "([JIIIII)Z"⟩ : MethodName).desc = some ⟨[(.array .long), .int, .int, .int, .int, .int], some .boolean⟩ := by decide +kernel
theorem ef_nc20 (m : MethodId) (n0 : Nat) (pf : Nat) (pc_ : Nat) (pr : Nat) : entryFrame m #[.ref (n0 + 0), .int (Int32.ofNat pf), .int (2 : Int32), .int (Int32.ofNat pc_), .int (Int32.ofNat pr), .int (0 : Int32)] 7 = mkF m 0 #[.val (.ref (n0 + 0)), .val (.int (Int32.ofNat pf)), .val (.int (2 : Int32)), .val (.int (Int32.ofNat pc_)), .val (.int (Int32.ofNat pr)), .val (.int (0 : Int32)), .unset] [] := by first | (simp [entryFrame, mkF, argsToLocals, Value.category]; done) | rfl
def Q_nc20 (Z : State) (n0 : Nat) (k0 : ClassId) (pP : List Int64) (cr : List Jvm.Cell) (pf : Nat) (pc_ : Nat) (pr : Nat) (v : Option Value) (h : Heap) (L : List Loc) : Prop := v = some (.int (1 : Int32)) ∧ Fr n0 L ∧ HP n0 h (AC k0 (List.map Value.long pP) :: cr)
set_option maxRecDepth 65536 in
set_option maxHeartbeats 40000000 in
theorem rm_nc20 (l : Launch) (Z : State) (a0 : Array Value) (hw : ∀ d ∈ tables_1, d.before a0 Z = true) (ws : List Jvm.Cond) (n0 : Nat) (k0 : ClassId) (pP : List Int64) (cr : List Jvm.Cell) (pf : Nat) (pc_ : Nat) (pr : Nat) (h0 : Heap) (P0 : HP n0 h0 (AC k0 (List.map Value.long pP) :: cr)) (hk0 : IsA Z k0 .long) (hpP : pP.length = pf + 2) (hpf : pf < 2) (hc : pc_ < pf + 2) (hr : pr < pf + 2) (hmin : ∀ d, pf ≤ d → d < pf + 2 → own_ne d pc_ → own_p pP pr ≤ own_p pP d) :
    MetFree l (⟨"com/example/bidcrier/bidcrier/CheapestColumnsSecondCheapestPinLaw", "noCheaper", "([JIIIII)Z"⟩ : MethodName) (head1 (Jvm.Cond.code (⟨"com/example/bidcrier/bidcrier/CheapestColumnsSecondCheapestPinLaw", "noCheaper", "([JIIIII)Z"⟩ : MethodName) method_3_code 7 (some .boolean) :: ws) ({ frames := 0, cells := 0, slots := 0, locals := 0 } : Room)) (fun aa U => aa = #[.ref (n0 + 0), .int (Int32.ofNat pf), .int (2 : Int32), .int (Int32.ofNat pc_), .int (Int32.ofNat pr), .int (0 : Int32)] ∧ Z.Warmed39 U.vm ∧ U.heap = h0) (fun _ _ _ _ _ => True) (fun _ U o U' => ∃ v L, o = .returned v ∧ Q_nc20 Z n0 k0 pP cr pf pc_ pr v U'.heap L ∧ FrameEnd U o U' L ({ frames := 0, cells := 0, slots := 0, locals := 0 } : Room).cells ({ frames := 0, cells := 0, slots := 0, locals := 0 } : Room).slots) := by
  refine own_body pn8 ?_
  intro p e s m below meth c T0 hx hby hml hret hlk hown hnm hZ X0 e0
  subst e0
  have N0 : Fr n0 [] := Fr.nil n0
  refine own_cast (ef_nc20 m n0 pf pc_ pr) ?_
  refine w_iload X0 hx (hb hby d8_0) rfl (pc' := 2) rfl ?_
  refine w_iloadN X0 hx (hb hby d8_2) rfl (pc' := 3) rfl ?_
  refine w_icmp_lt X0 hx (hb hby d8_3) (by decide) (pcY := 8) (by decide) (pc' := 6) rfl (fun h0 => ?_) (fun h0 => absurd h0 (by decide))
  refine w_iloadN X0 hx (hb hby d8_8) rfl (pc' := 9) rfl ?_
  refine w_iload X0 hx (hb hby d8_9) rfl (pc' := 11) rfl ?_
  refine w_iadd X0 hx (hb hby d8_11) (pc' := 12) rfl ?_
  refine w_eqI (z := (Int32.ofNat (pf + 0))) (own_oadd pf 0) ?_
  refine w_istore (l' := #[.val (.ref (n0 + 0)), .val (.int (Int32.ofNat pf)), .val (.int (2 : Int32)), .val (.int (Int32.ofNat pc_)), .val (.int (Int32.ofNat pr)), .val (.int (0 : Int32)), .val (.int (Int32.ofNat (pf + 0)))]) X0 hx (hb hby d8_12) rfl (pc' := 14) rfl ?_
  refine w_iload X0 hx (hb hby d8_14) rfl (pc' := 16) rfl ?_
  refine w_iloadN X0 hx (hb hby d8_16) rfl (pc' := 17) rfl ?_
  refine w_icmp_ne X0 hx (hb hby d8_17) (by decide) (pcY := 22) (by decide) (pc' := 20) rfl (fun h1 => ?_) (fun h1 => ?_)
  · have h1n : ¬ (pf + 0) = pc_ := fun q => h1 ((own_oeq (a := (pf + 0)) (b := pc_) (by omega) (by omega)).mpr q)
    refine w_aloadN X0 hx (hb hby d8_22) rfl rfl (pc' := 23) rfl ?_
    refine w_iload X0 hx (hb hby d8_23) rfl (pc' := 25) rfl ?_
    refine w_laloadL (i := 0) (jn := pr) X0 hx hZ P0 rfl hk0 (hb hby d8_25) (own_oN (by omega)) (own_llt hpP (by omega)) (pc' := 26) rfl ?_
    refine w_aloadN X0 hx (hb hby d8_26) rfl rfl (pc' := 27) rfl ?_
    refine w_iload X0 hx (hb hby d8_27) rfl (pc' := 29) rfl ?_
    refine w_laloadL (i := 0) (jn := (pf + 0)) X0 hx hZ P0 rfl hk0 (hb hby d8_29) (own_oN (by omega)) (own_llt hpP (by omega)) (pc' := 30) rfl ?_
    refine w_lcmp_gt X0 hx (hb hby d8_30) rfl (hb hby d8_31) (by decide) (pcY := 38) (by decide) (pc' := 34) rfl (fun h2 => absurd h2 (own_nlt (hmin _ (by omega) (by omega) (own_neI h1n)))) (fun h2 => ?_)
    refine w_iconst (v := (1 : Int32)) X0 hx (hb hby d8_34) rfl (pc' := 35) rfl ?_
    refine w_goto X0 hx (hb hby d8_35) (by decide) (pc' := 39) (by decide) ?_
    exact w_ret_n (t := .boolean) X0 hx hret hlk (by simp) (hb hby d8_39) (z' := (1 : Int32)) rfl (by decide) (by decide) ⟨rfl, N0, P0⟩
  · have h1n : (pf + 0) = pc_ := (own_oeq (a := (pf + 0)) (b := pc_) (by omega) (by omega)).mp h1
    refine w_iconst (v := (1 : Int32)) X0 hx (hb hby d8_20) rfl (pc' := 21) rfl ?_
    exact w_ret_n (t := .boolean) X0 hx hret hlk (by simp) (hb hby d8_21) (z' := (1 : Int32)) rfl (by decide) (by decide) ⟨rfl, N0, P0⟩
theorem ef_nc21 (m : MethodId) (n0 : Nat) (pf : Nat) (pc_ : Nat) (pr : Nat) : entryFrame m #[.ref (n0 + 0), .int (Int32.ofNat pf), .int (2 : Int32), .int (Int32.ofNat pc_), .int (Int32.ofNat pr), .int (1 : Int32)] 7 = mkF m 0 #[.val (.ref (n0 + 0)), .val (.int (Int32.ofNat pf)), .val (.int (2 : Int32)), .val (.int (Int32.ofNat pc_)), .val (.int (Int32.ofNat pr)), .val (.int (1 : Int32)), .unset] [] := by first | (simp [entryFrame, mkF, argsToLocals, Value.category]; done) | rfl
def Q_nc21 (Z : State) (n0 : Nat) (k0 : ClassId) (pP : List Int64) (cr : List Jvm.Cell) (pf : Nat) (pc_ : Nat) (pr : Nat) (v : Option Value) (h : Heap) (L : List Loc) : Prop := v = some (.int (1 : Int32)) ∧ Fr n0 L ∧ HP n0 h (AC k0 (List.map Value.long pP) :: cr)
set_option maxRecDepth 65536 in
set_option maxHeartbeats 40000000 in
theorem rm_nc21 (l : Launch) (Z : State) (a0 : Array Value) (hw : ∀ d ∈ tables_1, d.before a0 Z = true) (ws : List Jvm.Cond) (n0 : Nat) (k0 : ClassId) (pP : List Int64) (cr : List Jvm.Cell) (pf : Nat) (pc_ : Nat) (pr : Nat) (h0 : Heap) (P0 : HP n0 h0 (AC k0 (List.map Value.long pP) :: cr)) (hk0 : IsA Z k0 .long) (hpP : pP.length = pf + 2) (hpf : pf < 2) (hc : pc_ < pf + 2) (hr : pr < pf + 2) (hmin : ∀ d, pf ≤ d → d < pf + 2 → own_ne d pc_ → own_p pP pr ≤ own_p pP d) :
    MetFree l (⟨"com/example/bidcrier/bidcrier/CheapestColumnsSecondCheapestPinLaw", "noCheaper", "([JIIIII)Z"⟩ : MethodName) (head1 (Jvm.Cond.code (⟨"com/example/bidcrier/bidcrier/CheapestColumnsSecondCheapestPinLaw", "noCheaper", "([JIIIII)Z"⟩ : MethodName) method_3_code 7 (some .boolean) :: ws) ({ frames := 0, cells := 0, slots := 0, locals := 0 } : Room)) (fun aa U => aa = #[.ref (n0 + 0), .int (Int32.ofNat pf), .int (2 : Int32), .int (Int32.ofNat pc_), .int (Int32.ofNat pr), .int (1 : Int32)] ∧ Z.Warmed39 U.vm ∧ U.heap = h0) (fun _ _ _ _ _ => True) (fun _ U o U' => ∃ v L, o = .returned v ∧ Q_nc21 Z n0 k0 pP cr pf pc_ pr v U'.heap L ∧ FrameEnd U o U' L ({ frames := 0, cells := 0, slots := 0, locals := 0 } : Room).cells ({ frames := 0, cells := 0, slots := 0, locals := 0 } : Room).slots) := by
  refine own_body pn8 ?_
  intro p e s m below meth c T0 hx hby hml hret hlk hown hnm hZ X0 e0
  subst e0
  have N0 : Fr n0 [] := Fr.nil n0
  refine own_cast (ef_nc21 m n0 pf pc_ pr) ?_
  refine w_iload X0 hx (hb hby d8_0) rfl (pc' := 2) rfl ?_
  refine w_iloadN X0 hx (hb hby d8_2) rfl (pc' := 3) rfl ?_
  refine w_icmp_lt X0 hx (hb hby d8_3) (by decide) (pcY := 8) (by decide) (pc' := 6) rfl (fun h0 => ?_) (fun h0 => absurd h0 (by decide))
  refine w_iloadN X0 hx (hb hby d8_8) rfl (pc' := 9) rfl ?_
  refine w_iload X0 hx (hb hby d8_9) rfl (pc' := 11) rfl ?_
  refine w_iadd X0 hx (hb hby d8_11) (pc' := 12) rfl ?_
  refine w_eqI (z := (Int32.ofNat (pf + 1))) (own_oadd pf 1) ?_
  refine w_istore (l' := #[.val (.ref (n0 + 0)), .val (.int (Int32.ofNat pf)), .val (.int (2 : Int32)), .val (.int (Int32.ofNat pc_)), .val (.int (Int32.ofNat pr)), .val (.int (1 : Int32)), .val (.int (Int32.ofNat (pf + 1)))]) X0 hx (hb hby d8_12) rfl (pc' := 14) rfl ?_
  refine w_iload X0 hx (hb hby d8_14) rfl (pc' := 16) rfl ?_
  refine w_iloadN X0 hx (hb hby d8_16) rfl (pc' := 17) rfl ?_
  refine w_icmp_ne X0 hx (hb hby d8_17) (by decide) (pcY := 22) (by decide) (pc' := 20) rfl (fun h1 => ?_) (fun h1 => ?_)
  · have h1n : ¬ (pf + 1) = pc_ := fun q => h1 ((own_oeq (a := (pf + 1)) (b := pc_) (by omega) (by omega)).mpr q)
    refine w_aloadN X0 hx (hb hby d8_22) rfl rfl (pc' := 23) rfl ?_
    refine w_iload X0 hx (hb hby d8_23) rfl (pc' := 25) rfl ?_
    refine w_laloadL (i := 0) (jn := pr) X0 hx hZ P0 rfl hk0 (hb hby d8_25) (own_oN (by omega)) (own_llt hpP (by omega)) (pc' := 26) rfl ?_
    refine w_aloadN X0 hx (hb hby d8_26) rfl rfl (pc' := 27) rfl ?_
    refine w_iload X0 hx (hb hby d8_27) rfl (pc' := 29) rfl ?_
    refine w_laloadL (i := 0) (jn := (pf + 1)) X0 hx hZ P0 rfl hk0 (hb hby d8_29) (own_oN (by omega)) (own_llt hpP (by omega)) (pc' := 30) rfl ?_
    refine w_lcmp_gt X0 hx (hb hby d8_30) rfl (hb hby d8_31) (by decide) (pcY := 38) (by decide) (pc' := 34) rfl (fun h2 => absurd h2 (own_nlt (hmin _ (by omega) (by omega) (own_neI h1n)))) (fun h2 => ?_)
    refine w_iconst (v := (1 : Int32)) X0 hx (hb hby d8_34) rfl (pc' := 35) rfl ?_
    refine w_goto X0 hx (hb hby d8_35) (by decide) (pc' := 39) (by decide) ?_
    exact w_ret_n (t := .boolean) X0 hx hret hlk (by simp) (hb hby d8_39) (z' := (1 : Int32)) rfl (by decide) (by decide) ⟨rfl, N0, P0⟩
  · have h1n : (pf + 1) = pc_ := (own_oeq (a := (pf + 1)) (b := pc_) (by omega) (by omega)).mp h1
    refine w_iconst (v := (1 : Int32)) X0 hx (hb hby d8_20) rfl (pc' := 21) rfl ?_
    exact w_ret_n (t := .boolean) X0 hx hret hlk (by simp) (hb hby d8_21) (z' := (1 : Int32)) rfl (by decide) (by decide) ⟨rfl, N0, P0⟩
theorem ef_nc22 (m : MethodId) (n0 : Nat) (pf : Nat) (pc_ : Nat) (pr : Nat) : entryFrame m #[.ref (n0 + 0), .int (Int32.ofNat pf), .int (2 : Int32), .int (Int32.ofNat pc_), .int (Int32.ofNat pr), .int (2 : Int32)] 7 = mkF m 0 #[.val (.ref (n0 + 0)), .val (.int (Int32.ofNat pf)), .val (.int (2 : Int32)), .val (.int (Int32.ofNat pc_)), .val (.int (Int32.ofNat pr)), .val (.int (2 : Int32)), .unset] [] := by first | (simp [entryFrame, mkF, argsToLocals, Value.category]; done) | rfl
def Q_nc22 (Z : State) (n0 : Nat) (k0 : ClassId) (pP : List Int64) (cr : List Jvm.Cell) (pf : Nat) (pc_ : Nat) (pr : Nat) (v : Option Value) (h : Heap) (L : List Loc) : Prop := v = some (.int (1 : Int32)) ∧ Fr n0 L ∧ HP n0 h (AC k0 (List.map Value.long pP) :: cr)
set_option maxRecDepth 65536 in
set_option maxHeartbeats 40000000 in
theorem rm_nc22 (l : Launch) (Z : State) (a0 : Array Value) (hw : ∀ d ∈ tables_1, d.before a0 Z = true) (ws : List Jvm.Cond) (n0 : Nat) (k0 : ClassId) (pP : List Int64) (cr : List Jvm.Cell) (pf : Nat) (pc_ : Nat) (pr : Nat) (h0 : Heap) (P0 : HP n0 h0 (AC k0 (List.map Value.long pP) :: cr)) (hk0 : IsA Z k0 .long) (hpP : pP.length = pf + 2) (hpf : pf < 2) (hc : pc_ < pf + 2) (hr : pr < pf + 2) (hmin : ∀ d, pf ≤ d → d < pf + 2 → own_ne d pc_ → own_p pP pr ≤ own_p pP d) :
    MetFree l (⟨"com/example/bidcrier/bidcrier/CheapestColumnsSecondCheapestPinLaw", "noCheaper", "([JIIIII)Z"⟩ : MethodName) (head1 (Jvm.Cond.code (⟨"com/example/bidcrier/bidcrier/CheapestColumnsSecondCheapestPinLaw", "noCheaper", "([JIIIII)Z"⟩ : MethodName) method_3_code 7 (some .boolean) :: ws) ({ frames := 0, cells := 0, slots := 0, locals := 0 } : Room)) (fun aa U => aa = #[.ref (n0 + 0), .int (Int32.ofNat pf), .int (2 : Int32), .int (Int32.ofNat pc_), .int (Int32.ofNat pr), .int (2 : Int32)] ∧ Z.Warmed39 U.vm ∧ U.heap = h0) (fun _ _ _ _ _ => True) (fun _ U o U' => ∃ v L, o = .returned v ∧ Q_nc22 Z n0 k0 pP cr pf pc_ pr v U'.heap L ∧ FrameEnd U o U' L ({ frames := 0, cells := 0, slots := 0, locals := 0 } : Room).cells ({ frames := 0, cells := 0, slots := 0, locals := 0 } : Room).slots) := by
  refine own_body pn8 ?_
  intro p e s m below meth c T0 hx hby hml hret hlk hown hnm hZ X0 e0
  subst e0
  have N0 : Fr n0 [] := Fr.nil n0
  refine own_cast (ef_nc22 m n0 pf pc_ pr) ?_
  refine w_iload X0 hx (hb hby d8_0) rfl (pc' := 2) rfl ?_
  refine w_iloadN X0 hx (hb hby d8_2) rfl (pc' := 3) rfl ?_
  refine w_icmp_lt X0 hx (hb hby d8_3) (by decide) (pcY := 8) (by decide) (pc' := 6) rfl (fun h0 => absurd h0 (by decide)) (fun h0 => ?_)
  refine w_iconst (v := (1 : Int32)) X0 hx (hb hby d8_6) rfl (pc' := 7) rfl ?_
  exact w_ret_n (t := .boolean) X0 hx hret hlk (by simp) (hb hby d8_7) (z' := (1 : Int32)) rfl (by decide) (by decide) ⟨rfl, N0, P0⟩
theorem ef_nc23 (m : MethodId) (n0 : Nat) (pf : Nat) (pc_ : Nat) (pr : Nat) : entryFrame m #[.ref (n0 + 0), .int (Int32.ofNat pf), .int (2 : Int32), .int (Int32.ofNat pc_), .int (Int32.ofNat pr), .int (3 : Int32)] 7 = mkF m 0 #[.val (.ref (n0 + 0)), .val (.int (Int32.ofNat pf)), .val (.int (2 : Int32)), .val (.int (Int32.ofNat pc_)), .val (.int (Int32.ofNat pr)), .val (.int (3 : Int32)), .unset] [] := by first | (simp [entryFrame, mkF, argsToLocals, Value.category]; done) | rfl
def Q_nc23 (Z : State) (n0 : Nat) (k0 : ClassId) (pP : List Int64) (cr : List Jvm.Cell) (pf : Nat) (pc_ : Nat) (pr : Nat) (v : Option Value) (h : Heap) (L : List Loc) : Prop := v = some (.int (1 : Int32)) ∧ Fr n0 L ∧ HP n0 h (AC k0 (List.map Value.long pP) :: cr)
set_option maxRecDepth 65536 in
set_option maxHeartbeats 40000000 in
theorem rm_nc23 (l : Launch) (Z : State) (a0 : Array Value) (hw : ∀ d ∈ tables_1, d.before a0 Z = true) (ws : List Jvm.Cond) (n0 : Nat) (k0 : ClassId) (pP : List Int64) (cr : List Jvm.Cell) (pf : Nat) (pc_ : Nat) (pr : Nat) (h0 : Heap) (P0 : HP n0 h0 (AC k0 (List.map Value.long pP) :: cr)) (hk0 : IsA Z k0 .long) (hpP : pP.length = pf + 2) (hpf : pf < 2) (hc : pc_ < pf + 2) (hr : pr < pf + 2) (hmin : ∀ d, pf ≤ d → d < pf + 2 → own_ne d pc_ → own_p pP pr ≤ own_p pP d) :
    MetFree l (⟨"com/example/bidcrier/bidcrier/CheapestColumnsSecondCheapestPinLaw", "noCheaper", "([JIIIII)Z"⟩ : MethodName) (head1 (Jvm.Cond.code (⟨"com/example/bidcrier/bidcrier/CheapestColumnsSecondCheapestPinLaw", "noCheaper", "([JIIIII)Z"⟩ : MethodName) method_3_code 7 (some .boolean) :: ws) ({ frames := 0, cells := 0, slots := 0, locals := 0 } : Room)) (fun aa U => aa = #[.ref (n0 + 0), .int (Int32.ofNat pf), .int (2 : Int32), .int (Int32.ofNat pc_), .int (Int32.ofNat pr), .int (3 : Int32)] ∧ Z.Warmed39 U.vm ∧ U.heap = h0) (fun _ _ _ _ _ => True) (fun _ U o U' => ∃ v L, o = .returned v ∧ Q_nc23 Z n0 k0 pP cr pf pc_ pr v U'.heap L ∧ FrameEnd U o U' L ({ frames := 0, cells := 0, slots := 0, locals := 0 } : Room).cells ({ frames := 0, cells := 0, slots := 0, locals := 0 } : Room).slots) := by
  refine own_body pn8 ?_
  intro p e s m below meth c T0 hx hby hml hret hlk hown hnm hZ X0 e0
  subst e0
  have N0 : Fr n0 [] := Fr.nil n0
  refine own_cast (ef_nc23 m n0 pf pc_ pr) ?_
  refine w_iload X0 hx (hb hby d8_0) rfl (pc' := 2) rfl ?_
  refine w_iloadN X0 hx (hb hby d8_2) rfl (pc' := 3) rfl ?_
  refine w_icmp_lt X0 hx (hb hby d8_3) (by decide) (pcY := 8) (by decide) (pc' := 6) rfl (fun h0 => absurd h0 (by decide)) (fun h0 => ?_)
  refine w_iconst (v := (1 : Int32)) X0 hx (hb hby d8_6) rfl (pc' := 7) rfl ?_
  exact w_ret_n (t := .boolean) X0 hx hret hlk (by simp) (hb hby d8_7) (z' := (1 : Int32)) rfl (by decide) (by decide) ⟨rfl, N0, P0⟩
theorem ef_nc30 (m : MethodId) (n0 : Nat) (pf : Nat) (pc_ : Nat) (pr : Nat) : entryFrame m #[.ref (n0 + 0), .int (Int32.ofNat pf), .int (3 : Int32), .int (Int32.ofNat pc_), .int (Int32.ofNat pr), .int (0 : Int32)] 7 = mkF m 0 #[.val (.ref (n0 + 0)), .val (.int (Int32.ofNat pf)), .val (.int (3 : Int32)), .val (.int (Int32.ofNat pc_)), .val (.int (Int32.ofNat pr)), .val (.int (0 : Int32)), .unset] [] := by first | (simp [entryFrame, mkF, argsToLocals, Value.category]; done) | rfl
def Q_nc30 (Z : State) (n0 : Nat) (k0 : ClassId) (pP : List Int64) (cr : List Jvm.Cell) (pf : Nat) (pc_ : Nat) (pr : Nat) (v : Option Value) (h : Heap) (L : List Loc) : Prop := v = some (.int (1 : Int32)) ∧ Fr n0 L ∧ HP n0 h (AC k0 (List.map Value.long pP) :: cr)
set_option maxRecDepth 65536 in
set_option maxHeartbeats 40000000 in
theorem rm_nc30 (l : Launch) (Z : State) (a0 : Array Value) (hw : ∀ d ∈ tables_1, d.before a0 Z = true) (ws : List Jvm.Cond) (n0 : Nat) (k0 : ClassId) (pP : List Int64) (cr : List Jvm.Cell) (pf : Nat) (pc_ : Nat) (pr : Nat) (h0 : Heap) (P0 : HP n0 h0 (AC k0 (List.map Value.long pP) :: cr)) (hk0 : IsA Z k0 .long) (hpP : pP.length = pf + 3) (hpf : pf < 2) (hc : pc_ < pf + 3) (hr : pr < pf + 3) (hmin : ∀ d, pf ≤ d → d < pf + 3 → own_ne d pc_ → own_p pP pr ≤ own_p pP d) :
    MetFree l (⟨"com/example/bidcrier/bidcrier/CheapestColumnsSecondCheapestPinLaw", "noCheaper", "([JIIIII)Z"⟩ : MethodName) (head1 (Jvm.Cond.code (⟨"com/example/bidcrier/bidcrier/CheapestColumnsSecondCheapestPinLaw", "noCheaper", "([JIIIII)Z"⟩ : MethodName) method_3_code 7 (some .boolean) :: ws) ({ frames := 0, cells := 0, slots := 0, locals := 0 } : Room)) (fun aa U => aa = #[.ref (n0 + 0), .int (Int32.ofNat pf), .int (3 : Int32), .int (Int32.ofNat pc_), .int (Int32.ofNat pr), .int (0 : Int32)] ∧ Z.Warmed39 U.vm ∧ U.heap = h0) (fun _ _ _ _ _ => True) (fun _ U o U' => ∃ v L, o = .returned v ∧ Q_nc30 Z n0 k0 pP cr pf pc_ pr v U'.heap L ∧ FrameEnd U o U' L ({ frames := 0, cells := 0, slots := 0, locals := 0 } : Room).cells ({ frames := 0, cells := 0, slots := 0, locals := 0 } : Room).slots) := by
  refine own_body pn8 ?_
  intro p e s m below meth c T0 hx hby hml hret hlk hown hnm hZ X0 e0
  subst e0
  have N0 : Fr n0 [] := Fr.nil n0
  refine own_cast (ef_nc30 m n0 pf pc_ pr) ?_
  refine w_iload X0 hx (hb hby d8_0) rfl (pc' := 2) rfl ?_
  refine w_iloadN X0 hx (hb hby d8_2) rfl (pc' := 3) rfl ?_
  refine w_icmp_lt X0 hx (hb hby d8_3) (by decide) (pcY := 8) (by decide) (pc' := 6) rfl (fun h0 => ?_) (fun h0 => absurd h0 (by decide))
  refine w_iloadN X0 hx (hb hby d8_8) rfl (pc' := 9) rfl ?_
  refine w_iload X0 hx (hb hby d8_9) rfl (pc' := 11) rfl ?_
  refine w_iadd X0 hx (hb hby d8_11) (pc' := 12) rfl ?_
  refine w_eqI (z := (Int32.ofNat (pf + 0))) (own_oadd pf 0) ?_
  refine w_istore (l' := #[.val (.ref (n0 + 0)), .val (.int (Int32.ofNat pf)), .val (.int (3 : Int32)), .val (.int (Int32.ofNat pc_)), .val (.int (Int32.ofNat pr)), .val (.int (0 : Int32)), .val (.int (Int32.ofNat (pf + 0)))]) X0 hx (hb hby d8_12) rfl (pc' := 14) rfl ?_
  refine w_iload X0 hx (hb hby d8_14) rfl (pc' := 16) rfl ?_
  refine w_iloadN X0 hx (hb hby d8_16) rfl (pc' := 17) rfl ?_
  refine w_icmp_ne X0 hx (hb hby d8_17) (by decide) (pcY := 22) (by decide) (pc' := 20) rfl (fun h1 => ?_) (fun h1 => ?_)
  · have h1n : ¬ (pf + 0) = pc_ := fun q => h1 ((own_oeq (a := (pf + 0)) (b := pc_) (by omega) (by omega)).mpr q)
    refine w_aloadN X0 hx (hb hby d8_22) rfl rfl (pc' := 23) rfl ?_
    refine w_iload X0 hx (hb hby d8_23) rfl (pc' := 25) rfl ?_
    refine w_laloadL (i := 0) (jn := pr) X0 hx hZ P0 rfl hk0 (hb hby d8_25) (own_oN (by omega)) (own_llt hpP (by omega)) (pc' := 26) rfl ?_
    refine w_aloadN X0 hx (hb hby d8_26) rfl rfl (pc' := 27) rfl ?_
    refine w_iload X0 hx (hb hby d8_27) rfl (pc' := 29) rfl ?_
    refine w_laloadL (i := 0) (jn := (pf + 0)) X0 hx hZ P0 rfl hk0 (hb hby d8_29) (own_oN (by omega)) (own_llt hpP (by omega)) (pc' := 30) rfl ?_
    refine w_lcmp_gt X0 hx (hb hby d8_30) rfl (hb hby d8_31) (by decide) (pcY := 38) (by decide) (pc' := 34) rfl (fun h2 => absurd h2 (own_nlt (hmin _ (by omega) (by omega) (own_neI h1n)))) (fun h2 => ?_)
    refine w_iconst (v := (1 : Int32)) X0 hx (hb hby d8_34) rfl (pc' := 35) rfl ?_
    refine w_goto X0 hx (hb hby d8_35) (by decide) (pc' := 39) (by decide) ?_
    exact w_ret_n (t := .boolean) X0 hx hret hlk (by simp) (hb hby d8_39) (z' := (1 : Int32)) rfl (by decide) (by decide) ⟨rfl, N0, P0⟩
  · have h1n : (pf + 0) = pc_ := (own_oeq (a := (pf + 0)) (b := pc_) (by omega) (by omega)).mp h1
    refine w_iconst (v := (1 : Int32)) X0 hx (hb hby d8_20) rfl (pc' := 21) rfl ?_
    exact w_ret_n (t := .boolean) X0 hx hret hlk (by simp) (hb hby d8_21) (z' := (1 : Int32)) rfl (by decide) (by decide) ⟨rfl, N0, P0⟩
theorem ef_nc31 (m : MethodId) (n0 : Nat) (pf : Nat) (pc_ : Nat) (pr : Nat) : entryFrame m #[.ref (n0 + 0), .int (Int32.ofNat pf), .int (3 : Int32), .int (Int32.ofNat pc_), .int (Int32.ofNat pr), .int (1 : Int32)] 7 = mkF m 0 #[.val (.ref (n0 + 0)), .val (.int (Int32.ofNat pf)), .val (.int (3 : Int32)), .val (.int (Int32.ofNat pc_)), .val (.int (Int32.ofNat pr)), .val (.int (1 : Int32)), .unset] [] := by first | (simp [entryFrame, mkF, argsToLocals, Value.category]; done) | rfl
def Q_nc31 (Z : State) (n0 : Nat) (k0 : ClassId) (pP : List Int64) (cr : List Jvm.Cell) (pf : Nat) (pc_ : Nat) (pr : Nat) (v : Option Value) (h : Heap) (L : List Loc) : Prop := v = some (.int (1 : Int32)) ∧ Fr n0 L ∧ HP n0 h (AC k0 (List.map Value.long pP) :: cr)
set_option maxRecDepth 65536 in
set_option maxHeartbeats 40000000 in
theorem rm_nc31 (l : Launch) (Z : State) (a0 : Array Value) (hw : ∀ d ∈ tables_1, d.before a0 Z = true) (ws : List Jvm.Cond) (n0 : Nat) (k0 : ClassId) (pP : List Int64) (cr : List Jvm.Cell) (pf : Nat) (pc_ : Nat) (pr : Nat) (h0 : Heap) (P0 : HP n0 h0 (AC k0 (List.map Value.long pP) :: cr)) (hk0 : IsA Z k0 .long) (hpP : pP.length = pf + 3) (hpf : pf < 2) (hc : pc_ < pf + 3) (hr : pr < pf + 3) (hmin : ∀ d, pf ≤ d → d < pf + 3 → own_ne d pc_ → own_p pP pr ≤ own_p pP d) :
    MetFree l (⟨"com/example/bidcrier/bidcrier/CheapestColumnsSecondCheapestPinLaw", "noCheaper", "([JIIIII)Z"⟩ : MethodName) (head1 (Jvm.Cond.code (⟨"com/example/bidcrier/bidcrier/CheapestColumnsSecondCheapestPinLaw", "noCheaper", "([JIIIII)Z"⟩ : MethodName) method_3_code 7 (some .boolean) :: ws) ({ frames := 0, cells := 0, slots := 0, locals := 0 } : Room)) (fun aa U => aa = #[.ref (n0 + 0), .int (Int32.ofNat pf), .int (3 : Int32), .int (Int32.ofNat pc_), .int (Int32.ofNat pr), .int (1 : Int32)] ∧ Z.Warmed39 U.vm ∧ U.heap = h0) (fun _ _ _ _ _ => True) (fun _ U o U' => ∃ v L, o = .returned v ∧ Q_nc31 Z n0 k0 pP cr pf pc_ pr v U'.heap L ∧ FrameEnd U o U' L ({ frames := 0, cells := 0, slots := 0, locals := 0 } : Room).cells ({ frames := 0, cells := 0, slots := 0, locals := 0 } : Room).slots) := by
  refine own_body pn8 ?_
  intro p e s m below meth c T0 hx hby hml hret hlk hown hnm hZ X0 e0
  subst e0
  have N0 : Fr n0 [] := Fr.nil n0
  refine own_cast (ef_nc31 m n0 pf pc_ pr) ?_
  refine w_iload X0 hx (hb hby d8_0) rfl (pc' := 2) rfl ?_
  refine w_iloadN X0 hx (hb hby d8_2) rfl (pc' := 3) rfl ?_
  refine w_icmp_lt X0 hx (hb hby d8_3) (by decide) (pcY := 8) (by decide) (pc' := 6) rfl (fun h0 => ?_) (fun h0 => absurd h0 (by decide))
  refine w_iloadN X0 hx (hb hby d8_8) rfl (pc' := 9) rfl ?_
  refine w_iload X0 hx (hb hby d8_9) rfl (pc' := 11) rfl ?_
  refine w_iadd X0 hx (hb hby d8_11) (pc' := 12) rfl ?_
  refine w_eqI (z := (Int32.ofNat (pf + 1))) (own_oadd pf 1) ?_
  refine w_istore (l' := #[.val (.ref (n0 + 0)), .val (.int (Int32.ofNat pf)), .val (.int (3 : Int32)), .val (.int (Int32.ofNat pc_)), .val (.int (Int32.ofNat pr)), .val (.int (1 : Int32)), .val (.int (Int32.ofNat (pf + 1)))]) X0 hx (hb hby d8_12) rfl (pc' := 14) rfl ?_
  refine w_iload X0 hx (hb hby d8_14) rfl (pc' := 16) rfl ?_
  refine w_iloadN X0 hx (hb hby d8_16) rfl (pc' := 17) rfl ?_
  refine w_icmp_ne X0 hx (hb hby d8_17) (by decide) (pcY := 22) (by decide) (pc' := 20) rfl (fun h1 => ?_) (fun h1 => ?_)
  · have h1n : ¬ (pf + 1) = pc_ := fun q => h1 ((own_oeq (a := (pf + 1)) (b := pc_) (by omega) (by omega)).mpr q)
    refine w_aloadN X0 hx (hb hby d8_22) rfl rfl (pc' := 23) rfl ?_
    refine w_iload X0 hx (hb hby d8_23) rfl (pc' := 25) rfl ?_
    refine w_laloadL (i := 0) (jn := pr) X0 hx hZ P0 rfl hk0 (hb hby d8_25) (own_oN (by omega)) (own_llt hpP (by omega)) (pc' := 26) rfl ?_
    refine w_aloadN X0 hx (hb hby d8_26) rfl rfl (pc' := 27) rfl ?_
    refine w_iload X0 hx (hb hby d8_27) rfl (pc' := 29) rfl ?_
    refine w_laloadL (i := 0) (jn := (pf + 1)) X0 hx hZ P0 rfl hk0 (hb hby d8_29) (own_oN (by omega)) (own_llt hpP (by omega)) (pc' := 30) rfl ?_
    refine w_lcmp_gt X0 hx (hb hby d8_30) rfl (hb hby d8_31) (by decide) (pcY := 38) (by decide) (pc' := 34) rfl (fun h2 => absurd h2 (own_nlt (hmin _ (by omega) (by omega) (own_neI h1n)))) (fun h2 => ?_)
    refine w_iconst (v := (1 : Int32)) X0 hx (hb hby d8_34) rfl (pc' := 35) rfl ?_
    refine w_goto X0 hx (hb hby d8_35) (by decide) (pc' := 39) (by decide) ?_
    exact w_ret_n (t := .boolean) X0 hx hret hlk (by simp) (hb hby d8_39) (z' := (1 : Int32)) rfl (by decide) (by decide) ⟨rfl, N0, P0⟩
  · have h1n : (pf + 1) = pc_ := (own_oeq (a := (pf + 1)) (b := pc_) (by omega) (by omega)).mp h1
    refine w_iconst (v := (1 : Int32)) X0 hx (hb hby d8_20) rfl (pc' := 21) rfl ?_
    exact w_ret_n (t := .boolean) X0 hx hret hlk (by simp) (hb hby d8_21) (z' := (1 : Int32)) rfl (by decide) (by decide) ⟨rfl, N0, P0⟩
theorem ef_nc32 (m : MethodId) (n0 : Nat) (pf : Nat) (pc_ : Nat) (pr : Nat) : entryFrame m #[.ref (n0 + 0), .int (Int32.ofNat pf), .int (3 : Int32), .int (Int32.ofNat pc_), .int (Int32.ofNat pr), .int (2 : Int32)] 7 = mkF m 0 #[.val (.ref (n0 + 0)), .val (.int (Int32.ofNat pf)), .val (.int (3 : Int32)), .val (.int (Int32.ofNat pc_)), .val (.int (Int32.ofNat pr)), .val (.int (2 : Int32)), .unset] [] := by first | (simp [entryFrame, mkF, argsToLocals, Value.category]; done) | rfl
def Q_nc32 (Z : State) (n0 : Nat) (k0 : ClassId) (pP : List Int64) (cr : List Jvm.Cell) (pf : Nat) (pc_ : Nat) (pr : Nat) (v : Option Value) (h : Heap) (L : List Loc) : Prop := v = some (.int (1 : Int32)) ∧ Fr n0 L ∧ HP n0 h (AC k0 (List.map Value.long pP) :: cr)
set_option maxRecDepth 65536 in
set_option maxHeartbeats 40000000 in
theorem rm_nc32 (l : Launch) (Z : State) (a0 : Array Value) (hw : ∀ d ∈ tables_1, d.before a0 Z = true) (ws : List Jvm.Cond) (n0 : Nat) (k0 : ClassId) (pP : List Int64) (cr : List Jvm.Cell) (pf : Nat) (pc_ : Nat) (pr : Nat) (h0 : Heap) (P0 : HP n0 h0 (AC k0 (List.map Value.long pP) :: cr)) (hk0 : IsA Z k0 .long) (hpP : pP.length = pf + 3) (hpf : pf < 2) (hc : pc_ < pf + 3) (hr : pr < pf + 3) (hmin : ∀ d, pf ≤ d → d < pf + 3 → own_ne d pc_ → own_p pP pr ≤ own_p pP d) :
    MetFree l (⟨"com/example/bidcrier/bidcrier/CheapestColumnsSecondCheapestPinLaw", "noCheaper", "([JIIIII)Z"⟩ : MethodName) (head1 (Jvm.Cond.code (⟨"com/example/bidcrier/bidcrier/CheapestColumnsSecondCheapestPinLaw", "noCheaper", "([JIIIII)Z"⟩ : MethodName) method_3_code 7 (some .boolean) :: ws) ({ frames := 0, cells := 0, slots := 0, locals := 0 } : Room)) (fun aa U => aa = #[.ref (n0 + 0), .int (Int32.ofNat pf), .int (3 : Int32), .int (Int32.ofNat pc_), .int (Int32.ofNat pr), .int (2 : Int32)] ∧ Z.Warmed39 U.vm ∧ U.heap = h0) (fun _ _ _ _ _ => True) (fun _ U o U' => ∃ v L, o = .returned v ∧ Q_nc32 Z n0 k0 pP cr pf pc_ pr v U'.heap L ∧ FrameEnd U o U' L ({ frames := 0, cells := 0, slots := 0, locals := 0 } : Room).cells ({ frames := 0, cells := 0, slots := 0, locals := 0 } : Room).slots) := by
  refine own_body pn8 ?_
  intro p e s m below meth c T0 hx hby hml hret hlk hown hnm hZ X0 e0
  subst e0
  have N0 : Fr n0 [] := Fr.nil n0
  refine own_cast (ef_nc32 m n0 pf pc_ pr) ?_
  refine w_iload X0 hx (hb hby d8_0) rfl (pc' := 2) rfl ?_
  refine w_iloadN X0 hx (hb hby d8_2) rfl (pc' := 3) rfl ?_
  refine w_icmp_lt X0 hx (hb hby d8_3) (by decide) (pcY := 8) (by decide) (pc' := 6) rfl (fun h0 => ?_) (fun h0 => absurd h0 (by decide))
  refine w_iloadN X0 hx (hb hby d8_8) rfl (pc' := 9) rfl ?_
  refine w_iload X0 hx (hb hby d8_9) rfl (pc' := 11) rfl ?_
  refine w_iadd X0 hx (hb hby d8_11) (pc' := 12) rfl ?_
  refine w_eqI (z := (Int32.ofNat (pf + 2))) (own_oadd pf 2) ?_
  refine w_istore (l' := #[.val (.ref (n0 + 0)), .val (.int (Int32.ofNat pf)), .val (.int (3 : Int32)), .val (.int (Int32.ofNat pc_)), .val (.int (Int32.ofNat pr)), .val (.int (2 : Int32)), .val (.int (Int32.ofNat (pf + 2)))]) X0 hx (hb hby d8_12) rfl (pc' := 14) rfl ?_
  refine w_iload X0 hx (hb hby d8_14) rfl (pc' := 16) rfl ?_
  refine w_iloadN X0 hx (hb hby d8_16) rfl (pc' := 17) rfl ?_
  refine w_icmp_ne X0 hx (hb hby d8_17) (by decide) (pcY := 22) (by decide) (pc' := 20) rfl (fun h1 => ?_) (fun h1 => ?_)
  · have h1n : ¬ (pf + 2) = pc_ := fun q => h1 ((own_oeq (a := (pf + 2)) (b := pc_) (by omega) (by omega)).mpr q)
    refine w_aloadN X0 hx (hb hby d8_22) rfl rfl (pc' := 23) rfl ?_
    refine w_iload X0 hx (hb hby d8_23) rfl (pc' := 25) rfl ?_
    refine w_laloadL (i := 0) (jn := pr) X0 hx hZ P0 rfl hk0 (hb hby d8_25) (own_oN (by omega)) (own_llt hpP (by omega)) (pc' := 26) rfl ?_
    refine w_aloadN X0 hx (hb hby d8_26) rfl rfl (pc' := 27) rfl ?_
    refine w_iload X0 hx (hb hby d8_27) rfl (pc' := 29) rfl ?_
    refine w_laloadL (i := 0) (jn := (pf + 2)) X0 hx hZ P0 rfl hk0 (hb hby d8_29) (own_oN (by omega)) (own_llt hpP (by omega)) (pc' := 30) rfl ?_
    refine w_lcmp_gt X0 hx (hb hby d8_30) rfl (hb hby d8_31) (by decide) (pcY := 38) (by decide) (pc' := 34) rfl (fun h2 => absurd h2 (own_nlt (hmin _ (by omega) (by omega) (own_neI h1n)))) (fun h2 => ?_)
    refine w_iconst (v := (1 : Int32)) X0 hx (hb hby d8_34) rfl (pc' := 35) rfl ?_
    refine w_goto X0 hx (hb hby d8_35) (by decide) (pc' := 39) (by decide) ?_
    exact w_ret_n (t := .boolean) X0 hx hret hlk (by simp) (hb hby d8_39) (z' := (1 : Int32)) rfl (by decide) (by decide) ⟨rfl, N0, P0⟩
  · have h1n : (pf + 2) = pc_ := (own_oeq (a := (pf + 2)) (b := pc_) (by omega) (by omega)).mp h1
    refine w_iconst (v := (1 : Int32)) X0 hx (hb hby d8_20) rfl (pc' := 21) rfl ?_
    exact w_ret_n (t := .boolean) X0 hx hret hlk (by simp) (hb hby d8_21) (z' := (1 : Int32)) rfl (by decide) (by decide) ⟨rfl, N0, P0⟩
theorem ef_nc33 (m : MethodId) (n0 : Nat) (pf : Nat) (pc_ : Nat) (pr : Nat) : entryFrame m #[.ref (n0 + 0), .int (Int32.ofNat pf), .int (3 : Int32), .int (Int32.ofNat pc_), .int (Int32.ofNat pr), .int (3 : Int32)] 7 = mkF m 0 #[.val (.ref (n0 + 0)), .val (.int (Int32.ofNat pf)), .val (.int (3 : Int32)), .val (.int (Int32.ofNat pc_)), .val (.int (Int32.ofNat pr)), .val (.int (3 : Int32)), .unset] [] := by first | (simp [entryFrame, mkF, argsToLocals, Value.category]; done) | rfl
def Q_nc33 (Z : State) (n0 : Nat) (k0 : ClassId) (pP : List Int64) (cr : List Jvm.Cell) (pf : Nat) (pc_ : Nat) (pr : Nat) (v : Option Value) (h : Heap) (L : List Loc) : Prop := v = some (.int (1 : Int32)) ∧ Fr n0 L ∧ HP n0 h (AC k0 (List.map Value.long pP) :: cr)
set_option maxRecDepth 65536 in
set_option maxHeartbeats 40000000 in
theorem rm_nc33 (l : Launch) (Z : State) (a0 : Array Value) (hw : ∀ d ∈ tables_1, d.before a0 Z = true) (ws : List Jvm.Cond) (n0 : Nat) (k0 : ClassId) (pP : List Int64) (cr : List Jvm.Cell) (pf : Nat) (pc_ : Nat) (pr : Nat) (h0 : Heap) (P0 : HP n0 h0 (AC k0 (List.map Value.long pP) :: cr)) (hk0 : IsA Z k0 .long) (hpP : pP.length = pf + 3) (hpf : pf < 2) (hc : pc_ < pf + 3) (hr : pr < pf + 3) (hmin : ∀ d, pf ≤ d → d < pf + 3 → own_ne d pc_ → own_p pP pr ≤ own_p pP d) :
    MetFree l (⟨"com/example/bidcrier/bidcrier/CheapestColumnsSecondCheapestPinLaw", "noCheaper", "([JIIIII)Z"⟩ : MethodName) (head1 (Jvm.Cond.code (⟨"com/example/bidcrier/bidcrier/CheapestColumnsSecondCheapestPinLaw", "noCheaper", "([JIIIII)Z"⟩ : MethodName) method_3_code 7 (some .boolean) :: ws) ({ frames := 0, cells := 0, slots := 0, locals := 0 } : Room)) (fun aa U => aa = #[.ref (n0 + 0), .int (Int32.ofNat pf), .int (3 : Int32), .int (Int32.ofNat pc_), .int (Int32.ofNat pr), .int (3 : Int32)] ∧ Z.Warmed39 U.vm ∧ U.heap = h0) (fun _ _ _ _ _ => True) (fun _ U o U' => ∃ v L, o = .returned v ∧ Q_nc33 Z n0 k0 pP cr pf pc_ pr v U'.heap L ∧ FrameEnd U o U' L ({ frames := 0, cells := 0, slots := 0, locals := 0 } : Room).cells ({ frames := 0, cells := 0, slots := 0, locals := 0 } : Room).slots) := by
  refine own_body pn8 ?_
  intro p e s m below meth c T0 hx hby hml hret hlk hown hnm hZ X0 e0
  subst e0
  have N0 : Fr n0 [] := Fr.nil n0
  refine own_cast (ef_nc33 m n0 pf pc_ pr) ?_
  refine w_iload X0 hx (hb hby d8_0) rfl (pc' := 2) rfl ?_
  refine w_iloadN X0 hx (hb hby d8_2) rfl (pc' := 3) rfl ?_
  refine w_icmp_lt X0 hx (hb hby d8_3) (by decide) (pcY := 8) (by decide) (pc' := 6) rfl (fun h0 => absurd h0 (by decide)) (fun h0 => ?_)
  refine w_iconst (v := (1 : Int32)) X0 hx (hb hby d8_6) rfl (pc' := 7) rfl ?_
  exact w_ret_n (t := .boolean) X0 hx hret hlk (by simp) (hb hby d8_7) (z' := (1 : Int32)) rfl (by decide) (by decide) ⟨rfl, N0, P0⟩
theorem ef_nc40 (m : MethodId) (n0 : Nat) (pf : Nat) (pc_ : Nat) (pr : Nat) : entryFrame m #[.ref (n0 + 0), .int (Int32.ofNat pf), .int (4 : Int32), .int (Int32.ofNat pc_), .int (Int32.ofNat pr), .int (0 : Int32)] 7 = mkF m 0 #[.val (.ref (n0 + 0)), .val (.int (Int32.ofNat pf)), .val (.int (4 : Int32)), .val (.int (Int32.ofNat pc_)), .val (.int (Int32.ofNat pr)), .val (.int (0 : Int32)), .unset] [] := by first | (simp [entryFrame, mkF, argsToLocals, Value.category]; done) | rfl
def Q_nc40 (Z : State) (n0 : Nat) (k0 : ClassId) (pP : List Int64) (cr : List Jvm.Cell) (pf : Nat) (pc_ : Nat) (pr : Nat) (v : Option Value) (h : Heap) (L : List Loc) : Prop := v = some (.int (1 : Int32)) ∧ Fr n0 L ∧ HP n0 h (AC k0 (List.map Value.long pP) :: cr)
set_option maxRecDepth 65536 in
set_option maxHeartbeats 40000000 in
theorem rm_nc40 (l : Launch) (Z : State) (a0 : Array Value) (hw : ∀ d ∈ tables_1, d.before a0 Z = true) (ws : List Jvm.Cond) (n0 : Nat) (k0 : ClassId) (pP : List Int64) (cr : List Jvm.Cell) (pf : Nat) (pc_ : Nat) (pr : Nat) (h0 : Heap) (P0 : HP n0 h0 (AC k0 (List.map Value.long pP) :: cr)) (hk0 : IsA Z k0 .long) (hpP : pP.length = pf + 4) (hpf : pf < 2) (hc : pc_ < pf + 4) (hr : pr < pf + 4) (hmin : ∀ d, pf ≤ d → d < pf + 4 → own_ne d pc_ → own_p pP pr ≤ own_p pP d) :
    MetFree l (⟨"com/example/bidcrier/bidcrier/CheapestColumnsSecondCheapestPinLaw", "noCheaper", "([JIIIII)Z"⟩ : MethodName) (head1 (Jvm.Cond.code (⟨"com/example/bidcrier/bidcrier/CheapestColumnsSecondCheapestPinLaw", "noCheaper", "([JIIIII)Z"⟩ : MethodName) method_3_code 7 (some .boolean) :: ws) ({ frames := 0, cells := 0, slots := 0, locals := 0 } : Room)) (fun aa U => aa = #[.ref (n0 + 0), .int (Int32.ofNat pf), .int (4 : Int32), .int (Int32.ofNat pc_), .int (Int32.ofNat pr), .int (0 : Int32)] ∧ Z.Warmed39 U.vm ∧ U.heap = h0) (fun _ _ _ _ _ => True) (fun _ U o U' => ∃ v L, o = .returned v ∧ Q_nc40 Z n0 k0 pP cr pf pc_ pr v U'.heap L ∧ FrameEnd U o U' L ({ frames := 0, cells := 0, slots := 0, locals := 0 } : Room).cells ({ frames := 0, cells := 0, slots := 0, locals := 0 } : Room).slots) := by
  refine own_body pn8 ?_
  intro p e s m below meth c T0 hx hby hml hret hlk hown hnm hZ X0 e0
  subst e0
  have N0 : Fr n0 [] := Fr.nil n0
  refine own_cast (ef_nc40 m n0 pf pc_ pr) ?_
  refine w_iload X0 hx (hb hby d8_0) rfl (pc' := 2) rfl ?_
  refine w_iloadN X0 hx (hb hby d8_2) rfl (pc' := 3) rfl ?_
  refine w_icmp_lt X0 hx (hb hby d8_3) (by decide) (pcY := 8) (by decide) (pc' := 6) rfl (fun h0 => ?_) (fun h0 => absurd h0 (by decide))
  refine w_iloadN X0 hx (hb hby d8_8) rfl (pc' := 9) rfl ?_
  refine w_iload X0 hx (hb hby d8_9) rfl (pc' := 11) rfl ?_
  refine w_iadd X0 hx (hb hby d8_11) (pc' := 12) rfl ?_
  refine w_eqI (z := (Int32.ofNat (pf + 0))) (own_oadd pf 0) ?_
  refine w_istore (l' := #[.val (.ref (n0 + 0)), .val (.int (Int32.ofNat pf)), .val (.int (4 : Int32)), .val (.int (Int32.ofNat pc_)), .val (.int (Int32.ofNat pr)), .val (.int (0 : Int32)), .val (.int (Int32.ofNat (pf + 0)))]) X0 hx (hb hby d8_12) rfl (pc' := 14) rfl ?_
  refine w_iload X0 hx (hb hby d8_14) rfl (pc' := 16) rfl ?_
  refine w_iloadN X0 hx (hb hby d8_16) rfl (pc' := 17) rfl ?_
  refine w_icmp_ne X0 hx (hb hby d8_17) (by decide) (pcY := 22) (by decide) (pc' := 20) rfl (fun h1 => ?_) (fun h1 => ?_)
  · have h1n : ¬ (pf + 0) = pc_ := fun q => h1 ((own_oeq (a := (pf + 0)) (b := pc_) (by omega) (by omega)).mpr q)
    refine w_aloadN X0 hx (hb hby d8_22) rfl rfl (pc' := 23) rfl ?_
    refine w_iload X0 hx (hb hby d8_23) rfl (pc' := 25) rfl ?_
    refine w_laloadL (i := 0) (jn := pr) X0 hx hZ P0 rfl hk0 (hb hby d8_25) (own_oN (by omega)) (own_llt hpP (by omega)) (pc' := 26) rfl ?_
    refine w_aloadN X0 hx (hb hby d8_26) rfl rfl (pc' := 27) rfl ?_
    refine w_iload X0 hx (hb hby d8_27) rfl (pc' := 29) rfl ?_
    refine w_laloadL (i := 0) (jn := (pf + 0)) X0 hx hZ P0 rfl hk0 (hb hby d8_29) (own_oN (by omega)) (own_llt hpP (by omega)) (pc' := 30) rfl ?_
    refine w_lcmp_gt X0 hx (hb hby d8_30) rfl (hb hby d8_31) (by decide) (pcY := 38) (by decide) (pc' := 34) rfl (fun h2 => absurd h2 (own_nlt (hmin _ (by omega) (by omega) (own_neI h1n)))) (fun h2 => ?_)
    refine w_iconst (v := (1 : Int32)) X0 hx (hb hby d8_34) rfl (pc' := 35) rfl ?_
    refine w_goto X0 hx (hb hby d8_35) (by decide) (pc' := 39) (by decide) ?_
    exact w_ret_n (t := .boolean) X0 hx hret hlk (by simp) (hb hby d8_39) (z' := (1 : Int32)) rfl (by decide) (by decide) ⟨rfl, N0, P0⟩
  · have h1n : (pf + 0) = pc_ := (own_oeq (a := (pf + 0)) (b := pc_) (by omega) (by omega)).mp h1
    refine w_iconst (v := (1 : Int32)) X0 hx (hb hby d8_20) rfl (pc' := 21) rfl ?_
    exact w_ret_n (t := .boolean) X0 hx hret hlk (by simp) (hb hby d8_21) (z' := (1 : Int32)) rfl (by decide) (by decide) ⟨rfl, N0, P0⟩
theorem ef_nc41 (m : MethodId) (n0 : Nat) (pf : Nat) (pc_ : Nat) (pr : Nat) : entryFrame m #[.ref (n0 + 0), .int (Int32.ofNat pf), .int (4 : Int32), .int (Int32.ofNat pc_), .int (Int32.ofNat pr), .int (1 : Int32)] 7 = mkF m 0 #[.val (.ref (n0 + 0)), .val (.int (Int32.ofNat pf)), .val (.int (4 : Int32)), .val (.int (Int32.ofNat pc_)), .val (.int (Int32.ofNat pr)), .val (.int (1 : Int32)), .unset] [] := by first | (simp [entryFrame, mkF, argsToLocals, Value.category]; done) | rfl
def Q_nc41 (Z : State) (n0 : Nat) (k0 : ClassId) (pP : List Int64) (cr : List Jvm.Cell) (pf : Nat) (pc_ : Nat) (pr : Nat) (v : Option Value) (h : Heap) (L : List Loc) : Prop := v = some (.int (1 : Int32)) ∧ Fr n0 L ∧ HP n0 h (AC k0 (List.map Value.long pP) :: cr)
set_option maxRecDepth 65536 in
set_option maxHeartbeats 40000000 in
theorem rm_nc41 (l : Launch) (Z : State) (a0 : Array Value) (hw : ∀ d ∈ tables_1, d.before a0 Z = true) (ws : List Jvm.Cond) (n0 : Nat) (k0 : ClassId) (pP : List Int64) (cr : List Jvm.Cell) (pf : Nat) (pc_ : Nat) (pr : Nat) (h0 : Heap) (P0 : HP n0 h0 (AC k0 (List.map Value.long pP) :: cr)) (hk0 : IsA Z k0 .long) (hpP : pP.length = pf + 4) (hpf : pf < 2) (hc : pc_ < pf + 4) (hr : pr < pf + 4) (hmin : ∀ d, pf ≤ d → d < pf + 4 → own_ne d pc_ → own_p pP pr ≤ own_p pP d) :
    MetFree l (⟨"com/example/bidcrier/bidcrier/CheapestColumnsSecondCheapestPinLaw", "noCheaper", "([JIIIII)Z"⟩ : MethodName) (head1 (Jvm.Cond.code (⟨"com/example/bidcrier/bidcrier/CheapestColumnsSecondCheapestPinLaw", "noCheaper", "([JIIIII)Z"⟩ : MethodName) method_3_code 7 (some .boolean) :: ws) ({ frames := 0, cells := 0, slots := 0, locals := 0 } : Room)) (fun aa U => aa = #[.ref (n0 + 0), .int (Int32.ofNat pf), .int (4 : Int32), .int (Int32.ofNat pc_), .int (Int32.ofNat pr), .int (1 : Int32)] ∧ Z.Warmed39 U.vm ∧ U.heap = h0) (fun _ _ _ _ _ => True) (fun _ U o U' => ∃ v L, o = .returned v ∧ Q_nc41 Z n0 k0 pP cr pf pc_ pr v U'.heap L ∧ FrameEnd U o U' L ({ frames := 0, cells := 0, slots := 0, locals := 0 } : Room).cells ({ frames := 0, cells := 0, slots := 0, locals := 0 } : Room).slots) := by
  refine own_body pn8 ?_
  intro p e s m below meth c T0 hx hby hml hret hlk hown hnm hZ X0 e0
  subst e0
  have N0 : Fr n0 [] := Fr.nil n0
  refine own_cast (ef_nc41 m n0 pf pc_ pr) ?_
  refine w_iload X0 hx (hb hby d8_0) rfl (pc' := 2) rfl ?_
  refine w_iloadN X0 hx (hb hby d8_2) rfl (pc' := 3) rfl ?_
  refine w_icmp_lt X0 hx (hb hby d8_3) (by decide) (pcY := 8) (by decide) (pc' := 6) rfl (fun h0 => ?_) (fun h0 => absurd h0 (by decide))
  refine w_iloadN X0 hx (hb hby d8_8) rfl (pc' := 9) rfl ?_
  refine w_iload X0 hx (hb hby d8_9) rfl (pc' := 11) rfl ?_
  refine w_iadd X0 hx (hb hby d8_11) (pc' := 12) rfl ?_
  refine w_eqI (z := (Int32.ofNat (pf + 1))) (own_oadd pf 1) ?_
  refine w_istore (l' := #[.val (.ref (n0 + 0)), .val (.int (Int32.ofNat pf)), .val (.int (4 : Int32)), .val (.int (Int32.ofNat pc_)), .val (.int (Int32.ofNat pr)), .val (.int (1 : Int32)), .val (.int (Int32.ofNat (pf + 1)))]) X0 hx (hb hby d8_12) rfl (pc' := 14) rfl ?_
  refine w_iload X0 hx (hb hby d8_14) rfl (pc' := 16) rfl ?_
  refine w_iloadN X0 hx (hb hby d8_16) rfl (pc' := 17) rfl ?_
  refine w_icmp_ne X0 hx (hb hby d8_17) (by decide) (pcY := 22) (by decide) (pc' := 20) rfl (fun h1 => ?_) (fun h1 => ?_)
  · have h1n : ¬ (pf + 1) = pc_ := fun q => h1 ((own_oeq (a := (pf + 1)) (b := pc_) (by omega) (by omega)).mpr q)
    refine w_aloadN X0 hx (hb hby d8_22) rfl rfl (pc' := 23) rfl ?_
    refine w_iload X0 hx (hb hby d8_23) rfl (pc' := 25) rfl ?_
    refine w_laloadL (i := 0) (jn := pr) X0 hx hZ P0 rfl hk0 (hb hby d8_25) (own_oN (by omega)) (own_llt hpP (by omega)) (pc' := 26) rfl ?_
    refine w_aloadN X0 hx (hb hby d8_26) rfl rfl (pc' := 27) rfl ?_
    refine w_iload X0 hx (hb hby d8_27) rfl (pc' := 29) rfl ?_
    refine w_laloadL (i := 0) (jn := (pf + 1)) X0 hx hZ P0 rfl hk0 (hb hby d8_29) (own_oN (by omega)) (own_llt hpP (by omega)) (pc' := 30) rfl ?_
    refine w_lcmp_gt X0 hx (hb hby d8_30) rfl (hb hby d8_31) (by decide) (pcY := 38) (by decide) (pc' := 34) rfl (fun h2 => absurd h2 (own_nlt (hmin _ (by omega) (by omega) (own_neI h1n)))) (fun h2 => ?_)
    refine w_iconst (v := (1 : Int32)) X0 hx (hb hby d8_34) rfl (pc' := 35) rfl ?_
    refine w_goto X0 hx (hb hby d8_35) (by decide) (pc' := 39) (by decide) ?_
    exact w_ret_n (t := .boolean) X0 hx hret hlk (by simp) (hb hby d8_39) (z' := (1 : Int32)) rfl (by decide) (by decide) ⟨rfl, N0, P0⟩
  · have h1n : (pf + 1) = pc_ := (own_oeq (a := (pf + 1)) (b := pc_) (by omega) (by omega)).mp h1
    refine w_iconst (v := (1 : Int32)) X0 hx (hb hby d8_20) rfl (pc' := 21) rfl ?_
    exact w_ret_n (t := .boolean) X0 hx hret hlk (by simp) (hb hby d8_21) (z' := (1 : Int32)) rfl (by decide) (by decide) ⟨rfl, N0, P0⟩
theorem ef_nc42 (m : MethodId) (n0 : Nat) (pf : Nat) (pc_ : Nat) (pr : Nat) : entryFrame m #[.ref (n0 + 0), .int (Int32.ofNat pf), .int (4 : Int32), .int (Int32.ofNat pc_), .int (Int32.ofNat pr), .int (2 : Int32)] 7 = mkF m 0 #[.val (.ref (n0 + 0)), .val (.int (Int32.ofNat pf)), .val (.int (4 : Int32)), .val (.int (Int32.ofNat pc_)), .val (.int (Int32.ofNat pr)), .val (.int (2 : Int32)), .unset] [] := by first | (simp [entryFrame, mkF, argsToLocals, Value.category]; done) | rfl
def Q_nc42 (Z : State) (n0 : Nat) (k0 : ClassId) (pP : List Int64) (cr : List Jvm.Cell) (pf : Nat) (pc_ : Nat) (pr : Nat) (v : Option Value) (h : Heap) (L : List Loc) : Prop := v = some (.int (1 : Int32)) ∧ Fr n0 L ∧ HP n0 h (AC k0 (List.map Value.long pP) :: cr)
set_option maxRecDepth 65536 in
set_option maxHeartbeats 40000000 in
theorem rm_nc42 (l : Launch) (Z : State) (a0 : Array Value) (hw : ∀ d ∈ tables_1, d.before a0 Z = true) (ws : List Jvm.Cond) (n0 : Nat) (k0 : ClassId) (pP : List Int64) (cr : List Jvm.Cell) (pf : Nat) (pc_ : Nat) (pr : Nat) (h0 : Heap) (P0 : HP n0 h0 (AC k0 (List.map Value.long pP) :: cr)) (hk0 : IsA Z k0 .long) (hpP : pP.length = pf + 4) (hpf : pf < 2) (hc : pc_ < pf + 4) (hr : pr < pf + 4) (hmin : ∀ d, pf ≤ d → d < pf + 4 → own_ne d pc_ → own_p pP pr ≤ own_p pP d) :
    MetFree l (⟨"com/example/bidcrier/bidcrier/CheapestColumnsSecondCheapestPinLaw", "noCheaper", "([JIIIII)Z"⟩ : MethodName) (head1 (Jvm.Cond.code (⟨"com/example/bidcrier/bidcrier/CheapestColumnsSecondCheapestPinLaw", "noCheaper", "([JIIIII)Z"⟩ : MethodName) method_3_code 7 (some .boolean) :: ws) ({ frames := 0, cells := 0, slots := 0, locals := 0 } : Room)) (fun aa U => aa = #[.ref (n0 + 0), .int (Int32.ofNat pf), .int (4 : Int32), .int (Int32.ofNat pc_), .int (Int32.ofNat pr), .int (2 : Int32)] ∧ Z.Warmed39 U.vm ∧ U.heap = h0) (fun _ _ _ _ _ => True) (fun _ U o U' => ∃ v L, o = .returned v ∧ Q_nc42 Z n0 k0 pP cr pf pc_ pr v U'.heap L ∧ FrameEnd U o U' L ({ frames := 0, cells := 0, slots := 0, locals := 0 } : Room).cells ({ frames := 0, cells := 0, slots := 0, locals := 0 } : Room).slots) := by
  refine own_body pn8 ?_
  intro p e s m below meth c T0 hx hby hml hret hlk hown hnm hZ X0 e0
  subst e0
  have N0 : Fr n0 [] := Fr.nil n0
  refine own_cast (ef_nc42 m n0 pf pc_ pr) ?_
  refine w_iload X0 hx (hb hby d8_0) rfl (pc' := 2) rfl ?_
  refine w_iloadN X0 hx (hb hby d8_2) rfl (pc' := 3) rfl ?_
  refine w_icmp_lt X0 hx (hb hby d8_3) (by decide) (pcY := 8) (by decide) (pc' := 6) rfl (fun h0 => ?_) (fun h0 => absurd h0 (by decide))
  refine w_iloadN X0 hx (hb hby d8_8) rfl (pc' := 9) rfl ?_
  refine w_iload X0 hx (hb hby d8_9) rfl (pc' := 11) rfl ?_
  refine w_iadd X0 hx (hb hby d8_11) (pc' := 12) rfl ?_
  refine w_eqI (z := (Int32.ofNat (pf + 2))) (own_oadd pf 2) ?_
  refine w_istore (l' := #[.val (.ref (n0 + 0)), .val (.int (Int32.ofNat pf)), .val (.int (4 : Int32)), .val (.int (Int32.ofNat pc_)), .val (.int (Int32.ofNat pr)), .val (.int (2 : Int32)), .val (.int (Int32.ofNat (pf + 2)))]) X0 hx (hb hby d8_12) rfl (pc' := 14) rfl ?_
  refine w_iload X0 hx (hb hby d8_14) rfl (pc' := 16) rfl ?_
  refine w_iloadN X0 hx (hb hby d8_16) rfl (pc' := 17) rfl ?_
  refine w_icmp_ne X0 hx (hb hby d8_17) (by decide) (pcY := 22) (by decide) (pc' := 20) rfl (fun h1 => ?_) (fun h1 => ?_)
  · have h1n : ¬ (pf + 2) = pc_ := fun q => h1 ((own_oeq (a := (pf + 2)) (b := pc_) (by omega) (by omega)).mpr q)
    refine w_aloadN X0 hx (hb hby d8_22) rfl rfl (pc' := 23) rfl ?_
    refine w_iload X0 hx (hb hby d8_23) rfl (pc' := 25) rfl ?_
    refine w_laloadL (i := 0) (jn := pr) X0 hx hZ P0 rfl hk0 (hb hby d8_25) (own_oN (by omega)) (own_llt hpP (by omega)) (pc' := 26) rfl ?_
    refine w_aloadN X0 hx (hb hby d8_26) rfl rfl (pc' := 27) rfl ?_
    refine w_iload X0 hx (hb hby d8_27) rfl (pc' := 29) rfl ?_
    refine w_laloadL (i := 0) (jn := (pf + 2)) X0 hx hZ P0 rfl hk0 (hb hby d8_29) (own_oN (by omega)) (own_llt hpP (by omega)) (pc' := 30) rfl ?_
    refine w_lcmp_gt X0 hx (hb hby d8_30) rfl (hb hby d8_31) (by decide) (pcY := 38) (by decide) (pc' := 34) rfl (fun h2 => absurd h2 (own_nlt (hmin _ (by omega) (by omega) (own_neI h1n)))) (fun h2 => ?_)
    refine w_iconst (v := (1 : Int32)) X0 hx (hb hby d8_34) rfl (pc' := 35) rfl ?_
    refine w_goto X0 hx (hb hby d8_35) (by decide) (pc' := 39) (by decide) ?_
    exact w_ret_n (t := .boolean) X0 hx hret hlk (by simp) (hb hby d8_39) (z' := (1 : Int32)) rfl (by decide) (by decide) ⟨rfl, N0, P0⟩
  · have h1n : (pf + 2) = pc_ := (own_oeq (a := (pf + 2)) (b := pc_) (by omega) (by omega)).mp h1
    refine w_iconst (v := (1 : Int32)) X0 hx (hb hby d8_20) rfl (pc' := 21) rfl ?_
    exact w_ret_n (t := .boolean) X0 hx hret hlk (by simp) (hb hby d8_21) (z' := (1 : Int32)) rfl (by decide) (by decide) ⟨rfl, N0, P0⟩
theorem ef_nc43 (m : MethodId) (n0 : Nat) (pf : Nat) (pc_ : Nat) (pr : Nat) : entryFrame m #[.ref (n0 + 0), .int (Int32.ofNat pf), .int (4 : Int32), .int (Int32.ofNat pc_), .int (Int32.ofNat pr), .int (3 : Int32)] 7 = mkF m 0 #[.val (.ref (n0 + 0)), .val (.int (Int32.ofNat pf)), .val (.int (4 : Int32)), .val (.int (Int32.ofNat pc_)), .val (.int (Int32.ofNat pr)), .val (.int (3 : Int32)), .unset] [] := by first | (simp [entryFrame, mkF, argsToLocals, Value.category]; done) | rfl
def Q_nc43 (Z : State) (n0 : Nat) (k0 : ClassId) (pP : List Int64) (cr : List Jvm.Cell) (pf : Nat) (pc_ : Nat) (pr : Nat) (v : Option Value) (h : Heap) (L : List Loc) : Prop := v = some (.int (1 : Int32)) ∧ Fr n0 L ∧ HP n0 h (AC k0 (List.map Value.long pP) :: cr)
set_option maxRecDepth 65536 in
set_option maxHeartbeats 40000000 in
theorem rm_nc43 (l : Launch) (Z : State) (a0 : Array Value) (hw : ∀ d ∈ tables_1, d.before a0 Z = true) (ws : List Jvm.Cond) (n0 : Nat) (k0 : ClassId) (pP : List Int64) (cr : List Jvm.Cell) (pf : Nat) (pc_ : Nat) (pr : Nat) (h0 : Heap) (P0 : HP n0 h0 (AC k0 (List.map Value.long pP) :: cr)) (hk0 : IsA Z k0 .long) (hpP : pP.length = pf + 4) (hpf : pf < 2) (hc : pc_ < pf + 4) (hr : pr < pf + 4) (hmin : ∀ d, pf ≤ d → d < pf + 4 → own_ne d pc_ → own_p pP pr ≤ own_p pP d) :
    MetFree l (⟨"com/example/bidcrier/bidcrier/CheapestColumnsSecondCheapestPinLaw", "noCheaper", "([JIIIII)Z"⟩ : MethodName) (head1 (Jvm.Cond.code (⟨"com/example/bidcrier/bidcrier/CheapestColumnsSecondCheapestPinLaw", "noCheaper", "([JIIIII)Z"⟩ : MethodName) method_3_code 7 (some .boolean) :: ws) ({ frames := 0, cells := 0, slots := 0, locals := 0 } : Room)) (fun aa U => aa = #[.ref (n0 + 0), .int (Int32.ofNat pf), .int (4 : Int32), .int (Int32.ofNat pc_), .int (Int32.ofNat pr), .int (3 : Int32)] ∧ Z.Warmed39 U.vm ∧ U.heap = h0) (fun _ _ _ _ _ => True) (fun _ U o U' => ∃ v L, o = .returned v ∧ Q_nc43 Z n0 k0 pP cr pf pc_ pr v U'.heap L ∧ FrameEnd U o U' L ({ frames := 0, cells := 0, slots := 0, locals := 0 } : Room).cells ({ frames := 0, cells := 0, slots := 0, locals := 0 } : Room).slots) := by
  refine own_body pn8 ?_
  intro p e s m below meth c T0 hx hby hml hret hlk hown hnm hZ X0 e0
  subst e0
  have N0 : Fr n0 [] := Fr.nil n0
  refine own_cast (ef_nc43 m n0 pf pc_ pr) ?_
  refine w_iload X0 hx (hb hby d8_0) rfl (pc' := 2) rfl ?_
  refine w_iloadN X0 hx (hb hby d8_2) rfl (pc' := 3) rfl ?_
  refine w_icmp_lt X0 hx (hb hby d8_3) (by decide) (pcY := 8) (by decide) (pc' := 6) rfl (fun h0 => ?_) (fun h0 => absurd h0 (by decide))
  refine w_iloadN X0 hx (hb hby d8_8) rfl (pc' := 9) rfl ?_
  refine w_iload X0 hx (hb hby d8_9) rfl (pc' := 11) rfl ?_
  refine w_iadd X0 hx (hb hby d8_11) (pc' := 12) rfl ?_
  refine w_eqI (z := (Int32.ofNat (pf + 3))) (own_oadd pf 3) ?_
  refine w_istore (l' := #[.val (.ref (n0 + 0)), .val (.int (Int32.ofNat pf)), .val (.int (4 : Int32)), .val (.int (Int32.ofNat pc_)), .val (.int (Int32.ofNat pr)), .val (.int (3 : Int32)), .val (.int (Int32.ofNat (pf + 3)))]) X0 hx (hb hby d8_12) rfl (pc' := 14) rfl ?_
  refine w_iload X0 hx (hb hby d8_14) rfl (pc' := 16) rfl ?_
  refine w_iloadN X0 hx (hb hby d8_16) rfl (pc' := 17) rfl ?_
  refine w_icmp_ne X0 hx (hb hby d8_17) (by decide) (pcY := 22) (by decide) (pc' := 20) rfl (fun h1 => ?_) (fun h1 => ?_)
  · have h1n : ¬ (pf + 3) = pc_ := fun q => h1 ((own_oeq (a := (pf + 3)) (b := pc_) (by omega) (by omega)).mpr q)
    refine w_aloadN X0 hx (hb hby d8_22) rfl rfl (pc' := 23) rfl ?_
    refine w_iload X0 hx (hb hby d8_23) rfl (pc' := 25) rfl ?_
    refine w_laloadL (i := 0) (jn := pr) X0 hx hZ P0 rfl hk0 (hb hby d8_25) (own_oN (by omega)) (own_llt hpP (by omega)) (pc' := 26) rfl ?_
    refine w_aloadN X0 hx (hb hby d8_26) rfl rfl (pc' := 27) rfl ?_
    refine w_iload X0 hx (hb hby d8_27) rfl (pc' := 29) rfl ?_
    refine w_laloadL (i := 0) (jn := (pf + 3)) X0 hx hZ P0 rfl hk0 (hb hby d8_29) (own_oN (by omega)) (own_llt hpP (by omega)) (pc' := 30) rfl ?_
    refine w_lcmp_gt X0 hx (hb hby d8_30) rfl (hb hby d8_31) (by decide) (pcY := 38) (by decide) (pc' := 34) rfl (fun h2 => absurd h2 (own_nlt (hmin _ (by omega) (by omega) (own_neI h1n)))) (fun h2 => ?_)
    refine w_iconst (v := (1 : Int32)) X0 hx (hb hby d8_34) rfl (pc' := 35) rfl ?_
    refine w_goto X0 hx (hb hby d8_35) (by decide) (pc' := 39) (by decide) ?_
    exact w_ret_n (t := .boolean) X0 hx hret hlk (by simp) (hb hby d8_39) (z' := (1 : Int32)) rfl (by decide) (by decide) ⟨rfl, N0, P0⟩
  · have h1n : (pf + 3) = pc_ := (own_oeq (a := (pf + 3)) (b := pc_) (by omega) (by omega)).mp h1
    refine w_iconst (v := (1 : Int32)) X0 hx (hb hby d8_20) rfl (pc' := 21) rfl ?_
    exact w_ret_n (t := .boolean) X0 hx hret hlk (by simp) (hb hby d8_21) (z' := (1 : Int32)) rfl (by decide) (by decide) ⟨rfl, N0, P0⟩
theorem pn0 : plainFor (⟨"com/example/bidcrier/bidcrier/CheapestColumnsSecondCheapestPinLaw", "law", "(IJJJJJ)Z"⟩ : MethodName) = true := plainFor_of_name (by first | (simp [plainName, overriddenIn]; done) | decide +kernel)
theorem pd0 : parseMethodDescriptor (⟨"com/example/bidcrier/bidcrier/CheapestColumnsSecondCheapestPinLaw", "law", "(IJJJJJ)Z"⟩ : MethodName).desc = some ⟨[.int, .long, .long, .long, .long, .long], some .boolean⟩ := by decide +kernel
theorem ef0 (m : MethodId) (x0 : Int32) (x1 : Int64) (x2 : Int64) (x3 : Int64) (x4 : Int64) (x5 : Int64) : entryFrame m #[Value.int x0, Value.long x1, Value.long x2, Value.long x3, Value.long x4, Value.long x5] maxLocals = mkF m 0 #[.val (.int x0), .val (.long x1), .second, .val (.long x2), .second, .val (.long x3), .second, .val (.long x4), .second, .val (.long x5), .second, .unset, .unset, .unset, .unset, .unset, .unset, .unset, .unset] [] := by first | (simp [entryFrame, mkF, argsToLocals, Value.category, maxLocals]; done) | rfl
def LawQ (n0 : Nat) (v : Option Value) (h : Heap) (L : List Loc) : Prop := v = some (.int 1) ∧ Fr n0 L
set_option maxRecDepth 65536 in
set_option maxHeartbeats 40000000 in
theorem rm0 (l : Launch) (Z : State) (a0 : Array Value) (hw : ∀ d ∈ tables_1, d.before a0 Z = true) (ws : List Jvm.Cond) (x0 : Int32) (x1 : Int64) (x2 : Int64) (x3 : Int64) (x4 : Int64) (x5 : Int64) (h0 : Heap) (n0 : Nat) (Z0 : h0.size = n0) :
    MetFree l x (head1 (Jvm.Cond.code x code maxLocals ret :: ws) room_1) (fun aa U => aa = #[Value.int x0, Value.long x1, Value.long x2, Value.long x3, Value.long x4, Value.long x5] ∧ Z.Warmed39 U.vm ∧ U.heap = h0) (fun _ _ _ _ _ => True) (fun _ U o U' => ∃ v L, o = .returned v ∧ LawQ n0 v U'.heap L ∧ FrameEnd U o U' L room_1.cells room_1.slots) := by
  refine own_body pn0 ?_
  intro p e s m below meth c T0 hx hby hml hret hlk hown hnm hZ X0 e0
  subst e0 Z0
  have P0 := HP.nil T0.heap
  generalize T0.heap.size = n0 at P0 ⊢
  have N0 : Fr n0 [] := Fr.nil n0
  refine own_cast (ef0 m x0 x1 x2 x3 x4 x5) ?_
  obtain ⟨tf, htf, etf⟩ := own_andk (XT.ushr x0 2) 1 1 (by decide)
  have Jc1 : ∀ (T1 : State) (L1 : List Loc) (tf13 : Int32) (tj : Nat) (tP : List Int64) (tk : ClassId), Fr n0 L1 → Stand p l e room_1 s m #[Value.int x0, Value.long x1, Value.long x2, Value.long x3, Value.long x4, Value.long x5] below meth c T1 L1 1 5 → tj < 1 → IsA Z tk .long → tP.length = tf + 1 → HP n0 T1.heap [AC tk (List.map Value.long tP)] → Wp p e s below room_1.cells room_1.slots (LawQ n0) T1 (mkF m 111 #[.val (.int x0), .val (.long x1), .second, .val (.long x2), .second, .val (.long x3), .second, .val (.long x4), .second, .val (.long x5), .second, .val (.int (1 : Int32)), .val (.int (Int32.ofNat tf)), .val (.int tf13), .val (.int (Int32.ofNat tj)), .val (.ref (n0 + 0)), .unset, .unset, .unset] []) := by
    intro T1 L1 tf13 tj tP tk N1 X1 htj thk htP P1
    refine w_new (j := 1) X1 hx hZ hown (wd1 hw) (wd2 hw) (wd3 hw) P1 fl_C0 dv_C0 rfl (ly_C0 hw) (hb hby at_111) (by decide) (by decide) rfl (pc' := 114) rfl ?_
    intro T2 c1 X2 P2 F1
    replace P2 : HP n0 T2.heap [AC tk (List.map Value.long tP), c1] := P2
    refine w_dup X2 hx (hb hby at_114) rfl (pc' := 115) rfl ?_
    refine w_aload X2 hx (hb hby at_115) rfl rfl (pc' := 117) rfl ?_
    refine w_iload X2 hx (hb hby at_117) rfl (pc' := 119) rfl ?_
    refine own_callI (W := 1) X2 hx hZ rfl rfl hown hml.symm (wd4 hw) (wd5 hw) (wd3 hw) (wd6 hw) (rm_ini1 l Z a0 hw [] n0 tk c1 tP tf _ P2 thk F1 htP (by omega)) (by decide) (by decide) (by decide) (by decide) (by decide) (a := (n0 + 1)) (argsL := [.ref (n0 + 0), .int (Int32.ofNat tf)]) (rest := [.ref (n0 + 1)]) pd1 rfl rfl rfl (Nat.le_of_eq rfl) (hb hby at_119) (pc' := 122) rfl ?_
    intro v3 T3 L2 X3 hq
    obtain ⟨rfl, N2, oc1, Fc1, kc1, hkc1, kd1, hkd1, b1_0, Q1_, hI1, hO1, P3⟩ := hq
    replace N2 := Fr.app N1 N2
    replace P3 : HP n0 T3.heap [AC tk (List.map Value.long tP), oc1, AC kc1 [.int (Int32.ofNat b1_0)], AC kd1 (List.map Value.int Q1_)] := P3
    refine w_astore (l' := #[.val (.int x0), .val (.long x1), .second, .val (.long x2), .second, .val (.long x3), .second, .val (.long x4), .second, .val (.long x5), .second, .val (.int (1 : Int32)), .val (.int (Int32.ofNat tf)), .val (.int tf13), .val (.int (Int32.ofNat tj)), .val (.ref (n0 + 0)), .val (.ref (n0 + 1)), .unset, .unset]) X3 hx (hb hby at_122) rfl rfl (pc' := 124) rfl ?_
    refine w_iload X3 hx (hb hby at_124) rfl (pc' := 126) rfl ?_
    refine w_if_eq X3 hx (hb hby at_126) (by decide) (pcY := 158) (by decide) (pc' := 129) rfl (fun h0 => ?_) (fun h0 => ?_)
    · refine w_aload X3 hx (hb hby at_158) rfl rfl (pc' := 160) rfl ?_
      obtain ⟨jlen, jl0, ju0, jcov, jq0⟩ := hI1
      refine own_callV (W := 0) X3 hx hZ rfl hown hml.symm (wd19 hw) (wd20 hw) (wd22 hw) (wd21 hw) (wd3 hw) (wd23 hw) (rm_ch1 l Z a0 hw [] n0 (AC tk (List.map Value.long tP)) oc1 kc1 (AC kd1 (List.map Value.int Q1_)) tf (Int32.ofNat b1_0) _ P3 hkc1 Fc1) (a := (n0 + 1)) (P3.exa (i := 1) rfl Fc1.1) (by decide) (by decide) (by decide) (by decide) (by decide) (argsL := []) (rest := []) pd3 rfl rfl rfl (Nat.le_of_eq rfl) (hb hby at_160) (pc' := 163) rfl ?_
      intro v4 T4 L3 X4 hq
      obtain ⟨rfl, N3, P4⟩ := hq
      replace N3 := Fr.app N2 N3
      replace P4 : HP n0 T4.heap [AC tk (List.map Value.long tP), oc1, AC kc1 [.int (Int32.ofNat b1_0)], AC kd1 (List.map Value.int Q1_)] := P4
      refine w_istore (l' := #[.val (.int x0), .val (.long x1), .second, .val (.long x2), .second, .val (.long x3), .second, .val (.long x4), .second, .val (.long x5), .second, .val (.int (1 : Int32)), .val (.int (Int32.ofNat tf)), .val (.int tf13), .val (.int (Int32.ofNat tj)), .val (.ref (n0 + 0)), .val (.ref (n0 + 1)), .val (.int (Int32.ofNat b1_0)), .unset]) X4 hx (hb hby at_163) rfl (pc' := 165) rfl ?_
      refine w_aload X4 hx (hb hby at_165) rfl rfl (pc' := 167) rfl ?_
      refine own_callV (W := 0) X4 hx hZ rfl hown hml.symm (wd24 hw) (wd25 hw) (wd27 hw) (wd26 hw) (wd3 hw) (wd28 hw) (rm_sec1 l Z a0 hw [] n0 tk oc1 kc1 (AC kd1 (List.map Value.int Q1_)) tP tf b1_0 _ P4 thk hkc1 Fc1 htP (by omega) ju0) (a := (n0 + 1)) (P4.exa (i := 1) rfl Fc1.1) (by decide) (by decide) (by decide) (by decide) (by decide) (argsL := []) (rest := []) pd4 rfl rfl rfl (Nat.le_of_eq rfl) (hb hby at_167) (pc' := 170) rfl ?_
      intro v5 T5 L4 X5 hq
      obtain ⟨rfl, N4, P5⟩ := hq
      replace N4 := Fr.app N3 N4
      replace P5 : HP n0 T5.heap [AC tk (List.map Value.long tP), oc1, AC kc1 [.int (Int32.ofNat b1_0)], AC kd1 (List.map Value.int Q1_)] := P5
      refine w_istore (l' := #[.val (.int x0), .val (.long x1), .second, .val (.long x2), .second, .val (.long x3), .second, .val (.long x4), .second, .val (.long x5), .second, .val (.int (1 : Int32)), .val (.int (Int32.ofNat tf)), .val (.int tf13), .val (.int (Int32.ofNat tj)), .val (.ref (n0 + 0)), .val (.ref (n0 + 1)), .val (.int (Int32.ofNat b1_0)), .val (.int (-1 : Int32))]) X5 hx (hb hby at_170) rfl (pc' := 172) rfl ?_
      refine w_iload X5 hx (hb hby at_172) rfl (pc' := 174) rfl ?_
      refine w_iload X5 hx (hb hby at_174) rfl (pc' := 176) rfl ?_
      refine w_icmp_lt X5 hx (hb hby at_176) (by decide) (pcY := 189) (by decide) (pc' := 179) rfl (fun h1 => absurd ((own_olt (a := b1_0) (b := tf) (by omega) (by omega)).mp h1) (by omega)) (fun h1 => ?_)
      refine w_iload X5 hx (hb hby at_179) rfl (pc' := 181) rfl ?_
      refine w_iload X5 hx (hb hby at_181) rfl (pc' := 183) rfl ?_
      refine w_iload X5 hx (hb hby at_183) rfl (pc' := 185) rfl ?_
      refine w_iadd X5 hx (hb hby at_185) (pc' := 186) rfl ?_
      refine w_eqI (z := (Int32.ofNat (tf + 1))) (own_oadd tf 1) ?_
      refine w_icmp_lt X5 hx (hb hby at_186) (by decide) (pcY := 191) (by decide) (pc' := 189) rfl (fun h2 => ?_) (fun h2 => absurd ((own_olt (a := b1_0) (b := tf + 1) (by omega) (by omega)).mpr (by omega)) h2)
      refine w_iload X5 hx (hb hby at_191) rfl (pc' := 193) rfl ?_
      refine w_iconst (v := (1 : Int32)) X5 hx (hb hby at_193) rfl (pc' := 194) rfl ?_
      refine w_icmp_ne X5 hx (hb hby at_194) (by decide) (pcY := 209) (by decide) (pc' := 197) rfl (fun h3 => absurd h3 (by decide)) (fun h3 => ?_)
      refine w_iload X5 hx (hb hby at_197) rfl (pc' := 199) rfl ?_
      refine w_iconst (v := (-1 : Int32)) X5 hx (hb hby at_199) rfl (pc' := 200) rfl ?_
      refine w_icmp_ne X5 hx (hb hby at_200) (by decide) (pcY := 207) (by decide) (pc' := 203) rfl (fun h4 => absurd h4 (by decide)) (fun h4 => ?_)
      refine w_iconst (v := (1 : Int32)) X5 hx (hb hby at_203) rfl (pc' := 204) rfl ?_
      refine w_goto X5 hx (hb hby at_204) (by decide) (pc' := 208) (by decide) ?_
      exact w_ret_n (t := .boolean) X5 hx hret hlk (by simp) (hb hby at_208) (z' := (1 : Int32)) rfl (by decide) (by decide) ⟨rfl, N4⟩
    · refine w_iload X3 hx (hb hby at_129) rfl (pc' := 131) rfl ?_
      refine w_iload X3 hx (hb hby at_131) rfl (pc' := 133) rfl ?_
      refine w_iadd X3 hx (hb hby at_133) (pc' := 134) rfl ?_
      refine w_eqI (z := (Int32.ofNat (tf + tj))) (own_oadd tf tj) ?_
      refine w_istore (l' := #[.val (.int x0), .val (.long x1), .second, .val (.long x2), .second, .val (.long x3), .second, .val (.long x4), .second, .val (.long x5), .second, .val (.int (1 : Int32)), .val (.int (Int32.ofNat tf)), .val (.int tf13), .val (.int (Int32.ofNat tj)), .val (.ref (n0 + 0)), .val (.ref (n0 + 1)), .val (.int (Int32.ofNat (tf + tj))), .unset]) X3 hx (hb hby at_134) rfl (pc' := 136) rfl ?_
      refine w_aload X3 hx (hb hby at_136) rfl rfl (pc' := 138) rfl ?_
      refine w_iload X3 hx (hb hby at_138) rfl (pc' := 140) rfl ?_
      refine w_aload X3 hx (hb hby at_140) rfl rfl (pc' := 142) rfl ?_
      refine w_iload X3 hx (hb hby at_142) rfl (pc' := 144) rfl ?_
      refine w_laloadL (i := 0) (jn := (tf + tj)) X3 hx hZ P3 rfl thk (hb hby at_144) (own_oN (by omega)) (own_llt htP (by omega)) (pc' := 145) rfl ?_
      refine w_lload X3 hx (hb hby at_145) rfl (pc' := 147) rfl ?_
      refine w_callP (W := 2) X3 hx hZ rfl hown hml.symm (wd33 hw) (wd34 hw) (wd35 hw) (wd36 hw) (rm6 l Z a0 hw [] (tP.getD (tf + tj) 0) x5 _) (by decide) (by decide) (by decide) rfl rfl (by decide) (by decide) (argsL := [.long (tP.getD (tf + tj) 0), .long x5]) (rest := [.int (Int32.ofNat (tf + tj)), .ref (n0 + 0)]) pd6 rfl rfl rfl (Nat.le_of_eq rfl) (hb hby at_147) (pc' := 150) rfl ?_
      intro T6 X6 e6
      have P6 : HP n0 T6.heap [AC tk (List.map Value.long tP), oc1, AC kc1 [.int (Int32.ofNat b1_0)], AC kd1 (List.map Value.int Q1_)] := by rw [e6]; exact P3
      refine w_lastoreL (i := 0) (jn := (tf + tj)) X6 hx hZ N2 P6 rfl thk (hb hby at_150) (own_oN (by omega)) (own_llt htP (by omega)) (pc' := 151) rfl ?_
      intro T7 L5 N5 X7 P7
      replace P7 : HP n0 T7.heap [AC tk (List.map Value.long (tP.set (tf + tj) (sp6 (tP.getD (tf + tj) 0) x5))), oc1, AC kc1 [.int (Int32.ofNat b1_0)], AC kd1 (List.map Value.int Q1_)] := P7
      refine w_aload X7 hx (hb hby at_151) rfl rfl (pc' := 153) rfl ?_
      refine w_iload X7 hx (hb hby at_153) rfl (pc' := 155) rfl ?_
      refine own_callV (W := 0) X7 hx hZ rfl hown hml.symm (wd37 hw) (wd38 hw) (wd40 hw) (wd39 hw) (wd3 hw) (wd41 hw) (rm_ra1 l Z a0 hw [] n0 tk oc1 kc1 kd1 (tP.set (tf + tj) (sp6 (tP.getD (tf + tj) 0) x5)) tf b1_0 Q1_ tP (tf + tj) _ P7 thk hkc1 hkd1 Fc1 (own_sl htP) (by omega) hI1 hO1 (by omega) (by omega) (fun d h => own_R1 h) (own_R2 htP (by omega))) (a := (n0 + 1)) (P7.exa (i := 1) rfl Fc1.1) (by decide) (by decide) (by decide) (by decide) (by decide) (argsL := [.int (Int32.ofNat (tf + tj))]) (rest := []) pd7 rfl rfl rfl (Nat.le_of_eq rfl) (hb hby at_155) (pc' := 158) rfl ?_
      intro v8 T8 L6 X8 hq
      obtain ⟨rfl, N6, b2_0, Q2_, hI2, hO2, P8⟩ := hq
      replace N6 := Fr.app N5 N6
      replace P8 : HP n0 T8.heap [AC tk (List.map Value.long (tP.set (tf + tj) (sp6 (tP.getD (tf + tj) 0) x5))), oc1, AC kc1 [.int (Int32.ofNat b2_0)], AC kd1 (List.map Value.int Q2_)] := P8
      refine w_aload X8 hx (hb hby at_158) rfl rfl (pc' := 160) rfl ?_
      obtain ⟨jlen, jl0, ju0, jcov, jq0⟩ := hI2
      refine own_callV (W := 0) X8 hx hZ rfl hown hml.symm (wd19 hw) (wd20 hw) (wd22 hw) (wd21 hw) (wd3 hw) (wd23 hw) (rm_ch1 l Z a0 hw [] n0 (AC tk (List.map Value.long (tP.set (tf + tj) (sp6 (tP.getD (tf + tj) 0) x5)))) oc1 kc1 (AC kd1 (List.map Value.int Q2_)) tf (Int32.ofNat b2_0) _ P8 hkc1 Fc1) (a := (n0 + 1)) (P8.exa (i := 1) rfl Fc1.1) (by decide) (by decide) (by decide) (by decide) (by decide) (argsL := []) (rest := []) pd3 rfl rfl rfl (Nat.le_of_eq rfl) (hb hby at_160) (pc' := 163) rfl ?_
      intro v9 T9 L7 X9 hq
      obtain ⟨rfl, N7, P9⟩ := hq
      replace N7 := Fr.app N6 N7
      replace P9 : HP n0 T9.heap [AC tk (List.map Value.long (tP.set (tf + tj) (sp6 (tP.getD (tf + tj) 0) x5))), oc1, AC kc1 [.int (Int32.ofNat b2_0)], AC kd1 (List.map Value.int Q2_)] := P9
      refine w_istore (l' := #[.val (.int x0), .val (.long x1), .second, .val (.long x2), .second, .val (.long x3), .second, .val (.long x4), .second, .val (.long x5), .second, .val (.int (1 : Int32)), .val (.int (Int32.ofNat tf)), .val (.int tf13), .val (.int (Int32.ofNat tj)), .val (.ref (n0 + 0)), .val (.ref (n0 + 1)), .val (.int (Int32.ofNat b2_0)), .unset]) X9 hx (hb hby at_163) rfl (pc' := 165) rfl ?_
      refine w_aload X9 hx (hb hby at_165) rfl rfl (pc' := 167) rfl ?_
      refine own_callV (W := 0) X9 hx hZ rfl hown hml.symm (wd24 hw) (wd25 hw) (wd27 hw) (wd26 hw) (wd3 hw) (wd28 hw) (rm_sec1 l Z a0 hw [] n0 tk oc1 kc1 (AC kd1 (List.map Value.int Q2_)) (tP.set (tf + tj) (sp6 (tP.getD (tf + tj) 0) x5)) tf b2_0 _ P9 thk hkc1 Fc1 (own_sl htP) (by omega) ju0) (a := (n0 + 1)) (P9.exa (i := 1) rfl Fc1.1) (by decide) (by decide) (by decide) (by decide) (by decide) (argsL := []) (rest := []) pd4 rfl rfl rfl (Nat.le_of_eq rfl) (hb hby at_167) (pc' := 170) rfl ?_
      intro v10 T10 L8 X10 hq
      obtain ⟨rfl, N8, P10⟩ := hq
      replace N8 := Fr.app N7 N8
      replace P10 : HP n0 T10.heap [AC tk (List.map Value.long (tP.set (tf + tj) (sp6 (tP.getD (tf + tj) 0) x5))), oc1, AC kc1 [.int (Int32.ofNat b2_0)], AC kd1 (List.map Value.int Q2_)] := P10
      refine w_istore (l' := #[.val (.int x0), .val (.long x1), .second, .val (.long x2), .second, .val (.long x3), .second, .val (.long x4), .second, .val (.long x5), .second, .val (.int (1 : Int32)), .val (.int (Int32.ofNat tf)), .val (.int tf13), .val (.int (Int32.ofNat tj)), .val (.ref (n0 + 0)), .val (.ref (n0 + 1)), .val (.int (Int32.ofNat b2_0)), .val (.int (-1 : Int32))]) X10 hx (hb hby at_170) rfl (pc' := 172) rfl ?_
      refine w_iload X10 hx (hb hby at_172) rfl (pc' := 174) rfl ?_
      refine w_iload X10 hx (hb hby at_174) rfl (pc' := 176) rfl ?_
      refine w_icmp_lt X10 hx (hb hby at_176) (by decide) (pcY := 189) (by decide) (pc' := 179) rfl (fun h5 => absurd ((own_olt (a := b2_0) (b := tf) (by omega) (by omega)).mp h5) (by omega)) (fun h5 => ?_)
      refine w_iload X10 hx (hb hby at_179) rfl (pc' := 181) rfl ?_
      refine w_iload X10 hx (hb hby at_181) rfl (pc' := 183) rfl ?_
      refine w_iload X10 hx (hb hby at_183) rfl (pc' := 185) rfl ?_
      refine w_iadd X10 hx (hb hby at_185) (pc' := 186) rfl ?_
      refine w_eqI (z := (Int32.ofNat (tf + 1))) (own_oadd tf 1) ?_
      refine w_icmp_lt X10 hx (hb hby at_186) (by decide) (pcY := 191) (by decide) (pc' := 189) rfl (fun h6 => ?_) (fun h6 => absurd ((own_olt (a := b2_0) (b := tf + 1) (by omega) (by omega)).mpr (by omega)) h6)
      refine w_iload X10 hx (hb hby at_191) rfl (pc' := 193) rfl ?_
      refine w_iconst (v := (1 : Int32)) X10 hx (hb hby at_193) rfl (pc' := 194) rfl ?_
      refine w_icmp_ne X10 hx (hb hby at_194) (by decide) (pcY := 209) (by decide) (pc' := 197) rfl (fun h7 => absurd h7 (by decide)) (fun h7 => ?_)
      refine w_iload X10 hx (hb hby at_197) rfl (pc' := 199) rfl ?_
      refine w_iconst (v := (-1 : Int32)) X10 hx (hb hby at_199) rfl (pc' := 200) rfl ?_
      refine w_icmp_ne X10 hx (hb hby at_200) (by decide) (pcY := 207) (by decide) (pc' := 203) rfl (fun h8 => absurd h8 (by decide)) (fun h8 => ?_)
      refine w_iconst (v := (1 : Int32)) X10 hx (hb hby at_203) rfl (pc' := 204) rfl ?_
      refine w_goto X10 hx (hb hby at_204) (by decide) (pc' := 208) (by decide) ?_
      exact w_ret_n (t := .boolean) X10 hx hret hlk (by simp) (hb hby at_208) (z' := (1 : Int32)) rfl (by decide) (by decide) ⟨rfl, N8⟩
  have Jc2 : ∀ (T11 : State) (L9 : List Loc) (tf13 : Int32) (tj : Nat) (tP : List Int64) (tk : ClassId), Fr n0 L9 → Stand p l e room_1 s m #[Value.int x0, Value.long x1, Value.long x2, Value.long x3, Value.long x4, Value.long x5] below meth c T11 L9 1 5 → tj < 2 → IsA Z tk .long → tP.length = tf + 2 → HP n0 T11.heap [AC tk (List.map Value.long tP)] → Wp p e s below room_1.cells room_1.slots (LawQ n0) T11 (mkF m 111 #[.val (.int x0), .val (.long x1), .second, .val (.long x2), .second, .val (.long x3), .second, .val (.long x4), .second, .val (.long x5), .second, .val (.int (2 : Int32)), .val (.int (Int32.ofNat tf)), .val (.int tf13), .val (.int (Int32.ofNat tj)), .val (.ref (n0 + 0)), .unset, .unset, .unset] []) := by
    intro T11 L9 tf13 tj tP tk N9 X11 htj thk htP P11
    refine w_new (j := 1) X11 hx hZ hown (wd1 hw) (wd2 hw) (wd3 hw) P11 fl_C0 dv_C0 rfl (ly_C0 hw) (hb hby at_111) (by decide) (by decide) rfl (pc' := 114) rfl ?_
    intro T12 c2 X12 P12 F2
    replace P12 : HP n0 T12.heap [AC tk (List.map Value.long tP), c2] := P12
    refine w_dup X12 hx (hb hby at_114) rfl (pc' := 115) rfl ?_
    refine w_aload X12 hx (hb hby at_115) rfl rfl (pc' := 117) rfl ?_
    refine w_iload X12 hx (hb hby at_117) rfl (pc' := 119) rfl ?_
    refine own_callI (W := 1) X12 hx hZ rfl rfl hown hml.symm (wd4 hw) (wd5 hw) (wd3 hw) (wd6 hw) (rm_ini2 l Z a0 hw [] n0 tk c2 tP tf _ P12 thk F2 htP (by omega)) (by decide) (by decide) (by decide) (by decide) (by decide) (a := (n0 + 1)) (argsL := [.ref (n0 + 0), .int (Int32.ofNat tf)]) (rest := [.ref (n0 + 1)]) pd1 rfl rfl rfl (Nat.le_of_eq rfl) (hb hby at_119) (pc' := 122) rfl ?_
    intro v13 T13 L10 X13 hq
    obtain ⟨rfl, N10, oc3, Fc3, kc3, hkc3, kd3, hkd3, b3_0, b3_1, Q3_, hI3, hO3, P13⟩ := hq
    replace N10 := Fr.app N9 N10
    replace P13 : HP n0 T13.heap [AC tk (List.map Value.long tP), oc3, AC kc3 [.int (Int32.ofNat b3_0), .int (Int32.ofNat b3_1)], AC kd3 (List.map Value.int Q3_)] := P13
    refine w_astore (l' := #[.val (.int x0), .val (.long x1), .second, .val (.long x2), .second, .val (.long x3), .second, .val (.long x4), .second, .val (.long x5), .second, .val (.int (2 : Int32)), .val (.int (Int32.ofNat tf)), .val (.int tf13), .val (.int (Int32.ofNat tj)), .val (.ref (n0 + 0)), .val (.ref (n0 + 1)), .unset, .unset]) X13 hx (hb hby at_122) rfl rfl (pc' := 124) rfl ?_
    refine w_iload X13 hx (hb hby at_124) rfl (pc' := 126) rfl ?_
    refine w_if_eq X13 hx (hb hby at_126) (by decide) (pcY := 158) (by decide) (pc' := 129) rfl (fun h9 => ?_) (fun h9 => ?_)
    · refine w_aload X13 hx (hb hby at_158) rfl rfl (pc' := 160) rfl ?_
      obtain ⟨jlen, jl0, jl1, ju0, ju1, jn01, jcov, jq0, jq1⟩ := hI3
      have hOO := hO3
      have m01 : own_p tP b3_0 ≤ own_p tP b3_1 := hO3
      refine own_callV (W := 0) X13 hx hZ rfl hown hml.symm (wd19 hw) (wd20 hw) (wd22 hw) (wd21 hw) (wd3 hw) (wd23 hw) (rm_ch2 l Z a0 hw [] n0 (AC tk (List.map Value.long tP)) oc3 kc3 (AC kd3 (List.map Value.int Q3_)) tf (Int32.ofNat b3_0) (Int32.ofNat b3_1) _ P13 hkc3 Fc3) (a := (n0 + 1)) (P13.exa (i := 1) rfl Fc3.1) (by decide) (by decide) (by decide) (by decide) (by decide) (argsL := []) (rest := []) pd3 rfl rfl rfl (Nat.le_of_eq rfl) (hb hby at_160) (pc' := 163) rfl ?_
      intro v14 T14 L11 X14 hq
      obtain ⟨rfl, N11, P14⟩ := hq
      replace N11 := Fr.app N10 N11
      replace P14 : HP n0 T14.heap [AC tk (List.map Value.long tP), oc3, AC kc3 [.int (Int32.ofNat b3_0), .int (Int32.ofNat b3_1)], AC kd3 (List.map Value.int Q3_)] := P14
      refine w_istore (l' := #[.val (.int x0), .val (.long x1), .second, .val (.long x2), .second, .val (.long x3), .second, .val (.long x4), .second, .val (.long x5), .second, .val (.int (2 : Int32)), .val (.int (Int32.ofNat tf)), .val (.int tf13), .val (.int (Int32.ofNat tj)), .val (.ref (n0 + 0)), .val (.ref (n0 + 1)), .val (.int (Int32.ofNat b3_0)), .unset]) X14 hx (hb hby at_163) rfl (pc' := 165) rfl ?_
      refine w_aload X14 hx (hb hby at_165) rfl rfl (pc' := 167) rfl ?_
      refine own_callV (W := 0) X14 hx hZ rfl hown hml.symm (wd24 hw) (wd25 hw) (wd27 hw) (wd26 hw) (wd3 hw) (wd28 hw) (rm_sec2 l Z a0 hw [] n0 tk oc3 kc3 (AC kd3 (List.map Value.int Q3_)) tP tf b3_0 b3_1 _ P14 thk hkc3 Fc3 htP (by omega) ju0 ju1) (a := (n0 + 1)) (P14.exa (i := 1) rfl Fc3.1) (by decide) (by decide) (by decide) (by decide) (by decide) (argsL := []) (rest := []) pd4 rfl rfl rfl (Nat.le_of_eq rfl) (hb hby at_167) (pc' := 170) rfl ?_
      intro v15 T15 L12 X15 hq
      obtain ⟨rfl, N12, P15⟩ := hq
      replace N12 := Fr.app N11 N12
      replace P15 : HP n0 T15.heap [AC tk (List.map Value.long tP), oc3, AC kc3 [.int (Int32.ofNat b3_0), .int (Int32.ofNat b3_1)], AC kd3 (List.map Value.int Q3_)] := P15
      have hmin : ∀ d, tf ≤ d → d < tf + 2 → own_ne d b3_0 → own_p tP b3_1 ≤ own_p tP d := fun d h1 h2 h3 => by
        rcases jcov d h1 h2 with q | q
        · exact absurd q h3
        · rw [q]; exact Int.le_refl _
      have hb0 : own_p tP b3_0 ≤ own_p tP b3_1 := m01
      have hru : b3_1 < tf + 2 := ju1
      have hrl : tf ≤ b3_1 := jl1
      have hrn : own_ne b3_1 b3_0 := own_nes jn01
      refine w_istore (l' := #[.val (.int x0), .val (.long x1), .second, .val (.long x2), .second, .val (.long x3), .second, .val (.long x4), .second, .val (.long x5), .second, .val (.int (2 : Int32)), .val (.int (Int32.ofNat tf)), .val (.int tf13), .val (.int (Int32.ofNat tj)), .val (.ref (n0 + 0)), .val (.ref (n0 + 1)), .val (.int (Int32.ofNat b3_0)), .val (.int (Int32.ofNat b3_1))]) X15 hx (hb hby at_170) rfl (pc' := 172) rfl ?_
      refine w_iload X15 hx (hb hby at_172) rfl (pc' := 174) rfl ?_
      refine w_iload X15 hx (hb hby at_174) rfl (pc' := 176) rfl ?_
      refine w_icmp_lt X15 hx (hb hby at_176) (by decide) (pcY := 189) (by decide) (pc' := 179) rfl (fun h10 => absurd ((own_olt (a := b3_0) (b := tf) (by omega) (by omega)).mp h10) (by omega)) (fun h10 => ?_)
      refine w_iload X15 hx (hb hby at_179) rfl (pc' := 181) rfl ?_
      refine w_iload X15 hx (hb hby at_181) rfl (pc' := 183) rfl ?_
      refine w_iload X15 hx (hb hby at_183) rfl (pc' := 185) rfl ?_
      refine w_iadd X15 hx (hb hby at_185) (pc' := 186) rfl ?_
      refine w_eqI (z := (Int32.ofNat (tf + 2))) (own_oadd tf 2) ?_
      refine w_icmp_lt X15 hx (hb hby at_186) (by decide) (pcY := 191) (by decide) (pc' := 189) rfl (fun h11 => ?_) (fun h11 => absurd ((own_olt (a := b3_0) (b := tf + 2) (by omega) (by omega)).mpr (by omega)) h11)
      refine w_iload X15 hx (hb hby at_191) rfl (pc' := 193) rfl ?_
      refine w_iconst (v := (1 : Int32)) X15 hx (hb hby at_193) rfl (pc' := 194) rfl ?_
      refine w_icmp_ne X15 hx (hb hby at_194) (by decide) (pcY := 209) (by decide) (pc' := 197) rfl (fun h12 => ?_) (fun h12 => absurd h12 (by decide))
      refine w_iload X15 hx (hb hby at_209) rfl (pc' := 211) rfl ?_
      refine w_iload X15 hx (hb hby at_211) rfl (pc' := 213) rfl ?_
      refine w_icmp_lt X15 hx (hb hby at_213) (by decide) (pcY := 233) (by decide) (pc' := 216) rfl (fun h13 => absurd ((own_olt (a := b3_1) (b := tf) (by omega) (by omega)).mp h13) (by omega)) (fun h13 => ?_)
      refine w_iload X15 hx (hb hby at_216) rfl (pc' := 218) rfl ?_
      refine w_iload X15 hx (hb hby at_218) rfl (pc' := 220) rfl ?_
      refine w_iload X15 hx (hb hby at_220) rfl (pc' := 222) rfl ?_
      refine w_iadd X15 hx (hb hby at_222) (pc' := 223) rfl ?_
      refine w_eqI (z := (Int32.ofNat (tf + 2))) (own_oadd tf 2) ?_
      refine w_icmp_ge X15 hx (hb hby at_223) (by decide) (pcY := 233) (by decide) (pc' := 226) rfl (fun h14 => absurd ((own_olt (a := b3_1) (b := tf + 2) (by omega) (by omega)).mpr (by omega)) h14) (fun h14 => ?_)
      refine w_iload X15 hx (hb hby at_226) rfl (pc' := 228) rfl ?_
      refine w_iload X15 hx (hb hby at_228) rfl (pc' := 230) rfl ?_
      refine w_icmp_ne X15 hx (hb hby at_230) (by decide) (pcY := 235) (by decide) (pc' := 233) rfl (fun h15 => ?_) (fun h15 => absurd ((own_oeq (a := b3_1) (b := b3_0) (by omega) (by omega)).mp h15) hrn)
      refine w_aload X15 hx (hb hby at_235) rfl rfl (pc' := 237) rfl ?_
      refine w_iload X15 hx (hb hby at_237) rfl (pc' := 239) rfl ?_
      refine w_laloadL (i := 0) (jn := b3_0) X15 hx hZ P15 rfl thk (hb hby at_239) (own_oN (by omega)) (own_llt htP (by omega)) (pc' := 240) rfl ?_
      refine w_aload X15 hx (hb hby at_240) rfl rfl (pc' := 242) rfl ?_
      refine w_iload X15 hx (hb hby at_242) rfl (pc' := 244) rfl ?_
      refine w_laloadL (i := 0) (jn := b3_1) X15 hx hZ P15 rfl thk (hb hby at_244) (own_oN (by omega)) (own_llt htP (by omega)) (pc' := 245) rfl ?_
      refine w_lcmp_le X15 hx (hb hby at_245) rfl (hb hby at_246) (by decide) (pcY := 251) (by decide) (pc' := 249) rfl (fun h16 => ?_) (fun h16 => absurd h16 (own_nlt hb0))
      refine w_aload X15 hx (hb hby at_251) rfl rfl (pc' := 253) rfl ?_
      refine w_iload X15 hx (hb hby at_253) rfl (pc' := 255) rfl ?_
      refine w_iload X15 hx (hb hby at_255) rfl (pc' := 257) rfl ?_
      refine w_iload X15 hx (hb hby at_257) rfl (pc' := 259) rfl ?_
      refine w_iload X15 hx (hb hby at_259) rfl (pc' := 261) rfl ?_
      refine w_iconst (v := (0 : Int32)) X15 hx (hb hby at_261) rfl (pc' := 262) rfl ?_
      refine own_call (W := 0) X15 hx hZ rfl hown hml.symm (wd42 hw) (wd43 hw) (wd44 hw) (wd45 hw) (rm_nc20 l Z a0 hw [] n0 tk tP ([oc3, AC kc3 [.int (Int32.ofNat b3_0), .int (Int32.ofNat b3_1)], AC kd3 (List.map Value.int Q3_)]) tf b3_0 b3_1 _ P15 thk htP (by omega) ju0 hru hmin) (by decide) (by decide) (by decide) (by decide) (by decide) (argsL := [.ref (n0 + 0), .int (Int32.ofNat tf), .int (2 : Int32), .int (Int32.ofNat b3_0), .int (Int32.ofNat b3_1), .int (0 : Int32)]) (rest := []) pd8 rfl rfl rfl (Nat.le_of_eq rfl) (hb hby at_262) (pc' := 265) rfl ?_
      intro v16 T16 L13 X16 hq
      obtain ⟨rfl, N13, P16⟩ := hq
      replace N13 := Fr.app N12 N13
      replace P16 : HP n0 T16.heap [AC tk (List.map Value.long tP), oc3, AC kc3 [.int (Int32.ofNat b3_0), .int (Int32.ofNat b3_1)], AC kd3 (List.map Value.int Q3_)] := P16
      refine w_if_eq X16 hx (hb hby at_265) (by decide) (pcY := 323) (by decide) (pc' := 268) rfl (fun h17 => absurd h17 (by decide)) (fun h17 => ?_)
      refine w_aload X16 hx (hb hby at_268) rfl rfl (pc' := 270) rfl ?_
      refine w_iload X16 hx (hb hby at_270) rfl (pc' := 272) rfl ?_
      refine w_iload X16 hx (hb hby at_272) rfl (pc' := 274) rfl ?_
      refine w_iload X16 hx (hb hby at_274) rfl (pc' := 276) rfl ?_
      refine w_iload X16 hx (hb hby at_276) rfl (pc' := 278) rfl ?_
      refine w_iconst (v := (1 : Int32)) X16 hx (hb hby at_278) rfl (pc' := 279) rfl ?_
      refine own_call (W := 0) X16 hx hZ rfl hown hml.symm (wd42 hw) (wd43 hw) (wd44 hw) (wd45 hw) (rm_nc21 l Z a0 hw [] n0 tk tP ([oc3, AC kc3 [.int (Int32.ofNat b3_0), .int (Int32.ofNat b3_1)], AC kd3 (List.map Value.int Q3_)]) tf b3_0 b3_1 _ P16 thk htP (by omega) ju0 hru hmin) (by decide) (by decide) (by decide) (by decide) (by decide) (argsL := [.ref (n0 + 0), .int (Int32.ofNat tf), .int (2 : Int32), .int (Int32.ofNat b3_0), .int (Int32.ofNat b3_1), .int (1 : Int32)]) (rest := []) pd8 rfl rfl rfl (Nat.le_of_eq rfl) (hb hby at_279) (pc' := 282) rfl ?_
      intro v17 T17 L14 X17 hq
      obtain ⟨rfl, N14, P17⟩ := hq
      replace N14 := Fr.app N13 N14
      replace P17 : HP n0 T17.heap [AC tk (List.map Value.long tP), oc3, AC kc3 [.int (Int32.ofNat b3_0), .int (Int32.ofNat b3_1)], AC kd3 (List.map Value.int Q3_)] := P17
      refine w_if_eq X17 hx (hb hby at_282) (by decide) (pcY := 323) (by decide) (pc' := 285) rfl (fun h18 => absurd h18 (by decide)) (fun h18 => ?_)
      refine w_aload X17 hx (hb hby at_285) rfl rfl (pc' := 287) rfl ?_
      refine w_iload X17 hx (hb hby at_287) rfl (pc' := 289) rfl ?_
      refine w_iload X17 hx (hb hby at_289) rfl (pc' := 291) rfl ?_
      refine w_iload X17 hx (hb hby at_291) rfl (pc' := 293) rfl ?_
      refine w_iload X17 hx (hb hby at_293) rfl (pc' := 295) rfl ?_
      refine w_iconst (v := (2 : Int32)) X17 hx (hb hby at_295) rfl (pc' := 296) rfl ?_
      refine own_call (W := 0) X17 hx hZ rfl hown hml.symm (wd42 hw) (wd43 hw) (wd44 hw) (wd45 hw) (rm_nc22 l Z a0 hw [] n0 tk tP ([oc3, AC kc3 [.int (Int32.ofNat b3_0), .int (Int32.ofNat b3_1)], AC kd3 (List.map Value.int Q3_)]) tf b3_0 b3_1 _ P17 thk htP (by omega) ju0 hru hmin) (by decide) (by decide) (by decide) (by decide) (by decide) (argsL := [.ref (n0 + 0), .int (Int32.ofNat tf), .int (2 : Int32), .int (Int32.ofNat b3_0), .int (Int32.ofNat b3_1), .int (2 : Int32)]) (rest := []) pd8 rfl rfl rfl (Nat.le_of_eq rfl) (hb hby at_296) (pc' := 299) rfl ?_
      intro v18 T18 L15 X18 hq
      obtain ⟨rfl, N15, P18⟩ := hq
      replace N15 := Fr.app N14 N15
      replace P18 : HP n0 T18.heap [AC tk (List.map Value.long tP), oc3, AC kc3 [.int (Int32.ofNat b3_0), .int (Int32.ofNat b3_1)], AC kd3 (List.map Value.int Q3_)] := P18
      refine w_if_eq X18 hx (hb hby at_299) (by decide) (pcY := 323) (by decide) (pc' := 302) rfl (fun h19 => absurd h19 (by decide)) (fun h19 => ?_)
      refine w_aload X18 hx (hb hby at_302) rfl rfl (pc' := 304) rfl ?_
      refine w_iload X18 hx (hb hby at_304) rfl (pc' := 306) rfl ?_
      refine w_iload X18 hx (hb hby at_306) rfl (pc' := 308) rfl ?_
      refine w_iload X18 hx (hb hby at_308) rfl (pc' := 310) rfl ?_
      refine w_iload X18 hx (hb hby at_310) rfl (pc' := 312) rfl ?_
      refine w_iconst (v := (3 : Int32)) X18 hx (hb hby at_312) rfl (pc' := 313) rfl ?_
      refine own_call (W := 0) X18 hx hZ rfl hown hml.symm (wd42 hw) (wd43 hw) (wd44 hw) (wd45 hw) (rm_nc23 l Z a0 hw [] n0 tk tP ([oc3, AC kc3 [.int (Int32.ofNat b3_0), .int (Int32.ofNat b3_1)], AC kd3 (List.map Value.int Q3_)]) tf b3_0 b3_1 _ P18 thk htP (by omega) ju0 hru hmin) (by decide) (by decide) (by decide) (by decide) (by decide) (argsL := [.ref (n0 + 0), .int (Int32.ofNat tf), .int (2 : Int32), .int (Int32.ofNat b3_0), .int (Int32.ofNat b3_1), .int (3 : Int32)]) (rest := []) pd8 rfl rfl rfl (Nat.le_of_eq rfl) (hb hby at_313) (pc' := 316) rfl ?_
      intro v19 T19 L16 X19 hq
      obtain ⟨rfl, N16, P19⟩ := hq
      replace N16 := Fr.app N15 N16
      replace P19 : HP n0 T19.heap [AC tk (List.map Value.long tP), oc3, AC kc3 [.int (Int32.ofNat b3_0), .int (Int32.ofNat b3_1)], AC kd3 (List.map Value.int Q3_)] := P19
      refine w_if_eq X19 hx (hb hby at_316) (by decide) (pcY := 323) (by decide) (pc' := 319) rfl (fun h20 => absurd h20 (by decide)) (fun h20 => ?_)
      refine w_iconst (v := (1 : Int32)) X19 hx (hb hby at_319) rfl (pc' := 320) rfl ?_
      refine w_goto X19 hx (hb hby at_320) (by decide) (pc' := 324) (by decide) ?_
      exact w_ret_n (t := .boolean) X19 hx hret hlk (by simp) (hb hby at_324) (z' := (1 : Int32)) rfl (by decide) (by decide) ⟨rfl, N16⟩
    · refine w_iload X13 hx (hb hby at_129) rfl (pc' := 131) rfl ?_
      refine w_iload X13 hx (hb hby at_131) rfl (pc' := 133) rfl ?_
      refine w_iadd X13 hx (hb hby at_133) (pc' := 134) rfl ?_
      refine w_eqI (z := (Int32.ofNat (tf + tj))) (own_oadd tf tj) ?_
      refine w_istore (l' := #[.val (.int x0), .val (.long x1), .second, .val (.long x2), .second, .val (.long x3), .second, .val (.long x4), .second, .val (.long x5), .second, .val (.int (2 : Int32)), .val (.int (Int32.ofNat tf)), .val (.int tf13), .val (.int (Int32.ofNat tj)), .val (.ref (n0 + 0)), .val (.ref (n0 + 1)), .val (.int (Int32.ofNat (tf + tj))), .unset]) X13 hx (hb hby at_134) rfl (pc' := 136) rfl ?_
      refine w_aload X13 hx (hb hby at_136) rfl rfl (pc' := 138) rfl ?_
      refine w_iload X13 hx (hb hby at_138) rfl (pc' := 140) rfl ?_
      refine w_aload X13 hx (hb hby at_140) rfl rfl (pc' := 142) rfl ?_
      refine w_iload X13 hx (hb hby at_142) rfl (pc' := 144) rfl ?_
      refine w_laloadL (i := 0) (jn := (tf + tj)) X13 hx hZ P13 rfl thk (hb hby at_144) (own_oN (by omega)) (own_llt htP (by omega)) (pc' := 145) rfl ?_
      refine w_lload X13 hx (hb hby at_145) rfl (pc' := 147) rfl ?_
      refine w_callP (W := 2) X13 hx hZ rfl hown hml.symm (wd33 hw) (wd34 hw) (wd35 hw) (wd36 hw) (rm6 l Z a0 hw [] (tP.getD (tf + tj) 0) x5 _) (by decide) (by decide) (by decide) rfl rfl (by decide) (by decide) (argsL := [.long (tP.getD (tf + tj) 0), .long x5]) (rest := [.int (Int32.ofNat (tf + tj)), .ref (n0 + 0)]) pd6 rfl rfl rfl (Nat.le_of_eq rfl) (hb hby at_147) (pc' := 150) rfl ?_
      intro T20 X20 e20
      have P20 : HP n0 T20.heap [AC tk (List.map Value.long tP), oc3, AC kc3 [.int (Int32.ofNat b3_0), .int (Int32.ofNat b3_1)], AC kd3 (List.map Value.int Q3_)] := by rw [e20]; exact P13
      refine w_lastoreL (i := 0) (jn := (tf + tj)) X20 hx hZ N10 P20 rfl thk (hb hby at_150) (own_oN (by omega)) (own_llt htP (by omega)) (pc' := 151) rfl ?_
      intro T21 L17 N17 X21 P21
      replace P21 : HP n0 T21.heap [AC tk (List.map Value.long (tP.set (tf + tj) (sp6 (tP.getD (tf + tj) 0) x5))), oc3, AC kc3 [.int (Int32.ofNat b3_0), .int (Int32.ofNat b3_1)], AC kd3 (List.map Value.int Q3_)] := P21
      refine w_aload X21 hx (hb hby at_151) rfl rfl (pc' := 153) rfl ?_
      refine w_iload X21 hx (hb hby at_153) rfl (pc' := 155) rfl ?_
      refine own_callV (W := 0) X21 hx hZ rfl hown hml.symm (wd37 hw) (wd38 hw) (wd40 hw) (wd39 hw) (wd3 hw) (wd41 hw) (rm_ra2 l Z a0 hw [] n0 tk oc3 kc3 kd3 (tP.set (tf + tj) (sp6 (tP.getD (tf + tj) 0) x5)) tf b3_0 b3_1 Q3_ tP (tf + tj) _ P21 thk hkc3 hkd3 Fc3 (own_sl htP) (by omega) hI3 hO3 (by omega) (by omega) (fun d h => own_R1 h) (own_R2 htP (by omega))) (a := (n0 + 1)) (P21.exa (i := 1) rfl Fc3.1) (by decide) (by decide) (by decide) (by decide) (by decide) (argsL := [.int (Int32.ofNat (tf + tj))]) (rest := []) pd7 rfl rfl rfl (Nat.le_of_eq rfl) (hb hby at_155) (pc' := 158) rfl ?_
      intro v22 T22 L18 X22 hq
      obtain ⟨rfl, N18, b4_0, b4_1, Q4_, hI4, hO4, P22⟩ := hq
      replace N18 := Fr.app N17 N18
      replace P22 : HP n0 T22.heap [AC tk (List.map Value.long (tP.set (tf + tj) (sp6 (tP.getD (tf + tj) 0) x5))), oc3, AC kc3 [.int (Int32.ofNat b4_0), .int (Int32.ofNat b4_1)], AC kd3 (List.map Value.int Q4_)] := P22
      refine w_aload X22 hx (hb hby at_158) rfl rfl (pc' := 160) rfl ?_
      obtain ⟨jlen, jl0, jl1, ju0, ju1, jn01, jcov, jq0, jq1⟩ := hI4
      have hOO := hO4
      have m01 : own_p (tP.set (tf + tj) (sp6 (tP.getD (tf + tj) 0) x5)) b4_0 ≤ own_p (tP.set (tf + tj) (sp6 (tP.getD (tf + tj) 0) x5)) b4_1 := hO4
      refine own_callV (W := 0) X22 hx hZ rfl hown hml.symm (wd19 hw) (wd20 hw) (wd22 hw) (wd21 hw) (wd3 hw) (wd23 hw) (rm_ch2 l Z a0 hw [] n0 (AC tk (List.map Value.long (tP.set (tf + tj) (sp6 (tP.getD (tf + tj) 0) x5)))) oc3 kc3 (AC kd3 (List.map Value.int Q4_)) tf (Int32.ofNat b4_0) (Int32.ofNat b4_1) _ P22 hkc3 Fc3) (a := (n0 + 1)) (P22.exa (i := 1) rfl Fc3.1) (by decide) (by decide) (by decide) (by decide) (by decide) (argsL := []) (rest := []) pd3 rfl rfl rfl (Nat.le_of_eq rfl) (hb hby at_160) (pc' := 163) rfl ?_
      intro v23 T23 L19 X23 hq
      obtain ⟨rfl, N19, P23⟩ := hq
      replace N19 := Fr.app N18 N19
      replace P23 : HP n0 T23.heap [AC tk (List.map Value.long (tP.set (tf + tj) (sp6 (tP.getD (tf + tj) 0) x5))), oc3, AC kc3 [.int (Int32.ofNat b4_0), .int (Int32.ofNat b4_1)], AC kd3 (List.map Value.int Q4_)] := P23
      refine w_istore (l' := #[.val (.int x0), .val (.long x1), .second, .val (.long x2), .second, .val (.long x3), .second, .val (.long x4), .second, .val (.long x5), .second, .val (.int (2 : Int32)), .val (.int (Int32.ofNat tf)), .val (.int tf13), .val (.int (Int32.ofNat tj)), .val (.ref (n0 + 0)), .val (.ref (n0 + 1)), .val (.int (Int32.ofNat b4_0)), .unset]) X23 hx (hb hby at_163) rfl (pc' := 165) rfl ?_
      refine w_aload X23 hx (hb hby at_165) rfl rfl (pc' := 167) rfl ?_
      refine own_callV (W := 0) X23 hx hZ rfl hown hml.symm (wd24 hw) (wd25 hw) (wd27 hw) (wd26 hw) (wd3 hw) (wd28 hw) (rm_sec2 l Z a0 hw [] n0 tk oc3 kc3 (AC kd3 (List.map Value.int Q4_)) (tP.set (tf + tj) (sp6 (tP.getD (tf + tj) 0) x5)) tf b4_0 b4_1 _ P23 thk hkc3 Fc3 (own_sl htP) (by omega) ju0 ju1) (a := (n0 + 1)) (P23.exa (i := 1) rfl Fc3.1) (by decide) (by decide) (by decide) (by decide) (by decide) (argsL := []) (rest := []) pd4 rfl rfl rfl (Nat.le_of_eq rfl) (hb hby at_167) (pc' := 170) rfl ?_
      intro v24 T24 L20 X24 hq
      obtain ⟨rfl, N20, P24⟩ := hq
      replace N20 := Fr.app N19 N20
      replace P24 : HP n0 T24.heap [AC tk (List.map Value.long (tP.set (tf + tj) (sp6 (tP.getD (tf + tj) 0) x5))), oc3, AC kc3 [.int (Int32.ofNat b4_0), .int (Int32.ofNat b4_1)], AC kd3 (List.map Value.int Q4_)] := P24
      have hmin : ∀ d, tf ≤ d → d < tf + 2 → own_ne d b4_0 → own_p (tP.set (tf + tj) (sp6 (tP.getD (tf + tj) 0) x5)) b4_1 ≤ own_p (tP.set (tf + tj) (sp6 (tP.getD (tf + tj) 0) x5)) d := fun d h1 h2 h3 => by
        rcases jcov d h1 h2 with q | q
        · exact absurd q h3
        · rw [q]; exact Int.le_refl _
      have hb0 : own_p (tP.set (tf + tj) (sp6 (tP.getD (tf + tj) 0) x5)) b4_0 ≤ own_p (tP.set (tf + tj) (sp6 (tP.getD (tf + tj) 0) x5)) b4_1 := m01
      have hru : b4_1 < tf + 2 := ju1
      have hrl : tf ≤ b4_1 := jl1
      have hrn : own_ne b4_1 b4_0 := own_nes jn01
      refine w_istore (l' := #[.val (.int x0), .val (.long x1), .second, .val (.long x2), .second, .val (.long x3), .second, .val (.long x4), .second, .val (.long x5), .second, .val (.int (2 : Int32)), .val (.int (Int32.ofNat tf)), .val (.int tf13), .val (.int (Int32.ofNat tj)), .val (.ref (n0 + 0)), .val (.ref (n0 + 1)), .val (.int (Int32.ofNat b4_0)), .val (.int (Int32.ofNat b4_1))]) X24 hx (hb hby at_170) rfl (pc' := 172) rfl ?_
      refine w_iload X24 hx (hb hby at_172) rfl (pc' := 174) rfl ?_
      refine w_iload X24 hx (hb hby at_174) rfl (pc' := 176) rfl ?_
      refine w_icmp_lt X24 hx (hb hby at_176) (by decide) (pcY := 189) (by decide) (pc' := 179) rfl (fun h21 => absurd ((own_olt (a := b4_0) (b := tf) (by omega) (by omega)).mp h21) (by omega)) (fun h21 => ?_)
      refine w_iload X24 hx (hb hby at_179) rfl (pc' := 181) rfl ?_
      refine w_iload X24 hx (hb hby at_181) rfl (pc' := 183) rfl ?_
      refine w_iload X24 hx (hb hby at_183) rfl (pc' := 185) rfl ?_
      refine w_iadd X24 hx (hb hby at_185) (pc' := 186) rfl ?_
      refine w_eqI (z := (Int32.ofNat (tf + 2))) (own_oadd tf 2) ?_
      refine w_icmp_lt X24 hx (hb hby at_186) (by decide) (pcY := 191) (by decide) (pc' := 189) rfl (fun h22 => ?_) (fun h22 => absurd ((own_olt (a := b4_0) (b := tf + 2) (by omega) (by omega)).mpr (by omega)) h22)
      refine w_iload X24 hx (hb hby at_191) rfl (pc' := 193) rfl ?_
      refine w_iconst (v := (1 : Int32)) X24 hx (hb hby at_193) rfl (pc' := 194) rfl ?_
      refine w_icmp_ne X24 hx (hb hby at_194) (by decide) (pcY := 209) (by decide) (pc' := 197) rfl (fun h23 => ?_) (fun h23 => absurd h23 (by decide))
      refine w_iload X24 hx (hb hby at_209) rfl (pc' := 211) rfl ?_
      refine w_iload X24 hx (hb hby at_211) rfl (pc' := 213) rfl ?_
      refine w_icmp_lt X24 hx (hb hby at_213) (by decide) (pcY := 233) (by decide) (pc' := 216) rfl (fun h24 => absurd ((own_olt (a := b4_1) (b := tf) (by omega) (by omega)).mp h24) (by omega)) (fun h24 => ?_)
      refine w_iload X24 hx (hb hby at_216) rfl (pc' := 218) rfl ?_
      refine w_iload X24 hx (hb hby at_218) rfl (pc' := 220) rfl ?_
      refine w_iload X24 hx (hb hby at_220) rfl (pc' := 222) rfl ?_
      refine w_iadd X24 hx (hb hby at_222) (pc' := 223) rfl ?_
      refine w_eqI (z := (Int32.ofNat (tf + 2))) (own_oadd tf 2) ?_
      refine w_icmp_ge X24 hx (hb hby at_223) (by decide) (pcY := 233) (by decide) (pc' := 226) rfl (fun h25 => absurd ((own_olt (a := b4_1) (b := tf + 2) (by omega) (by omega)).mpr (by omega)) h25) (fun h25 => ?_)
      refine w_iload X24 hx (hb hby at_226) rfl (pc' := 228) rfl ?_
      refine w_iload X24 hx (hb hby at_228) rfl (pc' := 230) rfl ?_
      refine w_icmp_ne X24 hx (hb hby at_230) (by decide) (pcY := 235) (by decide) (pc' := 233) rfl (fun h26 => ?_) (fun h26 => absurd ((own_oeq (a := b4_1) (b := b4_0) (by omega) (by omega)).mp h26) hrn)
      refine w_aload X24 hx (hb hby at_235) rfl rfl (pc' := 237) rfl ?_
      refine w_iload X24 hx (hb hby at_237) rfl (pc' := 239) rfl ?_
      refine w_laloadL (i := 0) (jn := b4_0) X24 hx hZ P24 rfl thk (hb hby at_239) (own_oN (by omega)) (own_llt (own_sl htP) (by omega)) (pc' := 240) rfl ?_
      refine w_aload X24 hx (hb hby at_240) rfl rfl (pc' := 242) rfl ?_
      refine w_iload X24 hx (hb hby at_242) rfl (pc' := 244) rfl ?_
      refine w_laloadL (i := 0) (jn := b4_1) X24 hx hZ P24 rfl thk (hb hby at_244) (own_oN (by omega)) (own_llt (own_sl htP) (by omega)) (pc' := 245) rfl ?_
      refine w_lcmp_le X24 hx (hb hby at_245) rfl (hb hby at_246) (by decide) (pcY := 251) (by decide) (pc' := 249) rfl (fun h27 => ?_) (fun h27 => absurd h27 (own_nlt hb0))
      refine w_aload X24 hx (hb hby at_251) rfl rfl (pc' := 253) rfl ?_
      refine w_iload X24 hx (hb hby at_253) rfl (pc' := 255) rfl ?_
      refine w_iload X24 hx (hb hby at_255) rfl (pc' := 257) rfl ?_
      refine w_iload X24 hx (hb hby at_257) rfl (pc' := 259) rfl ?_
      refine w_iload X24 hx (hb hby at_259) rfl (pc' := 261) rfl ?_
      refine w_iconst (v := (0 : Int32)) X24 hx (hb hby at_261) rfl (pc' := 262) rfl ?_
      refine own_call (W := 0) X24 hx hZ rfl hown hml.symm (wd42 hw) (wd43 hw) (wd44 hw) (wd45 hw) (rm_nc20 l Z a0 hw [] n0 tk (tP.set (tf + tj) (sp6 (tP.getD (tf + tj) 0) x5)) ([oc3, AC kc3 [.int (Int32.ofNat b4_0), .int (Int32.ofNat b4_1)], AC kd3 (List.map Value.int Q4_)]) tf b4_0 b4_1 _ P24 thk (own_sl htP) (by omega) ju0 hru hmin) (by decide) (by decide) (by decide) (by decide) (by decide) (argsL := [.ref (n0 + 0), .int (Int32.ofNat tf), .int (2 : Int32), .int (Int32.ofNat b4_0), .int (Int32.ofNat b4_1), .int (0 : Int32)]) (rest := []) pd8 rfl rfl rfl (Nat.le_of_eq rfl) (hb hby at_262) (pc' := 265) rfl ?_
      intro v25 T25 L21 X25 hq
      obtain ⟨rfl, N21, P25⟩ := hq
      replace N21 := Fr.app N20 N21
      replace P25 : HP n0 T25.heap [AC tk (List.map Value.long (tP.set (tf + tj) (sp6 (tP.getD (tf + tj) 0) x5))), oc3, AC kc3 [.int (Int32.ofNat b4_0), .int (Int32.ofNat b4_1)], AC kd3 (List.map Value.int Q4_)] := P25
      refine w_if_eq X25 hx (hb hby at_265) (by decide) (pcY := 323) (by decide) (pc' := 268) rfl (fun h28 => absurd h28 (by decide)) (fun h28 => ?_)
      refine w_aload X25 hx (hb hby at_268) rfl rfl (pc' := 270) rfl ?_
      refine w_iload X25 hx (hb hby at_270) rfl (pc' := 272) rfl ?_
      refine w_iload X25 hx (hb hby at_272) rfl (pc' := 274) rfl ?_
      refine w_iload X25 hx (hb hby at_274) rfl (pc' := 276) rfl ?_
      refine w_iload X25 hx (hb hby at_276) rfl (pc' := 278) rfl ?_
      refine w_iconst (v := (1 : Int32)) X25 hx (hb hby at_278) rfl (pc' := 279) rfl ?_
      refine own_call (W := 0) X25 hx hZ rfl hown hml.symm (wd42 hw) (wd43 hw) (wd44 hw) (wd45 hw) (rm_nc21 l Z a0 hw [] n0 tk (tP.set (tf + tj) (sp6 (tP.getD (tf + tj) 0) x5)) ([oc3, AC kc3 [.int (Int32.ofNat b4_0), .int (Int32.ofNat b4_1)], AC kd3 (List.map Value.int Q4_)]) tf b4_0 b4_1 _ P25 thk (own_sl htP) (by omega) ju0 hru hmin) (by decide) (by decide) (by decide) (by decide) (by decide) (argsL := [.ref (n0 + 0), .int (Int32.ofNat tf), .int (2 : Int32), .int (Int32.ofNat b4_0), .int (Int32.ofNat b4_1), .int (1 : Int32)]) (rest := []) pd8 rfl rfl rfl (Nat.le_of_eq rfl) (hb hby at_279) (pc' := 282) rfl ?_
      intro v26 T26 L22 X26 hq
      obtain ⟨rfl, N22, P26⟩ := hq
      replace N22 := Fr.app N21 N22
      replace P26 : HP n0 T26.heap [AC tk (List.map Value.long (tP.set (tf + tj) (sp6 (tP.getD (tf + tj) 0) x5))), oc3, AC kc3 [.int (Int32.ofNat b4_0), .int (Int32.ofNat b4_1)], AC kd3 (List.map Value.int Q4_)] := P26
      refine w_if_eq X26 hx (hb hby at_282) (by decide) (pcY := 323) (by decide) (pc' := 285) rfl (fun h29 => absurd h29 (by decide)) (fun h29 => ?_)
      refine w_aload X26 hx (hb hby at_285) rfl rfl (pc' := 287) rfl ?_
      refine w_iload X26 hx (hb hby at_287) rfl (pc' := 289) rfl ?_
      refine w_iload X26 hx (hb hby at_289) rfl (pc' := 291) rfl ?_
      refine w_iload X26 hx (hb hby at_291) rfl (pc' := 293) rfl ?_
      refine w_iload X26 hx (hb hby at_293) rfl (pc' := 295) rfl ?_
      refine w_iconst (v := (2 : Int32)) X26 hx (hb hby at_295) rfl (pc' := 296) rfl ?_
      refine own_call (W := 0) X26 hx hZ rfl hown hml.symm (wd42 hw) (wd43 hw) (wd44 hw) (wd45 hw) (rm_nc22 l Z a0 hw [] n0 tk (tP.set (tf + tj) (sp6 (tP.getD (tf + tj) 0) x5)) ([oc3, AC kc3 [.int (Int32.ofNat b4_0), .int (Int32.ofNat b4_1)], AC kd3 (List.map Value.int Q4_)]) tf b4_0 b4_1 _ P26 thk (own_sl htP) (by omega) ju0 hru hmin) (by decide) (by decide) (by decide) (by decide) (by decide) (argsL := [.ref (n0 + 0), .int (Int32.ofNat tf), .int (2 : Int32), .int (Int32.ofNat b4_0), .int (Int32.ofNat b4_1), .int (2 : Int32)]) (rest := []) pd8 rfl rfl rfl (Nat.le_of_eq rfl) (hb hby at_296) (pc' := 299) rfl ?_
      intro v27 T27 L23 X27 hq
      obtain ⟨rfl, N23, P27⟩ := hq
      replace N23 := Fr.app N22 N23
      replace P27 : HP n0 T27.heap [AC tk (List.map Value.long (tP.set (tf + tj) (sp6 (tP.getD (tf + tj) 0) x5))), oc3, AC kc3 [.int (Int32.ofNat b4_0), .int (Int32.ofNat b4_1)], AC kd3 (List.map Value.int Q4_)] := P27
      refine w_if_eq X27 hx (hb hby at_299) (by decide) (pcY := 323) (by decide) (pc' := 302) rfl (fun h30 => absurd h30 (by decide)) (fun h30 => ?_)
      refine w_aload X27 hx (hb hby at_302) rfl rfl (pc' := 304) rfl ?_
      refine w_iload X27 hx (hb hby at_304) rfl (pc' := 306) rfl ?_
      refine w_iload X27 hx (hb hby at_306) rfl (pc' := 308) rfl ?_
      refine w_iload X27 hx (hb hby at_308) rfl (pc' := 310) rfl ?_
      refine w_iload X27 hx (hb hby at_310) rfl (pc' := 312) rfl ?_
      refine w_iconst (v := (3 : Int32)) X27 hx (hb hby at_312) rfl (pc' := 313) rfl ?_
      refine own_call (W := 0) X27 hx hZ rfl hown hml.symm (wd42 hw) (wd43 hw) (wd44 hw) (wd45 hw) (rm_nc23 l Z a0 hw [] n0 tk (tP.set (tf + tj) (sp6 (tP.getD (tf + tj) 0) x5)) ([oc3, AC kc3 [.int (Int32.ofNat b4_0), .int (Int32.ofNat b4_1)], AC kd3 (List.map Value.int Q4_)]) tf b4_0 b4_1 _ P27 thk (own_sl htP) (by omega) ju0 hru hmin) (by decide) (by decide) (by decide) (by decide) (by decide) (argsL := [.ref (n0 + 0), .int (Int32.ofNat tf), .int (2 : Int32), .int (Int32.ofNat b4_0), .int (Int32.ofNat b4_1), .int (3 : Int32)]) (rest := []) pd8 rfl rfl rfl (Nat.le_of_eq rfl) (hb hby at_313) (pc' := 316) rfl ?_
      intro v28 T28 L24 X28 hq
      obtain ⟨rfl, N24, P28⟩ := hq
      replace N24 := Fr.app N23 N24
      replace P28 : HP n0 T28.heap [AC tk (List.map Value.long (tP.set (tf + tj) (sp6 (tP.getD (tf + tj) 0) x5))), oc3, AC kc3 [.int (Int32.ofNat b4_0), .int (Int32.ofNat b4_1)], AC kd3 (List.map Value.int Q4_)] := P28
      refine w_if_eq X28 hx (hb hby at_316) (by decide) (pcY := 323) (by decide) (pc' := 319) rfl (fun h31 => absurd h31 (by decide)) (fun h31 => ?_)
      refine w_iconst (v := (1 : Int32)) X28 hx (hb hby at_319) rfl (pc' := 320) rfl ?_
      refine w_goto X28 hx (hb hby at_320) (by decide) (pc' := 324) (by decide) ?_
      exact w_ret_n (t := .boolean) X28 hx hret hlk (by simp) (hb hby at_324) (z' := (1 : Int32)) rfl (by decide) (by decide) ⟨rfl, N24⟩
  have Jc3 : ∀ (T29 : State) (L25 : List Loc) (tf13 : Int32) (tj : Nat) (tP : List Int64) (tk : ClassId), Fr n0 L25 → Stand p l e room_1 s m #[Value.int x0, Value.long x1, Value.long x2, Value.long x3, Value.long x4, Value.long x5] below meth c T29 L25 1 5 → tj < 3 → IsA Z tk .long → tP.length = tf + 3 → HP n0 T29.heap [AC tk (List.map Value.long tP)] → Wp p e s below room_1.cells room_1.slots (LawQ n0) T29 (mkF m 111 #[.val (.int x0), .val (.long x1), .second, .val (.long x2), .second, .val (.long x3), .second, .val (.long x4), .second, .val (.long x5), .second, .val (.int (3 : Int32)), .val (.int (Int32.ofNat tf)), .val (.int tf13), .val (.int (Int32.ofNat tj)), .val (.ref (n0 + 0)), .unset, .unset, .unset] []) := by
    intro T29 L25 tf13 tj tP tk N25 X29 htj thk htP P29
    refine w_new (j := 1) X29 hx hZ hown (wd1 hw) (wd2 hw) (wd3 hw) P29 fl_C0 dv_C0 rfl (ly_C0 hw) (hb hby at_111) (by decide) (by decide) rfl (pc' := 114) rfl ?_
    intro T30 c3 X30 P30 F3
    replace P30 : HP n0 T30.heap [AC tk (List.map Value.long tP), c3] := P30
    refine w_dup X30 hx (hb hby at_114) rfl (pc' := 115) rfl ?_
    refine w_aload X30 hx (hb hby at_115) rfl rfl (pc' := 117) rfl ?_
    refine w_iload X30 hx (hb hby at_117) rfl (pc' := 119) rfl ?_
    refine own_callI (W := 1) X30 hx hZ rfl rfl hown hml.symm (wd4 hw) (wd5 hw) (wd3 hw) (wd6 hw) (rm_ini3 l Z a0 hw [] n0 tk c3 tP tf _ P30 thk F3 htP (by omega)) (by decide) (by decide) (by decide) (by decide) (by decide) (a := (n0 + 1)) (argsL := [.ref (n0 + 0), .int (Int32.ofNat tf)]) (rest := [.ref (n0 + 1)]) pd1 rfl rfl rfl (Nat.le_of_eq rfl) (hb hby at_119) (pc' := 122) rfl ?_
    intro v31 T31 L26 X31 hq
    obtain ⟨rfl, N26, oc5, Fc5, kc5, hkc5, kd5, hkd5, b5_0, b5_1, b5_2, Q5_, hI5, hO5, P31⟩ := hq
    replace N26 := Fr.app N25 N26
    replace P31 : HP n0 T31.heap [AC tk (List.map Value.long tP), oc5, AC kc5 [.int (Int32.ofNat b5_0), .int (Int32.ofNat b5_1), .int (Int32.ofNat b5_2)], AC kd5 (List.map Value.int Q5_)] := P31
    refine w_astore (l' := #[.val (.int x0), .val (.long x1), .second, .val (.long x2), .second, .val (.long x3), .second, .val (.long x4), .second, .val (.long x5), .second, .val (.int (3 : Int32)), .val (.int (Int32.ofNat tf)), .val (.int tf13), .val (.int (Int32.ofNat tj)), .val (.ref (n0 + 0)), .val (.ref (n0 + 1)), .unset, .unset]) X31 hx (hb hby at_122) rfl rfl (pc' := 124) rfl ?_
    refine w_iload X31 hx (hb hby at_124) rfl (pc' := 126) rfl ?_
    refine w_if_eq X31 hx (hb hby at_126) (by decide) (pcY := 158) (by decide) (pc' := 129) rfl (fun h32 => ?_) (fun h32 => ?_)
    · refine w_aload X31 hx (hb hby at_158) rfl rfl (pc' := 160) rfl ?_
      obtain ⟨jlen, jl0, jl1, jl2, ju0, ju1, ju2, jn01, jn02, jn12, jcov, jq0, jq1, jq2⟩ := hI5
      have hOO := hO5
      obtain ⟨m01, m02⟩ := hOO
      refine own_callV (W := 0) X31 hx hZ rfl hown hml.symm (wd19 hw) (wd20 hw) (wd22 hw) (wd21 hw) (wd3 hw) (wd23 hw) (rm_ch3 l Z a0 hw [] n0 (AC tk (List.map Value.long tP)) oc5 kc5 (AC kd5 (List.map Value.int Q5_)) tf (Int32.ofNat b5_0) (Int32.ofNat b5_1) (Int32.ofNat b5_2) _ P31 hkc5 Fc5) (a := (n0 + 1)) (P31.exa (i := 1) rfl Fc5.1) (by decide) (by decide) (by decide) (by decide) (by decide) (argsL := []) (rest := []) pd3 rfl rfl rfl (Nat.le_of_eq rfl) (hb hby at_160) (pc' := 163) rfl ?_
      intro v32 T32 L27 X32 hq
      obtain ⟨rfl, N27, P32⟩ := hq
      replace N27 := Fr.app N26 N27
      replace P32 : HP n0 T32.heap [AC tk (List.map Value.long tP), oc5, AC kc5 [.int (Int32.ofNat b5_0), .int (Int32.ofNat b5_1), .int (Int32.ofNat b5_2)], AC kd5 (List.map Value.int Q5_)] := P32
      refine w_istore (l' := #[.val (.int x0), .val (.long x1), .second, .val (.long x2), .second, .val (.long x3), .second, .val (.long x4), .second, .val (.long x5), .second, .val (.int (3 : Int32)), .val (.int (Int32.ofNat tf)), .val (.int tf13), .val (.int (Int32.ofNat tj)), .val (.ref (n0 + 0)), .val (.ref (n0 + 1)), .val (.int (Int32.ofNat b5_0)), .unset]) X32 hx (hb hby at_163) rfl (pc' := 165) rfl ?_
      refine w_aload X32 hx (hb hby at_165) rfl rfl (pc' := 167) rfl ?_
      refine own_callV (W := 0) X32 hx hZ rfl hown hml.symm (wd24 hw) (wd25 hw) (wd27 hw) (wd26 hw) (wd3 hw) (wd28 hw) (rm_sec3 l Z a0 hw [] n0 tk oc5 kc5 (AC kd5 (List.map Value.int Q5_)) tP tf b5_0 b5_1 b5_2 _ P32 thk hkc5 Fc5 htP (by omega) ju0 ju1 ju2) (a := (n0 + 1)) (P32.exa (i := 1) rfl Fc5.1) (by decide) (by decide) (by decide) (by decide) (by decide) (argsL := []) (rest := []) pd4 rfl rfl rfl (Nat.le_of_eq rfl) (hb hby at_167) (pc' := 170) rfl ?_
      intro v33 T33 L28 X33 hq
      obtain ⟨r5_, rfl, N28, hre, hr1, hr2, P33⟩ := hq
      replace N28 := Fr.app N27 N28
      replace P33 : HP n0 T33.heap [AC tk (List.map Value.long tP), oc5, AC kc5 [.int (Int32.ofNat b5_0), .int (Int32.ofNat b5_1), .int (Int32.ofNat b5_2)], AC kd5 (List.map Value.int Q5_)] := P33
      have hmin : ∀ d, tf ≤ d → d < tf + 3 → own_ne d b5_0 → own_p tP r5_ ≤ own_p tP d := fun d h1 h2 h3 => by
        rcases jcov d h1 h2 with q | q | q
        · exact absurd q h3
        · rw [q]; exact hr1
        · rw [q]; exact hr2
      have hb0 : own_p tP b5_0 ≤ own_p tP r5_ := by rcases hre with q | q <;> rw [q]; exact m01; exact m02
      have hru : r5_ < tf + 3 := by rcases hre with q | q <;> rw [q]; exact ju1; exact ju2
      have hrl : tf ≤ r5_ := by rcases hre with q | q <;> rw [q]; exact jl1; exact jl2
      have hrn : own_ne r5_ b5_0 := by rcases hre with q | q <;> rw [q]; exact own_nes jn01; exact own_nes jn02
      refine w_istore (l' := #[.val (.int x0), .val (.long x1), .second, .val (.long x2), .second, .val (.long x3), .second, .val (.long x4), .second, .val (.long x5), .second, .val (.int (3 : Int32)), .val (.int (Int32.ofNat tf)), .val (.int tf13), .val (.int (Int32.ofNat tj)), .val (.ref (n0 + 0)), .val (.ref (n0 + 1)), .val (.int (Int32.ofNat b5_0)), .val (.int (Int32.ofNat r5_))]) X33 hx (hb hby at_170) rfl (pc' := 172) rfl ?_
      refine w_iload X33 hx (hb hby at_172) rfl (pc' := 174) rfl ?_
      refine w_iload X33 hx (hb hby at_174) rfl (pc' := 176) rfl ?_
      refine w_icmp_lt X33 hx (hb hby at_176) (by decide) (pcY := 189) (by decide) (pc' := 179) rfl (fun h33 => absurd ((own_olt (a := b5_0) (b := tf) (by omega) (by omega)).mp h33) (by omega)) (fun h33 => ?_)
      refine w_iload X33 hx (hb hby at_179) rfl (pc' := 181) rfl ?_
      refine w_iload X33 hx (hb hby at_181) rfl (pc' := 183) rfl ?_
      refine w_iload X33 hx (hb hby at_183) rfl (pc' := 185) rfl ?_
      refine w_iadd X33 hx (hb hby at_185) (pc' := 186) rfl ?_
      refine w_eqI (z := (Int32.ofNat (tf + 3))) (own_oadd tf 3) ?_
      refine w_icmp_lt X33 hx (hb hby at_186) (by decide) (pcY := 191) (by decide) (pc' := 189) rfl (fun h34 => ?_) (fun h34 => absurd ((own_olt (a := b5_0) (b := tf + 3) (by omega) (by omega)).mpr (by omega)) h34)
      refine w_iload X33 hx (hb hby at_191) rfl (pc' := 193) rfl ?_
      refine w_iconst (v := (1 : Int32)) X33 hx (hb hby at_193) rfl (pc' := 194) rfl ?_
      refine w_icmp_ne X33 hx (hb hby at_194) (by decide) (pcY := 209) (by decide) (pc' := 197) rfl (fun h35 => ?_) (fun h35 => absurd h35 (by decide))
      refine w_iload X33 hx (hb hby at_209) rfl (pc' := 211) rfl ?_
      refine w_iload X33 hx (hb hby at_211) rfl (pc' := 213) rfl ?_
      refine w_icmp_lt X33 hx (hb hby at_213) (by decide) (pcY := 233) (by decide) (pc' := 216) rfl (fun h36 => absurd ((own_olt (a := r5_) (b := tf) (by omega) (by omega)).mp h36) (by omega)) (fun h36 => ?_)
      refine w_iload X33 hx (hb hby at_216) rfl (pc' := 218) rfl ?_
      refine w_iload X33 hx (hb hby at_218) rfl (pc' := 220) rfl ?_
      refine w_iload X33 hx (hb hby at_220) rfl (pc' := 222) rfl ?_
      refine w_iadd X33 hx (hb hby at_222) (pc' := 223) rfl ?_
      refine w_eqI (z := (Int32.ofNat (tf + 3))) (own_oadd tf 3) ?_
      refine w_icmp_ge X33 hx (hb hby at_223) (by decide) (pcY := 233) (by decide) (pc' := 226) rfl (fun h37 => absurd ((own_olt (a := r5_) (b := tf + 3) (by omega) (by omega)).mpr (by omega)) h37) (fun h37 => ?_)
      refine w_iload X33 hx (hb hby at_226) rfl (pc' := 228) rfl ?_
      refine w_iload X33 hx (hb hby at_228) rfl (pc' := 230) rfl ?_
      refine w_icmp_ne X33 hx (hb hby at_230) (by decide) (pcY := 235) (by decide) (pc' := 233) rfl (fun h38 => ?_) (fun h38 => absurd ((own_oeq (a := r5_) (b := b5_0) (by omega) (by omega)).mp h38) hrn)
      refine w_aload X33 hx (hb hby at_235) rfl rfl (pc' := 237) rfl ?_
      refine w_iload X33 hx (hb hby at_237) rfl (pc' := 239) rfl ?_
      refine w_laloadL (i := 0) (jn := b5_0) X33 hx hZ P33 rfl thk (hb hby at_239) (own_oN (by omega)) (own_llt htP (by omega)) (pc' := 240) rfl ?_
      refine w_aload X33 hx (hb hby at_240) rfl rfl (pc' := 242) rfl ?_
      refine w_iload X33 hx (hb hby at_242) rfl (pc' := 244) rfl ?_
      refine w_laloadL (i := 0) (jn := r5_) X33 hx hZ P33 rfl thk (hb hby at_244) (own_oN (by omega)) (own_llt htP (by omega)) (pc' := 245) rfl ?_
      refine w_lcmp_le X33 hx (hb hby at_245) rfl (hb hby at_246) (by decide) (pcY := 251) (by decide) (pc' := 249) rfl (fun h39 => ?_) (fun h39 => absurd h39 (own_nlt hb0))
      refine w_aload X33 hx (hb hby at_251) rfl rfl (pc' := 253) rfl ?_
      refine w_iload X33 hx (hb hby at_253) rfl (pc' := 255) rfl ?_
      refine w_iload X33 hx (hb hby at_255) rfl (pc' := 257) rfl ?_
      refine w_iload X33 hx (hb hby at_257) rfl (pc' := 259) rfl ?_
      refine w_iload X33 hx (hb hby at_259) rfl (pc' := 261) rfl ?_
      refine w_iconst (v := (0 : Int32)) X33 hx (hb hby at_261) rfl (pc' := 262) rfl ?_
      refine own_call (W := 0) X33 hx hZ rfl hown hml.symm (wd42 hw) (wd43 hw) (wd44 hw) (wd45 hw) (rm_nc30 l Z a0 hw [] n0 tk tP ([oc5, AC kc5 [.int (Int32.ofNat b5_0), .int (Int32.ofNat b5_1), .int (Int32.ofNat b5_2)], AC kd5 (List.map Value.int Q5_)]) tf b5_0 r5_ _ P33 thk htP (by omega) ju0 hru hmin) (by decide) (by decide) (by decide) (by decide) (by decide) (argsL := [.ref (n0 + 0), .int (Int32.ofNat tf), .int (3 : Int32), .int (Int32.ofNat b5_0), .int (Int32.ofNat r5_), .int (0 : Int32)]) (rest := []) pd8 rfl rfl rfl (Nat.le_of_eq rfl) (hb hby at_262) (pc' := 265) rfl ?_
      intro v34 T34 L29 X34 hq
      obtain ⟨rfl, N29, P34⟩ := hq
      replace N29 := Fr.app N28 N29
      replace P34 : HP n0 T34.heap [AC tk (List.map Value.long tP), oc5, AC kc5 [.int (Int32.ofNat b5_0), .int (Int32.ofNat b5_1), .int (Int32.ofNat b5_2)], AC kd5 (List.map Value.int Q5_)] := P34
      refine w_if_eq X34 hx (hb hby at_265) (by decide) (pcY := 323) (by decide) (pc' := 268) rfl (fun h40 => absurd h40 (by decide)) (fun h40 => ?_)
      refine w_aload X34 hx (hb hby at_268) rfl rfl (pc' := 270) rfl ?_
      refine w_iload X34 hx (hb hby at_270) rfl (pc' := 272) rfl ?_
      refine w_iload X34 hx (hb hby at_272) rfl (pc' := 274) rfl ?_
      refine w_iload X34 hx (hb hby at_274) rfl (pc' := 276) rfl ?_
      refine w_iload X34 hx (hb hby at_276) rfl (pc' := 278) rfl ?_
      refine w_iconst (v := (1 : Int32)) X34 hx (hb hby at_278) rfl (pc' := 279) rfl ?_
      refine own_call (W := 0) X34 hx hZ rfl hown hml.symm (wd42 hw) (wd43 hw) (wd44 hw) (wd45 hw) (rm_nc31 l Z a0 hw [] n0 tk tP ([oc5, AC kc5 [.int (Int32.ofNat b5_0), .int (Int32.ofNat b5_1), .int (Int32.ofNat b5_2)], AC kd5 (List.map Value.int Q5_)]) tf b5_0 r5_ _ P34 thk htP (by omega) ju0 hru hmin) (by decide) (by decide) (by decide) (by decide) (by decide) (argsL := [.ref (n0 + 0), .int (Int32.ofNat tf), .int (3 : Int32), .int (Int32.ofNat b5_0), .int (Int32.ofNat r5_), .int (1 : Int32)]) (rest := []) pd8 rfl rfl rfl (Nat.le_of_eq rfl) (hb hby at_279) (pc' := 282) rfl ?_
      intro v35 T35 L30 X35 hq
      obtain ⟨rfl, N30, P35⟩ := hq
      replace N30 := Fr.app N29 N30
      replace P35 : HP n0 T35.heap [AC tk (List.map Value.long tP), oc5, AC kc5 [.int (Int32.ofNat b5_0), .int (Int32.ofNat b5_1), .int (Int32.ofNat b5_2)], AC kd5 (List.map Value.int Q5_)] := P35
      refine w_if_eq X35 hx (hb hby at_282) (by decide) (pcY := 323) (by decide) (pc' := 285) rfl (fun h41 => absurd h41 (by decide)) (fun h41 => ?_)
      refine w_aload X35 hx (hb hby at_285) rfl rfl (pc' := 287) rfl ?_
      refine w_iload X35 hx (hb hby at_287) rfl (pc' := 289) rfl ?_
      refine w_iload X35 hx (hb hby at_289) rfl (pc' := 291) rfl ?_
      refine w_iload X35 hx (hb hby at_291) rfl (pc' := 293) rfl ?_
      refine w_iload X35 hx (hb hby at_293) rfl (pc' := 295) rfl ?_
      refine w_iconst (v := (2 : Int32)) X35 hx (hb hby at_295) rfl (pc' := 296) rfl ?_
      refine own_call (W := 0) X35 hx hZ rfl hown hml.symm (wd42 hw) (wd43 hw) (wd44 hw) (wd45 hw) (rm_nc32 l Z a0 hw [] n0 tk tP ([oc5, AC kc5 [.int (Int32.ofNat b5_0), .int (Int32.ofNat b5_1), .int (Int32.ofNat b5_2)], AC kd5 (List.map Value.int Q5_)]) tf b5_0 r5_ _ P35 thk htP (by omega) ju0 hru hmin) (by decide) (by decide) (by decide) (by decide) (by decide) (argsL := [.ref (n0 + 0), .int (Int32.ofNat tf), .int (3 : Int32), .int (Int32.ofNat b5_0), .int (Int32.ofNat r5_), .int (2 : Int32)]) (rest := []) pd8 rfl rfl rfl (Nat.le_of_eq rfl) (hb hby at_296) (pc' := 299) rfl ?_
      intro v36 T36 L31 X36 hq
      obtain ⟨rfl, N31, P36⟩ := hq
      replace N31 := Fr.app N30 N31
      replace P36 : HP n0 T36.heap [AC tk (List.map Value.long tP), oc5, AC kc5 [.int (Int32.ofNat b5_0), .int (Int32.ofNat b5_1), .int (Int32.ofNat b5_2)], AC kd5 (List.map Value.int Q5_)] := P36
      refine w_if_eq X36 hx (hb hby at_299) (by decide) (pcY := 323) (by decide) (pc' := 302) rfl (fun h42 => absurd h42 (by decide)) (fun h42 => ?_)
      refine w_aload X36 hx (hb hby at_302) rfl rfl (pc' := 304) rfl ?_
      refine w_iload X36 hx (hb hby at_304) rfl (pc' := 306) rfl ?_
      refine w_iload X36 hx (hb hby at_306) rfl (pc' := 308) rfl ?_
      refine w_iload X36 hx (hb hby at_308) rfl (pc' := 310) rfl ?_
      refine w_iload X36 hx (hb hby at_310) rfl (pc' := 312) rfl ?_
      refine w_iconst (v := (3 : Int32)) X36 hx (hb hby at_312) rfl (pc' := 313) rfl ?_
      refine own_call (W := 0) X36 hx hZ rfl hown hml.symm (wd42 hw) (wd43 hw) (wd44 hw) (wd45 hw) (rm_nc33 l Z a0 hw [] n0 tk tP ([oc5, AC kc5 [.int (Int32.ofNat b5_0), .int (Int32.ofNat b5_1), .int (Int32.ofNat b5_2)], AC kd5 (List.map Value.int Q5_)]) tf b5_0 r5_ _ P36 thk htP (by omega) ju0 hru hmin) (by decide) (by decide) (by decide) (by decide) (by decide) (argsL := [.ref (n0 + 0), .int (Int32.ofNat tf), .int (3 : Int32), .int (Int32.ofNat b5_0), .int (Int32.ofNat r5_), .int (3 : Int32)]) (rest := []) pd8 rfl rfl rfl (Nat.le_of_eq rfl) (hb hby at_313) (pc' := 316) rfl ?_
      intro v37 T37 L32 X37 hq
      obtain ⟨rfl, N32, P37⟩ := hq
      replace N32 := Fr.app N31 N32
      replace P37 : HP n0 T37.heap [AC tk (List.map Value.long tP), oc5, AC kc5 [.int (Int32.ofNat b5_0), .int (Int32.ofNat b5_1), .int (Int32.ofNat b5_2)], AC kd5 (List.map Value.int Q5_)] := P37
      refine w_if_eq X37 hx (hb hby at_316) (by decide) (pcY := 323) (by decide) (pc' := 319) rfl (fun h43 => absurd h43 (by decide)) (fun h43 => ?_)
      refine w_iconst (v := (1 : Int32)) X37 hx (hb hby at_319) rfl (pc' := 320) rfl ?_
      refine w_goto X37 hx (hb hby at_320) (by decide) (pc' := 324) (by decide) ?_
      exact w_ret_n (t := .boolean) X37 hx hret hlk (by simp) (hb hby at_324) (z' := (1 : Int32)) rfl (by decide) (by decide) ⟨rfl, N32⟩
    · refine w_iload X31 hx (hb hby at_129) rfl (pc' := 131) rfl ?_
      refine w_iload X31 hx (hb hby at_131) rfl (pc' := 133) rfl ?_
      refine w_iadd X31 hx (hb hby at_133) (pc' := 134) rfl ?_
      refine w_eqI (z := (Int32.ofNat (tf + tj))) (own_oadd tf tj) ?_
      refine w_istore (l' := #[.val (.int x0), .val (.long x1), .second, .val (.long x2), .second, .val (.long x3), .second, .val (.long x4), .second, .val (.long x5), .second, .val (.int (3 : Int32)), .val (.int (Int32.ofNat tf)), .val (.int tf13), .val (.int (Int32.ofNat tj)), .val (.ref (n0 + 0)), .val (.ref (n0 + 1)), .val (.int (Int32.ofNat (tf + tj))), .unset]) X31 hx (hb hby at_134) rfl (pc' := 136) rfl ?_
      refine w_aload X31 hx (hb hby at_136) rfl rfl (pc' := 138) rfl ?_
      refine w_iload X31 hx (hb hby at_138) rfl (pc' := 140) rfl ?_
      refine w_aload X31 hx (hb hby at_140) rfl rfl (pc' := 142) rfl ?_
      refine w_iload X31 hx (hb hby at_142) rfl (pc' := 144) rfl ?_
      refine w_laloadL (i := 0) (jn := (tf + tj)) X31 hx hZ P31 rfl thk (hb hby at_144) (own_oN (by omega)) (own_llt htP (by omega)) (pc' := 145) rfl ?_
      refine w_lload X31 hx (hb hby at_145) rfl (pc' := 147) rfl ?_
      refine w_callP (W := 2) X31 hx hZ rfl hown hml.symm (wd33 hw) (wd34 hw) (wd35 hw) (wd36 hw) (rm6 l Z a0 hw [] (tP.getD (tf + tj) 0) x5 _) (by decide) (by decide) (by decide) rfl rfl (by decide) (by decide) (argsL := [.long (tP.getD (tf + tj) 0), .long x5]) (rest := [.int (Int32.ofNat (tf + tj)), .ref (n0 + 0)]) pd6 rfl rfl rfl (Nat.le_of_eq rfl) (hb hby at_147) (pc' := 150) rfl ?_
      intro T38 X38 e38
      have P38 : HP n0 T38.heap [AC tk (List.map Value.long tP), oc5, AC kc5 [.int (Int32.ofNat b5_0), .int (Int32.ofNat b5_1), .int (Int32.ofNat b5_2)], AC kd5 (List.map Value.int Q5_)] := by rw [e38]; exact P31
      refine w_lastoreL (i := 0) (jn := (tf + tj)) X38 hx hZ N26 P38 rfl thk (hb hby at_150) (own_oN (by omega)) (own_llt htP (by omega)) (pc' := 151) rfl ?_
      intro T39 L33 N33 X39 P39
      replace P39 : HP n0 T39.heap [AC tk (List.map Value.long (tP.set (tf + tj) (sp6 (tP.getD (tf + tj) 0) x5))), oc5, AC kc5 [.int (Int32.ofNat b5_0), .int (Int32.ofNat b5_1), .int (Int32.ofNat b5_2)], AC kd5 (List.map Value.int Q5_)] := P39
      refine w_aload X39 hx (hb hby at_151) rfl rfl (pc' := 153) rfl ?_
      refine w_iload X39 hx (hb hby at_153) rfl (pc' := 155) rfl ?_
      refine own_callV (W := 0) X39 hx hZ rfl hown hml.symm (wd37 hw) (wd38 hw) (wd40 hw) (wd39 hw) (wd3 hw) (wd41 hw) (rm_ra3 l Z a0 hw [] n0 tk oc5 kc5 kd5 (tP.set (tf + tj) (sp6 (tP.getD (tf + tj) 0) x5)) tf b5_0 b5_1 b5_2 Q5_ tP (tf + tj) _ P39 thk hkc5 hkd5 Fc5 (own_sl htP) (by omega) hI5 hO5 (by omega) (by omega) (fun d h => own_R1 h) (own_R2 htP (by omega))) (a := (n0 + 1)) (P39.exa (i := 1) rfl Fc5.1) (by decide) (by decide) (by decide) (by decide) (by decide) (argsL := [.int (Int32.ofNat (tf + tj))]) (rest := []) pd7 rfl rfl rfl (Nat.le_of_eq rfl) (hb hby at_155) (pc' := 158) rfl ?_
      intro v40 T40 L34 X40 hq
      obtain ⟨rfl, N34, b6_0, b6_1, b6_2, Q6_, hI6, hO6, P40⟩ := hq
      replace N34 := Fr.app N33 N34
      replace P40 : HP n0 T40.heap [AC tk (List.map Value.long (tP.set (tf + tj) (sp6 (tP.getD (tf + tj) 0) x5))), oc5, AC kc5 [.int (Int32.ofNat b6_0), .int (Int32.ofNat b6_1), .int (Int32.ofNat b6_2)], AC kd5 (List.map Value.int Q6_)] := P40
      refine w_aload X40 hx (hb hby at_158) rfl rfl (pc' := 160) rfl ?_
      obtain ⟨jlen, jl0, jl1, jl2, ju0, ju1, ju2, jn01, jn02, jn12, jcov, jq0, jq1, jq2⟩ := hI6
      have hOO := hO6
      obtain ⟨m01, m02⟩ := hOO
      refine own_callV (W := 0) X40 hx hZ rfl hown hml.symm (wd19 hw) (wd20 hw) (wd22 hw) (wd21 hw) (wd3 hw) (wd23 hw) (rm_ch3 l Z a0 hw [] n0 (AC tk (List.map Value.long (tP.set (tf + tj) (sp6 (tP.getD (tf + tj) 0) x5)))) oc5 kc5 (AC kd5 (List.map Value.int Q6_)) tf (Int32.ofNat b6_0) (Int32.ofNat b6_1) (Int32.ofNat b6_2) _ P40 hkc5 Fc5) (a := (n0 + 1)) (P40.exa (i := 1) rfl Fc5.1) (by decide) (by decide) (by decide) (by decide) (by decide) (argsL := []) (rest := []) pd3 rfl rfl rfl (Nat.le_of_eq rfl) (hb hby at_160) (pc' := 163) rfl ?_
      intro v41 T41 L35 X41 hq
      obtain ⟨rfl, N35, P41⟩ := hq
      replace N35 := Fr.app N34 N35
      replace P41 : HP n0 T41.heap [AC tk (List.map Value.long (tP.set (tf + tj) (sp6 (tP.getD (tf + tj) 0) x5))), oc5, AC kc5 [.int (Int32.ofNat b6_0), .int (Int32.ofNat b6_1), .int (Int32.ofNat b6_2)], AC kd5 (List.map Value.int Q6_)] := P41
      refine w_istore (l' := #[.val (.int x0), .val (.long x1), .second, .val (.long x2), .second, .val (.long x3), .second, .val (.long x4), .second, .val (.long x5), .second, .val (.int (3 : Int32)), .val (.int (Int32.ofNat tf)), .val (.int tf13), .val (.int (Int32.ofNat tj)), .val (.ref (n0 + 0)), .val (.ref (n0 + 1)), .val (.int (Int32.ofNat b6_0)), .unset]) X41 hx (hb hby at_163) rfl (pc' := 165) rfl ?_
      refine w_aload X41 hx (hb hby at_165) rfl rfl (pc' := 167) rfl ?_
      refine own_callV (W := 0) X41 hx hZ rfl hown hml.symm (wd24 hw) (wd25 hw) (wd27 hw) (wd26 hw) (wd3 hw) (wd28 hw) (rm_sec3 l Z a0 hw [] n0 tk oc5 kc5 (AC kd5 (List.map Value.int Q6_)) (tP.set (tf + tj) (sp6 (tP.getD (tf + tj) 0) x5)) tf b6_0 b6_1 b6_2 _ P41 thk hkc5 Fc5 (own_sl htP) (by omega) ju0 ju1 ju2) (a := (n0 + 1)) (P41.exa (i := 1) rfl Fc5.1) (by decide) (by decide) (by decide) (by decide) (by decide) (argsL := []) (rest := []) pd4 rfl rfl rfl (Nat.le_of_eq rfl) (hb hby at_167) (pc' := 170) rfl ?_
      intro v42 T42 L36 X42 hq
      obtain ⟨r6_, rfl, N36, hre, hr1, hr2, P42⟩ := hq
      replace N36 := Fr.app N35 N36
      replace P42 : HP n0 T42.heap [AC tk (List.map Value.long (tP.set (tf + tj) (sp6 (tP.getD (tf + tj) 0) x5))), oc5, AC kc5 [.int (Int32.ofNat b6_0), .int (Int32.ofNat b6_1), .int (Int32.ofNat b6_2)], AC kd5 (List.map Value.int Q6_)] := P42
      have hmin : ∀ d, tf ≤ d → d < tf + 3 → own_ne d b6_0 → own_p (tP.set (tf + tj) (sp6 (tP.getD (tf + tj) 0) x5)) r6_ ≤ own_p (tP.set (tf + tj) (sp6 (tP.getD (tf + tj) 0) x5)) d := fun d h1 h2 h3 => by
        rcases jcov d h1 h2 with q | q | q
        · exact absurd q h3
        · rw [q]; exact hr1
        · rw [q]; exact hr2
      have hb0 : own_p (tP.set (tf + tj) (sp6 (tP.getD (tf + tj) 0) x5)) b6_0 ≤ own_p (tP.set (tf + tj) (sp6 (tP.getD (tf + tj) 0) x5)) r6_ := by rcases hre with q | q <;> rw [q]; exact m01; exact m02
      have hru : r6_ < tf + 3 := by rcases hre with q | q <;> rw [q]; exact ju1; exact ju2
      have hrl : tf ≤ r6_ := by rcases hre with q | q <;> rw [q]; exact jl1; exact jl2
      have hrn : own_ne r6_ b6_0 := by rcases hre with q | q <;> rw [q]; exact own_nes jn01; exact own_nes jn02
      refine w_istore (l' := #[.val (.int x0), .val (.long x1), .second, .val (.long x2), .second, .val (.long x3), .second, .val (.long x4), .second, .val (.long x5), .second, .val (.int (3 : Int32)), .val (.int (Int32.ofNat tf)), .val (.int tf13), .val (.int (Int32.ofNat tj)), .val (.ref (n0 + 0)), .val (.ref (n0 + 1)), .val (.int (Int32.ofNat b6_0)), .val (.int (Int32.ofNat r6_))]) X42 hx (hb hby at_170) rfl (pc' := 172) rfl ?_
      refine w_iload X42 hx (hb hby at_172) rfl (pc' := 174) rfl ?_
      refine w_iload X42 hx (hb hby at_174) rfl (pc' := 176) rfl ?_
      refine w_icmp_lt X42 hx (hb hby at_176) (by decide) (pcY := 189) (by decide) (pc' := 179) rfl (fun h44 => absurd ((own_olt (a := b6_0) (b := tf) (by omega) (by omega)).mp h44) (by omega)) (fun h44 => ?_)
      refine w_iload X42 hx (hb hby at_179) rfl (pc' := 181) rfl ?_
      refine w_iload X42 hx (hb hby at_181) rfl (pc' := 183) rfl ?_
      refine w_iload X42 hx (hb hby at_183) rfl (pc' := 185) rfl ?_
      refine w_iadd X42 hx (hb hby at_185) (pc' := 186) rfl ?_
      refine w_eqI (z := (Int32.ofNat (tf + 3))) (own_oadd tf 3) ?_
      refine w_icmp_lt X42 hx (hb hby at_186) (by decide) (pcY := 191) (by decide) (pc' := 189) rfl (fun h45 => ?_) (fun h45 => absurd ((own_olt (a := b6_0) (b := tf + 3) (by omega) (by omega)).mpr (by omega)) h45)
      refine w_iload X42 hx (hb hby at_191) rfl (pc' := 193) rfl ?_
      refine w_iconst (v := (1 : Int32)) X42 hx (hb hby at_193) rfl (pc' := 194) rfl ?_
      refine w_icmp_ne X42 hx (hb hby at_194) (by decide) (pcY := 209) (by decide) (pc' := 197) rfl (fun h46 => ?_) (fun h46 => absurd h46 (by decide))
      refine w_iload X42 hx (hb hby at_209) rfl (pc' := 211) rfl ?_
      refine w_iload X42 hx (hb hby at_211) rfl (pc' := 213) rfl ?_
      refine w_icmp_lt X42 hx (hb hby at_213) (by decide) (pcY := 233) (by decide) (pc' := 216) rfl (fun h47 => absurd ((own_olt (a := r6_) (b := tf) (by omega) (by omega)).mp h47) (by omega)) (fun h47 => ?_)
      refine w_iload X42 hx (hb hby at_216) rfl (pc' := 218) rfl ?_
      refine w_iload X42 hx (hb hby at_218) rfl (pc' := 220) rfl ?_
      refine w_iload X42 hx (hb hby at_220) rfl (pc' := 222) rfl ?_
      refine w_iadd X42 hx (hb hby at_222) (pc' := 223) rfl ?_
      refine w_eqI (z := (Int32.ofNat (tf + 3))) (own_oadd tf 3) ?_
      refine w_icmp_ge X42 hx (hb hby at_223) (by decide) (pcY := 233) (by decide) (pc' := 226) rfl (fun h48 => absurd ((own_olt (a := r6_) (b := tf + 3) (by omega) (by omega)).mpr (by omega)) h48) (fun h48 => ?_)
      refine w_iload X42 hx (hb hby at_226) rfl (pc' := 228) rfl ?_
      refine w_iload X42 hx (hb hby at_228) rfl (pc' := 230) rfl ?_
      refine w_icmp_ne X42 hx (hb hby at_230) (by decide) (pcY := 235) (by decide) (pc' := 233) rfl (fun h49 => ?_) (fun h49 => absurd ((own_oeq (a := r6_) (b := b6_0) (by omega) (by omega)).mp h49) hrn)
      refine w_aload X42 hx (hb hby at_235) rfl rfl (pc' := 237) rfl ?_
      refine w_iload X42 hx (hb hby at_237) rfl (pc' := 239) rfl ?_
      refine w_laloadL (i := 0) (jn := b6_0) X42 hx hZ P42 rfl thk (hb hby at_239) (own_oN (by omega)) (own_llt (own_sl htP) (by omega)) (pc' := 240) rfl ?_
      refine w_aload X42 hx (hb hby at_240) rfl rfl (pc' := 242) rfl ?_
      refine w_iload X42 hx (hb hby at_242) rfl (pc' := 244) rfl ?_
      refine w_laloadL (i := 0) (jn := r6_) X42 hx hZ P42 rfl thk (hb hby at_244) (own_oN (by omega)) (own_llt (own_sl htP) (by omega)) (pc' := 245) rfl ?_
      refine w_lcmp_le X42 hx (hb hby at_245) rfl (hb hby at_246) (by decide) (pcY := 251) (by decide) (pc' := 249) rfl (fun h50 => ?_) (fun h50 => absurd h50 (own_nlt hb0))
      refine w_aload X42 hx (hb hby at_251) rfl rfl (pc' := 253) rfl ?_
      refine w_iload X42 hx (hb hby at_253) rfl (pc' := 255) rfl ?_
      refine w_iload X42 hx (hb hby at_255) rfl (pc' := 257) rfl ?_
      refine w_iload X42 hx (hb hby at_257) rfl (pc' := 259) rfl ?_
      refine w_iload X42 hx (hb hby at_259) rfl (pc' := 261) rfl ?_
      refine w_iconst (v := (0 : Int32)) X42 hx (hb hby at_261) rfl (pc' := 262) rfl ?_
      refine own_call (W := 0) X42 hx hZ rfl hown hml.symm (wd42 hw) (wd43 hw) (wd44 hw) (wd45 hw) (rm_nc30 l Z a0 hw [] n0 tk (tP.set (tf + tj) (sp6 (tP.getD (tf + tj) 0) x5)) ([oc5, AC kc5 [.int (Int32.ofNat b6_0), .int (Int32.ofNat b6_1), .int (Int32.ofNat b6_2)], AC kd5 (List.map Value.int Q6_)]) tf b6_0 r6_ _ P42 thk (own_sl htP) (by omega) ju0 hru hmin) (by decide) (by decide) (by decide) (by decide) (by decide) (argsL := [.ref (n0 + 0), .int (Int32.ofNat tf), .int (3 : Int32), .int (Int32.ofNat b6_0), .int (Int32.ofNat r6_), .int (0 : Int32)]) (rest := []) pd8 rfl rfl rfl (Nat.le_of_eq rfl) (hb hby at_262) (pc' := 265) rfl ?_
      intro v43 T43 L37 X43 hq
      obtain ⟨rfl, N37, P43⟩ := hq
      replace N37 := Fr.app N36 N37
      replace P43 : HP n0 T43.heap [AC tk (List.map Value.long (tP.set (tf + tj) (sp6 (tP.getD (tf + tj) 0) x5))), oc5, AC kc5 [.int (Int32.ofNat b6_0), .int (Int32.ofNat b6_1), .int (Int32.ofNat b6_2)], AC kd5 (List.map Value.int Q6_)] := P43
      refine w_if_eq X43 hx (hb hby at_265) (by decide) (pcY := 323) (by decide) (pc' := 268) rfl (fun h51 => absurd h51 (by decide)) (fun h51 => ?_)
      refine w_aload X43 hx (hb hby at_268) rfl rfl (pc' := 270) rfl ?_
      refine w_iload X43 hx (hb hby at_270) rfl (pc' := 272) rfl ?_
      refine w_iload X43 hx (hb hby at_272) rfl (pc' := 274) rfl ?_
      refine w_iload X43 hx (hb hby at_274) rfl (pc' := 276) rfl ?_
      refine w_iload X43 hx (hb hby at_276) rfl (pc' := 278) rfl ?_
      refine w_iconst (v := (1 : Int32)) X43 hx (hb hby at_278) rfl (pc' := 279) rfl ?_
      refine own_call (W := 0) X43 hx hZ rfl hown hml.symm (wd42 hw) (wd43 hw) (wd44 hw) (wd45 hw) (rm_nc31 l Z a0 hw [] n0 tk (tP.set (tf + tj) (sp6 (tP.getD (tf + tj) 0) x5)) ([oc5, AC kc5 [.int (Int32.ofNat b6_0), .int (Int32.ofNat b6_1), .int (Int32.ofNat b6_2)], AC kd5 (List.map Value.int Q6_)]) tf b6_0 r6_ _ P43 thk (own_sl htP) (by omega) ju0 hru hmin) (by decide) (by decide) (by decide) (by decide) (by decide) (argsL := [.ref (n0 + 0), .int (Int32.ofNat tf), .int (3 : Int32), .int (Int32.ofNat b6_0), .int (Int32.ofNat r6_), .int (1 : Int32)]) (rest := []) pd8 rfl rfl rfl (Nat.le_of_eq rfl) (hb hby at_279) (pc' := 282) rfl ?_
      intro v44 T44 L38 X44 hq
      obtain ⟨rfl, N38, P44⟩ := hq
      replace N38 := Fr.app N37 N38
      replace P44 : HP n0 T44.heap [AC tk (List.map Value.long (tP.set (tf + tj) (sp6 (tP.getD (tf + tj) 0) x5))), oc5, AC kc5 [.int (Int32.ofNat b6_0), .int (Int32.ofNat b6_1), .int (Int32.ofNat b6_2)], AC kd5 (List.map Value.int Q6_)] := P44
      refine w_if_eq X44 hx (hb hby at_282) (by decide) (pcY := 323) (by decide) (pc' := 285) rfl (fun h52 => absurd h52 (by decide)) (fun h52 => ?_)
      refine w_aload X44 hx (hb hby at_285) rfl rfl (pc' := 287) rfl ?_
      refine w_iload X44 hx (hb hby at_287) rfl (pc' := 289) rfl ?_
      refine w_iload X44 hx (hb hby at_289) rfl (pc' := 291) rfl ?_
      refine w_iload X44 hx (hb hby at_291) rfl (pc' := 293) rfl ?_
      refine w_iload X44 hx (hb hby at_293) rfl (pc' := 295) rfl ?_
      refine w_iconst (v := (2 : Int32)) X44 hx (hb hby at_295) rfl (pc' := 296) rfl ?_
      refine own_call (W := 0) X44 hx hZ rfl hown hml.symm (wd42 hw) (wd43 hw) (wd44 hw) (wd45 hw) (rm_nc32 l Z a0 hw [] n0 tk (tP.set (tf + tj) (sp6 (tP.getD (tf + tj) 0) x5)) ([oc5, AC kc5 [.int (Int32.ofNat b6_0), .int (Int32.ofNat b6_1), .int (Int32.ofNat b6_2)], AC kd5 (List.map Value.int Q6_)]) tf b6_0 r6_ _ P44 thk (own_sl htP) (by omega) ju0 hru hmin) (by decide) (by decide) (by decide) (by decide) (by decide) (argsL := [.ref (n0 + 0), .int (Int32.ofNat tf), .int (3 : Int32), .int (Int32.ofNat b6_0), .int (Int32.ofNat r6_), .int (2 : Int32)]) (rest := []) pd8 rfl rfl rfl (Nat.le_of_eq rfl) (hb hby at_296) (pc' := 299) rfl ?_
      intro v45 T45 L39 X45 hq
      obtain ⟨rfl, N39, P45⟩ := hq
      replace N39 := Fr.app N38 N39
      replace P45 : HP n0 T45.heap [AC tk (List.map Value.long (tP.set (tf + tj) (sp6 (tP.getD (tf + tj) 0) x5))), oc5, AC kc5 [.int (Int32.ofNat b6_0), .int (Int32.ofNat b6_1), .int (Int32.ofNat b6_2)], AC kd5 (List.map Value.int Q6_)] := P45
      refine w_if_eq X45 hx (hb hby at_299) (by decide) (pcY := 323) (by decide) (pc' := 302) rfl (fun h53 => absurd h53 (by decide)) (fun h53 => ?_)
      refine w_aload X45 hx (hb hby at_302) rfl rfl (pc' := 304) rfl ?_
      refine w_iload X45 hx (hb hby at_304) rfl (pc' := 306) rfl ?_
      refine w_iload X45 hx (hb hby at_306) rfl (pc' := 308) rfl ?_
      refine w_iload X45 hx (hb hby at_308) rfl (pc' := 310) rfl ?_
      refine w_iload X45 hx (hb hby at_310) rfl (pc' := 312) rfl ?_
      refine w_iconst (v := (3 : Int32)) X45 hx (hb hby at_312) rfl (pc' := 313) rfl ?_
      refine own_call (W := 0) X45 hx hZ rfl hown hml.symm (wd42 hw) (wd43 hw) (wd44 hw) (wd45 hw) (rm_nc33 l Z a0 hw [] n0 tk (tP.set (tf + tj) (sp6 (tP.getD (tf + tj) 0) x5)) ([oc5, AC kc5 [.int (Int32.ofNat b6_0), .int (Int32.ofNat b6_1), .int (Int32.ofNat b6_2)], AC kd5 (List.map Value.int Q6_)]) tf b6_0 r6_ _ P45 thk (own_sl htP) (by omega) ju0 hru hmin) (by decide) (by decide) (by decide) (by decide) (by decide) (argsL := [.ref (n0 + 0), .int (Int32.ofNat tf), .int (3 : Int32), .int (Int32.ofNat b6_0), .int (Int32.ofNat r6_), .int (3 : Int32)]) (rest := []) pd8 rfl rfl rfl (Nat.le_of_eq rfl) (hb hby at_313) (pc' := 316) rfl ?_
      intro v46 T46 L40 X46 hq
      obtain ⟨rfl, N40, P46⟩ := hq
      replace N40 := Fr.app N39 N40
      replace P46 : HP n0 T46.heap [AC tk (List.map Value.long (tP.set (tf + tj) (sp6 (tP.getD (tf + tj) 0) x5))), oc5, AC kc5 [.int (Int32.ofNat b6_0), .int (Int32.ofNat b6_1), .int (Int32.ofNat b6_2)], AC kd5 (List.map Value.int Q6_)] := P46
      refine w_if_eq X46 hx (hb hby at_316) (by decide) (pcY := 323) (by decide) (pc' := 319) rfl (fun h54 => absurd h54 (by decide)) (fun h54 => ?_)
      refine w_iconst (v := (1 : Int32)) X46 hx (hb hby at_319) rfl (pc' := 320) rfl ?_
      refine w_goto X46 hx (hb hby at_320) (by decide) (pc' := 324) (by decide) ?_
      exact w_ret_n (t := .boolean) X46 hx hret hlk (by simp) (hb hby at_324) (z' := (1 : Int32)) rfl (by decide) (by decide) ⟨rfl, N40⟩
  have Jc4 : ∀ (T47 : State) (L41 : List Loc) (tf13 : Int32) (tj : Nat) (tP : List Int64) (tk : ClassId), Fr n0 L41 → Stand p l e room_1 s m #[Value.int x0, Value.long x1, Value.long x2, Value.long x3, Value.long x4, Value.long x5] below meth c T47 L41 1 5 → tj < 4 → IsA Z tk .long → tP.length = tf + 4 → HP n0 T47.heap [AC tk (List.map Value.long tP)] → Wp p e s below room_1.cells room_1.slots (LawQ n0) T47 (mkF m 111 #[.val (.int x0), .val (.long x1), .second, .val (.long x2), .second, .val (.long x3), .second, .val (.long x4), .second, .val (.long x5), .second, .val (.int (4 : Int32)), .val (.int (Int32.ofNat tf)), .val (.int tf13), .val (.int (Int32.ofNat tj)), .val (.ref (n0 + 0)), .unset, .unset, .unset] []) := by
    intro T47 L41 tf13 tj tP tk N41 X47 htj thk htP P47
    refine w_new (j := 1) X47 hx hZ hown (wd1 hw) (wd2 hw) (wd3 hw) P47 fl_C0 dv_C0 rfl (ly_C0 hw) (hb hby at_111) (by decide) (by decide) rfl (pc' := 114) rfl ?_
    intro T48 c4 X48 P48 F4
    replace P48 : HP n0 T48.heap [AC tk (List.map Value.long tP), c4] := P48
    refine w_dup X48 hx (hb hby at_114) rfl (pc' := 115) rfl ?_
    refine w_aload X48 hx (hb hby at_115) rfl rfl (pc' := 117) rfl ?_
    refine w_iload X48 hx (hb hby at_117) rfl (pc' := 119) rfl ?_
    refine own_callI (W := 1) X48 hx hZ rfl rfl hown hml.symm (wd4 hw) (wd5 hw) (wd3 hw) (wd6 hw) (rm_ini4 l Z a0 hw [] n0 tk c4 tP tf _ P48 thk F4 htP (by omega)) (by decide) (by decide) (by decide) (by decide) (by decide) (a := (n0 + 1)) (argsL := [.ref (n0 + 0), .int (Int32.ofNat tf)]) (rest := [.ref (n0 + 1)]) pd1 rfl rfl rfl (Nat.le_of_eq rfl) (hb hby at_119) (pc' := 122) rfl ?_
    intro v49 T49 L42 X49 hq
    obtain ⟨rfl, N42, oc7, Fc7, kc7, hkc7, kd7, hkd7, b7_0, b7_1, b7_2, b7_3, Q7_, hI7, hO7, P49⟩ := hq
    replace N42 := Fr.app N41 N42
    replace P49 : HP n0 T49.heap [AC tk (List.map Value.long tP), oc7, AC kc7 [.int (Int32.ofNat b7_0), .int (Int32.ofNat b7_1), .int (Int32.ofNat b7_2), .int (Int32.ofNat b7_3)], AC kd7 (List.map Value.int Q7_)] := P49
    refine w_astore (l' := #[.val (.int x0), .val (.long x1), .second, .val (.long x2), .second, .val (.long x3), .second, .val (.long x4), .second, .val (.long x5), .second, .val (.int (4 : Int32)), .val (.int (Int32.ofNat tf)), .val (.int tf13), .val (.int (Int32.ofNat tj)), .val (.ref (n0 + 0)), .val (.ref (n0 + 1)), .unset, .unset]) X49 hx (hb hby at_122) rfl rfl (pc' := 124) rfl ?_
    refine w_iload X49 hx (hb hby at_124) rfl (pc' := 126) rfl ?_
    refine w_if_eq X49 hx (hb hby at_126) (by decide) (pcY := 158) (by decide) (pc' := 129) rfl (fun h55 => ?_) (fun h55 => ?_)
    · refine w_aload X49 hx (hb hby at_158) rfl rfl (pc' := 160) rfl ?_
      obtain ⟨jlen, jl0, jl1, jl2, jl3, ju0, ju1, ju2, ju3, jn01, jn02, jn03, jn12, jn13, jn23, jcov, jq0, jq1, jq2, jq3⟩ := hI7
      have hOO := hO7
      obtain ⟨m01, m02, m13⟩ := hOO
      refine own_callV (W := 0) X49 hx hZ rfl hown hml.symm (wd19 hw) (wd20 hw) (wd22 hw) (wd21 hw) (wd3 hw) (wd23 hw) (rm_ch4 l Z a0 hw [] n0 (AC tk (List.map Value.long tP)) oc7 kc7 (AC kd7 (List.map Value.int Q7_)) tf (Int32.ofNat b7_0) (Int32.ofNat b7_1) (Int32.ofNat b7_2) (Int32.ofNat b7_3) _ P49 hkc7 Fc7) (a := (n0 + 1)) (P49.exa (i := 1) rfl Fc7.1) (by decide) (by decide) (by decide) (by decide) (by decide) (argsL := []) (rest := []) pd3 rfl rfl rfl (Nat.le_of_eq rfl) (hb hby at_160) (pc' := 163) rfl ?_
      intro v50 T50 L43 X50 hq
      obtain ⟨rfl, N43, P50⟩ := hq
      replace N43 := Fr.app N42 N43
      replace P50 : HP n0 T50.heap [AC tk (List.map Value.long tP), oc7, AC kc7 [.int (Int32.ofNat b7_0), .int (Int32.ofNat b7_1), .int (Int32.ofNat b7_2), .int (Int32.ofNat b7_3)], AC kd7 (List.map Value.int Q7_)] := P50
      refine w_istore (l' := #[.val (.int x0), .val (.long x1), .second, .val (.long x2), .second, .val (.long x3), .second, .val (.long x4), .second, .val (.long x5), .second, .val (.int (4 : Int32)), .val (.int (Int32.ofNat tf)), .val (.int tf13), .val (.int (Int32.ofNat tj)), .val (.ref (n0 + 0)), .val (.ref (n0 + 1)), .val (.int (Int32.ofNat b7_0)), .unset]) X50 hx (hb hby at_163) rfl (pc' := 165) rfl ?_
      refine w_aload X50 hx (hb hby at_165) rfl rfl (pc' := 167) rfl ?_
      refine own_callV (W := 0) X50 hx hZ rfl hown hml.symm (wd24 hw) (wd25 hw) (wd27 hw) (wd26 hw) (wd3 hw) (wd28 hw) (rm_sec4 l Z a0 hw [] n0 tk oc7 kc7 (AC kd7 (List.map Value.int Q7_)) tP tf b7_0 b7_1 b7_2 b7_3 _ P50 thk hkc7 Fc7 htP (by omega) ju0 ju1 ju2 ju3) (a := (n0 + 1)) (P50.exa (i := 1) rfl Fc7.1) (by decide) (by decide) (by decide) (by decide) (by decide) (argsL := []) (rest := []) pd4 rfl rfl rfl (Nat.le_of_eq rfl) (hb hby at_167) (pc' := 170) rfl ?_
      intro v51 T51 L44 X51 hq
      obtain ⟨r7_, rfl, N44, hre, hr1, hr2, P51⟩ := hq
      replace N44 := Fr.app N43 N44
      replace P51 : HP n0 T51.heap [AC tk (List.map Value.long tP), oc7, AC kc7 [.int (Int32.ofNat b7_0), .int (Int32.ofNat b7_1), .int (Int32.ofNat b7_2), .int (Int32.ofNat b7_3)], AC kd7 (List.map Value.int Q7_)] := P51
      have hmin : ∀ d, tf ≤ d → d < tf + 4 → own_ne d b7_0 → own_p tP r7_ ≤ own_p tP d := fun d h1 h2 h3 => by
        rcases jcov d h1 h2 with q | q | q | q
        · exact absurd q h3
        · rw [q]; exact hr1
        · rw [q]; exact hr2
        · rw [q]; exact Int.le_trans hr1 m13
      have hb0 : own_p tP b7_0 ≤ own_p tP r7_ := by rcases hre with q | q <;> rw [q]; exact m01; exact m02
      have hru : r7_ < tf + 4 := by rcases hre with q | q <;> rw [q]; exact ju1; exact ju2
      have hrl : tf ≤ r7_ := by rcases hre with q | q <;> rw [q]; exact jl1; exact jl2
      have hrn : own_ne r7_ b7_0 := by rcases hre with q | q <;> rw [q]; exact own_nes jn01; exact own_nes jn02
      refine w_istore (l' := #[.val (.int x0), .val (.long x1), .second, .val (.long x2), .second, .val (.long x3), .second, .val (.long x4), .second, .val (.long x5), .second, .val (.int (4 : Int32)), .val (.int (Int32.ofNat tf)), .val (.int tf13), .val (.int (Int32.ofNat tj)), .val (.ref (n0 + 0)), .val (.ref (n0 + 1)), .val (.int (Int32.ofNat b7_0)), .val (.int (Int32.ofNat r7_))]) X51 hx (hb hby at_170) rfl (pc' := 172) rfl ?_
      refine w_iload X51 hx (hb hby at_172) rfl (pc' := 174) rfl ?_
      refine w_iload X51 hx (hb hby at_174) rfl (pc' := 176) rfl ?_
      refine w_icmp_lt X51 hx (hb hby at_176) (by decide) (pcY := 189) (by decide) (pc' := 179) rfl (fun h56 => absurd ((own_olt (a := b7_0) (b := tf) (by omega) (by omega)).mp h56) (by omega)) (fun h56 => ?_)
      refine w_iload X51 hx (hb hby at_179) rfl (pc' := 181) rfl ?_
      refine w_iload X51 hx (hb hby at_181) rfl (pc' := 183) rfl ?_
      refine w_iload X51 hx (hb hby at_183) rfl (pc' := 185) rfl ?_
      refine w_iadd X51 hx (hb hby at_185) (pc' := 186) rfl ?_
      refine w_eqI (z := (Int32.ofNat (tf + 4))) (own_oadd tf 4) ?_
      refine w_icmp_lt X51 hx (hb hby at_186) (by decide) (pcY := 191) (by decide) (pc' := 189) rfl (fun h57 => ?_) (fun h57 => absurd ((own_olt (a := b7_0) (b := tf + 4) (by omega) (by omega)).mpr (by omega)) h57)
      refine w_iload X51 hx (hb hby at_191) rfl (pc' := 193) rfl ?_
      refine w_iconst (v := (1 : Int32)) X51 hx (hb hby at_193) rfl (pc' := 194) rfl ?_
      refine w_icmp_ne X51 hx (hb hby at_194) (by decide) (pcY := 209) (by decide) (pc' := 197) rfl (fun h58 => ?_) (fun h58 => absurd h58 (by decide))
      refine w_iload X51 hx (hb hby at_209) rfl (pc' := 211) rfl ?_
      refine w_iload X51 hx (hb hby at_211) rfl (pc' := 213) rfl ?_
      refine w_icmp_lt X51 hx (hb hby at_213) (by decide) (pcY := 233) (by decide) (pc' := 216) rfl (fun h59 => absurd ((own_olt (a := r7_) (b := tf) (by omega) (by omega)).mp h59) (by omega)) (fun h59 => ?_)
      refine w_iload X51 hx (hb hby at_216) rfl (pc' := 218) rfl ?_
      refine w_iload X51 hx (hb hby at_218) rfl (pc' := 220) rfl ?_
      refine w_iload X51 hx (hb hby at_220) rfl (pc' := 222) rfl ?_
      refine w_iadd X51 hx (hb hby at_222) (pc' := 223) rfl ?_
      refine w_eqI (z := (Int32.ofNat (tf + 4))) (own_oadd tf 4) ?_
      refine w_icmp_ge X51 hx (hb hby at_223) (by decide) (pcY := 233) (by decide) (pc' := 226) rfl (fun h60 => absurd ((own_olt (a := r7_) (b := tf + 4) (by omega) (by omega)).mpr (by omega)) h60) (fun h60 => ?_)
      refine w_iload X51 hx (hb hby at_226) rfl (pc' := 228) rfl ?_
      refine w_iload X51 hx (hb hby at_228) rfl (pc' := 230) rfl ?_
      refine w_icmp_ne X51 hx (hb hby at_230) (by decide) (pcY := 235) (by decide) (pc' := 233) rfl (fun h61 => ?_) (fun h61 => absurd ((own_oeq (a := r7_) (b := b7_0) (by omega) (by omega)).mp h61) hrn)
      refine w_aload X51 hx (hb hby at_235) rfl rfl (pc' := 237) rfl ?_
      refine w_iload X51 hx (hb hby at_237) rfl (pc' := 239) rfl ?_
      refine w_laloadL (i := 0) (jn := b7_0) X51 hx hZ P51 rfl thk (hb hby at_239) (own_oN (by omega)) (own_llt htP (by omega)) (pc' := 240) rfl ?_
      refine w_aload X51 hx (hb hby at_240) rfl rfl (pc' := 242) rfl ?_
      refine w_iload X51 hx (hb hby at_242) rfl (pc' := 244) rfl ?_
      refine w_laloadL (i := 0) (jn := r7_) X51 hx hZ P51 rfl thk (hb hby at_244) (own_oN (by omega)) (own_llt htP (by omega)) (pc' := 245) rfl ?_
      refine w_lcmp_le X51 hx (hb hby at_245) rfl (hb hby at_246) (by decide) (pcY := 251) (by decide) (pc' := 249) rfl (fun h62 => ?_) (fun h62 => absurd h62 (own_nlt hb0))
      refine w_aload X51 hx (hb hby at_251) rfl rfl (pc' := 253) rfl ?_
      refine w_iload X51 hx (hb hby at_253) rfl (pc' := 255) rfl ?_
      refine w_iload X51 hx (hb hby at_255) rfl (pc' := 257) rfl ?_
      refine w_iload X51 hx (hb hby at_257) rfl (pc' := 259) rfl ?_
      refine w_iload X51 hx (hb hby at_259) rfl (pc' := 261) rfl ?_
      refine w_iconst (v := (0 : Int32)) X51 hx (hb hby at_261) rfl (pc' := 262) rfl ?_
      refine own_call (W := 0) X51 hx hZ rfl hown hml.symm (wd42 hw) (wd43 hw) (wd44 hw) (wd45 hw) (rm_nc40 l Z a0 hw [] n0 tk tP ([oc7, AC kc7 [.int (Int32.ofNat b7_0), .int (Int32.ofNat b7_1), .int (Int32.ofNat b7_2), .int (Int32.ofNat b7_3)], AC kd7 (List.map Value.int Q7_)]) tf b7_0 r7_ _ P51 thk htP (by omega) ju0 hru hmin) (by decide) (by decide) (by decide) (by decide) (by decide) (argsL := [.ref (n0 + 0), .int (Int32.ofNat tf), .int (4 : Int32), .int (Int32.ofNat b7_0), .int (Int32.ofNat r7_), .int (0 : Int32)]) (rest := []) pd8 rfl rfl rfl (Nat.le_of_eq rfl) (hb hby at_262) (pc' := 265) rfl ?_
      intro v52 T52 L45 X52 hq
      obtain ⟨rfl, N45, P52⟩ := hq
      replace N45 := Fr.app N44 N45
      replace P52 : HP n0 T52.heap [AC tk (List.map Value.long tP), oc7, AC kc7 [.int (Int32.ofNat b7_0), .int (Int32.ofNat b7_1), .int (Int32.ofNat b7_2), .int (Int32.ofNat b7_3)], AC kd7 (List.map Value.int Q7_)] := P52
      refine w_if_eq X52 hx (hb hby at_265) (by decide) (pcY := 323) (by decide) (pc' := 268) rfl (fun h63 => absurd h63 (by decide)) (fun h63 => ?_)
      refine w_aload X52 hx (hb hby at_268) rfl rfl (pc' := 270) rfl ?_
      refine w_iload X52 hx (hb hby at_270) rfl (pc' := 272) rfl ?_
      refine w_iload X52 hx (hb hby at_272) rfl (pc' := 274) rfl ?_
      refine w_iload X52 hx (hb hby at_274) rfl (pc' := 276) rfl ?_
      refine w_iload X52 hx (hb hby at_276) rfl (pc' := 278) rfl ?_
      refine w_iconst (v := (1 : Int32)) X52 hx (hb hby at_278) rfl (pc' := 279) rfl ?_
      refine own_call (W := 0) X52 hx hZ rfl hown hml.symm (wd42 hw) (wd43 hw) (wd44 hw) (wd45 hw) (rm_nc41 l Z a0 hw [] n0 tk tP ([oc7, AC kc7 [.int (Int32.ofNat b7_0), .int (Int32.ofNat b7_1), .int (Int32.ofNat b7_2), .int (Int32.ofNat b7_3)], AC kd7 (List.map Value.int Q7_)]) tf b7_0 r7_ _ P52 thk htP (by omega) ju0 hru hmin) (by decide) (by decide) (by decide) (by decide) (by decide) (argsL := [.ref (n0 + 0), .int (Int32.ofNat tf), .int (4 : Int32), .int (Int32.ofNat b7_0), .int (Int32.ofNat r7_), .int (1 : Int32)]) (rest := []) pd8 rfl rfl rfl (Nat.le_of_eq rfl) (hb hby at_279) (pc' := 282) rfl ?_
      intro v53 T53 L46 X53 hq
      obtain ⟨rfl, N46, P53⟩ := hq
      replace N46 := Fr.app N45 N46
      replace P53 : HP n0 T53.heap [AC tk (List.map Value.long tP), oc7, AC kc7 [.int (Int32.ofNat b7_0), .int (Int32.ofNat b7_1), .int (Int32.ofNat b7_2), .int (Int32.ofNat b7_3)], AC kd7 (List.map Value.int Q7_)] := P53
      refine w_if_eq X53 hx (hb hby at_282) (by decide) (pcY := 323) (by decide) (pc' := 285) rfl (fun h64 => absurd h64 (by decide)) (fun h64 => ?_)
      refine w_aload X53 hx (hb hby at_285) rfl rfl (pc' := 287) rfl ?_
      refine w_iload X53 hx (hb hby at_287) rfl (pc' := 289) rfl ?_
      refine w_iload X53 hx (hb hby at_289) rfl (pc' := 291) rfl ?_
      refine w_iload X53 hx (hb hby at_291) rfl (pc' := 293) rfl ?_
      refine w_iload X53 hx (hb hby at_293) rfl (pc' := 295) rfl ?_
      refine w_iconst (v := (2 : Int32)) X53 hx (hb hby at_295) rfl (pc' := 296) rfl ?_
      refine own_call (W := 0) X53 hx hZ rfl hown hml.symm (wd42 hw) (wd43 hw) (wd44 hw) (wd45 hw) (rm_nc42 l Z a0 hw [] n0 tk tP ([oc7, AC kc7 [.int (Int32.ofNat b7_0), .int (Int32.ofNat b7_1), .int (Int32.ofNat b7_2), .int (Int32.ofNat b7_3)], AC kd7 (List.map Value.int Q7_)]) tf b7_0 r7_ _ P53 thk htP (by omega) ju0 hru hmin) (by decide) (by decide) (by decide) (by decide) (by decide) (argsL := [.ref (n0 + 0), .int (Int32.ofNat tf), .int (4 : Int32), .int (Int32.ofNat b7_0), .int (Int32.ofNat r7_), .int (2 : Int32)]) (rest := []) pd8 rfl rfl rfl (Nat.le_of_eq rfl) (hb hby at_296) (pc' := 299) rfl ?_
      intro v54 T54 L47 X54 hq
      obtain ⟨rfl, N47, P54⟩ := hq
      replace N47 := Fr.app N46 N47
      replace P54 : HP n0 T54.heap [AC tk (List.map Value.long tP), oc7, AC kc7 [.int (Int32.ofNat b7_0), .int (Int32.ofNat b7_1), .int (Int32.ofNat b7_2), .int (Int32.ofNat b7_3)], AC kd7 (List.map Value.int Q7_)] := P54
      refine w_if_eq X54 hx (hb hby at_299) (by decide) (pcY := 323) (by decide) (pc' := 302) rfl (fun h65 => absurd h65 (by decide)) (fun h65 => ?_)
      refine w_aload X54 hx (hb hby at_302) rfl rfl (pc' := 304) rfl ?_
      refine w_iload X54 hx (hb hby at_304) rfl (pc' := 306) rfl ?_
      refine w_iload X54 hx (hb hby at_306) rfl (pc' := 308) rfl ?_
      refine w_iload X54 hx (hb hby at_308) rfl (pc' := 310) rfl ?_
      refine w_iload X54 hx (hb hby at_310) rfl (pc' := 312) rfl ?_
      refine w_iconst (v := (3 : Int32)) X54 hx (hb hby at_312) rfl (pc' := 313) rfl ?_
      refine own_call (W := 0) X54 hx hZ rfl hown hml.symm (wd42 hw) (wd43 hw) (wd44 hw) (wd45 hw) (rm_nc43 l Z a0 hw [] n0 tk tP ([oc7, AC kc7 [.int (Int32.ofNat b7_0), .int (Int32.ofNat b7_1), .int (Int32.ofNat b7_2), .int (Int32.ofNat b7_3)], AC kd7 (List.map Value.int Q7_)]) tf b7_0 r7_ _ P54 thk htP (by omega) ju0 hru hmin) (by decide) (by decide) (by decide) (by decide) (by decide) (argsL := [.ref (n0 + 0), .int (Int32.ofNat tf), .int (4 : Int32), .int (Int32.ofNat b7_0), .int (Int32.ofNat r7_), .int (3 : Int32)]) (rest := []) pd8 rfl rfl rfl (Nat.le_of_eq rfl) (hb hby at_313) (pc' := 316) rfl ?_
      intro v55 T55 L48 X55 hq
      obtain ⟨rfl, N48, P55⟩ := hq
      replace N48 := Fr.app N47 N48
      replace P55 : HP n0 T55.heap [AC tk (List.map Value.long tP), oc7, AC kc7 [.int (Int32.ofNat b7_0), .int (Int32.ofNat b7_1), .int (Int32.ofNat b7_2), .int (Int32.ofNat b7_3)], AC kd7 (List.map Value.int Q7_)] := P55
      refine w_if_eq X55 hx (hb hby at_316) (by decide) (pcY := 323) (by decide) (pc' := 319) rfl (fun h66 => absurd h66 (by decide)) (fun h66 => ?_)
      refine w_iconst (v := (1 : Int32)) X55 hx (hb hby at_319) rfl (pc' := 320) rfl ?_
      refine w_goto X55 hx (hb hby at_320) (by decide) (pc' := 324) (by decide) ?_
      exact w_ret_n (t := .boolean) X55 hx hret hlk (by simp) (hb hby at_324) (z' := (1 : Int32)) rfl (by decide) (by decide) ⟨rfl, N48⟩
    · refine w_iload X49 hx (hb hby at_129) rfl (pc' := 131) rfl ?_
      refine w_iload X49 hx (hb hby at_131) rfl (pc' := 133) rfl ?_
      refine w_iadd X49 hx (hb hby at_133) (pc' := 134) rfl ?_
      refine w_eqI (z := (Int32.ofNat (tf + tj))) (own_oadd tf tj) ?_
      refine w_istore (l' := #[.val (.int x0), .val (.long x1), .second, .val (.long x2), .second, .val (.long x3), .second, .val (.long x4), .second, .val (.long x5), .second, .val (.int (4 : Int32)), .val (.int (Int32.ofNat tf)), .val (.int tf13), .val (.int (Int32.ofNat tj)), .val (.ref (n0 + 0)), .val (.ref (n0 + 1)), .val (.int (Int32.ofNat (tf + tj))), .unset]) X49 hx (hb hby at_134) rfl (pc' := 136) rfl ?_
      refine w_aload X49 hx (hb hby at_136) rfl rfl (pc' := 138) rfl ?_
      refine w_iload X49 hx (hb hby at_138) rfl (pc' := 140) rfl ?_
      refine w_aload X49 hx (hb hby at_140) rfl rfl (pc' := 142) rfl ?_
      refine w_iload X49 hx (hb hby at_142) rfl (pc' := 144) rfl ?_
      refine w_laloadL (i := 0) (jn := (tf + tj)) X49 hx hZ P49 rfl thk (hb hby at_144) (own_oN (by omega)) (own_llt htP (by omega)) (pc' := 145) rfl ?_
      refine w_lload X49 hx (hb hby at_145) rfl (pc' := 147) rfl ?_
      refine w_callP (W := 2) X49 hx hZ rfl hown hml.symm (wd33 hw) (wd34 hw) (wd35 hw) (wd36 hw) (rm6 l Z a0 hw [] (tP.getD (tf + tj) 0) x5 _) (by decide) (by decide) (by decide) rfl rfl (by decide) (by decide) (argsL := [.long (tP.getD (tf + tj) 0), .long x5]) (rest := [.int (Int32.ofNat (tf + tj)), .ref (n0 + 0)]) pd6 rfl rfl rfl (Nat.le_of_eq rfl) (hb hby at_147) (pc' := 150) rfl ?_
      intro T56 X56 e56
      have P56 : HP n0 T56.heap [AC tk (List.map Value.long tP), oc7, AC kc7 [.int (Int32.ofNat b7_0), .int (Int32.ofNat b7_1), .int (Int32.ofNat b7_2), .int (Int32.ofNat b7_3)], AC kd7 (List.map Value.int Q7_)] := by rw [e56]; exact P49
      refine w_lastoreL (i := 0) (jn := (tf + tj)) X56 hx hZ N42 P56 rfl thk (hb hby at_150) (own_oN (by omega)) (own_llt htP (by omega)) (pc' := 151) rfl ?_
      intro T57 L49 N49 X57 P57
      replace P57 : HP n0 T57.heap [AC tk (List.map Value.long (tP.set (tf + tj) (sp6 (tP.getD (tf + tj) 0) x5))), oc7, AC kc7 [.int (Int32.ofNat b7_0), .int (Int32.ofNat b7_1), .int (Int32.ofNat b7_2), .int (Int32.ofNat b7_3)], AC kd7 (List.map Value.int Q7_)] := P57
      refine w_aload X57 hx (hb hby at_151) rfl rfl (pc' := 153) rfl ?_
      refine w_iload X57 hx (hb hby at_153) rfl (pc' := 155) rfl ?_
      refine own_callV (W := 0) X57 hx hZ rfl hown hml.symm (wd37 hw) (wd38 hw) (wd40 hw) (wd39 hw) (wd3 hw) (wd41 hw) (rm_ra4 l Z a0 hw [] n0 tk oc7 kc7 kd7 (tP.set (tf + tj) (sp6 (tP.getD (tf + tj) 0) x5)) tf b7_0 b7_1 b7_2 b7_3 Q7_ tP (tf + tj) _ P57 thk hkc7 hkd7 Fc7 (own_sl htP) (by omega) hI7 hO7 (by omega) (by omega) (fun d h => own_R1 h) (own_R2 htP (by omega))) (a := (n0 + 1)) (P57.exa (i := 1) rfl Fc7.1) (by decide) (by decide) (by decide) (by decide) (by decide) (argsL := [.int (Int32.ofNat (tf + tj))]) (rest := []) pd7 rfl rfl rfl (Nat.le_of_eq rfl) (hb hby at_155) (pc' := 158) rfl ?_
      intro v58 T58 L50 X58 hq
      obtain ⟨rfl, N50, b8_0, b8_1, b8_2, b8_3, Q8_, hI8, hO8, P58⟩ := hq
      replace N50 := Fr.app N49 N50
      replace P58 : HP n0 T58.heap [AC tk (List.map Value.long (tP.set (tf + tj) (sp6 (tP.getD (tf + tj) 0) x5))), oc7, AC kc7 [.int (Int32.ofNat b8_0), .int (Int32.ofNat b8_1), .int (Int32.ofNat b8_2), .int (Int32.ofNat b8_3)], AC kd7 (List.map Value.int Q8_)] := P58
      refine w_aload X58 hx (hb hby at_158) rfl rfl (pc' := 160) rfl ?_
      obtain ⟨jlen, jl0, jl1, jl2, jl3, ju0, ju1, ju2, ju3, jn01, jn02, jn03, jn12, jn13, jn23, jcov, jq0, jq1, jq2, jq3⟩ := hI8
      have hOO := hO8
      obtain ⟨m01, m02, m13⟩ := hOO
      refine own_callV (W := 0) X58 hx hZ rfl hown hml.symm (wd19 hw) (wd20 hw) (wd22 hw) (wd21 hw) (wd3 hw) (wd23 hw) (rm_ch4 l Z a0 hw [] n0 (AC tk (List.map Value.long (tP.set (tf + tj) (sp6 (tP.getD (tf + tj) 0) x5)))) oc7 kc7 (AC kd7 (List.map Value.int Q8_)) tf (Int32.ofNat b8_0) (Int32.ofNat b8_1) (Int32.ofNat b8_2) (Int32.ofNat b8_3) _ P58 hkc7 Fc7) (a := (n0 + 1)) (P58.exa (i := 1) rfl Fc7.1) (by decide) (by decide) (by decide) (by decide) (by decide) (argsL := []) (rest := []) pd3 rfl rfl rfl (Nat.le_of_eq rfl) (hb hby at_160) (pc' := 163) rfl ?_
      intro v59 T59 L51 X59 hq
      obtain ⟨rfl, N51, P59⟩ := hq
      replace N51 := Fr.app N50 N51
      replace P59 : HP n0 T59.heap [AC tk (List.map Value.long (tP.set (tf + tj) (sp6 (tP.getD (tf + tj) 0) x5))), oc7, AC kc7 [.int (Int32.ofNat b8_0), .int (Int32.ofNat b8_1), .int (Int32.ofNat b8_2), .int (Int32.ofNat b8_3)], AC kd7 (List.map Value.int Q8_)] := P59
      refine w_istore (l' := #[.val (.int x0), .val (.long x1), .second, .val (.long x2), .second, .val (.long x3), .second, .val (.long x4), .second, .val (.long x5), .second, .val (.int (4 : Int32)), .val (.int (Int32.ofNat tf)), .val (.int tf13), .val (.int (Int32.ofNat tj)), .val (.ref (n0 + 0)), .val (.ref (n0 + 1)), .val (.int (Int32.ofNat b8_0)), .unset]) X59 hx (hb hby at_163) rfl (pc' := 165) rfl ?_
      refine w_aload X59 hx (hb hby at_165) rfl rfl (pc' := 167) rfl ?_
      refine own_callV (W := 0) X59 hx hZ rfl hown hml.symm (wd24 hw) (wd25 hw) (wd27 hw) (wd26 hw) (wd3 hw) (wd28 hw) (rm_sec4 l Z a0 hw [] n0 tk oc7 kc7 (AC kd7 (List.map Value.int Q8_)) (tP.set (tf + tj) (sp6 (tP.getD (tf + tj) 0) x5)) tf b8_0 b8_1 b8_2 b8_3 _ P59 thk hkc7 Fc7 (own_sl htP) (by omega) ju0 ju1 ju2 ju3) (a := (n0 + 1)) (P59.exa (i := 1) rfl Fc7.1) (by decide) (by decide) (by decide) (by decide) (by decide) (argsL := []) (rest := []) pd4 rfl rfl rfl (Nat.le_of_eq rfl) (hb hby at_167) (pc' := 170) rfl ?_
      intro v60 T60 L52 X60 hq
      obtain ⟨r8_, rfl, N52, hre, hr1, hr2, P60⟩ := hq
      replace N52 := Fr.app N51 N52
      replace P60 : HP n0 T60.heap [AC tk (List.map Value.long (tP.set (tf + tj) (sp6 (tP.getD (tf + tj) 0) x5))), oc7, AC kc7 [.int (Int32.ofNat b8_0), .int (Int32.ofNat b8_1), .int (Int32.ofNat b8_2), .int (Int32.ofNat b8_3)], AC kd7 (List.map Value.int Q8_)] := P60
      have hmin : ∀ d, tf ≤ d → d < tf + 4 → own_ne d b8_0 → own_p (tP.set (tf + tj) (sp6 (tP.getD (tf + tj) 0) x5)) r8_ ≤ own_p (tP.set (tf + tj) (sp6 (tP.getD (tf + tj) 0) x5)) d := fun d h1 h2 h3 => by
        rcases jcov d h1 h2 with q | q | q | q
        · exact absurd q h3
        · rw [q]; exact hr1
        · rw [q]; exact hr2
        · rw [q]; exact Int.le_trans hr1 m13
      have hb0 : own_p (tP.set (tf + tj) (sp6 (tP.getD (tf + tj) 0) x5)) b8_0 ≤ own_p (tP.set (tf + tj) (sp6 (tP.getD (tf + tj) 0) x5)) r8_ := by rcases hre with q | q <;> rw [q]; exact m01; exact m02
      have hru : r8_ < tf + 4 := by rcases hre with q | q <;> rw [q]; exact ju1; exact ju2
      have hrl : tf ≤ r8_ := by rcases hre with q | q <;> rw [q]; exact jl1; exact jl2
      have hrn : own_ne r8_ b8_0 := by rcases hre with q | q <;> rw [q]; exact own_nes jn01; exact own_nes jn02
      refine w_istore (l' := #[.val (.int x0), .val (.long x1), .second, .val (.long x2), .second, .val (.long x3), .second, .val (.long x4), .second, .val (.long x5), .second, .val (.int (4 : Int32)), .val (.int (Int32.ofNat tf)), .val (.int tf13), .val (.int (Int32.ofNat tj)), .val (.ref (n0 + 0)), .val (.ref (n0 + 1)), .val (.int (Int32.ofNat b8_0)), .val (.int (Int32.ofNat r8_))]) X60 hx (hb hby at_170) rfl (pc' := 172) rfl ?_
      refine w_iload X60 hx (hb hby at_172) rfl (pc' := 174) rfl ?_
      refine w_iload X60 hx (hb hby at_174) rfl (pc' := 176) rfl ?_
      refine w_icmp_lt X60 hx (hb hby at_176) (by decide) (pcY := 189) (by decide) (pc' := 179) rfl (fun h67 => absurd ((own_olt (a := b8_0) (b := tf) (by omega) (by omega)).mp h67) (by omega)) (fun h67 => ?_)
      refine w_iload X60 hx (hb hby at_179) rfl (pc' := 181) rfl ?_
      refine w_iload X60 hx (hb hby at_181) rfl (pc' := 183) rfl ?_
      refine w_iload X60 hx (hb hby at_183) rfl (pc' := 185) rfl ?_
      refine w_iadd X60 hx (hb hby at_185) (pc' := 186) rfl ?_
      refine w_eqI (z := (Int32.ofNat (tf + 4))) (own_oadd tf 4) ?_
      refine w_icmp_lt X60 hx (hb hby at_186) (by decide) (pcY := 191) (by decide) (pc' := 189) rfl (fun h68 => ?_) (fun h68 => absurd ((own_olt (a := b8_0) (b := tf + 4) (by omega) (by omega)).mpr (by omega)) h68)
      refine w_iload X60 hx (hb hby at_191) rfl (pc' := 193) rfl ?_
      refine w_iconst (v := (1 : Int32)) X60 hx (hb hby at_193) rfl (pc' := 194) rfl ?_
      refine w_icmp_ne X60 hx (hb hby at_194) (by decide) (pcY := 209) (by decide) (pc' := 197) rfl (fun h69 => ?_) (fun h69 => absurd h69 (by decide))
      refine w_iload X60 hx (hb hby at_209) rfl (pc' := 211) rfl ?_
      refine w_iload X60 hx (hb hby at_211) rfl (pc' := 213) rfl ?_
      refine w_icmp_lt X60 hx (hb hby at_213) (by decide) (pcY := 233) (by decide) (pc' := 216) rfl (fun h70 => absurd ((own_olt (a := r8_) (b := tf) (by omega) (by omega)).mp h70) (by omega)) (fun h70 => ?_)
      refine w_iload X60 hx (hb hby at_216) rfl (pc' := 218) rfl ?_
      refine w_iload X60 hx (hb hby at_218) rfl (pc' := 220) rfl ?_
      refine w_iload X60 hx (hb hby at_220) rfl (pc' := 222) rfl ?_
      refine w_iadd X60 hx (hb hby at_222) (pc' := 223) rfl ?_
      refine w_eqI (z := (Int32.ofNat (tf + 4))) (own_oadd tf 4) ?_
      refine w_icmp_ge X60 hx (hb hby at_223) (by decide) (pcY := 233) (by decide) (pc' := 226) rfl (fun h71 => absurd ((own_olt (a := r8_) (b := tf + 4) (by omega) (by omega)).mpr (by omega)) h71) (fun h71 => ?_)
      refine w_iload X60 hx (hb hby at_226) rfl (pc' := 228) rfl ?_
      refine w_iload X60 hx (hb hby at_228) rfl (pc' := 230) rfl ?_
      refine w_icmp_ne X60 hx (hb hby at_230) (by decide) (pcY := 235) (by decide) (pc' := 233) rfl (fun h72 => ?_) (fun h72 => absurd ((own_oeq (a := r8_) (b := b8_0) (by omega) (by omega)).mp h72) hrn)
      refine w_aload X60 hx (hb hby at_235) rfl rfl (pc' := 237) rfl ?_
      refine w_iload X60 hx (hb hby at_237) rfl (pc' := 239) rfl ?_
      refine w_laloadL (i := 0) (jn := b8_0) X60 hx hZ P60 rfl thk (hb hby at_239) (own_oN (by omega)) (own_llt (own_sl htP) (by omega)) (pc' := 240) rfl ?_
      refine w_aload X60 hx (hb hby at_240) rfl rfl (pc' := 242) rfl ?_
      refine w_iload X60 hx (hb hby at_242) rfl (pc' := 244) rfl ?_
      refine w_laloadL (i := 0) (jn := r8_) X60 hx hZ P60 rfl thk (hb hby at_244) (own_oN (by omega)) (own_llt (own_sl htP) (by omega)) (pc' := 245) rfl ?_
      refine w_lcmp_le X60 hx (hb hby at_245) rfl (hb hby at_246) (by decide) (pcY := 251) (by decide) (pc' := 249) rfl (fun h73 => ?_) (fun h73 => absurd h73 (own_nlt hb0))
      refine w_aload X60 hx (hb hby at_251) rfl rfl (pc' := 253) rfl ?_
      refine w_iload X60 hx (hb hby at_253) rfl (pc' := 255) rfl ?_
      refine w_iload X60 hx (hb hby at_255) rfl (pc' := 257) rfl ?_
      refine w_iload X60 hx (hb hby at_257) rfl (pc' := 259) rfl ?_
      refine w_iload X60 hx (hb hby at_259) rfl (pc' := 261) rfl ?_
      refine w_iconst (v := (0 : Int32)) X60 hx (hb hby at_261) rfl (pc' := 262) rfl ?_
      refine own_call (W := 0) X60 hx hZ rfl hown hml.symm (wd42 hw) (wd43 hw) (wd44 hw) (wd45 hw) (rm_nc40 l Z a0 hw [] n0 tk (tP.set (tf + tj) (sp6 (tP.getD (tf + tj) 0) x5)) ([oc7, AC kc7 [.int (Int32.ofNat b8_0), .int (Int32.ofNat b8_1), .int (Int32.ofNat b8_2), .int (Int32.ofNat b8_3)], AC kd7 (List.map Value.int Q8_)]) tf b8_0 r8_ _ P60 thk (own_sl htP) (by omega) ju0 hru hmin) (by decide) (by decide) (by decide) (by decide) (by decide) (argsL := [.ref (n0 + 0), .int (Int32.ofNat tf), .int (4 : Int32), .int (Int32.ofNat b8_0), .int (Int32.ofNat r8_), .int (0 : Int32)]) (rest := []) pd8 rfl rfl rfl (Nat.le_of_eq rfl) (hb hby at_262) (pc' := 265) rfl ?_
      intro v61 T61 L53 X61 hq
      obtain ⟨rfl, N53, P61⟩ := hq
      replace N53 := Fr.app N52 N53
      replace P61 : HP n0 T61.heap [AC tk (List.map Value.long (tP.set (tf + tj) (sp6 (tP.getD (tf + tj) 0) x5))), oc7, AC kc7 [.int (Int32.ofNat b8_0), .int (Int32.ofNat b8_1), .int (Int32.ofNat b8_2), .int (Int32.ofNat b8_3)], AC kd7 (List.map Value.int Q8_)] := P61
      refine w_if_eq X61 hx (hb hby at_265) (by decide) (pcY := 323) (by decide) (pc' := 268) rfl (fun h74 => absurd h74 (by decide)) (fun h74 => ?_)
      refine w_aload X61 hx (hb hby at_268) rfl rfl (pc' := 270) rfl ?_
      refine w_iload X61 hx (hb hby at_270) rfl (pc' := 272) rfl ?_
      refine w_iload X61 hx (hb hby at_272) rfl (pc' := 274) rfl ?_
      refine w_iload X61 hx (hb hby at_274) rfl (pc' := 276) rfl ?_
      refine w_iload X61 hx (hb hby at_276) rfl (pc' := 278) rfl ?_
      refine w_iconst (v := (1 : Int32)) X61 hx (hb hby at_278) rfl (pc' := 279) rfl ?_
      refine own_call (W := 0) X61 hx hZ rfl hown hml.symm (wd42 hw) (wd43 hw) (wd44 hw) (wd45 hw) (rm_nc41 l Z a0 hw [] n0 tk (tP.set (tf + tj) (sp6 (tP.getD (tf + tj) 0) x5)) ([oc7, AC kc7 [.int (Int32.ofNat b8_0), .int (Int32.ofNat b8_1), .int (Int32.ofNat b8_2), .int (Int32.ofNat b8_3)], AC kd7 (List.map Value.int Q8_)]) tf b8_0 r8_ _ P61 thk (own_sl htP) (by omega) ju0 hru hmin) (by decide) (by decide) (by decide) (by decide) (by decide) (argsL := [.ref (n0 + 0), .int (Int32.ofNat tf), .int (4 : Int32), .int (Int32.ofNat b8_0), .int (Int32.ofNat r8_), .int (1 : Int32)]) (rest := []) pd8 rfl rfl rfl (Nat.le_of_eq rfl) (hb hby at_279) (pc' := 282) rfl ?_
      intro v62 T62 L54 X62 hq
      obtain ⟨rfl, N54, P62⟩ := hq
      replace N54 := Fr.app N53 N54
      replace P62 : HP n0 T62.heap [AC tk (List.map Value.long (tP.set (tf + tj) (sp6 (tP.getD (tf + tj) 0) x5))), oc7, AC kc7 [.int (Int32.ofNat b8_0), .int (Int32.ofNat b8_1), .int (Int32.ofNat b8_2), .int (Int32.ofNat b8_3)], AC kd7 (List.map Value.int Q8_)] := P62
      refine w_if_eq X62 hx (hb hby at_282) (by decide) (pcY := 323) (by decide) (pc' := 285) rfl (fun h75 => absurd h75 (by decide)) (fun h75 => ?_)
      refine w_aload X62 hx (hb hby at_285) rfl rfl (pc' := 287) rfl ?_
      refine w_iload X62 hx (hb hby at_287) rfl (pc' := 289) rfl ?_
      refine w_iload X62 hx (hb hby at_289) rfl (pc' := 291) rfl ?_
      refine w_iload X62 hx (hb hby at_291) rfl (pc' := 293) rfl ?_
      refine w_iload X62 hx (hb hby at_293) rfl (pc' := 295) rfl ?_
      refine w_iconst (v := (2 : Int32)) X62 hx (hb hby at_295) rfl (pc' := 296) rfl ?_
      refine own_call (W := 0) X62 hx hZ rfl hown hml.symm (wd42 hw) (wd43 hw) (wd44 hw) (wd45 hw) (rm_nc42 l Z a0 hw [] n0 tk (tP.set (tf + tj) (sp6 (tP.getD (tf + tj) 0) x5)) ([oc7, AC kc7 [.int (Int32.ofNat b8_0), .int (Int32.ofNat b8_1), .int (Int32.ofNat b8_2), .int (Int32.ofNat b8_3)], AC kd7 (List.map Value.int Q8_)]) tf b8_0 r8_ _ P62 thk (own_sl htP) (by omega) ju0 hru hmin) (by decide) (by decide) (by decide) (by decide) (by decide) (argsL := [.ref (n0 + 0), .int (Int32.ofNat tf), .int (4 : Int32), .int (Int32.ofNat b8_0), .int (Int32.ofNat r8_), .int (2 : Int32)]) (rest := []) pd8 rfl rfl rfl (Nat.le_of_eq rfl) (hb hby at_296) (pc' := 299) rfl ?_
      intro v63 T63 L55 X63 hq
      obtain ⟨rfl, N55, P63⟩ := hq
      replace N55 := Fr.app N54 N55
      replace P63 : HP n0 T63.heap [AC tk (List.map Value.long (tP.set (tf + tj) (sp6 (tP.getD (tf + tj) 0) x5))), oc7, AC kc7 [.int (Int32.ofNat b8_0), .int (Int32.ofNat b8_1), .int (Int32.ofNat b8_2), .int (Int32.ofNat b8_3)], AC kd7 (List.map Value.int Q8_)] := P63
      refine w_if_eq X63 hx (hb hby at_299) (by decide) (pcY := 323) (by decide) (pc' := 302) rfl (fun h76 => absurd h76 (by decide)) (fun h76 => ?_)
      refine w_aload X63 hx (hb hby at_302) rfl rfl (pc' := 304) rfl ?_
      refine w_iload X63 hx (hb hby at_304) rfl (pc' := 306) rfl ?_
      refine w_iload X63 hx (hb hby at_306) rfl (pc' := 308) rfl ?_
      refine w_iload X63 hx (hb hby at_308) rfl (pc' := 310) rfl ?_
      refine w_iload X63 hx (hb hby at_310) rfl (pc' := 312) rfl ?_
      refine w_iconst (v := (3 : Int32)) X63 hx (hb hby at_312) rfl (pc' := 313) rfl ?_
      refine own_call (W := 0) X63 hx hZ rfl hown hml.symm (wd42 hw) (wd43 hw) (wd44 hw) (wd45 hw) (rm_nc43 l Z a0 hw [] n0 tk (tP.set (tf + tj) (sp6 (tP.getD (tf + tj) 0) x5)) ([oc7, AC kc7 [.int (Int32.ofNat b8_0), .int (Int32.ofNat b8_1), .int (Int32.ofNat b8_2), .int (Int32.ofNat b8_3)], AC kd7 (List.map Value.int Q8_)]) tf b8_0 r8_ _ P63 thk (own_sl htP) (by omega) ju0 hru hmin) (by decide) (by decide) (by decide) (by decide) (by decide) (argsL := [.ref (n0 + 0), .int (Int32.ofNat tf), .int (4 : Int32), .int (Int32.ofNat b8_0), .int (Int32.ofNat r8_), .int (3 : Int32)]) (rest := []) pd8 rfl rfl rfl (Nat.le_of_eq rfl) (hb hby at_313) (pc' := 316) rfl ?_
      intro v64 T64 L56 X64 hq
      obtain ⟨rfl, N56, P64⟩ := hq
      replace N56 := Fr.app N55 N56
      replace P64 : HP n0 T64.heap [AC tk (List.map Value.long (tP.set (tf + tj) (sp6 (tP.getD (tf + tj) 0) x5))), oc7, AC kc7 [.int (Int32.ofNat b8_0), .int (Int32.ofNat b8_1), .int (Int32.ofNat b8_2), .int (Int32.ofNat b8_3)], AC kd7 (List.map Value.int Q8_)] := P64
      refine w_if_eq X64 hx (hb hby at_316) (by decide) (pcY := 323) (by decide) (pc' := 319) rfl (fun h77 => absurd h77 (by decide)) (fun h77 => ?_)
      refine w_iconst (v := (1 : Int32)) X64 hx (hb hby at_319) rfl (pc' := 320) rfl ?_
      refine w_goto X64 hx (hb hby at_320) (by decide) (pc' := 324) (by decide) ?_
      exact w_ret_n (t := .boolean) X64 hx hret hlk (by simp) (hb hby at_324) (z' := (1 : Int32)) rfl (by decide) (by decide) ⟨rfl, N56⟩
  refine w_iconst (v := (1 : Int32)) X0 hx (hb hby at_0) rfl (pc' := 1) rfl ?_
  refine w_iloadN X0 hx (hb hby at_1) rfl (pc' := 2) rfl ?_
  refine w_iconst (v := (3 : Int32)) X0 hx (hb hby at_2) rfl (pc' := 3) rfl ?_
  refine w_iand X0 hx (hb hby at_3) (pc' := 4) rfl ?_
  rcases (own_c4 (own_andk x0 3 3 (by decide))) with g78 | g79 | g80 | g81
  · refine w_eqI (z := (0 : Int32)) g78 ?_
    refine w_iadd X0 hx (hb hby at_4) (pc' := 5) rfl ?_
    refine w_eqI (z := (1 : Int32)) (by decide) ?_
    refine w_istore (l' := #[.val (.int x0), .val (.long x1), .second, .val (.long x2), .second, .val (.long x3), .second, .val (.long x4), .second, .val (.long x5), .second, .val (.int (1 : Int32)), .unset, .unset, .unset, .unset, .unset, .unset, .unset]) X0 hx (hb hby at_5) rfl (pc' := 7) rfl ?_
    refine w_iloadN X0 hx (hb hby at_7) rfl (pc' := 8) rfl ?_
    refine w_iconst (v := (2 : Int32)) X0 hx (hb hby at_8) rfl (pc' := 9) rfl ?_
    refine w_iushr X0 hx (hb hby at_9) (pc' := 10) rfl ?_
    refine w_iconst (v := (1 : Int32)) X0 hx (hb hby at_10) rfl (pc' := 11) rfl ?_
    refine w_iand X0 hx (hb hby at_11) (pc' := 12) rfl ?_
    refine w_eqI (z := (Int32.ofNat tf)) etf ?_
    refine w_istore (l' := #[.val (.int x0), .val (.long x1), .second, .val (.long x2), .second, .val (.long x3), .second, .val (.long x4), .second, .val (.long x5), .second, .val (.int (1 : Int32)), .val (.int (Int32.ofNat tf)), .unset, .unset, .unset, .unset, .unset, .unset]) X0 hx (hb hby at_12) rfl (pc' := 14) rfl ?_
    refine w_iloadN X0 hx (hb hby at_14) rfl (pc' := 15) rfl ?_
    refine w_iconst (v := (3 : Int32)) X0 hx (hb hby at_15) rfl (pc' := 16) rfl ?_
    refine w_iushr X0 hx (hb hby at_16) (pc' := 17) rfl ?_
    refine w_iconst (v := (1 : Int32)) X0 hx (hb hby at_17) rfl (pc' := 18) rfl ?_
    refine w_iand X0 hx (hb hby at_18) (pc' := 19) rfl ?_
    refine w_if_eq X0 hx (hb hby at_19) (by decide) (pcY := 26) (by decide) (pc' := 22) rfl (fun h82 => ?_) (fun h82 => ?_)
    · refine w_iconst (v := (0 : Int32)) X0 hx (hb hby at_26) rfl (pc' := 27) rfl ?_
      refine w_istore (l' := #[.val (.int x0), .val (.long x1), .second, .val (.long x2), .second, .val (.long x3), .second, .val (.long x4), .second, .val (.long x5), .second, .val (.int (1 : Int32)), .val (.int (Int32.ofNat tf)), .val (.int (0 : Int32)), .unset, .unset, .unset, .unset, .unset]) X0 hx (hb hby at_27) rfl (pc' := 29) rfl ?_
      refine w_iloadN X0 hx (hb hby at_29) rfl (pc' := 30) rfl ?_
      refine w_iconst (v := (4 : Int32)) X0 hx (hb hby at_30) rfl (pc' := 31) rfl ?_
      refine w_iushr X0 hx (hb hby at_31) (pc' := 32) rfl ?_
      refine w_iconst (v := (3 : Int32)) X0 hx (hb hby at_32) rfl (pc' := 33) rfl ?_
      refine w_iand X0 hx (hb hby at_33) (pc' := 34) rfl ?_
      refine w_iload X0 hx (hb hby at_34) rfl (pc' := 36) rfl ?_
      obtain ⟨tj, htj, etj⟩ := own_remP (XT.ushr x0 4 &&& 3) (1 : Int32) 1 (c_and (XT.ushr x0 4) 3 (by decide)).1 (by decide) (by decide)
      refine w_irem X0 hx (hb hby at_36) (by decide) (pc' := 37) rfl ?_
      refine w_eqI (z := (Int32.ofNat tj)) etj ?_
      refine w_istore (l' := #[.val (.int x0), .val (.long x1), .second, .val (.long x2), .second, .val (.long x3), .second, .val (.long x4), .second, .val (.long x5), .second, .val (.int (1 : Int32)), .val (.int (Int32.ofNat tf)), .val (.int (0 : Int32)), .val (.int (Int32.ofNat tj)), .unset, .unset, .unset, .unset]) X0 hx (hb hby at_37) rfl (pc' := 39) rfl ?_
      refine w_iload X0 hx (hb hby at_39) rfl (pc' := 41) rfl ?_
      refine w_iload X0 hx (hb hby at_41) rfl (pc' := 43) rfl ?_
      refine w_iadd X0 hx (hb hby at_43) (pc' := 44) rfl ?_
      refine w_eqI (z := (Int32.ofNat (tf + 1))) (own_oadd tf 1) ?_
      refine w_newarrC (N := (tf + 1)) (cap := 5) (j := 0) X0 hx hZ P0 (ty := .long) rfl (wd0 hw) (hb hby at_44) (by omega) (own_oN (by omega)) (by omega) (by decide) (by decide) rfl (pc' := 46) rfl ?_
      intro T65 kA5 X65 hkA5 P65
      replace P65 := own_mrJ P65
      replace P65 : HP n0 T65.heap [AC kA5 (List.map Value.long (List.replicate ((tf + 1)) 0))] := P65
      refine w_astore (l' := #[.val (.int x0), .val (.long x1), .second, .val (.long x2), .second, .val (.long x3), .second, .val (.long x4), .second, .val (.long x5), .second, .val (.int (1 : Int32)), .val (.int (Int32.ofNat tf)), .val (.int (0 : Int32)), .val (.int (Int32.ofNat tj)), .val (.ref (n0 + 0)), .unset, .unset, .unset]) X65 hx (hb hby at_46) rfl rfl (pc' := 48) rfl ?_
      refine w_iload X65 hx (hb hby at_48) rfl (pc' := 50) rfl ?_
      refine w_iconst (v := (1 : Int32)) X65 hx (hb hby at_50) rfl (pc' := 51) rfl ?_
      refine w_icmp_ne X65 hx (hb hby at_51) (by decide) (pcY := 61) (by decide) (pc' := 54) rfl (fun h83 => ?_) (fun h83 => ?_)
      · have h83n : ¬ tf = 1 := fun q => h83 ((own_oeq (a := tf) (b := 1) (by omega) (by omega)).mpr q)
        refine w_aload X65 hx (hb hby at_61) rfl rfl (pc' := 63) rfl ?_
        refine w_iload X65 hx (hb hby at_63) rfl (pc' := 65) rfl ?_
        refine w_lloadN X65 hx (hb hby at_65) rfl (pc' := 66) rfl ?_
        refine w_lastoreL (i := 0) (jn := tf) X65 hx hZ N0 P65 rfl hkA5 (hb hby at_66) (own_oN (by omega)) (own_llt (List.length_replicate (n := (tf + 1)) (a := (0 : Int64))) (by omega)) (pc' := 67) rfl ?_
        intro T66 L57 N57 X66 P66
        replace P66 : HP n0 T66.heap [AC kA5 (List.map Value.long ((List.replicate ((tf + 1)) 0).set tf x1))] := P66
        refine w_iload X66 hx (hb hby at_67) rfl (pc' := 69) rfl ?_
        refine w_iconst (v := (1 : Int32)) X66 hx (hb hby at_69) rfl (pc' := 70) rfl ?_
        refine w_icmp_le X66 hx (hb hby at_70) (by decide) (pcY := 81) (by decide) (pc' := 73) rfl (fun h84 => ?_) (fun h84 => absurd h84 (by decide))
        refine w_iload X66 hx (hb hby at_81) rfl (pc' := 83) rfl ?_
        refine w_iconst (v := (2 : Int32)) X66 hx (hb hby at_83) rfl (pc' := 84) rfl ?_
        refine w_icmp_le X66 hx (hb hby at_84) (by decide) (pcY := 96) (by decide) (pc' := 87) rfl (fun h85 => ?_) (fun h85 => absurd h85 (by decide))
        refine w_iload X66 hx (hb hby at_96) rfl (pc' := 98) rfl ?_
        refine w_iconst (v := (3 : Int32)) X66 hx (hb hby at_98) rfl (pc' := 99) rfl ?_
        refine w_icmp_le X66 hx (hb hby at_99) (by decide) (pcY := 111) (by decide) (pc' := 102) rfl (fun h86 => ?_) (fun h86 => absurd h86 (by decide))
        exact Jc1 T66 _ (0 : Int32) tj ((List.replicate ((tf + 1)) 0).set tf x1) kA5 N57 X66 htj hkA5 (own_sl (List.length_replicate (n := (tf + 1)) (a := (0 : Int64)))) P66
      · have h83n : tf = 1 := (own_oeq (a := tf) (b := 1) (by omega) (by omega)).mp h83
        refine w_aload X65 hx (hb hby at_54) rfl rfl (pc' := 56) rfl ?_
        refine w_iconst (v := (0 : Int32)) X65 hx (hb hby at_56) rfl (pc' := 57) rfl ?_
        refine w_ldc2 X65 hx (hb hby at_57) hown (mvT hZ (wd46 hw)) (pc' := 60) rfl ?_
        refine w_lastoreL (i := 0) (jn := 0) X65 hx hZ N0 P65 rfl hkA5 (hb hby at_60) (by decide) (own_llt (List.length_replicate (n := (tf + 1)) (a := (0 : Int64))) (by omega)) (pc' := 61) rfl ?_
        intro T67 L58 N58 X67 P67
        replace P67 : HP n0 T67.heap [AC kA5 (List.map Value.long ((List.replicate ((tf + 1)) 0).set 0 (-9223372036854775808 : Int64)))] := P67
        refine w_aload X67 hx (hb hby at_61) rfl rfl (pc' := 63) rfl ?_
        refine w_iload X67 hx (hb hby at_63) rfl (pc' := 65) rfl ?_
        refine w_lloadN X67 hx (hb hby at_65) rfl (pc' := 66) rfl ?_
        refine w_lastoreL (i := 0) (jn := tf) X67 hx hZ N58 P67 rfl hkA5 (hb hby at_66) (own_oN (by omega)) (own_llt (own_sl (List.length_replicate (n := (tf + 1)) (a := (0 : Int64)))) (by omega)) (pc' := 67) rfl ?_
        intro T68 L59 N59 X68 P68
        replace P68 : HP n0 T68.heap [AC kA5 (List.map Value.long (((List.replicate ((tf + 1)) 0).set 0 (-9223372036854775808 : Int64)).set tf x1))] := P68
        refine w_iload X68 hx (hb hby at_67) rfl (pc' := 69) rfl ?_
        refine w_iconst (v := (1 : Int32)) X68 hx (hb hby at_69) rfl (pc' := 70) rfl ?_
        refine w_icmp_le X68 hx (hb hby at_70) (by decide) (pcY := 81) (by decide) (pc' := 73) rfl (fun h87 => ?_) (fun h87 => absurd h87 (by decide))
        refine w_iload X68 hx (hb hby at_81) rfl (pc' := 83) rfl ?_
        refine w_iconst (v := (2 : Int32)) X68 hx (hb hby at_83) rfl (pc' := 84) rfl ?_
        refine w_icmp_le X68 hx (hb hby at_84) (by decide) (pcY := 96) (by decide) (pc' := 87) rfl (fun h88 => ?_) (fun h88 => absurd h88 (by decide))
        refine w_iload X68 hx (hb hby at_96) rfl (pc' := 98) rfl ?_
        refine w_iconst (v := (3 : Int32)) X68 hx (hb hby at_98) rfl (pc' := 99) rfl ?_
        refine w_icmp_le X68 hx (hb hby at_99) (by decide) (pcY := 111) (by decide) (pc' := 102) rfl (fun h89 => ?_) (fun h89 => absurd h89 (by decide))
        exact Jc1 T68 _ (0 : Int32) tj (((List.replicate ((tf + 1)) 0).set 0 (-9223372036854775808 : Int64)).set tf x1) kA5 N59 X68 htj hkA5 (own_sl (own_sl (List.length_replicate (n := (tf + 1)) (a := (0 : Int64))))) P68
    · refine w_iconst (v := (1 : Int32)) X0 hx (hb hby at_22) rfl (pc' := 23) rfl ?_
      refine w_goto X0 hx (hb hby at_23) (by decide) (pc' := 27) (by decide) ?_
      refine w_istore (l' := #[.val (.int x0), .val (.long x1), .second, .val (.long x2), .second, .val (.long x3), .second, .val (.long x4), .second, .val (.long x5), .second, .val (.int (1 : Int32)), .val (.int (Int32.ofNat tf)), .val (.int (1 : Int32)), .unset, .unset, .unset, .unset, .unset]) X0 hx (hb hby at_27) rfl (pc' := 29) rfl ?_
      refine w_iloadN X0 hx (hb hby at_29) rfl (pc' := 30) rfl ?_
      refine w_iconst (v := (4 : Int32)) X0 hx (hb hby at_30) rfl (pc' := 31) rfl ?_
      refine w_iushr X0 hx (hb hby at_31) (pc' := 32) rfl ?_
      refine w_iconst (v := (3 : Int32)) X0 hx (hb hby at_32) rfl (pc' := 33) rfl ?_
      refine w_iand X0 hx (hb hby at_33) (pc' := 34) rfl ?_
      refine w_iload X0 hx (hb hby at_34) rfl (pc' := 36) rfl ?_
      obtain ⟨tj, htj, etj⟩ := own_remP (XT.ushr x0 4 &&& 3) (1 : Int32) 1 (c_and (XT.ushr x0 4) 3 (by decide)).1 (by decide) (by decide)
      refine w_irem X0 hx (hb hby at_36) (by decide) (pc' := 37) rfl ?_
      refine w_eqI (z := (Int32.ofNat tj)) etj ?_
      refine w_istore (l' := #[.val (.int x0), .val (.long x1), .second, .val (.long x2), .second, .val (.long x3), .second, .val (.long x4), .second, .val (.long x5), .second, .val (.int (1 : Int32)), .val (.int (Int32.ofNat tf)), .val (.int (1 : Int32)), .val (.int (Int32.ofNat tj)), .unset, .unset, .unset, .unset]) X0 hx (hb hby at_37) rfl (pc' := 39) rfl ?_
      refine w_iload X0 hx (hb hby at_39) rfl (pc' := 41) rfl ?_
      refine w_iload X0 hx (hb hby at_41) rfl (pc' := 43) rfl ?_
      refine w_iadd X0 hx (hb hby at_43) (pc' := 44) rfl ?_
      refine w_eqI (z := (Int32.ofNat (tf + 1))) (own_oadd tf 1) ?_
      refine w_newarrC (N := (tf + 1)) (cap := 5) (j := 0) X0 hx hZ P0 (ty := .long) rfl (wd0 hw) (hb hby at_44) (by omega) (own_oN (by omega)) (by omega) (by decide) (by decide) rfl (pc' := 46) rfl ?_
      intro T69 kA6 X69 hkA6 P69
      replace P69 := own_mrJ P69
      replace P69 : HP n0 T69.heap [AC kA6 (List.map Value.long (List.replicate ((tf + 1)) 0))] := P69
      refine w_astore (l' := #[.val (.int x0), .val (.long x1), .second, .val (.long x2), .second, .val (.long x3), .second, .val (.long x4), .second, .val (.long x5), .second, .val (.int (1 : Int32)), .val (.int (Int32.ofNat tf)), .val (.int (1 : Int32)), .val (.int (Int32.ofNat tj)), .val (.ref (n0 + 0)), .unset, .unset, .unset]) X69 hx (hb hby at_46) rfl rfl (pc' := 48) rfl ?_
      refine w_iload X69 hx (hb hby at_48) rfl (pc' := 50) rfl ?_
      refine w_iconst (v := (1 : Int32)) X69 hx (hb hby at_50) rfl (pc' := 51) rfl ?_
      refine w_icmp_ne X69 hx (hb hby at_51) (by decide) (pcY := 61) (by decide) (pc' := 54) rfl (fun h90 => ?_) (fun h90 => ?_)
      · have h90n : ¬ tf = 1 := fun q => h90 ((own_oeq (a := tf) (b := 1) (by omega) (by omega)).mpr q)
        refine w_aload X69 hx (hb hby at_61) rfl rfl (pc' := 63) rfl ?_
        refine w_iload X69 hx (hb hby at_63) rfl (pc' := 65) rfl ?_
        refine w_lloadN X69 hx (hb hby at_65) rfl (pc' := 66) rfl ?_
        refine w_lastoreL (i := 0) (jn := tf) X69 hx hZ N0 P69 rfl hkA6 (hb hby at_66) (own_oN (by omega)) (own_llt (List.length_replicate (n := (tf + 1)) (a := (0 : Int64))) (by omega)) (pc' := 67) rfl ?_
        intro T70 L60 N60 X70 P70
        replace P70 : HP n0 T70.heap [AC kA6 (List.map Value.long ((List.replicate ((tf + 1)) 0).set tf x1))] := P70
        refine w_iload X70 hx (hb hby at_67) rfl (pc' := 69) rfl ?_
        refine w_iconst (v := (1 : Int32)) X70 hx (hb hby at_69) rfl (pc' := 70) rfl ?_
        refine w_icmp_le X70 hx (hb hby at_70) (by decide) (pcY := 81) (by decide) (pc' := 73) rfl (fun h91 => ?_) (fun h91 => absurd h91 (by decide))
        refine w_iload X70 hx (hb hby at_81) rfl (pc' := 83) rfl ?_
        refine w_iconst (v := (2 : Int32)) X70 hx (hb hby at_83) rfl (pc' := 84) rfl ?_
        refine w_icmp_le X70 hx (hb hby at_84) (by decide) (pcY := 96) (by decide) (pc' := 87) rfl (fun h92 => ?_) (fun h92 => absurd h92 (by decide))
        refine w_iload X70 hx (hb hby at_96) rfl (pc' := 98) rfl ?_
        refine w_iconst (v := (3 : Int32)) X70 hx (hb hby at_98) rfl (pc' := 99) rfl ?_
        refine w_icmp_le X70 hx (hb hby at_99) (by decide) (pcY := 111) (by decide) (pc' := 102) rfl (fun h93 => ?_) (fun h93 => absurd h93 (by decide))
        exact Jc1 T70 _ (1 : Int32) tj ((List.replicate ((tf + 1)) 0).set tf x1) kA6 N60 X70 htj hkA6 (own_sl (List.length_replicate (n := (tf + 1)) (a := (0 : Int64)))) P70
      · have h90n : tf = 1 := (own_oeq (a := tf) (b := 1) (by omega) (by omega)).mp h90
        refine w_aload X69 hx (hb hby at_54) rfl rfl (pc' := 56) rfl ?_
        refine w_iconst (v := (0 : Int32)) X69 hx (hb hby at_56) rfl (pc' := 57) rfl ?_
        refine w_ldc2 X69 hx (hb hby at_57) hown (mvT hZ (wd46 hw)) (pc' := 60) rfl ?_
        refine w_lastoreL (i := 0) (jn := 0) X69 hx hZ N0 P69 rfl hkA6 (hb hby at_60) (by decide) (own_llt (List.length_replicate (n := (tf + 1)) (a := (0 : Int64))) (by omega)) (pc' := 61) rfl ?_
        intro T71 L61 N61 X71 P71
        replace P71 : HP n0 T71.heap [AC kA6 (List.map Value.long ((List.replicate ((tf + 1)) 0).set 0 (-9223372036854775808 : Int64)))] := P71
        refine w_aload X71 hx (hb hby at_61) rfl rfl (pc' := 63) rfl ?_
        refine w_iload X71 hx (hb hby at_63) rfl (pc' := 65) rfl ?_
        refine w_lloadN X71 hx (hb hby at_65) rfl (pc' := 66) rfl ?_
        refine w_lastoreL (i := 0) (jn := tf) X71 hx hZ N61 P71 rfl hkA6 (hb hby at_66) (own_oN (by omega)) (own_llt (own_sl (List.length_replicate (n := (tf + 1)) (a := (0 : Int64)))) (by omega)) (pc' := 67) rfl ?_
        intro T72 L62 N62 X72 P72
        replace P72 : HP n0 T72.heap [AC kA6 (List.map Value.long (((List.replicate ((tf + 1)) 0).set 0 (-9223372036854775808 : Int64)).set tf x1))] := P72
        refine w_iload X72 hx (hb hby at_67) rfl (pc' := 69) rfl ?_
        refine w_iconst (v := (1 : Int32)) X72 hx (hb hby at_69) rfl (pc' := 70) rfl ?_
        refine w_icmp_le X72 hx (hb hby at_70) (by decide) (pcY := 81) (by decide) (pc' := 73) rfl (fun h94 => ?_) (fun h94 => absurd h94 (by decide))
        refine w_iload X72 hx (hb hby at_81) rfl (pc' := 83) rfl ?_
        refine w_iconst (v := (2 : Int32)) X72 hx (hb hby at_83) rfl (pc' := 84) rfl ?_
        refine w_icmp_le X72 hx (hb hby at_84) (by decide) (pcY := 96) (by decide) (pc' := 87) rfl (fun h95 => ?_) (fun h95 => absurd h95 (by decide))
        refine w_iload X72 hx (hb hby at_96) rfl (pc' := 98) rfl ?_
        refine w_iconst (v := (3 : Int32)) X72 hx (hb hby at_98) rfl (pc' := 99) rfl ?_
        refine w_icmp_le X72 hx (hb hby at_99) (by decide) (pcY := 111) (by decide) (pc' := 102) rfl (fun h96 => ?_) (fun h96 => absurd h96 (by decide))
        exact Jc1 T72 _ (1 : Int32) tj (((List.replicate ((tf + 1)) 0).set 0 (-9223372036854775808 : Int64)).set tf x1) kA6 N62 X72 htj hkA6 (own_sl (own_sl (List.length_replicate (n := (tf + 1)) (a := (0 : Int64))))) P72
  · refine w_eqI (z := (1 : Int32)) g79 ?_
    refine w_iadd X0 hx (hb hby at_4) (pc' := 5) rfl ?_
    refine w_eqI (z := (2 : Int32)) (by decide) ?_
    refine w_istore (l' := #[.val (.int x0), .val (.long x1), .second, .val (.long x2), .second, .val (.long x3), .second, .val (.long x4), .second, .val (.long x5), .second, .val (.int (2 : Int32)), .unset, .unset, .unset, .unset, .unset, .unset, .unset]) X0 hx (hb hby at_5) rfl (pc' := 7) rfl ?_
    refine w_iloadN X0 hx (hb hby at_7) rfl (pc' := 8) rfl ?_
    refine w_iconst (v := (2 : Int32)) X0 hx (hb hby at_8) rfl (pc' := 9) rfl ?_
    refine w_iushr X0 hx (hb hby at_9) (pc' := 10) rfl ?_
    refine w_iconst (v := (1 : Int32)) X0 hx (hb hby at_10) rfl (pc' := 11) rfl ?_
    refine w_iand X0 hx (hb hby at_11) (pc' := 12) rfl ?_
    refine w_eqI (z := (Int32.ofNat tf)) etf ?_
    refine w_istore (l' := #[.val (.int x0), .val (.long x1), .second, .val (.long x2), .second, .val (.long x3), .second, .val (.long x4), .second, .val (.long x5), .second, .val (.int (2 : Int32)), .val (.int (Int32.ofNat tf)), .unset, .unset, .unset, .unset, .unset, .unset]) X0 hx (hb hby at_12) rfl (pc' := 14) rfl ?_
    refine w_iloadN X0 hx (hb hby at_14) rfl (pc' := 15) rfl ?_
    refine w_iconst (v := (3 : Int32)) X0 hx (hb hby at_15) rfl (pc' := 16) rfl ?_
    refine w_iushr X0 hx (hb hby at_16) (pc' := 17) rfl ?_
    refine w_iconst (v := (1 : Int32)) X0 hx (hb hby at_17) rfl (pc' := 18) rfl ?_
    refine w_iand X0 hx (hb hby at_18) (pc' := 19) rfl ?_
    refine w_if_eq X0 hx (hb hby at_19) (by decide) (pcY := 26) (by decide) (pc' := 22) rfl (fun h97 => ?_) (fun h97 => ?_)
    · refine w_iconst (v := (0 : Int32)) X0 hx (hb hby at_26) rfl (pc' := 27) rfl ?_
      refine w_istore (l' := #[.val (.int x0), .val (.long x1), .second, .val (.long x2), .second, .val (.long x3), .second, .val (.long x4), .second, .val (.long x5), .second, .val (.int (2 : Int32)), .val (.int (Int32.ofNat tf)), .val (.int (0 : Int32)), .unset, .unset, .unset, .unset, .unset]) X0 hx (hb hby at_27) rfl (pc' := 29) rfl ?_
      refine w_iloadN X0 hx (hb hby at_29) rfl (pc' := 30) rfl ?_
      refine w_iconst (v := (4 : Int32)) X0 hx (hb hby at_30) rfl (pc' := 31) rfl ?_
      refine w_iushr X0 hx (hb hby at_31) (pc' := 32) rfl ?_
      refine w_iconst (v := (3 : Int32)) X0 hx (hb hby at_32) rfl (pc' := 33) rfl ?_
      refine w_iand X0 hx (hb hby at_33) (pc' := 34) rfl ?_
      refine w_iload X0 hx (hb hby at_34) rfl (pc' := 36) rfl ?_
      obtain ⟨tj, htj, etj⟩ := own_remP (XT.ushr x0 4 &&& 3) (2 : Int32) 2 (c_and (XT.ushr x0 4) 3 (by decide)).1 (by decide) (by decide)
      refine w_irem X0 hx (hb hby at_36) (by decide) (pc' := 37) rfl ?_
      refine w_eqI (z := (Int32.ofNat tj)) etj ?_
      refine w_istore (l' := #[.val (.int x0), .val (.long x1), .second, .val (.long x2), .second, .val (.long x3), .second, .val (.long x4), .second, .val (.long x5), .second, .val (.int (2 : Int32)), .val (.int (Int32.ofNat tf)), .val (.int (0 : Int32)), .val (.int (Int32.ofNat tj)), .unset, .unset, .unset, .unset]) X0 hx (hb hby at_37) rfl (pc' := 39) rfl ?_
      refine w_iload X0 hx (hb hby at_39) rfl (pc' := 41) rfl ?_
      refine w_iload X0 hx (hb hby at_41) rfl (pc' := 43) rfl ?_
      refine w_iadd X0 hx (hb hby at_43) (pc' := 44) rfl ?_
      refine w_eqI (z := (Int32.ofNat (tf + 2))) (own_oadd tf 2) ?_
      refine w_newarrC (N := (tf + 2)) (cap := 5) (j := 0) X0 hx hZ P0 (ty := .long) rfl (wd0 hw) (hb hby at_44) (by omega) (own_oN (by omega)) (by omega) (by decide) (by decide) rfl (pc' := 46) rfl ?_
      intro T73 kA7 X73 hkA7 P73
      replace P73 := own_mrJ P73
      replace P73 : HP n0 T73.heap [AC kA7 (List.map Value.long (List.replicate ((tf + 2)) 0))] := P73
      refine w_astore (l' := #[.val (.int x0), .val (.long x1), .second, .val (.long x2), .second, .val (.long x3), .second, .val (.long x4), .second, .val (.long x5), .second, .val (.int (2 : Int32)), .val (.int (Int32.ofNat tf)), .val (.int (0 : Int32)), .val (.int (Int32.ofNat tj)), .val (.ref (n0 + 0)), .unset, .unset, .unset]) X73 hx (hb hby at_46) rfl rfl (pc' := 48) rfl ?_
      refine w_iload X73 hx (hb hby at_48) rfl (pc' := 50) rfl ?_
      refine w_iconst (v := (1 : Int32)) X73 hx (hb hby at_50) rfl (pc' := 51) rfl ?_
      refine w_icmp_ne X73 hx (hb hby at_51) (by decide) (pcY := 61) (by decide) (pc' := 54) rfl (fun h98 => ?_) (fun h98 => ?_)
      · have h98n : ¬ tf = 1 := fun q => h98 ((own_oeq (a := tf) (b := 1) (by omega) (by omega)).mpr q)
        refine w_aload X73 hx (hb hby at_61) rfl rfl (pc' := 63) rfl ?_
        refine w_iload X73 hx (hb hby at_63) rfl (pc' := 65) rfl ?_
        refine w_lloadN X73 hx (hb hby at_65) rfl (pc' := 66) rfl ?_
        refine w_lastoreL (i := 0) (jn := tf) X73 hx hZ N0 P73 rfl hkA7 (hb hby at_66) (own_oN (by omega)) (own_llt (List.length_replicate (n := (tf + 2)) (a := (0 : Int64))) (by omega)) (pc' := 67) rfl ?_
        intro T74 L63 N63 X74 P74
        replace P74 : HP n0 T74.heap [AC kA7 (List.map Value.long ((List.replicate ((tf + 2)) 0).set tf x1))] := P74
        refine w_iload X74 hx (hb hby at_67) rfl (pc' := 69) rfl ?_
        refine w_iconst (v := (1 : Int32)) X74 hx (hb hby at_69) rfl (pc' := 70) rfl ?_
        refine w_icmp_le X74 hx (hb hby at_70) (by decide) (pcY := 81) (by decide) (pc' := 73) rfl (fun h99 => absurd h99 (by decide)) (fun h99 => ?_)
        refine w_aload X74 hx (hb hby at_73) rfl rfl (pc' := 75) rfl ?_
        refine w_iload X74 hx (hb hby at_75) rfl (pc' := 77) rfl ?_
        refine w_iconst (v := (1 : Int32)) X74 hx (hb hby at_77) rfl (pc' := 78) rfl ?_
        refine w_iadd X74 hx (hb hby at_78) (pc' := 79) rfl ?_
        refine w_eqI (z := (Int32.ofNat (tf + 1))) (own_oadd tf 1) ?_
        refine w_lloadN X74 hx (hb hby at_79) rfl (pc' := 80) rfl ?_
        refine w_lastoreL (i := 0) (jn := (tf + 1)) X74 hx hZ N63 P74 rfl hkA7 (hb hby at_80) (own_oN (by omega)) (own_llt (own_sl (List.length_replicate (n := (tf + 2)) (a := (0 : Int64)))) (by omega)) (pc' := 81) rfl ?_
        intro T75 L64 N64 X75 P75
        replace P75 : HP n0 T75.heap [AC kA7 (List.map Value.long (((List.replicate ((tf + 2)) 0).set tf x1).set (tf + 1) x2))] := P75
        refine w_iload X75 hx (hb hby at_81) rfl (pc' := 83) rfl ?_
        refine w_iconst (v := (2 : Int32)) X75 hx (hb hby at_83) rfl (pc' := 84) rfl ?_
        refine w_icmp_le X75 hx (hb hby at_84) (by decide) (pcY := 96) (by decide) (pc' := 87) rfl (fun h100 => ?_) (fun h100 => absurd h100 (by decide))
        refine w_iload X75 hx (hb hby at_96) rfl (pc' := 98) rfl ?_
        refine w_iconst (v := (3 : Int32)) X75 hx (hb hby at_98) rfl (pc' := 99) rfl ?_
        refine w_icmp_le X75 hx (hb hby at_99) (by decide) (pcY := 111) (by decide) (pc' := 102) rfl (fun h101 => ?_) (fun h101 => absurd h101 (by decide))
        exact Jc2 T75 _ (0 : Int32) tj (((List.replicate ((tf + 2)) 0).set tf x1).set (tf + 1) x2) kA7 N64 X75 htj hkA7 (own_sl (own_sl (List.length_replicate (n := (tf + 2)) (a := (0 : Int64))))) P75
      · have h98n : tf = 1 := (own_oeq (a := tf) (b := 1) (by omega) (by omega)).mp h98
        refine w_aload X73 hx (hb hby at_54) rfl rfl (pc' := 56) rfl ?_
        refine w_iconst (v := (0 : Int32)) X73 hx (hb hby at_56) rfl (pc' := 57) rfl ?_
        refine w_ldc2 X73 hx (hb hby at_57) hown (mvT hZ (wd46 hw)) (pc' := 60) rfl ?_
        refine w_lastoreL (i := 0) (jn := 0) X73 hx hZ N0 P73 rfl hkA7 (hb hby at_60) (by decide) (own_llt (List.length_replicate (n := (tf + 2)) (a := (0 : Int64))) (by omega)) (pc' := 61) rfl ?_
        intro T76 L65 N65 X76 P76
        replace P76 : HP n0 T76.heap [AC kA7 (List.map Value.long ((List.replicate ((tf + 2)) 0).set 0 (-9223372036854775808 : Int64)))] := P76
        refine w_aload X76 hx (hb hby at_61) rfl rfl (pc' := 63) rfl ?_
        refine w_iload X76 hx (hb hby at_63) rfl (pc' := 65) rfl ?_
        refine w_lloadN X76 hx (hb hby at_65) rfl (pc' := 66) rfl ?_
        refine w_lastoreL (i := 0) (jn := tf) X76 hx hZ N65 P76 rfl hkA7 (hb hby at_66) (own_oN (by omega)) (own_llt (own_sl (List.length_replicate (n := (tf + 2)) (a := (0 : Int64)))) (by omega)) (pc' := 67) rfl ?_
        intro T77 L66 N66 X77 P77
        replace P77 : HP n0 T77.heap [AC kA7 (List.map Value.long (((List.replicate ((tf + 2)) 0).set 0 (-9223372036854775808 : Int64)).set tf x1))] := P77
        refine w_iload X77 hx (hb hby at_67) rfl (pc' := 69) rfl ?_
        refine w_iconst (v := (1 : Int32)) X77 hx (hb hby at_69) rfl (pc' := 70) rfl ?_
        refine w_icmp_le X77 hx (hb hby at_70) (by decide) (pcY := 81) (by decide) (pc' := 73) rfl (fun h102 => absurd h102 (by decide)) (fun h102 => ?_)
        refine w_aload X77 hx (hb hby at_73) rfl rfl (pc' := 75) rfl ?_
        refine w_iload X77 hx (hb hby at_75) rfl (pc' := 77) rfl ?_
        refine w_iconst (v := (1 : Int32)) X77 hx (hb hby at_77) rfl (pc' := 78) rfl ?_
        refine w_iadd X77 hx (hb hby at_78) (pc' := 79) rfl ?_
        refine w_eqI (z := (Int32.ofNat (tf + 1))) (own_oadd tf 1) ?_
        refine w_lloadN X77 hx (hb hby at_79) rfl (pc' := 80) rfl ?_
        refine w_lastoreL (i := 0) (jn := (tf + 1)) X77 hx hZ N66 P77 rfl hkA7 (hb hby at_80) (own_oN (by omega)) (own_llt (own_sl (own_sl (List.length_replicate (n := (tf + 2)) (a := (0 : Int64))))) (by omega)) (pc' := 81) rfl ?_
        intro T78 L67 N67 X78 P78
        replace P78 : HP n0 T78.heap [AC kA7 (List.map Value.long ((((List.replicate ((tf + 2)) 0).set 0 (-9223372036854775808 : Int64)).set tf x1).set (tf + 1) x2))] := P78
        refine w_iload X78 hx (hb hby at_81) rfl (pc' := 83) rfl ?_
        refine w_iconst (v := (2 : Int32)) X78 hx (hb hby at_83) rfl (pc' := 84) rfl ?_
        refine w_icmp_le X78 hx (hb hby at_84) (by decide) (pcY := 96) (by decide) (pc' := 87) rfl (fun h103 => ?_) (fun h103 => absurd h103 (by decide))
        refine w_iload X78 hx (hb hby at_96) rfl (pc' := 98) rfl ?_
        refine w_iconst (v := (3 : Int32)) X78 hx (hb hby at_98) rfl (pc' := 99) rfl ?_
        refine w_icmp_le X78 hx (hb hby at_99) (by decide) (pcY := 111) (by decide) (pc' := 102) rfl (fun h104 => ?_) (fun h104 => absurd h104 (by decide))
        exact Jc2 T78 _ (0 : Int32) tj ((((List.replicate ((tf + 2)) 0).set 0 (-9223372036854775808 : Int64)).set tf x1).set (tf + 1) x2) kA7 N67 X78 htj hkA7 (own_sl (own_sl (own_sl (List.length_replicate (n := (tf + 2)) (a := (0 : Int64)))))) P78
    · refine w_iconst (v := (1 : Int32)) X0 hx (hb hby at_22) rfl (pc' := 23) rfl ?_
      refine w_goto X0 hx (hb hby at_23) (by decide) (pc' := 27) (by decide) ?_
      refine w_istore (l' := #[.val (.int x0), .val (.long x1), .second, .val (.long x2), .second, .val (.long x3), .second, .val (.long x4), .second, .val (.long x5), .second, .val (.int (2 : Int32)), .val (.int (Int32.ofNat tf)), .val (.int (1 : Int32)), .unset, .unset, .unset, .unset, .unset]) X0 hx (hb hby at_27) rfl (pc' := 29) rfl ?_
      refine w_iloadN X0 hx (hb hby at_29) rfl (pc' := 30) rfl ?_
      refine w_iconst (v := (4 : Int32)) X0 hx (hb hby at_30) rfl (pc' := 31) rfl ?_
      refine w_iushr X0 hx (hb hby at_31) (pc' := 32) rfl ?_
      refine w_iconst (v := (3 : Int32)) X0 hx (hb hby at_32) rfl (pc' := 33) rfl ?_
      refine w_iand X0 hx (hb hby at_33) (pc' := 34) rfl ?_
      refine w_iload X0 hx (hb hby at_34) rfl (pc' := 36) rfl ?_
      obtain ⟨tj, htj, etj⟩ := own_remP (XT.ushr x0 4 &&& 3) (2 : Int32) 2 (c_and (XT.ushr x0 4) 3 (by decide)).1 (by decide) (by decide)
      refine w_irem X0 hx (hb hby at_36) (by decide) (pc' := 37) rfl ?_
      refine w_eqI (z := (Int32.ofNat tj)) etj ?_
      refine w_istore (l' := #[.val (.int x0), .val (.long x1), .second, .val (.long x2), .second, .val (.long x3), .second, .val (.long x4), .second, .val (.long x5), .second, .val (.int (2 : Int32)), .val (.int (Int32.ofNat tf)), .val (.int (1 : Int32)), .val (.int (Int32.ofNat tj)), .unset, .unset, .unset, .unset]) X0 hx (hb hby at_37) rfl (pc' := 39) rfl ?_
      refine w_iload X0 hx (hb hby at_39) rfl (pc' := 41) rfl ?_
      refine w_iload X0 hx (hb hby at_41) rfl (pc' := 43) rfl ?_
      refine w_iadd X0 hx (hb hby at_43) (pc' := 44) rfl ?_
      refine w_eqI (z := (Int32.ofNat (tf + 2))) (own_oadd tf 2) ?_
      refine w_newarrC (N := (tf + 2)) (cap := 5) (j := 0) X0 hx hZ P0 (ty := .long) rfl (wd0 hw) (hb hby at_44) (by omega) (own_oN (by omega)) (by omega) (by decide) (by decide) rfl (pc' := 46) rfl ?_
      intro T79 kA8 X79 hkA8 P79
      replace P79 := own_mrJ P79
      replace P79 : HP n0 T79.heap [AC kA8 (List.map Value.long (List.replicate ((tf + 2)) 0))] := P79
      refine w_astore (l' := #[.val (.int x0), .val (.long x1), .second, .val (.long x2), .second, .val (.long x3), .second, .val (.long x4), .second, .val (.long x5), .second, .val (.int (2 : Int32)), .val (.int (Int32.ofNat tf)), .val (.int (1 : Int32)), .val (.int (Int32.ofNat tj)), .val (.ref (n0 + 0)), .unset, .unset, .unset]) X79 hx (hb hby at_46) rfl rfl (pc' := 48) rfl ?_
      refine w_iload X79 hx (hb hby at_48) rfl (pc' := 50) rfl ?_
      refine w_iconst (v := (1 : Int32)) X79 hx (hb hby at_50) rfl (pc' := 51) rfl ?_
      refine w_icmp_ne X79 hx (hb hby at_51) (by decide) (pcY := 61) (by decide) (pc' := 54) rfl (fun h105 => ?_) (fun h105 => ?_)
      · have h105n : ¬ tf = 1 := fun q => h105 ((own_oeq (a := tf) (b := 1) (by omega) (by omega)).mpr q)
        refine w_aload X79 hx (hb hby at_61) rfl rfl (pc' := 63) rfl ?_
        refine w_iload X79 hx (hb hby at_63) rfl (pc' := 65) rfl ?_
        refine w_lloadN X79 hx (hb hby at_65) rfl (pc' := 66) rfl ?_
        refine w_lastoreL (i := 0) (jn := tf) X79 hx hZ N0 P79 rfl hkA8 (hb hby at_66) (own_oN (by omega)) (own_llt (List.length_replicate (n := (tf + 2)) (a := (0 : Int64))) (by omega)) (pc' := 67) rfl ?_
        intro T80 L68 N68 X80 P80
        replace P80 : HP n0 T80.heap [AC kA8 (List.map Value.long ((List.replicate ((tf + 2)) 0).set tf x1))] := P80
        refine w_iload X80 hx (hb hby at_67) rfl (pc' := 69) rfl ?_
        refine w_iconst (v := (1 : Int32)) X80 hx (hb hby at_69) rfl (pc' := 70) rfl ?_
        refine w_icmp_le X80 hx (hb hby at_70) (by decide) (pcY := 81) (by decide) (pc' := 73) rfl (fun h106 => absurd h106 (by decide)) (fun h106 => ?_)
        refine w_aload X80 hx (hb hby at_73) rfl rfl (pc' := 75) rfl ?_
        refine w_iload X80 hx (hb hby at_75) rfl (pc' := 77) rfl ?_
        refine w_iconst (v := (1 : Int32)) X80 hx (hb hby at_77) rfl (pc' := 78) rfl ?_
        refine w_iadd X80 hx (hb hby at_78) (pc' := 79) rfl ?_
        refine w_eqI (z := (Int32.ofNat (tf + 1))) (own_oadd tf 1) ?_
        refine w_lloadN X80 hx (hb hby at_79) rfl (pc' := 80) rfl ?_
        refine w_lastoreL (i := 0) (jn := (tf + 1)) X80 hx hZ N68 P80 rfl hkA8 (hb hby at_80) (own_oN (by omega)) (own_llt (own_sl (List.length_replicate (n := (tf + 2)) (a := (0 : Int64)))) (by omega)) (pc' := 81) rfl ?_
        intro T81 L69 N69 X81 P81
        replace P81 : HP n0 T81.heap [AC kA8 (List.map Value.long (((List.replicate ((tf + 2)) 0).set tf x1).set (tf + 1) x2))] := P81
        refine w_iload X81 hx (hb hby at_81) rfl (pc' := 83) rfl ?_
        refine w_iconst (v := (2 : Int32)) X81 hx (hb hby at_83) rfl (pc' := 84) rfl ?_
        refine w_icmp_le X81 hx (hb hby at_84) (by decide) (pcY := 96) (by decide) (pc' := 87) rfl (fun h107 => ?_) (fun h107 => absurd h107 (by decide))
        refine w_iload X81 hx (hb hby at_96) rfl (pc' := 98) rfl ?_
        refine w_iconst (v := (3 : Int32)) X81 hx (hb hby at_98) rfl (pc' := 99) rfl ?_
        refine w_icmp_le X81 hx (hb hby at_99) (by decide) (pcY := 111) (by decide) (pc' := 102) rfl (fun h108 => ?_) (fun h108 => absurd h108 (by decide))
        exact Jc2 T81 _ (1 : Int32) tj (((List.replicate ((tf + 2)) 0).set tf x1).set (tf + 1) x2) kA8 N69 X81 htj hkA8 (own_sl (own_sl (List.length_replicate (n := (tf + 2)) (a := (0 : Int64))))) P81
      · have h105n : tf = 1 := (own_oeq (a := tf) (b := 1) (by omega) (by omega)).mp h105
        refine w_aload X79 hx (hb hby at_54) rfl rfl (pc' := 56) rfl ?_
        refine w_iconst (v := (0 : Int32)) X79 hx (hb hby at_56) rfl (pc' := 57) rfl ?_
        refine w_ldc2 X79 hx (hb hby at_57) hown (mvT hZ (wd46 hw)) (pc' := 60) rfl ?_
        refine w_lastoreL (i := 0) (jn := 0) X79 hx hZ N0 P79 rfl hkA8 (hb hby at_60) (by decide) (own_llt (List.length_replicate (n := (tf + 2)) (a := (0 : Int64))) (by omega)) (pc' := 61) rfl ?_
        intro T82 L70 N70 X82 P82
        replace P82 : HP n0 T82.heap [AC kA8 (List.map Value.long ((List.replicate ((tf + 2)) 0).set 0 (-9223372036854775808 : Int64)))] := P82
        refine w_aload X82 hx (hb hby at_61) rfl rfl (pc' := 63) rfl ?_
        refine w_iload X82 hx (hb hby at_63) rfl (pc' := 65) rfl ?_
        refine w_lloadN X82 hx (hb hby at_65) rfl (pc' := 66) rfl ?_
        refine w_lastoreL (i := 0) (jn := tf) X82 hx hZ N70 P82 rfl hkA8 (hb hby at_66) (own_oN (by omega)) (own_llt (own_sl (List.length_replicate (n := (tf + 2)) (a := (0 : Int64)))) (by omega)) (pc' := 67) rfl ?_
        intro T83 L71 N71 X83 P83
        replace P83 : HP n0 T83.heap [AC kA8 (List.map Value.long (((List.replicate ((tf + 2)) 0).set 0 (-9223372036854775808 : Int64)).set tf x1))] := P83
        refine w_iload X83 hx (hb hby at_67) rfl (pc' := 69) rfl ?_
        refine w_iconst (v := (1 : Int32)) X83 hx (hb hby at_69) rfl (pc' := 70) rfl ?_
        refine w_icmp_le X83 hx (hb hby at_70) (by decide) (pcY := 81) (by decide) (pc' := 73) rfl (fun h109 => absurd h109 (by decide)) (fun h109 => ?_)
        refine w_aload X83 hx (hb hby at_73) rfl rfl (pc' := 75) rfl ?_
        refine w_iload X83 hx (hb hby at_75) rfl (pc' := 77) rfl ?_
        refine w_iconst (v := (1 : Int32)) X83 hx (hb hby at_77) rfl (pc' := 78) rfl ?_
        refine w_iadd X83 hx (hb hby at_78) (pc' := 79) rfl ?_
        refine w_eqI (z := (Int32.ofNat (tf + 1))) (own_oadd tf 1) ?_
        refine w_lloadN X83 hx (hb hby at_79) rfl (pc' := 80) rfl ?_
        refine w_lastoreL (i := 0) (jn := (tf + 1)) X83 hx hZ N71 P83 rfl hkA8 (hb hby at_80) (own_oN (by omega)) (own_llt (own_sl (own_sl (List.length_replicate (n := (tf + 2)) (a := (0 : Int64))))) (by omega)) (pc' := 81) rfl ?_
        intro T84 L72 N72 X84 P84
        replace P84 : HP n0 T84.heap [AC kA8 (List.map Value.long ((((List.replicate ((tf + 2)) 0).set 0 (-9223372036854775808 : Int64)).set tf x1).set (tf + 1) x2))] := P84
        refine w_iload X84 hx (hb hby at_81) rfl (pc' := 83) rfl ?_
        refine w_iconst (v := (2 : Int32)) X84 hx (hb hby at_83) rfl (pc' := 84) rfl ?_
        refine w_icmp_le X84 hx (hb hby at_84) (by decide) (pcY := 96) (by decide) (pc' := 87) rfl (fun h110 => ?_) (fun h110 => absurd h110 (by decide))
        refine w_iload X84 hx (hb hby at_96) rfl (pc' := 98) rfl ?_
        refine w_iconst (v := (3 : Int32)) X84 hx (hb hby at_98) rfl (pc' := 99) rfl ?_
        refine w_icmp_le X84 hx (hb hby at_99) (by decide) (pcY := 111) (by decide) (pc' := 102) rfl (fun h111 => ?_) (fun h111 => absurd h111 (by decide))
        exact Jc2 T84 _ (1 : Int32) tj ((((List.replicate ((tf + 2)) 0).set 0 (-9223372036854775808 : Int64)).set tf x1).set (tf + 1) x2) kA8 N72 X84 htj hkA8 (own_sl (own_sl (own_sl (List.length_replicate (n := (tf + 2)) (a := (0 : Int64)))))) P84
  · refine w_eqI (z := (2 : Int32)) g80 ?_
    refine w_iadd X0 hx (hb hby at_4) (pc' := 5) rfl ?_
    refine w_eqI (z := (3 : Int32)) (by decide) ?_
    refine w_istore (l' := #[.val (.int x0), .val (.long x1), .second, .val (.long x2), .second, .val (.long x3), .second, .val (.long x4), .second, .val (.long x5), .second, .val (.int (3 : Int32)), .unset, .unset, .unset, .unset, .unset, .unset, .unset]) X0 hx (hb hby at_5) rfl (pc' := 7) rfl ?_
    refine w_iloadN X0 hx (hb hby at_7) rfl (pc' := 8) rfl ?_
    refine w_iconst (v := (2 : Int32)) X0 hx (hb hby at_8) rfl (pc' := 9) rfl ?_
    refine w_iushr X0 hx (hb hby at_9) (pc' := 10) rfl ?_
    refine w_iconst (v := (1 : Int32)) X0 hx (hb hby at_10) rfl (pc' := 11) rfl ?_
    refine w_iand X0 hx (hb hby at_11) (pc' := 12) rfl ?_
    refine w_eqI (z := (Int32.ofNat tf)) etf ?_
    refine w_istore (l' := #[.val (.int x0), .val (.long x1), .second, .val (.long x2), .second, .val (.long x3), .second, .val (.long x4), .second, .val (.long x5), .second, .val (.int (3 : Int32)), .val (.int (Int32.ofNat tf)), .unset, .unset, .unset, .unset, .unset, .unset]) X0 hx (hb hby at_12) rfl (pc' := 14) rfl ?_
    refine w_iloadN X0 hx (hb hby at_14) rfl (pc' := 15) rfl ?_
    refine w_iconst (v := (3 : Int32)) X0 hx (hb hby at_15) rfl (pc' := 16) rfl ?_
    refine w_iushr X0 hx (hb hby at_16) (pc' := 17) rfl ?_
    refine w_iconst (v := (1 : Int32)) X0 hx (hb hby at_17) rfl (pc' := 18) rfl ?_
    refine w_iand X0 hx (hb hby at_18) (pc' := 19) rfl ?_
    refine w_if_eq X0 hx (hb hby at_19) (by decide) (pcY := 26) (by decide) (pc' := 22) rfl (fun h112 => ?_) (fun h112 => ?_)
    · refine w_iconst (v := (0 : Int32)) X0 hx (hb hby at_26) rfl (pc' := 27) rfl ?_
      refine w_istore (l' := #[.val (.int x0), .val (.long x1), .second, .val (.long x2), .second, .val (.long x3), .second, .val (.long x4), .second, .val (.long x5), .second, .val (.int (3 : Int32)), .val (.int (Int32.ofNat tf)), .val (.int (0 : Int32)), .unset, .unset, .unset, .unset, .unset]) X0 hx (hb hby at_27) rfl (pc' := 29) rfl ?_
      refine w_iloadN X0 hx (hb hby at_29) rfl (pc' := 30) rfl ?_
      refine w_iconst (v := (4 : Int32)) X0 hx (hb hby at_30) rfl (pc' := 31) rfl ?_
      refine w_iushr X0 hx (hb hby at_31) (pc' := 32) rfl ?_
      refine w_iconst (v := (3 : Int32)) X0 hx (hb hby at_32) rfl (pc' := 33) rfl ?_
      refine w_iand X0 hx (hb hby at_33) (pc' := 34) rfl ?_
      refine w_iload X0 hx (hb hby at_34) rfl (pc' := 36) rfl ?_
      obtain ⟨tj, htj, etj⟩ := own_remP (XT.ushr x0 4 &&& 3) (3 : Int32) 3 (c_and (XT.ushr x0 4) 3 (by decide)).1 (by decide) (by decide)
      refine w_irem X0 hx (hb hby at_36) (by decide) (pc' := 37) rfl ?_
      refine w_eqI (z := (Int32.ofNat tj)) etj ?_
      refine w_istore (l' := #[.val (.int x0), .val (.long x1), .second, .val (.long x2), .second, .val (.long x3), .second, .val (.long x4), .second, .val (.long x5), .second, .val (.int (3 : Int32)), .val (.int (Int32.ofNat tf)), .val (.int (0 : Int32)), .val (.int (Int32.ofNat tj)), .unset, .unset, .unset, .unset]) X0 hx (hb hby at_37) rfl (pc' := 39) rfl ?_
      refine w_iload X0 hx (hb hby at_39) rfl (pc' := 41) rfl ?_
      refine w_iload X0 hx (hb hby at_41) rfl (pc' := 43) rfl ?_
      refine w_iadd X0 hx (hb hby at_43) (pc' := 44) rfl ?_
      refine w_eqI (z := (Int32.ofNat (tf + 3))) (own_oadd tf 3) ?_
      refine w_newarrC (N := (tf + 3)) (cap := 5) (j := 0) X0 hx hZ P0 (ty := .long) rfl (wd0 hw) (hb hby at_44) (by omega) (own_oN (by omega)) (by omega) (by decide) (by decide) rfl (pc' := 46) rfl ?_
      intro T85 kA9 X85 hkA9 P85
      replace P85 := own_mrJ P85
      replace P85 : HP n0 T85.heap [AC kA9 (List.map Value.long (List.replicate ((tf + 3)) 0))] := P85
      refine w_astore (l' := #[.val (.int x0), .val (.long x1), .second, .val (.long x2), .second, .val (.long x3), .second, .val (.long x4), .second, .val (.long x5), .second, .val (.int (3 : Int32)), .val (.int (Int32.ofNat tf)), .val (.int (0 : Int32)), .val (.int (Int32.ofNat tj)), .val (.ref (n0 + 0)), .unset, .unset, .unset]) X85 hx (hb hby at_46) rfl rfl (pc' := 48) rfl ?_
      refine w_iload X85 hx (hb hby at_48) rfl (pc' := 50) rfl ?_
      refine w_iconst (v := (1 : Int32)) X85 hx (hb hby at_50) rfl (pc' := 51) rfl ?_
      refine w_icmp_ne X85 hx (hb hby at_51) (by decide) (pcY := 61) (by decide) (pc' := 54) rfl (fun h113 => ?_) (fun h113 => ?_)
      · have h113n : ¬ tf = 1 := fun q => h113 ((own_oeq (a := tf) (b := 1) (by omega) (by omega)).mpr q)
        refine w_aload X85 hx (hb hby at_61) rfl rfl (pc' := 63) rfl ?_
        refine w_iload X85 hx (hb hby at_63) rfl (pc' := 65) rfl ?_
        refine w_lloadN X85 hx (hb hby at_65) rfl (pc' := 66) rfl ?_
        refine w_lastoreL (i := 0) (jn := tf) X85 hx hZ N0 P85 rfl hkA9 (hb hby at_66) (own_oN (by omega)) (own_llt (List.length_replicate (n := (tf + 3)) (a := (0 : Int64))) (by omega)) (pc' := 67) rfl ?_
        intro T86 L73 N73 X86 P86
        replace P86 : HP n0 T86.heap [AC kA9 (List.map Value.long ((List.replicate ((tf + 3)) 0).set tf x1))] := P86
        refine w_iload X86 hx (hb hby at_67) rfl (pc' := 69) rfl ?_
        refine w_iconst (v := (1 : Int32)) X86 hx (hb hby at_69) rfl (pc' := 70) rfl ?_
        refine w_icmp_le X86 hx (hb hby at_70) (by decide) (pcY := 81) (by decide) (pc' := 73) rfl (fun h114 => absurd h114 (by decide)) (fun h114 => ?_)
        refine w_aload X86 hx (hb hby at_73) rfl rfl (pc' := 75) rfl ?_
        refine w_iload X86 hx (hb hby at_75) rfl (pc' := 77) rfl ?_
        refine w_iconst (v := (1 : Int32)) X86 hx (hb hby at_77) rfl (pc' := 78) rfl ?_
        refine w_iadd X86 hx (hb hby at_78) (pc' := 79) rfl ?_
        refine w_eqI (z := (Int32.ofNat (tf + 1))) (own_oadd tf 1) ?_
        refine w_lloadN X86 hx (hb hby at_79) rfl (pc' := 80) rfl ?_
        refine w_lastoreL (i := 0) (jn := (tf + 1)) X86 hx hZ N73 P86 rfl hkA9 (hb hby at_80) (own_oN (by omega)) (own_llt (own_sl (List.length_replicate (n := (tf + 3)) (a := (0 : Int64)))) (by omega)) (pc' := 81) rfl ?_
        intro T87 L74 N74 X87 P87
        replace P87 : HP n0 T87.heap [AC kA9 (List.map Value.long (((List.replicate ((tf + 3)) 0).set tf x1).set (tf + 1) x2))] := P87
        refine w_iload X87 hx (hb hby at_81) rfl (pc' := 83) rfl ?_
        refine w_iconst (v := (2 : Int32)) X87 hx (hb hby at_83) rfl (pc' := 84) rfl ?_
        refine w_icmp_le X87 hx (hb hby at_84) (by decide) (pcY := 96) (by decide) (pc' := 87) rfl (fun h115 => absurd h115 (by decide)) (fun h115 => ?_)
        refine w_aload X87 hx (hb hby at_87) rfl rfl (pc' := 89) rfl ?_
        refine w_iload X87 hx (hb hby at_89) rfl (pc' := 91) rfl ?_
        refine w_iconst (v := (2 : Int32)) X87 hx (hb hby at_91) rfl (pc' := 92) rfl ?_
        refine w_iadd X87 hx (hb hby at_92) (pc' := 93) rfl ?_
        refine w_eqI (z := (Int32.ofNat (tf + 2))) (own_oadd tf 2) ?_
        refine w_lload X87 hx (hb hby at_93) rfl (pc' := 95) rfl ?_
        refine w_lastoreL (i := 0) (jn := (tf + 2)) X87 hx hZ N74 P87 rfl hkA9 (hb hby at_95) (own_oN (by omega)) (own_llt (own_sl (own_sl (List.length_replicate (n := (tf + 3)) (a := (0 : Int64))))) (by omega)) (pc' := 96) rfl ?_
        intro T88 L75 N75 X88 P88
        replace P88 : HP n0 T88.heap [AC kA9 (List.map Value.long ((((List.replicate ((tf + 3)) 0).set tf x1).set (tf + 1) x2).set (tf + 2) x3))] := P88
        refine w_iload X88 hx (hb hby at_96) rfl (pc' := 98) rfl ?_
        refine w_iconst (v := (3 : Int32)) X88 hx (hb hby at_98) rfl (pc' := 99) rfl ?_
        refine w_icmp_le X88 hx (hb hby at_99) (by decide) (pcY := 111) (by decide) (pc' := 102) rfl (fun h116 => ?_) (fun h116 => absurd h116 (by decide))
        exact Jc3 T88 _ (0 : Int32) tj ((((List.replicate ((tf + 3)) 0).set tf x1).set (tf + 1) x2).set (tf + 2) x3) kA9 N75 X88 htj hkA9 (own_sl (own_sl (own_sl (List.length_replicate (n := (tf + 3)) (a := (0 : Int64)))))) P88
      · have h113n : tf = 1 := (own_oeq (a := tf) (b := 1) (by omega) (by omega)).mp h113
        refine w_aload X85 hx (hb hby at_54) rfl rfl (pc' := 56) rfl ?_
        refine w_iconst (v := (0 : Int32)) X85 hx (hb hby at_56) rfl (pc' := 57) rfl ?_
        refine w_ldc2 X85 hx (hb hby at_57) hown (mvT hZ (wd46 hw)) (pc' := 60) rfl ?_
        refine w_lastoreL (i := 0) (jn := 0) X85 hx hZ N0 P85 rfl hkA9 (hb hby at_60) (by decide) (own_llt (List.length_replicate (n := (tf + 3)) (a := (0 : Int64))) (by omega)) (pc' := 61) rfl ?_
        intro T89 L76 N76 X89 P89
        replace P89 : HP n0 T89.heap [AC kA9 (List.map Value.long ((List.replicate ((tf + 3)) 0).set 0 (-9223372036854775808 : Int64)))] := P89
        refine w_aload X89 hx (hb hby at_61) rfl rfl (pc' := 63) rfl ?_
        refine w_iload X89 hx (hb hby at_63) rfl (pc' := 65) rfl ?_
        refine w_lloadN X89 hx (hb hby at_65) rfl (pc' := 66) rfl ?_
        refine w_lastoreL (i := 0) (jn := tf) X89 hx hZ N76 P89 rfl hkA9 (hb hby at_66) (own_oN (by omega)) (own_llt (own_sl (List.length_replicate (n := (tf + 3)) (a := (0 : Int64)))) (by omega)) (pc' := 67) rfl ?_
        intro T90 L77 N77 X90 P90
        replace P90 : HP n0 T90.heap [AC kA9 (List.map Value.long (((List.replicate ((tf + 3)) 0).set 0 (-9223372036854775808 : Int64)).set tf x1))] := P90
        refine w_iload X90 hx (hb hby at_67) rfl (pc' := 69) rfl ?_
        refine w_iconst (v := (1 : Int32)) X90 hx (hb hby at_69) rfl (pc' := 70) rfl ?_
        refine w_icmp_le X90 hx (hb hby at_70) (by decide) (pcY := 81) (by decide) (pc' := 73) rfl (fun h117 => absurd h117 (by decide)) (fun h117 => ?_)
        refine w_aload X90 hx (hb hby at_73) rfl rfl (pc' := 75) rfl ?_
        refine w_iload X90 hx (hb hby at_75) rfl (pc' := 77) rfl ?_
        refine w_iconst (v := (1 : Int32)) X90 hx (hb hby at_77) rfl (pc' := 78) rfl ?_
        refine w_iadd X90 hx (hb hby at_78) (pc' := 79) rfl ?_
        refine w_eqI (z := (Int32.ofNat (tf + 1))) (own_oadd tf 1) ?_
        refine w_lloadN X90 hx (hb hby at_79) rfl (pc' := 80) rfl ?_
        refine w_lastoreL (i := 0) (jn := (tf + 1)) X90 hx hZ N77 P90 rfl hkA9 (hb hby at_80) (own_oN (by omega)) (own_llt (own_sl (own_sl (List.length_replicate (n := (tf + 3)) (a := (0 : Int64))))) (by omega)) (pc' := 81) rfl ?_
        intro T91 L78 N78 X91 P91
        replace P91 : HP n0 T91.heap [AC kA9 (List.map Value.long ((((List.replicate ((tf + 3)) 0).set 0 (-9223372036854775808 : Int64)).set tf x1).set (tf + 1) x2))] := P91
        refine w_iload X91 hx (hb hby at_81) rfl (pc' := 83) rfl ?_
        refine w_iconst (v := (2 : Int32)) X91 hx (hb hby at_83) rfl (pc' := 84) rfl ?_
        refine w_icmp_le X91 hx (hb hby at_84) (by decide) (pcY := 96) (by decide) (pc' := 87) rfl (fun h118 => absurd h118 (by decide)) (fun h118 => ?_)
        refine w_aload X91 hx (hb hby at_87) rfl rfl (pc' := 89) rfl ?_
        refine w_iload X91 hx (hb hby at_89) rfl (pc' := 91) rfl ?_
        refine w_iconst (v := (2 : Int32)) X91 hx (hb hby at_91) rfl (pc' := 92) rfl ?_
        refine w_iadd X91 hx (hb hby at_92) (pc' := 93) rfl ?_
        refine w_eqI (z := (Int32.ofNat (tf + 2))) (own_oadd tf 2) ?_
        refine w_lload X91 hx (hb hby at_93) rfl (pc' := 95) rfl ?_
        refine w_lastoreL (i := 0) (jn := (tf + 2)) X91 hx hZ N78 P91 rfl hkA9 (hb hby at_95) (own_oN (by omega)) (own_llt (own_sl (own_sl (own_sl (List.length_replicate (n := (tf + 3)) (a := (0 : Int64)))))) (by omega)) (pc' := 96) rfl ?_
        intro T92 L79 N79 X92 P92
        replace P92 : HP n0 T92.heap [AC kA9 (List.map Value.long (((((List.replicate ((tf + 3)) 0).set 0 (-9223372036854775808 : Int64)).set tf x1).set (tf + 1) x2).set (tf + 2) x3))] := P92
        refine w_iload X92 hx (hb hby at_96) rfl (pc' := 98) rfl ?_
        refine w_iconst (v := (3 : Int32)) X92 hx (hb hby at_98) rfl (pc' := 99) rfl ?_
        refine w_icmp_le X92 hx (hb hby at_99) (by decide) (pcY := 111) (by decide) (pc' := 102) rfl (fun h119 => ?_) (fun h119 => absurd h119 (by decide))
        exact Jc3 T92 _ (0 : Int32) tj (((((List.replicate ((tf + 3)) 0).set 0 (-9223372036854775808 : Int64)).set tf x1).set (tf + 1) x2).set (tf + 2) x3) kA9 N79 X92 htj hkA9 (own_sl (own_sl (own_sl (own_sl (List.length_replicate (n := (tf + 3)) (a := (0 : Int64))))))) P92
    · refine w_iconst (v := (1 : Int32)) X0 hx (hb hby at_22) rfl (pc' := 23) rfl ?_
      refine w_goto X0 hx (hb hby at_23) (by decide) (pc' := 27) (by decide) ?_
      refine w_istore (l' := #[.val (.int x0), .val (.long x1), .second, .val (.long x2), .second, .val (.long x3), .second, .val (.long x4), .second, .val (.long x5), .second, .val (.int (3 : Int32)), .val (.int (Int32.ofNat tf)), .val (.int (1 : Int32)), .unset, .unset, .unset, .unset, .unset]) X0 hx (hb hby at_27) rfl (pc' := 29) rfl ?_
      refine w_iloadN X0 hx (hb hby at_29) rfl (pc' := 30) rfl ?_
      refine w_iconst (v := (4 : Int32)) X0 hx (hb hby at_30) rfl (pc' := 31) rfl ?_
      refine w_iushr X0 hx (hb hby at_31) (pc' := 32) rfl ?_
      refine w_iconst (v := (3 : Int32)) X0 hx (hb hby at_32) rfl (pc' := 33) rfl ?_
      refine w_iand X0 hx (hb hby at_33) (pc' := 34) rfl ?_
      refine w_iload X0 hx (hb hby at_34) rfl (pc' := 36) rfl ?_
      obtain ⟨tj, htj, etj⟩ := own_remP (XT.ushr x0 4 &&& 3) (3 : Int32) 3 (c_and (XT.ushr x0 4) 3 (by decide)).1 (by decide) (by decide)
      refine w_irem X0 hx (hb hby at_36) (by decide) (pc' := 37) rfl ?_
      refine w_eqI (z := (Int32.ofNat tj)) etj ?_
      refine w_istore (l' := #[.val (.int x0), .val (.long x1), .second, .val (.long x2), .second, .val (.long x3), .second, .val (.long x4), .second, .val (.long x5), .second, .val (.int (3 : Int32)), .val (.int (Int32.ofNat tf)), .val (.int (1 : Int32)), .val (.int (Int32.ofNat tj)), .unset, .unset, .unset, .unset]) X0 hx (hb hby at_37) rfl (pc' := 39) rfl ?_
      refine w_iload X0 hx (hb hby at_39) rfl (pc' := 41) rfl ?_
      refine w_iload X0 hx (hb hby at_41) rfl (pc' := 43) rfl ?_
      refine w_iadd X0 hx (hb hby at_43) (pc' := 44) rfl ?_
      refine w_eqI (z := (Int32.ofNat (tf + 3))) (own_oadd tf 3) ?_
      refine w_newarrC (N := (tf + 3)) (cap := 5) (j := 0) X0 hx hZ P0 (ty := .long) rfl (wd0 hw) (hb hby at_44) (by omega) (own_oN (by omega)) (by omega) (by decide) (by decide) rfl (pc' := 46) rfl ?_
      intro T93 kA10 X93 hkA10 P93
      replace P93 := own_mrJ P93
      replace P93 : HP n0 T93.heap [AC kA10 (List.map Value.long (List.replicate ((tf + 3)) 0))] := P93
      refine w_astore (l' := #[.val (.int x0), .val (.long x1), .second, .val (.long x2), .second, .val (.long x3), .second, .val (.long x4), .second, .val (.long x5), .second, .val (.int (3 : Int32)), .val (.int (Int32.ofNat tf)), .val (.int (1 : Int32)), .val (.int (Int32.ofNat tj)), .val (.ref (n0 + 0)), .unset, .unset, .unset]) X93 hx (hb hby at_46) rfl rfl (pc' := 48) rfl ?_
      refine w_iload X93 hx (hb hby at_48) rfl (pc' := 50) rfl ?_
      refine w_iconst (v := (1 : Int32)) X93 hx (hb hby at_50) rfl (pc' := 51) rfl ?_
      refine w_icmp_ne X93 hx (hb hby at_51) (by decide) (pcY := 61) (by decide) (pc' := 54) rfl (fun h120 => ?_) (fun h120 => ?_)
      · have h120n : ¬ tf = 1 := fun q => h120 ((own_oeq (a := tf) (b := 1) (by omega) (by omega)).mpr q)
        refine w_aload X93 hx (hb hby at_61) rfl rfl (pc' := 63) rfl ?_
        refine w_iload X93 hx (hb hby at_63) rfl (pc' := 65) rfl ?_
        refine w_lloadN X93 hx (hb hby at_65) rfl (pc' := 66) rfl ?_
        refine w_lastoreL (i := 0) (jn := tf) X93 hx hZ N0 P93 rfl hkA10 (hb hby at_66) (own_oN (by omega)) (own_llt (List.length_replicate (n := (tf + 3)) (a := (0 : Int64))) (by omega)) (pc' := 67) rfl ?_
        intro T94 L80 N80 X94 P94
        replace P94 : HP n0 T94.heap [AC kA10 (List.map Value.long ((List.replicate ((tf + 3)) 0).set tf x1))] := P94
        refine w_iload X94 hx (hb hby at_67) rfl (pc' := 69) rfl ?_
        refine w_iconst (v := (1 : Int32)) X94 hx (hb hby at_69) rfl (pc' := 70) rfl ?_
        refine w_icmp_le X94 hx (hb hby at_70) (by decide) (pcY := 81) (by decide) (pc' := 73) rfl (fun h121 => absurd h121 (by decide)) (fun h121 => ?_)
        refine w_aload X94 hx (hb hby at_73) rfl rfl (pc' := 75) rfl ?_
        refine w_iload X94 hx (hb hby at_75) rfl (pc' := 77) rfl ?_
        refine w_iconst (v := (1 : Int32)) X94 hx (hb hby at_77) rfl (pc' := 78) rfl ?_
        refine w_iadd X94 hx (hb hby at_78) (pc' := 79) rfl ?_
        refine w_eqI (z := (Int32.ofNat (tf + 1))) (own_oadd tf 1) ?_
        refine w_lloadN X94 hx (hb hby at_79) rfl (pc' := 80) rfl ?_
        refine w_lastoreL (i := 0) (jn := (tf + 1)) X94 hx hZ N80 P94 rfl hkA10 (hb hby at_80) (own_oN (by omega)) (own_llt (own_sl (List.length_replicate (n := (tf + 3)) (a := (0 : Int64)))) (by omega)) (pc' := 81) rfl ?_
        intro T95 L81 N81 X95 P95
        replace P95 : HP n0 T95.heap [AC kA10 (List.map Value.long (((List.replicate ((tf + 3)) 0).set tf x1).set (tf + 1) x2))] := P95
        refine w_iload X95 hx (hb hby at_81) rfl (pc' := 83) rfl ?_
        refine w_iconst (v := (2 : Int32)) X95 hx (hb hby at_83) rfl (pc' := 84) rfl ?_
        refine w_icmp_le X95 hx (hb hby at_84) (by decide) (pcY := 96) (by decide) (pc' := 87) rfl (fun h122 => absurd h122 (by decide)) (fun h122 => ?_)
        refine w_aload X95 hx (hb hby at_87) rfl rfl (pc' := 89) rfl ?_
        refine w_iload X95 hx (hb hby at_89) rfl (pc' := 91) rfl ?_
        refine w_iconst (v := (2 : Int32)) X95 hx (hb hby at_91) rfl (pc' := 92) rfl ?_
        refine w_iadd X95 hx (hb hby at_92) (pc' := 93) rfl ?_
        refine w_eqI (z := (Int32.ofNat (tf + 2))) (own_oadd tf 2) ?_
        refine w_lload X95 hx (hb hby at_93) rfl (pc' := 95) rfl ?_
        refine w_lastoreL (i := 0) (jn := (tf + 2)) X95 hx hZ N81 P95 rfl hkA10 (hb hby at_95) (own_oN (by omega)) (own_llt (own_sl (own_sl (List.length_replicate (n := (tf + 3)) (a := (0 : Int64))))) (by omega)) (pc' := 96) rfl ?_
        intro T96 L82 N82 X96 P96
        replace P96 : HP n0 T96.heap [AC kA10 (List.map Value.long ((((List.replicate ((tf + 3)) 0).set tf x1).set (tf + 1) x2).set (tf + 2) x3))] := P96
        refine w_iload X96 hx (hb hby at_96) rfl (pc' := 98) rfl ?_
        refine w_iconst (v := (3 : Int32)) X96 hx (hb hby at_98) rfl (pc' := 99) rfl ?_
        refine w_icmp_le X96 hx (hb hby at_99) (by decide) (pcY := 111) (by decide) (pc' := 102) rfl (fun h123 => ?_) (fun h123 => absurd h123 (by decide))
        exact Jc3 T96 _ (1 : Int32) tj ((((List.replicate ((tf + 3)) 0).set tf x1).set (tf + 1) x2).set (tf + 2) x3) kA10 N82 X96 htj hkA10 (own_sl (own_sl (own_sl (List.length_replicate (n := (tf + 3)) (a := (0 : Int64)))))) P96
      · have h120n : tf = 1 := (own_oeq (a := tf) (b := 1) (by omega) (by omega)).mp h120
        refine w_aload X93 hx (hb hby at_54) rfl rfl (pc' := 56) rfl ?_
        refine w_iconst (v := (0 : Int32)) X93 hx (hb hby at_56) rfl (pc' := 57) rfl ?_
        refine w_ldc2 X93 hx (hb hby at_57) hown (mvT hZ (wd46 hw)) (pc' := 60) rfl ?_
        refine w_lastoreL (i := 0) (jn := 0) X93 hx hZ N0 P93 rfl hkA10 (hb hby at_60) (by decide) (own_llt (List.length_replicate (n := (tf + 3)) (a := (0 : Int64))) (by omega)) (pc' := 61) rfl ?_
        intro T97 L83 N83 X97 P97
        replace P97 : HP n0 T97.heap [AC kA10 (List.map Value.long ((List.replicate ((tf + 3)) 0).set 0 (-9223372036854775808 : Int64)))] := P97
        refine w_aload X97 hx (hb hby at_61) rfl rfl (pc' := 63) rfl ?_
        refine w_iload X97 hx (hb hby at_63) rfl (pc' := 65) rfl ?_
        refine w_lloadN X97 hx (hb hby at_65) rfl (pc' := 66) rfl ?_
        refine w_lastoreL (i := 0) (jn := tf) X97 hx hZ N83 P97 rfl hkA10 (hb hby at_66) (own_oN (by omega)) (own_llt (own_sl (List.length_replicate (n := (tf + 3)) (a := (0 : Int64)))) (by omega)) (pc' := 67) rfl ?_
        intro T98 L84 N84 X98 P98
        replace P98 : HP n0 T98.heap [AC kA10 (List.map Value.long (((List.replicate ((tf + 3)) 0).set 0 (-9223372036854775808 : Int64)).set tf x1))] := P98
        refine w_iload X98 hx (hb hby at_67) rfl (pc' := 69) rfl ?_
        refine w_iconst (v := (1 : Int32)) X98 hx (hb hby at_69) rfl (pc' := 70) rfl ?_
        refine w_icmp_le X98 hx (hb hby at_70) (by decide) (pcY := 81) (by decide) (pc' := 73) rfl (fun h124 => absurd h124 (by decide)) (fun h124 => ?_)
        refine w_aload X98 hx (hb hby at_73) rfl rfl (pc' := 75) rfl ?_
        refine w_iload X98 hx (hb hby at_75) rfl (pc' := 77) rfl ?_
        refine w_iconst (v := (1 : Int32)) X98 hx (hb hby at_77) rfl (pc' := 78) rfl ?_
        refine w_iadd X98 hx (hb hby at_78) (pc' := 79) rfl ?_
        refine w_eqI (z := (Int32.ofNat (tf + 1))) (own_oadd tf 1) ?_
        refine w_lloadN X98 hx (hb hby at_79) rfl (pc' := 80) rfl ?_
        refine w_lastoreL (i := 0) (jn := (tf + 1)) X98 hx hZ N84 P98 rfl hkA10 (hb hby at_80) (own_oN (by omega)) (own_llt (own_sl (own_sl (List.length_replicate (n := (tf + 3)) (a := (0 : Int64))))) (by omega)) (pc' := 81) rfl ?_
        intro T99 L85 N85 X99 P99
        replace P99 : HP n0 T99.heap [AC kA10 (List.map Value.long ((((List.replicate ((tf + 3)) 0).set 0 (-9223372036854775808 : Int64)).set tf x1).set (tf + 1) x2))] := P99
        refine w_iload X99 hx (hb hby at_81) rfl (pc' := 83) rfl ?_
        refine w_iconst (v := (2 : Int32)) X99 hx (hb hby at_83) rfl (pc' := 84) rfl ?_
        refine w_icmp_le X99 hx (hb hby at_84) (by decide) (pcY := 96) (by decide) (pc' := 87) rfl (fun h125 => absurd h125 (by decide)) (fun h125 => ?_)
        refine w_aload X99 hx (hb hby at_87) rfl rfl (pc' := 89) rfl ?_
        refine w_iload X99 hx (hb hby at_89) rfl (pc' := 91) rfl ?_
        refine w_iconst (v := (2 : Int32)) X99 hx (hb hby at_91) rfl (pc' := 92) rfl ?_
        refine w_iadd X99 hx (hb hby at_92) (pc' := 93) rfl ?_
        refine w_eqI (z := (Int32.ofNat (tf + 2))) (own_oadd tf 2) ?_
        refine w_lload X99 hx (hb hby at_93) rfl (pc' := 95) rfl ?_
        refine w_lastoreL (i := 0) (jn := (tf + 2)) X99 hx hZ N85 P99 rfl hkA10 (hb hby at_95) (own_oN (by omega)) (own_llt (own_sl (own_sl (own_sl (List.length_replicate (n := (tf + 3)) (a := (0 : Int64)))))) (by omega)) (pc' := 96) rfl ?_
        intro T100 L86 N86 X100 P100
        replace P100 : HP n0 T100.heap [AC kA10 (List.map Value.long (((((List.replicate ((tf + 3)) 0).set 0 (-9223372036854775808 : Int64)).set tf x1).set (tf + 1) x2).set (tf + 2) x3))] := P100
        refine w_iload X100 hx (hb hby at_96) rfl (pc' := 98) rfl ?_
        refine w_iconst (v := (3 : Int32)) X100 hx (hb hby at_98) rfl (pc' := 99) rfl ?_
        refine w_icmp_le X100 hx (hb hby at_99) (by decide) (pcY := 111) (by decide) (pc' := 102) rfl (fun h126 => ?_) (fun h126 => absurd h126 (by decide))
        exact Jc3 T100 _ (1 : Int32) tj (((((List.replicate ((tf + 3)) 0).set 0 (-9223372036854775808 : Int64)).set tf x1).set (tf + 1) x2).set (tf + 2) x3) kA10 N86 X100 htj hkA10 (own_sl (own_sl (own_sl (own_sl (List.length_replicate (n := (tf + 3)) (a := (0 : Int64))))))) P100
  · refine w_eqI (z := (3 : Int32)) g81 ?_
    refine w_iadd X0 hx (hb hby at_4) (pc' := 5) rfl ?_
    refine w_eqI (z := (4 : Int32)) (by decide) ?_
    refine w_istore (l' := #[.val (.int x0), .val (.long x1), .second, .val (.long x2), .second, .val (.long x3), .second, .val (.long x4), .second, .val (.long x5), .second, .val (.int (4 : Int32)), .unset, .unset, .unset, .unset, .unset, .unset, .unset]) X0 hx (hb hby at_5) rfl (pc' := 7) rfl ?_
    refine w_iloadN X0 hx (hb hby at_7) rfl (pc' := 8) rfl ?_
    refine w_iconst (v := (2 : Int32)) X0 hx (hb hby at_8) rfl (pc' := 9) rfl ?_
    refine w_iushr X0 hx (hb hby at_9) (pc' := 10) rfl ?_
    refine w_iconst (v := (1 : Int32)) X0 hx (hb hby at_10) rfl (pc' := 11) rfl ?_
    refine w_iand X0 hx (hb hby at_11) (pc' := 12) rfl ?_
    refine w_eqI (z := (Int32.ofNat tf)) etf ?_
    refine w_istore (l' := #[.val (.int x0), .val (.long x1), .second, .val (.long x2), .second, .val (.long x3), .second, .val (.long x4), .second, .val (.long x5), .second, .val (.int (4 : Int32)), .val (.int (Int32.ofNat tf)), .unset, .unset, .unset, .unset, .unset, .unset]) X0 hx (hb hby at_12) rfl (pc' := 14) rfl ?_
    refine w_iloadN X0 hx (hb hby at_14) rfl (pc' := 15) rfl ?_
    refine w_iconst (v := (3 : Int32)) X0 hx (hb hby at_15) rfl (pc' := 16) rfl ?_
    refine w_iushr X0 hx (hb hby at_16) (pc' := 17) rfl ?_
    refine w_iconst (v := (1 : Int32)) X0 hx (hb hby at_17) rfl (pc' := 18) rfl ?_
    refine w_iand X0 hx (hb hby at_18) (pc' := 19) rfl ?_
    refine w_if_eq X0 hx (hb hby at_19) (by decide) (pcY := 26) (by decide) (pc' := 22) rfl (fun h127 => ?_) (fun h127 => ?_)
    · refine w_iconst (v := (0 : Int32)) X0 hx (hb hby at_26) rfl (pc' := 27) rfl ?_
      refine w_istore (l' := #[.val (.int x0), .val (.long x1), .second, .val (.long x2), .second, .val (.long x3), .second, .val (.long x4), .second, .val (.long x5), .second, .val (.int (4 : Int32)), .val (.int (Int32.ofNat tf)), .val (.int (0 : Int32)), .unset, .unset, .unset, .unset, .unset]) X0 hx (hb hby at_27) rfl (pc' := 29) rfl ?_
      refine w_iloadN X0 hx (hb hby at_29) rfl (pc' := 30) rfl ?_
      refine w_iconst (v := (4 : Int32)) X0 hx (hb hby at_30) rfl (pc' := 31) rfl ?_
      refine w_iushr X0 hx (hb hby at_31) (pc' := 32) rfl ?_
      refine w_iconst (v := (3 : Int32)) X0 hx (hb hby at_32) rfl (pc' := 33) rfl ?_
      refine w_iand X0 hx (hb hby at_33) (pc' := 34) rfl ?_
      refine w_iload X0 hx (hb hby at_34) rfl (pc' := 36) rfl ?_
      obtain ⟨tj, htj, etj⟩ := own_remP (XT.ushr x0 4 &&& 3) (4 : Int32) 4 (c_and (XT.ushr x0 4) 3 (by decide)).1 (by decide) (by decide)
      refine w_irem X0 hx (hb hby at_36) (by decide) (pc' := 37) rfl ?_
      refine w_eqI (z := (Int32.ofNat tj)) etj ?_
      refine w_istore (l' := #[.val (.int x0), .val (.long x1), .second, .val (.long x2), .second, .val (.long x3), .second, .val (.long x4), .second, .val (.long x5), .second, .val (.int (4 : Int32)), .val (.int (Int32.ofNat tf)), .val (.int (0 : Int32)), .val (.int (Int32.ofNat tj)), .unset, .unset, .unset, .unset]) X0 hx (hb hby at_37) rfl (pc' := 39) rfl ?_
      refine w_iload X0 hx (hb hby at_39) rfl (pc' := 41) rfl ?_
      refine w_iload X0 hx (hb hby at_41) rfl (pc' := 43) rfl ?_
      refine w_iadd X0 hx (hb hby at_43) (pc' := 44) rfl ?_
      refine w_eqI (z := (Int32.ofNat (tf + 4))) (own_oadd tf 4) ?_
      refine w_newarrC (N := (tf + 4)) (cap := 5) (j := 0) X0 hx hZ P0 (ty := .long) rfl (wd0 hw) (hb hby at_44) (by omega) (own_oN (by omega)) (by omega) (by decide) (by decide) rfl (pc' := 46) rfl ?_
      intro T101 kA11 X101 hkA11 P101
      replace P101 := own_mrJ P101
      replace P101 : HP n0 T101.heap [AC kA11 (List.map Value.long (List.replicate ((tf + 4)) 0))] := P101
      refine w_astore (l' := #[.val (.int x0), .val (.long x1), .second, .val (.long x2), .second, .val (.long x3), .second, .val (.long x4), .second, .val (.long x5), .second, .val (.int (4 : Int32)), .val (.int (Int32.ofNat tf)), .val (.int (0 : Int32)), .val (.int (Int32.ofNat tj)), .val (.ref (n0 + 0)), .unset, .unset, .unset]) X101 hx (hb hby at_46) rfl rfl (pc' := 48) rfl ?_
      refine w_iload X101 hx (hb hby at_48) rfl (pc' := 50) rfl ?_
      refine w_iconst (v := (1 : Int32)) X101 hx (hb hby at_50) rfl (pc' := 51) rfl ?_
      refine w_icmp_ne X101 hx (hb hby at_51) (by decide) (pcY := 61) (by decide) (pc' := 54) rfl (fun h128 => ?_) (fun h128 => ?_)
      · have h128n : ¬ tf = 1 := fun q => h128 ((own_oeq (a := tf) (b := 1) (by omega) (by omega)).mpr q)
        refine w_aload X101 hx (hb hby at_61) rfl rfl (pc' := 63) rfl ?_
        refine w_iload X101 hx (hb hby at_63) rfl (pc' := 65) rfl ?_
        refine w_lloadN X101 hx (hb hby at_65) rfl (pc' := 66) rfl ?_
        refine w_lastoreL (i := 0) (jn := tf) X101 hx hZ N0 P101 rfl hkA11 (hb hby at_66) (own_oN (by omega)) (own_llt (List.length_replicate (n := (tf + 4)) (a := (0 : Int64))) (by omega)) (pc' := 67) rfl ?_
        intro T102 L87 N87 X102 P102
        replace P102 : HP n0 T102.heap [AC kA11 (List.map Value.long ((List.replicate ((tf + 4)) 0).set tf x1))] := P102
        refine w_iload X102 hx (hb hby at_67) rfl (pc' := 69) rfl ?_
        refine w_iconst (v := (1 : Int32)) X102 hx (hb hby at_69) rfl (pc' := 70) rfl ?_
        refine w_icmp_le X102 hx (hb hby at_70) (by decide) (pcY := 81) (by decide) (pc' := 73) rfl (fun h129 => absurd h129 (by decide)) (fun h129 => ?_)
        refine w_aload X102 hx (hb hby at_73) rfl rfl (pc' := 75) rfl ?_
        refine w_iload X102 hx (hb hby at_75) rfl (pc' := 77) rfl ?_
        refine w_iconst (v := (1 : Int32)) X102 hx (hb hby at_77) rfl (pc' := 78) rfl ?_
        refine w_iadd X102 hx (hb hby at_78) (pc' := 79) rfl ?_
        refine w_eqI (z := (Int32.ofNat (tf + 1))) (own_oadd tf 1) ?_
        refine w_lloadN X102 hx (hb hby at_79) rfl (pc' := 80) rfl ?_
        refine w_lastoreL (i := 0) (jn := (tf + 1)) X102 hx hZ N87 P102 rfl hkA11 (hb hby at_80) (own_oN (by omega)) (own_llt (own_sl (List.length_replicate (n := (tf + 4)) (a := (0 : Int64)))) (by omega)) (pc' := 81) rfl ?_
        intro T103 L88 N88 X103 P103
        replace P103 : HP n0 T103.heap [AC kA11 (List.map Value.long (((List.replicate ((tf + 4)) 0).set tf x1).set (tf + 1) x2))] := P103
        refine w_iload X103 hx (hb hby at_81) rfl (pc' := 83) rfl ?_
        refine w_iconst (v := (2 : Int32)) X103 hx (hb hby at_83) rfl (pc' := 84) rfl ?_
        refine w_icmp_le X103 hx (hb hby at_84) (by decide) (pcY := 96) (by decide) (pc' := 87) rfl (fun h130 => absurd h130 (by decide)) (fun h130 => ?_)
        refine w_aload X103 hx (hb hby at_87) rfl rfl (pc' := 89) rfl ?_
        refine w_iload X103 hx (hb hby at_89) rfl (pc' := 91) rfl ?_
        refine w_iconst (v := (2 : Int32)) X103 hx (hb hby at_91) rfl (pc' := 92) rfl ?_
        refine w_iadd X103 hx (hb hby at_92) (pc' := 93) rfl ?_
        refine w_eqI (z := (Int32.ofNat (tf + 2))) (own_oadd tf 2) ?_
        refine w_lload X103 hx (hb hby at_93) rfl (pc' := 95) rfl ?_
        refine w_lastoreL (i := 0) (jn := (tf + 2)) X103 hx hZ N88 P103 rfl hkA11 (hb hby at_95) (own_oN (by omega)) (own_llt (own_sl (own_sl (List.length_replicate (n := (tf + 4)) (a := (0 : Int64))))) (by omega)) (pc' := 96) rfl ?_
        intro T104 L89 N89 X104 P104
        replace P104 : HP n0 T104.heap [AC kA11 (List.map Value.long ((((List.replicate ((tf + 4)) 0).set tf x1).set (tf + 1) x2).set (tf + 2) x3))] := P104
        refine w_iload X104 hx (hb hby at_96) rfl (pc' := 98) rfl ?_
        refine w_iconst (v := (3 : Int32)) X104 hx (hb hby at_98) rfl (pc' := 99) rfl ?_
        refine w_icmp_le X104 hx (hb hby at_99) (by decide) (pcY := 111) (by decide) (pc' := 102) rfl (fun h131 => absurd h131 (by decide)) (fun h131 => ?_)
        refine w_aload X104 hx (hb hby at_102) rfl rfl (pc' := 104) rfl ?_
        refine w_iload X104 hx (hb hby at_104) rfl (pc' := 106) rfl ?_
        refine w_iconst (v := (3 : Int32)) X104 hx (hb hby at_106) rfl (pc' := 107) rfl ?_
        refine w_iadd X104 hx (hb hby at_107) (pc' := 108) rfl ?_
        refine w_eqI (z := (Int32.ofNat (tf + 3))) (own_oadd tf 3) ?_
        refine w_lload X104 hx (hb hby at_108) rfl (pc' := 110) rfl ?_
        refine w_lastoreL (i := 0) (jn := (tf + 3)) X104 hx hZ N89 P104 rfl hkA11 (hb hby at_110) (own_oN (by omega)) (own_llt (own_sl (own_sl (own_sl (List.length_replicate (n := (tf + 4)) (a := (0 : Int64)))))) (by omega)) (pc' := 111) rfl ?_
        intro T105 L90 N90 X105 P105
        replace P105 : HP n0 T105.heap [AC kA11 (List.map Value.long (((((List.replicate ((tf + 4)) 0).set tf x1).set (tf + 1) x2).set (tf + 2) x3).set (tf + 3) x4))] := P105
        exact Jc4 T105 _ (0 : Int32) tj (((((List.replicate ((tf + 4)) 0).set tf x1).set (tf + 1) x2).set (tf + 2) x3).set (tf + 3) x4) kA11 N90 X105 htj hkA11 (own_sl (own_sl (own_sl (own_sl (List.length_replicate (n := (tf + 4)) (a := (0 : Int64))))))) P105
      · have h128n : tf = 1 := (own_oeq (a := tf) (b := 1) (by omega) (by omega)).mp h128
        refine w_aload X101 hx (hb hby at_54) rfl rfl (pc' := 56) rfl ?_
        refine w_iconst (v := (0 : Int32)) X101 hx (hb hby at_56) rfl (pc' := 57) rfl ?_
        refine w_ldc2 X101 hx (hb hby at_57) hown (mvT hZ (wd46 hw)) (pc' := 60) rfl ?_
        refine w_lastoreL (i := 0) (jn := 0) X101 hx hZ N0 P101 rfl hkA11 (hb hby at_60) (by decide) (own_llt (List.length_replicate (n := (tf + 4)) (a := (0 : Int64))) (by omega)) (pc' := 61) rfl ?_
        intro T106 L91 N91 X106 P106
        replace P106 : HP n0 T106.heap [AC kA11 (List.map Value.long ((List.replicate ((tf + 4)) 0).set 0 (-9223372036854775808 : Int64)))] := P106
        refine w_aload X106 hx (hb hby at_61) rfl rfl (pc' := 63) rfl ?_
        refine w_iload X106 hx (hb hby at_63) rfl (pc' := 65) rfl ?_
        refine w_lloadN X106 hx (hb hby at_65) rfl (pc' := 66) rfl ?_
        refine w_lastoreL (i := 0) (jn := tf) X106 hx hZ N91 P106 rfl hkA11 (hb hby at_66) (own_oN (by omega)) (own_llt (own_sl (List.length_replicate (n := (tf + 4)) (a := (0 : Int64)))) (by omega)) (pc' := 67) rfl ?_
        intro T107 L92 N92 X107 P107
        replace P107 : HP n0 T107.heap [AC kA11 (List.map Value.long (((List.replicate ((tf + 4)) 0).set 0 (-9223372036854775808 : Int64)).set tf x1))] := P107
        refine w_iload X107 hx (hb hby at_67) rfl (pc' := 69) rfl ?_
        refine w_iconst (v := (1 : Int32)) X107 hx (hb hby at_69) rfl (pc' := 70) rfl ?_
        refine w_icmp_le X107 hx (hb hby at_70) (by decide) (pcY := 81) (by decide) (pc' := 73) rfl (fun h132 => absurd h132 (by decide)) (fun h132 => ?_)
        refine w_aload X107 hx (hb hby at_73) rfl rfl (pc' := 75) rfl ?_
        refine w_iload X107 hx (hb hby at_75) rfl (pc' := 77) rfl ?_
        refine w_iconst (v := (1 : Int32)) X107 hx (hb hby at_77) rfl (pc' := 78) rfl ?_
        refine w_iadd X107 hx (hb hby at_78) (pc' := 79) rfl ?_
        refine w_eqI (z := (Int32.ofNat (tf + 1))) (own_oadd tf 1) ?_
        refine w_lloadN X107 hx (hb hby at_79) rfl (pc' := 80) rfl ?_
        refine w_lastoreL (i := 0) (jn := (tf + 1)) X107 hx hZ N92 P107 rfl hkA11 (hb hby at_80) (own_oN (by omega)) (own_llt (own_sl (own_sl (List.length_replicate (n := (tf + 4)) (a := (0 : Int64))))) (by omega)) (pc' := 81) rfl ?_
        intro T108 L93 N93 X108 P108
        replace P108 : HP n0 T108.heap [AC kA11 (List.map Value.long ((((List.replicate ((tf + 4)) 0).set 0 (-9223372036854775808 : Int64)).set tf x1).set (tf + 1) x2))] := P108
        refine w_iload X108 hx (hb hby at_81) rfl (pc' := 83) rfl ?_
        refine w_iconst (v := (2 : Int32)) X108 hx (hb hby at_83) rfl (pc' := 84) rfl ?_
        refine w_icmp_le X108 hx (hb hby at_84) (by decide) (pcY := 96) (by decide) (pc' := 87) rfl (fun h133 => absurd h133 (by decide)) (fun h133 => ?_)
        refine w_aload X108 hx (hb hby at_87) rfl rfl (pc' := 89) rfl ?_
        refine w_iload X108 hx (hb hby at_89) rfl (pc' := 91) rfl ?_
        refine w_iconst (v := (2 : Int32)) X108 hx (hb hby at_91) rfl (pc' := 92) rfl ?_
        refine w_iadd X108 hx (hb hby at_92) (pc' := 93) rfl ?_
        refine w_eqI (z := (Int32.ofNat (tf + 2))) (own_oadd tf 2) ?_
        refine w_lload X108 hx (hb hby at_93) rfl (pc' := 95) rfl ?_
        refine w_lastoreL (i := 0) (jn := (tf + 2)) X108 hx hZ N93 P108 rfl hkA11 (hb hby at_95) (own_oN (by omega)) (own_llt (own_sl (own_sl (own_sl (List.length_replicate (n := (tf + 4)) (a := (0 : Int64)))))) (by omega)) (pc' := 96) rfl ?_
        intro T109 L94 N94 X109 P109
        replace P109 : HP n0 T109.heap [AC kA11 (List.map Value.long (((((List.replicate ((tf + 4)) 0).set 0 (-9223372036854775808 : Int64)).set tf x1).set (tf + 1) x2).set (tf + 2) x3))] := P109
        refine w_iload X109 hx (hb hby at_96) rfl (pc' := 98) rfl ?_
        refine w_iconst (v := (3 : Int32)) X109 hx (hb hby at_98) rfl (pc' := 99) rfl ?_
        refine w_icmp_le X109 hx (hb hby at_99) (by decide) (pcY := 111) (by decide) (pc' := 102) rfl (fun h134 => absurd h134 (by decide)) (fun h134 => ?_)
        refine w_aload X109 hx (hb hby at_102) rfl rfl (pc' := 104) rfl ?_
        refine w_iload X109 hx (hb hby at_104) rfl (pc' := 106) rfl ?_
        refine w_iconst (v := (3 : Int32)) X109 hx (hb hby at_106) rfl (pc' := 107) rfl ?_
        refine w_iadd X109 hx (hb hby at_107) (pc' := 108) rfl ?_
        refine w_eqI (z := (Int32.ofNat (tf + 3))) (own_oadd tf 3) ?_
        refine w_lload X109 hx (hb hby at_108) rfl (pc' := 110) rfl ?_
        refine w_lastoreL (i := 0) (jn := (tf + 3)) X109 hx hZ N94 P109 rfl hkA11 (hb hby at_110) (own_oN (by omega)) (own_llt (own_sl (own_sl (own_sl (own_sl (List.length_replicate (n := (tf + 4)) (a := (0 : Int64))))))) (by omega)) (pc' := 111) rfl ?_
        intro T110 L95 N95 X110 P110
        replace P110 : HP n0 T110.heap [AC kA11 (List.map Value.long ((((((List.replicate ((tf + 4)) 0).set 0 (-9223372036854775808 : Int64)).set tf x1).set (tf + 1) x2).set (tf + 2) x3).set (tf + 3) x4))] := P110
        exact Jc4 T110 _ (0 : Int32) tj ((((((List.replicate ((tf + 4)) 0).set 0 (-9223372036854775808 : Int64)).set tf x1).set (tf + 1) x2).set (tf + 2) x3).set (tf + 3) x4) kA11 N95 X110 htj hkA11 (own_sl (own_sl (own_sl (own_sl (own_sl (List.length_replicate (n := (tf + 4)) (a := (0 : Int64)))))))) P110
    · refine w_iconst (v := (1 : Int32)) X0 hx (hb hby at_22) rfl (pc' := 23) rfl ?_
      refine w_goto X0 hx (hb hby at_23) (by decide) (pc' := 27) (by decide) ?_
      refine w_istore (l' := #[.val (.int x0), .val (.long x1), .second, .val (.long x2), .second, .val (.long x3), .second, .val (.long x4), .second, .val (.long x5), .second, .val (.int (4 : Int32)), .val (.int (Int32.ofNat tf)), .val (.int (1 : Int32)), .unset, .unset, .unset, .unset, .unset]) X0 hx (hb hby at_27) rfl (pc' := 29) rfl ?_
      refine w_iloadN X0 hx (hb hby at_29) rfl (pc' := 30) rfl ?_
      refine w_iconst (v := (4 : Int32)) X0 hx (hb hby at_30) rfl (pc' := 31) rfl ?_
      refine w_iushr X0 hx (hb hby at_31) (pc' := 32) rfl ?_
      refine w_iconst (v := (3 : Int32)) X0 hx (hb hby at_32) rfl (pc' := 33) rfl ?_
      refine w_iand X0 hx (hb hby at_33) (pc' := 34) rfl ?_
      refine w_iload X0 hx (hb hby at_34) rfl (pc' := 36) rfl ?_
      obtain ⟨tj, htj, etj⟩ := own_remP (XT.ushr x0 4 &&& 3) (4 : Int32) 4 (c_and (XT.ushr x0 4) 3 (by decide)).1 (by decide) (by decide)
      refine w_irem X0 hx (hb hby at_36) (by decide) (pc' := 37) rfl ?_
      refine w_eqI (z := (Int32.ofNat tj)) etj ?_
      refine w_istore (l' := #[.val (.int x0), .val (.long x1), .second, .val (.long x2), .second, .val (.long x3), .second, .val (.long x4), .second, .val (.long x5), .second, .val (.int (4 : Int32)), .val (.int (Int32.ofNat tf)), .val (.int (1 : Int32)), .val (.int (Int32.ofNat tj)), .unset, .unset, .unset, .unset]) X0 hx (hb hby at_37) rfl (pc' := 39) rfl ?_
      refine w_iload X0 hx (hb hby at_39) rfl (pc' := 41) rfl ?_
      refine w_iload X0 hx (hb hby at_41) rfl (pc' := 43) rfl ?_
      refine w_iadd X0 hx (hb hby at_43) (pc' := 44) rfl ?_
      refine w_eqI (z := (Int32.ofNat (tf + 4))) (own_oadd tf 4) ?_
      refine w_newarrC (N := (tf + 4)) (cap := 5) (j := 0) X0 hx hZ P0 (ty := .long) rfl (wd0 hw) (hb hby at_44) (by omega) (own_oN (by omega)) (by omega) (by decide) (by decide) rfl (pc' := 46) rfl ?_
      intro T111 kA12 X111 hkA12 P111
      replace P111 := own_mrJ P111
      replace P111 : HP n0 T111.heap [AC kA12 (List.map Value.long (List.replicate ((tf + 4)) 0))] := P111
      refine w_astore (l' := #[.val (.int x0), .val (.long x1), .second, .val (.long x2), .second, .val (.long x3), .second, .val (.long x4), .second, .val (.long x5), .second, .val (.int (4 : Int32)), .val (.int (Int32.ofNat tf)), .val (.int (1 : Int32)), .val (.int (Int32.ofNat tj)), .val (.ref (n0 + 0)), .unset, .unset, .unset]) X111 hx (hb hby at_46) rfl rfl (pc' := 48) rfl ?_
      refine w_iload X111 hx (hb hby at_48) rfl (pc' := 50) rfl ?_
      refine w_iconst (v := (1 : Int32)) X111 hx (hb hby at_50) rfl (pc' := 51) rfl ?_
      refine w_icmp_ne X111 hx (hb hby at_51) (by decide) (pcY := 61) (by decide) (pc' := 54) rfl (fun h135 => ?_) (fun h135 => ?_)
      · have h135n : ¬ tf = 1 := fun q => h135 ((own_oeq (a := tf) (b := 1) (by omega) (by omega)).mpr q)
        refine w_aload X111 hx (hb hby at_61) rfl rfl (pc' := 63) rfl ?_
        refine w_iload X111 hx (hb hby at_63) rfl (pc' := 65) rfl ?_
        refine w_lloadN X111 hx (hb hby at_65) rfl (pc' := 66) rfl ?_
        refine w_lastoreL (i := 0) (jn := tf) X111 hx hZ N0 P111 rfl hkA12 (hb hby at_66) (own_oN (by omega)) (own_llt (List.length_replicate (n := (tf + 4)) (a := (0 : Int64))) (by omega)) (pc' := 67) rfl ?_
        intro T112 L96 N96 X112 P112
        replace P112 : HP n0 T112.heap [AC kA12 (List.map Value.long ((List.replicate ((tf + 4)) 0).set tf x1))] := P112
        refine w_iload X112 hx (hb hby at_67) rfl (pc' := 69) rfl ?_
        refine w_iconst (v := (1 : Int32)) X112 hx (hb hby at_69) rfl (pc' := 70) rfl ?_
        refine w_icmp_le X112 hx (hb hby at_70) (by decide) (pcY := 81) (by decide) (pc' := 73) rfl (fun h136 => absurd h136 (by decide)) (fun h136 => ?_)
        refine w_aload X112 hx (hb hby at_73) rfl rfl (pc' := 75) rfl ?_
        refine w_iload X112 hx (hb hby at_75) rfl (pc' := 77) rfl ?_
        refine w_iconst (v := (1 : Int32)) X112 hx (hb hby at_77) rfl (pc' := 78) rfl ?_
        refine w_iadd X112 hx (hb hby at_78) (pc' := 79) rfl ?_
        refine w_eqI (z := (Int32.ofNat (tf + 1))) (own_oadd tf 1) ?_
        refine w_lloadN X112 hx (hb hby at_79) rfl (pc' := 80) rfl ?_
        refine w_lastoreL (i := 0) (jn := (tf + 1)) X112 hx hZ N96 P112 rfl hkA12 (hb hby at_80) (own_oN (by omega)) (own_llt (own_sl (List.length_replicate (n := (tf + 4)) (a := (0 : Int64)))) (by omega)) (pc' := 81) rfl ?_
        intro T113 L97 N97 X113 P113
        replace P113 : HP n0 T113.heap [AC kA12 (List.map Value.long (((List.replicate ((tf + 4)) 0).set tf x1).set (tf + 1) x2))] := P113
        refine w_iload X113 hx (hb hby at_81) rfl (pc' := 83) rfl ?_
        refine w_iconst (v := (2 : Int32)) X113 hx (hb hby at_83) rfl (pc' := 84) rfl ?_
        refine w_icmp_le X113 hx (hb hby at_84) (by decide) (pcY := 96) (by decide) (pc' := 87) rfl (fun h137 => absurd h137 (by decide)) (fun h137 => ?_)
        refine w_aload X113 hx (hb hby at_87) rfl rfl (pc' := 89) rfl ?_
        refine w_iload X113 hx (hb hby at_89) rfl (pc' := 91) rfl ?_
        refine w_iconst (v := (2 : Int32)) X113 hx (hb hby at_91) rfl (pc' := 92) rfl ?_
        refine w_iadd X113 hx (hb hby at_92) (pc' := 93) rfl ?_
        refine w_eqI (z := (Int32.ofNat (tf + 2))) (own_oadd tf 2) ?_
        refine w_lload X113 hx (hb hby at_93) rfl (pc' := 95) rfl ?_
        refine w_lastoreL (i := 0) (jn := (tf + 2)) X113 hx hZ N97 P113 rfl hkA12 (hb hby at_95) (own_oN (by omega)) (own_llt (own_sl (own_sl (List.length_replicate (n := (tf + 4)) (a := (0 : Int64))))) (by omega)) (pc' := 96) rfl ?_
        intro T114 L98 N98 X114 P114
        replace P114 : HP n0 T114.heap [AC kA12 (List.map Value.long ((((List.replicate ((tf + 4)) 0).set tf x1).set (tf + 1) x2).set (tf + 2) x3))] := P114
        refine w_iload X114 hx (hb hby at_96) rfl (pc' := 98) rfl ?_
        refine w_iconst (v := (3 : Int32)) X114 hx (hb hby at_98) rfl (pc' := 99) rfl ?_
        refine w_icmp_le X114 hx (hb hby at_99) (by decide) (pcY := 111) (by decide) (pc' := 102) rfl (fun h138 => absurd h138 (by decide)) (fun h138 => ?_)
        refine w_aload X114 hx (hb hby at_102) rfl rfl (pc' := 104) rfl ?_
        refine w_iload X114 hx (hb hby at_104) rfl (pc' := 106) rfl ?_
        refine w_iconst (v := (3 : Int32)) X114 hx (hb hby at_106) rfl (pc' := 107) rfl ?_
        refine w_iadd X114 hx (hb hby at_107) (pc' := 108) rfl ?_
        refine w_eqI (z := (Int32.ofNat (tf + 3))) (own_oadd tf 3) ?_
        refine w_lload X114 hx (hb hby at_108) rfl (pc' := 110) rfl ?_
        refine w_lastoreL (i := 0) (jn := (tf + 3)) X114 hx hZ N98 P114 rfl hkA12 (hb hby at_110) (own_oN (by omega)) (own_llt (own_sl (own_sl (own_sl (List.length_replicate (n := (tf + 4)) (a := (0 : Int64)))))) (by omega)) (pc' := 111) rfl ?_
        intro T115 L99 N99 X115 P115
        replace P115 : HP n0 T115.heap [AC kA12 (List.map Value.long (((((List.replicate ((tf + 4)) 0).set tf x1).set (tf + 1) x2).set (tf + 2) x3).set (tf + 3) x4))] := P115
        exact Jc4 T115 _ (1 : Int32) tj (((((List.replicate ((tf + 4)) 0).set tf x1).set (tf + 1) x2).set (tf + 2) x3).set (tf + 3) x4) kA12 N99 X115 htj hkA12 (own_sl (own_sl (own_sl (own_sl (List.length_replicate (n := (tf + 4)) (a := (0 : Int64))))))) P115
      · have h135n : tf = 1 := (own_oeq (a := tf) (b := 1) (by omega) (by omega)).mp h135
        refine w_aload X111 hx (hb hby at_54) rfl rfl (pc' := 56) rfl ?_
        refine w_iconst (v := (0 : Int32)) X111 hx (hb hby at_56) rfl (pc' := 57) rfl ?_
        refine w_ldc2 X111 hx (hb hby at_57) hown (mvT hZ (wd46 hw)) (pc' := 60) rfl ?_
        refine w_lastoreL (i := 0) (jn := 0) X111 hx hZ N0 P111 rfl hkA12 (hb hby at_60) (by decide) (own_llt (List.length_replicate (n := (tf + 4)) (a := (0 : Int64))) (by omega)) (pc' := 61) rfl ?_
        intro T116 L100 N100 X116 P116
        replace P116 : HP n0 T116.heap [AC kA12 (List.map Value.long ((List.replicate ((tf + 4)) 0).set 0 (-9223372036854775808 : Int64)))] := P116
        refine w_aload X116 hx (hb hby at_61) rfl rfl (pc' := 63) rfl ?_
        refine w_iload X116 hx (hb hby at_63) rfl (pc' := 65) rfl ?_
        refine w_lloadN X116 hx (hb hby at_65) rfl (pc' := 66) rfl ?_
        refine w_lastoreL (i := 0) (jn := tf) X116 hx hZ N100 P116 rfl hkA12 (hb hby at_66) (own_oN (by omega)) (own_llt (own_sl (List.length_replicate (n := (tf + 4)) (a := (0 : Int64)))) (by omega)) (pc' := 67) rfl ?_
        intro T117 L101 N101 X117 P117
        replace P117 : HP n0 T117.heap [AC kA12 (List.map Value.long (((List.replicate ((tf + 4)) 0).set 0 (-9223372036854775808 : Int64)).set tf x1))] := P117
        refine w_iload X117 hx (hb hby at_67) rfl (pc' := 69) rfl ?_
        refine w_iconst (v := (1 : Int32)) X117 hx (hb hby at_69) rfl (pc' := 70) rfl ?_
        refine w_icmp_le X117 hx (hb hby at_70) (by decide) (pcY := 81) (by decide) (pc' := 73) rfl (fun h139 => absurd h139 (by decide)) (fun h139 => ?_)
        refine w_aload X117 hx (hb hby at_73) rfl rfl (pc' := 75) rfl ?_
        refine w_iload X117 hx (hb hby at_75) rfl (pc' := 77) rfl ?_
        refine w_iconst (v := (1 : Int32)) X117 hx (hb hby at_77) rfl (pc' := 78) rfl ?_
        refine w_iadd X117 hx (hb hby at_78) (pc' := 79) rfl ?_
        refine w_eqI (z := (Int32.ofNat (tf + 1))) (own_oadd tf 1) ?_
        refine w_lloadN X117 hx (hb hby at_79) rfl (pc' := 80) rfl ?_
        refine w_lastoreL (i := 0) (jn := (tf + 1)) X117 hx hZ N101 P117 rfl hkA12 (hb hby at_80) (own_oN (by omega)) (own_llt (own_sl (own_sl (List.length_replicate (n := (tf + 4)) (a := (0 : Int64))))) (by omega)) (pc' := 81) rfl ?_
        intro T118 L102 N102 X118 P118
        replace P118 : HP n0 T118.heap [AC kA12 (List.map Value.long ((((List.replicate ((tf + 4)) 0).set 0 (-9223372036854775808 : Int64)).set tf x1).set (tf + 1) x2))] := P118
        refine w_iload X118 hx (hb hby at_81) rfl (pc' := 83) rfl ?_
        refine w_iconst (v := (2 : Int32)) X118 hx (hb hby at_83) rfl (pc' := 84) rfl ?_
        refine w_icmp_le X118 hx (hb hby at_84) (by decide) (pcY := 96) (by decide) (pc' := 87) rfl (fun h140 => absurd h140 (by decide)) (fun h140 => ?_)
        refine w_aload X118 hx (hb hby at_87) rfl rfl (pc' := 89) rfl ?_
        refine w_iload X118 hx (hb hby at_89) rfl (pc' := 91) rfl ?_
        refine w_iconst (v := (2 : Int32)) X118 hx (hb hby at_91) rfl (pc' := 92) rfl ?_
        refine w_iadd X118 hx (hb hby at_92) (pc' := 93) rfl ?_
        refine w_eqI (z := (Int32.ofNat (tf + 2))) (own_oadd tf 2) ?_
        refine w_lload X118 hx (hb hby at_93) rfl (pc' := 95) rfl ?_
        refine w_lastoreL (i := 0) (jn := (tf + 2)) X118 hx hZ N102 P118 rfl hkA12 (hb hby at_95) (own_oN (by omega)) (own_llt (own_sl (own_sl (own_sl (List.length_replicate (n := (tf + 4)) (a := (0 : Int64)))))) (by omega)) (pc' := 96) rfl ?_
        intro T119 L103 N103 X119 P119
        replace P119 : HP n0 T119.heap [AC kA12 (List.map Value.long (((((List.replicate ((tf + 4)) 0).set 0 (-9223372036854775808 : Int64)).set tf x1).set (tf + 1) x2).set (tf + 2) x3))] := P119
        refine w_iload X119 hx (hb hby at_96) rfl (pc' := 98) rfl ?_
        refine w_iconst (v := (3 : Int32)) X119 hx (hb hby at_98) rfl (pc' := 99) rfl ?_
        refine w_icmp_le X119 hx (hb hby at_99) (by decide) (pcY := 111) (by decide) (pc' := 102) rfl (fun h141 => absurd h141 (by decide)) (fun h141 => ?_)
        refine w_aload X119 hx (hb hby at_102) rfl rfl (pc' := 104) rfl ?_
        refine w_iload X119 hx (hb hby at_104) rfl (pc' := 106) rfl ?_
        refine w_iconst (v := (3 : Int32)) X119 hx (hb hby at_106) rfl (pc' := 107) rfl ?_
        refine w_iadd X119 hx (hb hby at_107) (pc' := 108) rfl ?_
        refine w_eqI (z := (Int32.ofNat (tf + 3))) (own_oadd tf 3) ?_
        refine w_lload X119 hx (hb hby at_108) rfl (pc' := 110) rfl ?_
        refine w_lastoreL (i := 0) (jn := (tf + 3)) X119 hx hZ N103 P119 rfl hkA12 (hb hby at_110) (own_oN (by omega)) (own_llt (own_sl (own_sl (own_sl (own_sl (List.length_replicate (n := (tf + 4)) (a := (0 : Int64))))))) (by omega)) (pc' := 111) rfl ?_
        intro T120 L104 N104 X120 P120
        replace P120 : HP n0 T120.heap [AC kA12 (List.map Value.long ((((((List.replicate ((tf + 4)) 0).set 0 (-9223372036854775808 : Int64)).set tf x1).set (tf + 1) x2).set (tf + 2) x3).set (tf + 3) x4))] := P120
        exact Jc4 T120 _ (1 : Int32) tj ((((((List.replicate ((tf + 4)) 0).set 0 (-9223372036854775808 : Int64)).set tf x1).set (tf + 1) x2).set (tf + 2) x3).set (tf + 3) x4) kA12 N104 X120 htj hkA12 (own_sl (own_sl (own_sl (own_sl (own_sl (List.length_replicate (n := (tf + 4)) (a := (0 : Int64)))))))) P120
set_option maxRecDepth 65536 in
set_option maxHeartbeats 40000000 in
theorem comes_1 {Post : Tables → Env → Array Value → State → Outcome → State → Prop} (hpost : ∀ tb e args s v u, (limb_1_1.after args s (.returned v) u = true ∧ limb_1_2.after args s (.returned v) u = true ∧ True) → FrameEnd s (.returned v) u (Jvm.fieldLocs frame_1_writes args s ++ Jvm.arrayLocs frame_1_arrays args s ++ Jvm.staticLocs frame_1_statics s) 16 128 → Post tb e args s (.returned v) u) :
    ArmFor flags0 classFile x code maxLocals ret World_1 tables_1 room_1 Calls_1 rest_1 Pre_1 Post := by
  intro l hfl _ _ p e ha hc hk s m args below hf hA hF happ hP
  obtain ⟨hcalls, hrest, hpre⟩ := hP
  obtain ⟨-, -, -, hnamed, -, -, -, hat⟩ := (Spec.applies_iff hf).mp happ
  obtain ⟨hg, hn⟩ := and_e (Cond.before_iff.mp (show (Jvm.Cond.and given_1 narrow_1).before args s = true from hpre))
  obtain ⟨g0, k0⟩ := and_e hg
  obtain ⟨q0, k1⟩ := and_e k0
  obtain ⟨q1, k2⟩ := and_e k1
  obtain ⟨q2, k3⟩ := and_e k2
  obtain ⟨q3, k4⟩ := and_e k3
  obtain ⟨q4, k5⟩ := and_e k4
  have q5 := k5
  obtain ⟨w0, w1, w2, w3, w4, w5, rfl⟩ : ∃ w0 w1 w2 w3 w4 w5 : Value, args = #[w0, w1, w2, w3, w4, w5] := by
    have hs : args.size = 6 := by simpa [Cond.value, given_1] using g0
    obtain ⟨L⟩ := args
    match L, hs with
    | [w0, w1, w2, w3, w4, w5], _ => exact ⟨w0, w1, w2, w3, w4, w5, rfl⟩
  have hw := fun d (hd : d ∈ tables_1) => atoms_spec (ws := Jvm.Cond.code x code maxLocals ret :: tables_1) hat d (List.mem_cons_of_mem _ hd)
  obtain ⟨i0, ei0⟩ := is_v q0
  obtain rfl : w0 = (.int i0) := Option.some.inj ei0
  obtain ⟨i1, ei1⟩ := isL_v q1
  obtain rfl : w1 = (.long i1) := Option.some.inj ei1
  obtain ⟨i2, ei2⟩ := isL_v q2
  obtain rfl : w2 = (.long i2) := Option.some.inj ei2
  obtain ⟨i3, ei3⟩ := isL_v q3
  obtain rfl : w3 = (.long i3) := Option.some.inj ei3
  obtain ⟨i4, ei4⟩ := isL_v q4
  obtain rfl : w4 = (.long i4) := Option.some.inj ei4
  obtain ⟨i5, ei5⟩ := isL_v q5
  obtain rfl : w5 = (.long i5) := Option.some.inj ei5
  obtain ⟨n, o, h1, h2, h3, _, L, rfl, ⟨rfl, N⟩, hq⟩ := rm0 l s _ hw tables_1 i0 i1 i2 i3 i4 i5 s.heap s.heap.size rfl p e ha hc hk s m _ below hf ((Spec.applies_iff_loose hf).mp happ).1 ⟨rfl, State.Warmed39.refl s, rfl⟩ trivial
  refine ⟨n, _, h1, h2, h3, hpost _ _ _ _ _ _ ⟨Cond.after_iff.mpr rfl, Cond.after_iff.mpr (eq_i res_at (Term.int_eval (1)) rfl), trivial⟩ ⟨hq.1, hq.2.1, (hq.2.2.sift fun y hy => Or.inr (N y hy)).mono (by decide) (by decide)⟩⟩
theorem main_1_1 : Claimed_1_1 := comes_1 fun _ _ _ _ _ _ h hF => ⟨h.1, hF⟩
theorem main_1_2 : Claimed_1_2 := comes_1 fun _ _ _ _ _ _ h hF => ⟨h.2.1, hF⟩
end Jvm.Pilot.@@N@@
namespace Jvm.Pilot.@@N@@
open Jvm Jvm.ClassFile Sem Op Lib Jvm.Free Jvm.Stand Jvm.Pilot.@@N@@.Jvm.D
/-! MADE BY PROGRAM (witnessworld.py) out of the Statement's table words and the real class files: 12 classes; the members and pool entries that the words name. The judged class is class 1, her method 1. -/
namespace start1
open Jvm.ClassFile
def u (s : String) : CpInfo := .utf8 (stringToUtf16 s)
/-- a pool by its gaps: so many unusable entries, then the entry; so many at the end -/
def gap : Nat → List CpInfo → List CpInfo
  | 0, r => r
  | n + 1, r => .unusable :: gap n r
def poolList (es : List (Nat × CpInfo)) (last : Nat) : List CpInfo := es.foldr (fun e r => gap e.1 (e.2 :: r)) (gap last [])
def pool (es : List (Nat × CpInfo)) (last : Nat) : Array CpInfo := ⟨poolList es last⟩
def fileOf (pool : Array CpInfo) (this : Nat) (attrs : Array Attribute := #[]) (ms : Array MethodInfo := #[]) (fl : Nat := 33) (sup : Nat := 0) (ifs : Array Nat := #[]) (fds : Array FieldInfo := #[]) : ClassFile where
  minorVersion := 0
  majorVersion := 65
  constantPool := pool
  accessFlags := fl
  thisClass := this
  superClass := sup
  interfaces := ifs
  fields := fds
  methods := ms
  attributes := attrs
def plain (name : String) (sup : Option ClassId) : Class where
  name := name
  kind := .ordinary
  loader := none
  accessFlags := 33
  super := sup
  interfaces := #[]
  cf := none
  fields := #[]
  methods := #[]
  instanceTypes := #[]
  staticTypes := #[]
  resolved := #[]
  callSites := []
  init := .initialized
  statics := none
  mirror := none

def pool0 : Array CpInfo := pool [(5, u "<init>"), (0, u "()V"), (1, .class_ 10), (1, u "java/lang/Object")] 113

def k0c0 : Code := { maxStack := 0, maxLocals := 1, code := object_method_1_code, exceptionTable := #[], attributes := #[] }
def k0m0 : Method := { name := "<init>", desc := "()V", sig := { parameters := [], returnType := none }, accessFlags := 1, code := some k0c0 }
/-- java/lang/Object -/
def k0 : Class := { plain "java/lang/Object" none with
  accessFlags := 33
  interfaces := #[]
  cf := some (fileOf pool0 8 #[] #[{ accessFlags := 1, nameIndex := 5, descriptorIndex := 6, attributes := #[] }] 33 0 #[] #[])
  fields := #[]
  methods := #[k0m0]
  instanceTypes := #[]
  staticTypes := #[]
  resolved := Array.replicate 124 none
  statics := none }

def pool1 : Array CpInfo := pool [(2, .class_ 4), (1, u "java/lang/Object"), (0, u "<init>"), (0, u "()V"), (2, .long 9223372036854775808), (1, .class_ 12), (0, u "com/example/bidcrier/bidcrier/CheapestColumns"), (0, .methodref 11 14), (0, .nameAndType 5 15), (0, u "([JI)V"), (0, .methodref 17 18), (0, .class_ 19), (0, .nameAndType 20 21), (0, u "java/lang/Math"), (0, u "max"), (0, u "(JJ)J"), (0, .methodref 11 23), (0, .nameAndType 24 25), (0, u "raised"), (0, u "(I)V"), (0, .methodref 11 27), (0, .nameAndType 28 29), (0, u "cheapest"), (0, u "()I"), (0, .methodref 11 31), (0, .nameAndType 32 29), (0, u "secondCheapest"), (0, .methodref 34 35), (0, .class_ 36), (0, .nameAndType 37 38), (0, u "com/example/bidcrier/bidcrier/CheapestColumnsSecondCheapestPinLaw"), (0, u "noCheaper"), (0, u "([JIIIII)Z"), (2, u "law"), (0, u "(IJJJJJ)Z")] 5

def k1m0 : Method := { name := "<init>", desc := "()V", sig := { parameters := [], returnType := none }, accessFlags := 1, code := none }
def k1c1 : Code := { maxStack := 6, maxLocals := 19, code := code, exceptionTable := #[], attributes := #[] }
def k1m1 : Method := { name := "law", desc := "(IJJJJJ)Z", sig := { parameters := [.int, .long, .long, .long, .long, .long], returnType := some .boolean }, accessFlags := 9, code := some k1c1 }
def k1c2 : Code := { maxStack := 4, maxLocals := 7, code := method_3_code, exceptionTable := #[], attributes := #[] }
def k1m2 : Method := { name := "noCheaper", desc := "([JIIIII)Z", sig := { parameters := [(.array .long), .int, .int, .int, .int, .int], returnType := some .boolean }, accessFlags := 10, code := some k1c2 }
/-- com/example/bidcrier/bidcrier/CheapestColumnsSecondCheapestPinLaw -/
def k1 : Class := { plain "com/example/bidcrier/bidcrier/CheapestColumnsSecondCheapestPinLaw" (some 0) with
  accessFlags := 49
  interfaces := #[]
  cf := some (fileOf pool1 34 #[] #[{ accessFlags := 1, nameIndex := 5, descriptorIndex := 6, attributes := #[] }, { accessFlags := 9, nameIndex := 41, descriptorIndex := 42, attributes := #[] }, { accessFlags := 10, nameIndex := 37, descriptorIndex := 38, attributes := #[] }] 49 2 #[] #[])
  fields := #[]
  methods := #[k1m0, k1m1, k1m2]
  instanceTypes := #[]
  staticTypes := #[]
  resolved := Array.replicate 48 none
  statics := none }

def pool2 : Array CpInfo := pool [(1, .methodref 2 3), (0, .class_ 4), (0, .nameAndType 5 6), (0, u "java/lang/Object"), (0, u "<init>"), (0, u "()V"), (0, .fieldref 8 9), (0, .class_ 10), (0, .nameAndType 11 12), (0, u "com/example/bidcrier/bidcrier/CheapestColumns"), (0, u "prices"), (0, u "[J"), (0, .fieldref 8 14), (0, .nameAndType 15 16), (0, u "from"), (0, u "I"), (0, .fieldref 8 18), (0, .nameAndType 19 20), (0, u "heap"), (0, u "[I"), (0, .fieldref 8 22), (0, .nameAndType 23 20), (0, u "places"), (0, .methodref 8 25), (0, .nameAndType 26 27), (0, u "siftDown"), (0, u "(I)V"), (0, u "([JI)V"), (6, u "cheapest"), (0, u "()I"), (0, u "secondCheapest"), (0, u "raised")] 2

def k2c0 : Code := { maxStack := 4, maxLocals := 4, code := prog_7_method_1_code, exceptionTable := #[], attributes := #[] }
def k2m0 : Method := { name := "<init>", desc := "([JI)V", sig := { parameters := [(.array .long), .int], returnType := none }, accessFlags := 0, code := some k2c0 }
def k2c1 : Code := { maxStack := 2, maxLocals := 1, code := prog_7_method_3_code, exceptionTable := #[], attributes := #[] }
def k2m1 : Method := { name := "cheapest", desc := "()I", sig := { parameters := [], returnType := some .int }, accessFlags := 0, code := some k2c1 }
def k2c2 : Code := { maxStack := 5, maxLocals := 1, code := prog_7_method_4_code, exceptionTable := #[], attributes := #[] }
def k2m2 : Method := { name := "secondCheapest", desc := "()I", sig := { parameters := [], returnType := some .int }, accessFlags := 0, code := some k2c2 }
def k2c3 : Code := { maxStack := 4, maxLocals := 2, code := prog_7_method_5_code, exceptionTable := #[], attributes := #[] }
def k2m3 : Method := { name := "raised", desc := "(I)V", sig := { parameters := [.int], returnType := none }, accessFlags := 0, code := some k2c3 }
def k2c4 : Code := { maxStack := 5, maxLocals := 7, code := prog_7_method_6_code, exceptionTable := #[], attributes := #[] }
def k2m4 : Method := { name := "siftDown", desc := "(I)V", sig := { parameters := [.int], returnType := none }, accessFlags := 2, code := some k2c4 }
/-- com/example/bidcrier/bidcrier/CheapestColumns -/
def k2 : Class := { plain "com/example/bidcrier/bidcrier/CheapestColumns" (some 0) with
  accessFlags := 48
  interfaces := #[]
  cf := some (fileOf pool2 8 #[] #[{ accessFlags := 0, nameIndex := 5, descriptorIndex := 28, attributes := #[] }, { accessFlags := 0, nameIndex := 35, descriptorIndex := 36, attributes := #[] }, { accessFlags := 0, nameIndex := 37, descriptorIndex := 36, attributes := #[] }, { accessFlags := 0, nameIndex := 38, descriptorIndex := 27, attributes := #[] }, { accessFlags := 2, nameIndex := 26, descriptorIndex := 27, attributes := #[] }] 48 2 #[] #[{ accessFlags := 18, nameIndex := 11, descriptorIndex := 12, attributes := #[] }, { accessFlags := 18, nameIndex := 15, descriptorIndex := 16, attributes := #[] }, { accessFlags := 18, nameIndex := 19, descriptorIndex := 20, attributes := #[] }, { accessFlags := 18, nameIndex := 23, descriptorIndex := 20, attributes := #[] }])
  fields := #[{ name := "prices", type := (.array .long), accessFlags := 18, slot := 0, constantValue := 0 }, { name := "from", type := .int, accessFlags := 18, slot := 1, constantValue := 0 }, { name := "heap", type := (.array .int), accessFlags := 18, slot := 2, constantValue := 0 }, { name := "places", type := (.array .int), accessFlags := 18, slot := 3, constantValue := 0 }]
  methods := #[k2m0, k2m1, k2m2, k2m3, k2m4]
  instanceTypes := #[(.array .long), .int, (.array .int), (.array .int)]
  staticTypes := #[]
  resolved := Array.replicate 41 none
  statics := none }

def pool3 : Array CpInfo := pool [(1, .class_ 2), (0, u "java/lang/Math"), (1, .class_ 6), (1, u "java/lang/Object"), (0, u "<init>"), (0, u "()V"), (89, .class_ 100), (1, u "java/lang/Math$RandomNumberGeneratorHolder"), (20, u "(JJ)J"), (50, u "negativeZeroFloatBits"), (0, u "J"), (2, u "negativeZeroDoubleBits"), (21, u "max"), (46, u "$assertionsDisabled"), (0, u "Z"), (91, u "twoToTheDoubleScaleDown"), (0, u "D"), (4, u "twoToTheDoubleScaleUp"), (9, u "E"), (3, u "PI"), (2, u "TAU"), (2, u "DEGREES_TO_RADIANS"), (0, u "RADIANS_TO_DEGREES")] 94

def k3m0 : Method := { name := "<init>", desc := "()V", sig := { parameters := [], returnType := none }, accessFlags := 2, code := none }
def k3c1 : Code := { maxStack := 4, maxLocals := 4, code := jdk_29_method_66_code, exceptionTable := #[], attributes := #[] }
def k3m1 : Method := { name := "max", desc := "(JJ)J", sig := { parameters := [.long, .long], returnType := some .long }, accessFlags := 9, code := some k3c1 }
/-- java/lang/Math -/
def k3 : Class := { plain "java/lang/Math" (some 0) with
  accessFlags := 49
  interfaces := #[]
  cf := some (fileOf pool3 1 #[.nestMembers #[98]] #[{ accessFlags := 2, nameIndex := 7, descriptorIndex := 8, attributes := #[] }, { accessFlags := 9, nameIndex := 198, descriptorIndex := 121, attributes := #[] }] 49 4 #[] #[{ accessFlags := 25, nameIndex := 354, descriptorIndex := 339, attributes := #[] }, { accessFlags := 25, nameIndex := 358, descriptorIndex := 339, attributes := #[] }, { accessFlags := 25, nameIndex := 361, descriptorIndex := 339, attributes := #[] }, { accessFlags := 26, nameIndex := 364, descriptorIndex := 339, attributes := #[] }, { accessFlags := 26, nameIndex := 365, descriptorIndex := 339, attributes := #[] }, { accessFlags := 26, nameIndex := 172, descriptorIndex := 173, attributes := #[] }, { accessFlags := 26, nameIndex := 176, descriptorIndex := 173, attributes := #[] }, { accessFlags := 8, nameIndex := 344, descriptorIndex := 339, attributes := #[] }, { accessFlags := 8, nameIndex := 338, descriptorIndex := 339, attributes := #[] }, { accessFlags := 4120, nameIndex := 245, descriptorIndex := 246, attributes := #[] }])
  fields := #[{ name := "E", type := .double, accessFlags := 25, slot := 0, constantValue := 0 }, { name := "PI", type := .double, accessFlags := 25, slot := 1, constantValue := 0 }, { name := "TAU", type := .double, accessFlags := 25, slot := 2, constantValue := 0 }, { name := "DEGREES_TO_RADIANS", type := .double, accessFlags := 26, slot := 3, constantValue := 0 }, { name := "RADIANS_TO_DEGREES", type := .double, accessFlags := 26, slot := 4, constantValue := 0 }, { name := "negativeZeroFloatBits", type := .long, accessFlags := 26, slot := 5, constantValue := 0 }, { name := "negativeZeroDoubleBits", type := .long, accessFlags := 26, slot := 6, constantValue := 0 }, { name := "twoToTheDoubleScaleUp", type := .double, accessFlags := 8, slot := 7, constantValue := 0 }, { name := "twoToTheDoubleScaleDown", type := .double, accessFlags := 8, slot := 8, constantValue := 0 }, { name := "$assertionsDisabled", type := .boolean, accessFlags := 4120, slot := 9, constantValue := 0 }]
  methods := #[k3m0, k3m1]
  instanceTypes := #[]
  staticTypes := #[.double, .double, .double, .double, .double, .long, .long, .double, .double, .boolean]
  resolved := Array.replicate 460 none
  statics := none }

def pool4 : Array CpInfo := pool [(1, u "java/lang/Cloneable"), (0, .class_ 1), (0, u "java/lang/Object"), (0, .class_ 3)] 3

/-- java/lang/Cloneable -/
def k4 : Class := { plain "java/lang/Cloneable" (some 0) with
  accessFlags := 1537
  interfaces := #[]
  cf := some (fileOf pool4 2 #[] #[] 1537 4 #[] #[])
  fields := #[]
  methods := #[]
  instanceTypes := #[]
  staticTypes := #[]
  resolved := Array.replicate 8 none
  statics := none }

def pool5 : Array CpInfo := pool [(1, u "java/io/Serializable"), (0, .class_ 1), (0, u "java/lang/Object"), (0, .class_ 3)] 3

/-- java/io/Serializable -/
def k5 : Class := { plain "java/io/Serializable" (some 0) with
  accessFlags := 1537
  interfaces := #[]
  cf := some (fileOf pool5 2 #[] #[] 1537 4 #[] #[])
  fields := #[]
  methods := #[]
  instanceTypes := #[]
  staticTypes := #[]
  resolved := Array.replicate 8 none
  statics := none }

/-- the primitive byte -/
def k6 : Class := { plain "byte" none with kind := .primitive 'B', accessFlags := 0x411 }
/-- [B -/
def k7 : Class := { plain "[B" (some 0) with kind := .array 6 .byte, interfaces := #[4, 5], accessFlags := 1041 }

/-- the primitive int -/
def k8 : Class := { plain "int" none with kind := .primitive 'I', accessFlags := 0x411 }
/-- [I -/
def k9 : Class := { plain "[I" (some 0) with kind := .array 8 .int, interfaces := #[4, 5], accessFlags := 1041 }

/-- the primitive long -/
def k10 : Class := { plain "long" none with kind := .primitive 'J', accessFlags := 0x411 }
/-- [J -/
def k11 : Class := { plain "[J" (some 0) with kind := .array 10 .long, interfaces := #[4, 5], accessFlags := 1041 }

def heap : Heap := #[]
def classes : Array Class := #[k0, k1, k2, k3, k4, k5, k6, k7, k8, k9, k10, k11]
def interned : List (Array UInt16 × Addr) := []
def slotsUsed : Nat := 0
def theMethod : MethodId := ⟨1, 1⟩
def args0 : Array Value := #[.int 27, .long 7, .long 3, .long 2, .long 6, .long 8]
def aboutOver (below : List Frame) : State where
  vm := { classes := classes, interned := interned.toArray }
  heap := heap
  slotsUsed := slotsUsed
  threads := #[{ frames := .invoking theMethod args0 :: below }]
def below0 : List Frame := [.native { method := ⟨0, 0⟩, args := #[] }]
def about1 : State := aboutOver below0
def p0 : Program := .bare "" "" ""
def e0 : Env := launch0.env 0 0 0
theorem w_frames : about1.frames = Frame.invoking theMethod args0 :: below0 := rfl
set_option maxRecDepth 65536 in
theorem w_args : argsFit about1.vm theMethod args0 = true := by decide +kernel
set_option maxRecDepth 65536 in
theorem w_heap : heapFits about1 = true := by decide +kernel
set_option maxRecDepth 65536 in
theorem w_runnable : about1.curStatus? = some .runnable := by decide +kernel
set_option maxRecDepth 65536 in
theorem w_alone : about1.alone = true := by decide +kernel
set_option maxRecDepth 65536 in
theorem w_named : about1.methodNamed? x = some theMethod := by decide +kernel
set_option maxRecDepth 65536 in
theorem w_hears : about1.hears theMethod below0 = true := by decide +kernel
set_option maxRecDepth 65536 in
theorem w_ripe : about1.ripe theMethod args0 below0 = true := by decide +kernel
theorem w_running : about1.status = .running := rfl
set_option maxRecDepth 65536 in
theorem w_room : about1.hasRoom e0.platform room_1 = true :=
  launch0.hasRoom_least _ room_1 (by decide +kernel) (by decide +kernel) (by decide +kernel) (by decide +kernel) (by decide +kernel) (by decide +kernel)
theorem allAtoms_all (ts : List Jvm.Cond) (a : Array Jvm.Value) (st : Jvm.State) : (allAtoms ts).before a st = ts.all (fun c => c.before a st) := by
  induction ts with
  | nil => rfl
  | cons c t ih =>
    show (Jvm.Cond.and c (allAtoms t)).before a st = _
    rw [Jvm.Cond.before_and, ih, List.all_cons]
def words1 : List Jvm.Cond := Jvm.Cond.code x code maxLocals ret :: tables_1
/-- a 'code' word, met by the world's own term for the bytes: nothing is compared byte by byte -/
theorem code_word {y : MethodName} {bytes : ByteArray} {mx : Nat} {rt : Option FieldType} {a : Array Value} {s : State} {m : MethodId} {meth : Method} {c : Code} (h1 : s.methodNamed? y = some m) (h2 : s.vm.method? m = some meth) (h3 : meth.code = some c) (h4 : c.code = bytes)
    (h5 : (c.maxLocals == mx && c.exceptionTable.isEmpty && decide (c.maxStack ≤ mostOperands) && decide (meth.sig.returnType = rt) && !meth.locks && decide (parseMethodDescriptor y.desc = some meth.sig)) = true) : (Jvm.Cond.code y bytes mx rt).before a s = true := by
  simp only [Bool.and_eq_true, beq_iff_eq, Bool.not_eq_true', decide_eq_true_eq] at h5
  obtain ⟨⟨⟨⟨⟨g1, g2⟩, g3⟩, g4⟩, g5⟩, g6⟩ := h5
  simp [Cond.before, Cond.holds, Cond.value, h1, h2, h3, h4, g1, g2, g3, g4, g5, g6]
def isCode : Jvm.Cond → Bool
  | .code _ _ _ _ => true
  | _ => false
theorem all_split {L : List Jvm.Cond} {P : Jvm.Cond → Bool} (h1 : L.all (fun c => isCode c || P c) = true) (h2 : ∀ c ∈ L.filter isCode, P c = true) : L.all P = true := by
  refine List.all_eq_true.mpr fun c hc => ?_
  have h := List.all_eq_true.mp h1 c hc
  rcases Bool.eq_false_or_eq_true (isCode c) with hi | hi
  · exact h2 c (List.mem_filter.mpr ⟨hc, hi⟩)
  · simpa [hi] using h
set_option maxRecDepth 65536 in
theorem w_c0 : (Jvm.Cond.code x code maxLocals ret).before args0 about1 = true := code_word (m := ⟨1, 1⟩) (meth := k1m1) (c := k1c1) (by decide +kernel) rfl rfl rfl (by decide +kernel)
set_option maxRecDepth 65536 in
theorem w_c1 : (Jvm.Cond.code ({ cls := "com/example/bidcrier/bidcrier/CheapestColumns", name := "<init>", desc := "([JI)V" } : Jvm.MethodName) prog_7_method_1_code (4 : Nat) (Option.none : Option Jvm.ClassFile.FieldType)).before args0 about1 = true := code_word (m := ⟨2, 0⟩) (meth := k2m0) (c := k2c0) (by decide +kernel) rfl rfl rfl (by decide +kernel)
set_option maxRecDepth 65536 in
theorem w_c2 : (Jvm.Cond.code ({ cls := "java/lang/Object", name := "<init>", desc := "()V" } : Jvm.MethodName) object_method_1_code (1 : Nat) (Option.none : Option Jvm.ClassFile.FieldType)).before args0 about1 = true := code_word (m := ⟨0, 0⟩) (meth := k0m0) (c := k0c0) (by decide +kernel) rfl rfl rfl (by decide +kernel)
set_option maxRecDepth 65536 in
theorem w_c3 : (Jvm.Cond.code ({ cls := "com/example/bidcrier/bidcrier/CheapestColumns", name := "cheapest", desc := "()I" } : Jvm.MethodName) prog_7_method_3_code (1 : Nat) (Option.some Jvm.ClassFile.FieldType.int)).before args0 about1 = true := code_word (m := ⟨2, 1⟩) (meth := k2m1) (c := k2c1) (by decide +kernel) rfl rfl rfl (by decide +kernel)
set_option maxRecDepth 65536 in
theorem w_c4 : (Jvm.Cond.code ({ cls := "com/example/bidcrier/bidcrier/CheapestColumns", name := "secondCheapest", desc := "()I" } : Jvm.MethodName) prog_7_method_4_code (1 : Nat) (Option.some Jvm.ClassFile.FieldType.int)).before args0 about1 = true := code_word (m := ⟨2, 2⟩) (meth := k2m2) (c := k2c2) (by decide +kernel) rfl rfl rfl (by decide +kernel)
set_option maxRecDepth 65536 in
theorem w_c5 : (Jvm.Cond.code ({ cls := "com/example/bidcrier/bidcrier/CheapestColumns", name := "siftDown", desc := "(I)V" } : Jvm.MethodName) prog_7_method_6_code (7 : Nat) (Option.none : Option Jvm.ClassFile.FieldType)).before args0 about1 = true := code_word (m := ⟨2, 4⟩) (meth := k2m4) (c := k2c4) (by decide +kernel) rfl rfl rfl (by decide +kernel)
set_option maxRecDepth 65536 in
theorem w_c6 : (Jvm.Cond.code ({ cls := "java/lang/Math", name := "max", desc := "(JJ)J" } : Jvm.MethodName) jdk_29_method_66_code (4 : Nat) (Option.some Jvm.ClassFile.FieldType.long)).before args0 about1 = true := code_word (m := ⟨3, 1⟩) (meth := k3m1) (c := k3c1) (by decide +kernel) rfl rfl rfl (by decide +kernel)
set_option maxRecDepth 65536 in
theorem w_c7 : (Jvm.Cond.code ({ cls := "com/example/bidcrier/bidcrier/CheapestColumns", name := "raised", desc := "(I)V" } : Jvm.MethodName) prog_7_method_5_code (2 : Nat) (Option.none : Option Jvm.ClassFile.FieldType)).before args0 about1 = true := code_word (m := ⟨2, 3⟩) (meth := k2m3) (c := k2c3) (by decide +kernel) rfl rfl rfl (by decide +kernel)
set_option maxRecDepth 65536 in
theorem w_c8 : (Jvm.Cond.code ({ cls := "com/example/bidcrier/bidcrier/CheapestColumnsSecondCheapestPinLaw", name := "noCheaper", desc := "([JIIIII)Z" } : Jvm.MethodName) method_3_code (7 : Nat) (Option.some Jvm.ClassFile.FieldType.boolean)).before args0 about1 = true := code_word (m := ⟨1, 2⟩) (meth := k1m2) (c := k1c2) (by decide +kernel) rfl rfl rfl (by decide +kernel)
def codes1 : List Jvm.Cond := [Jvm.Cond.code x code maxLocals ret, Jvm.Cond.code ({ cls := "com/example/bidcrier/bidcrier/CheapestColumns", name := "<init>", desc := "([JI)V" } : Jvm.MethodName) prog_7_method_1_code (4 : Nat) (Option.none : Option Jvm.ClassFile.FieldType), Jvm.Cond.code ({ cls := "java/lang/Object", name := "<init>", desc := "()V" } : Jvm.MethodName) object_method_1_code (1 : Nat) (Option.none : Option Jvm.ClassFile.FieldType), Jvm.Cond.code ({ cls := "com/example/bidcrier/bidcrier/CheapestColumns", name := "cheapest", desc := "()I" } : Jvm.MethodName) prog_7_method_3_code (1 : Nat) (Option.some Jvm.ClassFile.FieldType.int), Jvm.Cond.code ({ cls := "com/example/bidcrier/bidcrier/CheapestColumns", name := "secondCheapest", desc := "()I" } : Jvm.MethodName) prog_7_method_4_code (1 : Nat) (Option.some Jvm.ClassFile.FieldType.int), Jvm.Cond.code ({ cls := "com/example/bidcrier/bidcrier/CheapestColumns", name := "siftDown", desc := "(I)V" } : Jvm.MethodName) prog_7_method_6_code (7 : Nat) (Option.none : Option Jvm.ClassFile.FieldType), Jvm.Cond.code ({ cls := "java/lang/Math", name := "max", desc := "(JJ)J" } : Jvm.MethodName) jdk_29_method_66_code (4 : Nat) (Option.some Jvm.ClassFile.FieldType.long), Jvm.Cond.code ({ cls := "com/example/bidcrier/bidcrier/CheapestColumns", name := "raised", desc := "(I)V" } : Jvm.MethodName) prog_7_method_5_code (2 : Nat) (Option.none : Option Jvm.ClassFile.FieldType), Jvm.Cond.code ({ cls := "com/example/bidcrier/bidcrier/CheapestColumnsSecondCheapestPinLaw", name := "noCheaper", desc := "([JIIIII)Z" } : Jvm.MethodName) method_3_code (7 : Nat) (Option.some Jvm.ClassFile.FieldType.boolean)]
set_option maxRecDepth 65536 in
theorem codes_eq : words1.filter isCode = codes1 := rfl
theorem w_codes : ∀ c ∈ words1.filter isCode, c.before args0 about1 = true := by
  rw [codes_eq]
  intro c hc
  simp only [codes1, List.mem_cons, List.not_mem_nil, or_false] at hc
  rcases hc with rfl | rfl | rfl | rfl | rfl | rfl | rfl | rfl | rfl
  · exact w_c0
  · exact w_c1
  · exact w_c2
  · exact w_c3
  · exact w_c4
  · exact w_c5
  · exact w_c6
  · exact w_c7
  · exact w_c8
set_option maxRecDepth 65536 in
theorem w_t1 : (words1.take 24).all (fun c => isCode c || c.before args0 about1) = true := by decide +kernel
set_option maxRecDepth 65536 in
theorem w_t2 : (words1.drop 24).all (fun c => isCode c || c.before args0 about1) = true := by decide +kernel
theorem w_tables : (allAtoms (Jvm.Cond.code x code maxLocals ret :: tables_1)).before args0 about1 = true := by
  rw [allAtoms_all]
  show words1.all (fun c => c.before args0 about1) = true
  refine all_split ?_ w_codes
  rw [← List.take_append_drop 24 words1, List.all_append, w_t1, w_t2]
  rfl
set_option maxRecDepth 65536 in
theorem w_case : (Jvm.Cond.and given_1 narrow_1).before args0 about1 = true := by decide +kernel
theorem w_applies : (headSpec (Jvm.Cond.code x code maxLocals ret :: tables_1) room_1).applies x e0.platform about1 = true :=
  (Spec.applies_iff w_frames).mpr ⟨w_running, w_runnable, w_alone, w_named, w_hears, w_ripe, w_room, w_tables⟩
theorem atStart : AtStart classFile x code maxLocals ret World_1 tables_1 room_1 Calls_1 rest_1 Pre_1 launch0 p0 e0 about1 theMethod args0 below0 :=
  ⟨lists_1, trivial, launch0.admits_env _ _ _, launch0.least_env, fairChoices_fair.cas, fairChoices_fair.clock, w_frames, w_args, w_heap, w_applies, trivial, trivial, w_case⟩
end start1
theorem witness_1 : WitnessClaimed_1 := ⟨start1.p0, start1.e0, start1.about1, start1.theMethod, start1.args0, start1.below0, start1.atStart⟩
end Jvm.Pilot.@@N@@
